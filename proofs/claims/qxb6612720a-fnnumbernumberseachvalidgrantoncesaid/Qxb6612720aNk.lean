import Derived.Test.Qxb6612720aNj
namespace Go.Proofs.Qxb6612720a
open Go.RowKit
open Go.Maps (Keyed)
set_option linter.unusedVariables false

/-- What number gives back. -/
def NumRes (E SB ns n1 n2 : Nat) (now : Int) (nb na : Nat → Int) (q pm : Value) (D1 D2 : DataW Value) (mm1 mm2 : Lit → Nat) (R1 R2 : Lit → Nat → Rf) (w : World) (e : Ending) (w' : World) : Prop :=
  ∃ (L : List Rf) (p : Nat) (ao : Option Addr) (c X1 X2 : Nat) (D1' D2' : DataW Value), e = .returned (.tuple #[.map (some X1), .map (some X2)]) ∧
    NumOk (fun r => validB (nb r.1.toNat) (na r.1.toNat) now) (From D1 mm1 R1) (From D2 mm2 R2) L p ∧ L.length ≤ 17179869184 ∧
    w'.heap[E]? = some (.cells #[q, .slice (some ⟨SB, 0, none⟩) ns ns, .slice ao L.length c, pm] 102 (0, 0)) ∧ w'.ownsRow w.heap.size 118 2 (.slice ao L.length c) L.length (flatR L) ∧
    w'.ownsMap Try.prog 112 RV X1 n1 D1' ∧ (∀ kl, Maps.has D1 kl = true → Ent w' D1' kl (R1 kl) (mm1 kl) L) ∧
    w'.ownsMap Try.prog 9 RV X2 n2 D2' ∧ (∀ kl, Maps.has D2 kl = true → Ent w' D2' kl (R2 kl) (mm2 kl) L)

theorem five_heap (w : World) (a b c d e : Obj) : (((((w.alloc a).alloc b).alloc c).alloc d).alloc e).heap[w.heap.size]? = some a ∧ (((((w.alloc a).alloc b).alloc c).alloc d).alloc e).heap[w.heap.size + 1]? = some b ∧ (((((w.alloc a).alloc b).alloc c).alloc d).alloc e).heap[w.heap.size + 1 + 1]? = some c ∧ (((((w.alloc a).alloc b).alloc c).alloc d).alloc e).heap[w.heap.size + 1 + 1 + 1]? = some d ∧ (((((w.alloc a).alloc b).alloc c).alloc d).alloc e).heap[w.heap.size + 1 + 1 + 1 + 1]? = some e ∧ (((((w.alloc a).alloc b).alloc c).alloc d).alloc e).heap.size = w.heap.size + 1 + 1 + 1 + 1 + 1 ∧ Below w.heap.size w (((((w.alloc a).alloc b).alloc c).alloc d).alloc e) := by
  have n : ∀ (W : World) (o : Obj) (k : Nat), k = W.heap.size → (W.alloc o).heap[k]? = some o := fun W o k h => by subst h; exact (MapKept.heap_alloc W o).1
  have l : ∀ (W : World) (o : Obj) (k : Nat), k < W.heap.size → (W.alloc o).heap[k]? = W.heap[k]? := fun W o k h => Below.heap_alloc _ _ _ h
  refine ⟨?_, ?_, ?_, ?_, ?_, by simp, ?_⟩
  · rw [l _ _ _ (by simp; try omega), l _ _ _ (by simp; try omega), l _ _ _ (by simp; try omega), l _ _ _ (by simp), n _ _ _ rfl]
  · rw [l _ _ _ (by simp; try omega), l _ _ _ (by simp; try omega), l _ _ _ (by simp), n _ _ _ (by simp)]
  · rw [l _ _ _ (by simp; try omega), l _ _ _ (by simp), n _ _ _ (by simp)]
  · rw [l _ _ _ (by simp), n _ _ _ (by simp)]
  · rw [n _ _ _ (by simp)]
  · refine ⟨rfl, rfl, rfl, by simp; omega, fun k hk => ?_⟩
    rw [l _ _ _ (by simp; try omega), l _ _ _ (by simp; try omega), l _ _ _ (by simp; try omega), l _ _ _ (by simp; try omega), l _ _ _ hk]
theorem NumR.below {kt : TypeId} {D : DataW Value} {mm : Lit → Nat} {R : Lit → Nat → Rf} {L : List Rf} {nB : Nat} {e : Ending} {w w' : World} (h : NumR kt D mm R L nB e w) (hb : Below w.heap.size w w') : NumR kt D mm R L nB e w' := by
  obtain ⟨M2, D2, he, hm, hent⟩ := h
  refine ⟨M2, D2, he, ?_, fun kl hk => ?_⟩
  · obtain ⟨es, clock, hb', r⟩ := hm
    exact ⟨es, clock, (hb.block M2 (lt_of_block hb')).trans hb', r⟩
  · obtain ⟨xb, X, h1, h2, h3, h4⟩ := hent kl hk
    exact ⟨xb, X, h1, h2.of_block (hb.block xb h2.lt), h3, h4⟩
theorem own_below {w w' : World} {base : Nat} {e : TypeId} {size : Nat} {v : Value} {n : Nat} {xs : List Value} (h : w.ownsRow base e size v n xs) (hb : Below w.heap.size w w') : w'.ownsRow base e size v n xs := by
  obtain ⟨h1, h2⟩ := h
  refine ⟨h1, ?_⟩
  rcases h2 with h2 | ⟨g, cap, cur, hv, hbg, hg, r⟩
  · exact Or.inl h2
  · exact Or.inr ⟨g, cap, cur, hv, hbg, (hb.block g (lt_of_block hg)).trans hg, r⟩
theorem own_mono {w : World} {base base' : Nat} {e : TypeId} {size : Nat} {v : Value} {n : Nat} {xs : List Value} (h : w.ownsRow base e size v n xs) (hb : base' ≤ base) : w.ownsRow base' e size v n xs := by
  obtain ⟨h1, h2⟩ := h
  refine ⟨h1, ?_⟩
  rcases h2 with h2 | ⟨g, cap, cur, hv, hbg, r⟩
  · exact Or.inl h2
  · exact Or.inr ⟨g, cap, cur, hv, Nat.le_trans hb hbg, r⟩
theorem numres_of {E SB ns n1 n2 : Nat} {now : Int} {nb na : Nat → Int} {q pm : Value} {D1 D2 : DataW Value} {mm1 mm2 : Lit → Nat} {R1 R2 : Lit → Nat → Rf} {w wr wF : World} {L : List Rf} {p : Nat} {ao : Option Addr} {c X1 X2 : Nat}
    (hok : NumOk (fun r => validB (nb r.1.toNat) (na r.1.toNat) now) (From D1 mm1 R1) (From D2 mm2 R2) L p) (hlen : L.length ≤ 17179869184) (hE : wr.heap[E]? = some (.cells #[q, .slice (some ⟨SB, 0, none⟩) ns ns, .slice ao L.length c, pm] 102 (0, 0))) (hown : wr.ownsRow w.heap.size 118 2 (.slice ao L.length c) L.length (flatR L)) (hb : Below wr.heap.size wr wF)
    (h1 : NumR 112 D1 mm1 R1 L n1 (.returned (.map (some X1))) wF) (h2 : NumR 9 D2 mm2 R2 L n2 (.returned (.map (some X2))) wF) : NumRes E SB ns n1 n2 now nb na q pm D1 D2 mm1 mm2 R1 R2 w (.returned (.tuple #[.map (some X1), .map (some X2)])) wF := by
  obtain ⟨M1, D1', he1, hm1, hent1⟩ := h1
  obtain ⟨M2, D2', he2, hm2, hent2⟩ := h2
  simp at he1 he2
  subst he1 he2
  exact ⟨L, p, ao, c, X1, X2, D1', D2', rfl, hok, hlen, (hb.block E (lt_of_block hE)).trans hE, own_below hown hb, hm1, hent1, hm2, hent2⟩
theorem Lists.same {w w' : World} {D : DataW Value} {bb mm : Lit → Nat} {R : Lit → Nat → Rf} (h : Lists w D bb mm R) (hs : ∀ kl, Maps.has D kl = true → w'.heap[bb kl]? = w.heap[bb kl]?) : Lists w' D bb mm R := fun kl hk => by
  obtain ⟨a, b, c, d⟩ := h kl hk
  exact ⟨a, b.of_block (hs kl hk), c, d⟩

set_option maxHeartbeats 4000000 in
set_option maxRecDepth 100000 in
theorem number_any (E SB ns n1 n2 B1 B2 : Nat) (now : Int) (nb na : Nat → Int) (q pm : Value) (D1 D2 : DataW Value) (bb1 mm1 bb2 mm2 : Lit → Nat) (R1 R2 : Lit → Nat → Rf) (w : World)
    (hE : w.heap[E]? = some (.cells #[q, .slice (some ⟨SB, 0, none⟩) ns ns, .slice none 0 0, pm] 102 (0, 0))) (hS : ∀ i, i < ns → w.cell? ⟨SB, i * 5, none⟩ = some (.int .i64 (nb i)) ∧ w.cell? ⟨SB, i * 5 + 1, none⟩ = some (.int .i64 (na i)))
    (hSE : SB ≠ E) (hSB : SB < w.heap.size) (hns : ns ≤ 65536) (h1 : w.ownsMap Try.prog 112 RV B1 n1 D1) (h2 : w.ownsMap Try.prog 9 RV B2 n2 D2) (l1 : Lists w D1 bb1 mm1 R1) (l2 : Lists w D2 bb2 mm2 R2) (hn1 : n1 ≤ 65536) (hn2 : n2 ≤ 65536)
    (in1 : ∀ kl, Maps.has D1 kl = true → allIn (R1 kl) (mm1 kl) ns) (in2 : ∀ kl, Maps.has D2 kl = true → allIn (R2 kl) (mm2 kl) ns) :
    Calls Try.prog 32 #[.pointer (some ⟨E, 0, none⟩), .agg #[.map (some B1), .map (some B2)], .int .i64 now] w fun e w' => NumRes E SB ns n1 n2 now nb na q pm D1 D2 mm1 mm2 R1 R2 w e w' ∧ KE E w.heap.size w w' := by
  have hmk : ∀ W : World, (Instr.makeMap 120 none).run Try.prog W = .ok (.map (some W.heap.size)) (W.alloc (.map #[] 0)) := fun W => run_makeMap 120 W
  have hElt := lt_of_block hE
  have hB1 := h1.lt
  have hB2 := h2.lt
  have hB1E : B1 ≠ E := by rintro rfl; exact map_not h1 _ _ _ hE
  have hB2E : B2 ≠ E := by rintro rfl; exact map_not h2 _ _ _ hE
  have hbE1 : ∀ kl, Maps.has D1 kl = true → bb1 kl ≠ E ∧ bb1 kl < w.heap.size := fun kl hk => by
    obtain ⟨_, r, _⟩ := l1 kl hk
    refine ⟨?_, r.lt⟩
    obtain ⟨cs, hb, _⟩ := r
    intro e; rw [e, hE] at hb; simp at hb
  have hbE2 : ∀ kl, Maps.has D2 kl = true → bb2 kl ≠ E ∧ bb2 kl < w.heap.size := fun kl hk => by
    obtain ⟨_, r, _⟩ := l2 kl hk
    refine ⟨?_, r.lt⟩
    obtain ⟨cs, hb, _⟩ := r
    intro e; rw [e, hE] at hb; simp at hb
  obtain ⟨f1, f2, f3, f4, f5, f6, f7⟩ := five_heap w (.cells #[.pointer (some ⟨E, 0, none⟩)] 96) (.cells #[.map (some B1), .map (some B2)] 109) (.cells #[.int .i64 now] 2) (.map #[] 0) (.cells #[.map (some (w.heap.size + 1 + 1 + 1))] 120)
  have hown0 : (((((w.alloc (.cells #[.pointer (some ⟨E, 0, none⟩)] 96)).alloc (.cells #[.map (some B1), .map (some B2)] 109)).alloc (.cells #[.int .i64 now] 2)).alloc (.map #[] 0)).alloc (.cells #[.map (some (w.heap.size + 1 + 1 + 1))] 120)).ownsMap Try.prog 112 RV B1 n1 D1 := ((((h1.alloc _).alloc _).alloc _).alloc _).alloc _
  obtain ⟨w0, hrange, hrg0, hgr0, hsz0⟩ := hown0.range law112 Try.underlying106
  rw [f6] at hrange hrg0 hsz0
  obtain ⟨v, hv⟩ : ∃ v : Env, v = ⟨w.heap.size + 1 + 1 + 1 + 1 + 1, w.heap.size, w.heap.size + 1 + 1 + 1 + 1, w.heap.size + 1 + 1, E, w.heap.size + 1 + 1 + 1, SB, ns, now, nb, na, q, pm⟩ := ⟨_, rfl⟩
  have ok : Hid v.Ok := by subst hv; constructor <;> simp <;> omega
  have hd0 : NumMap w0 (w.heap.size + 1 + 1 + 1) [] := by
    refine ⟨by simp, .map [], ?_, rfl, fun r _ => by simp [Maps.has], by simp⟩
    have := (World.ownsMap_made (H := Unit) (((w.alloc (.cells #[.pointer (some ⟨E, 0, none⟩)] 96)).alloc (.cells #[.map (some B1), .map (some B2)] 109)).alloc (.cells #[.int .i64 now] 2)) Try.prog 118 (plainElem Try.prog 3)).alloc (.cells #[.map (some (w.heap.size + 1 + 1 + 1))] 120)
    have := this.kept hgr0 (by simp)
    simpa using this
  have g0 : ∀ k, k < w.heap.size + 1 + 1 + 1 + 1 + 1 → w0.heap[k]? = (((((w.alloc (.cells #[.pointer (some ⟨E, 0, none⟩)] 96)).alloc (.cells #[.map (some B1), .map (some B2)] 109)).alloc (.cells #[.int .i64 now] 2)).alloc (.map #[] 0)).alloc (.cells #[.map (some (w.heap.size + 1 + 1 + 1))] 120)).heap[k]? := fun k hk => hgr0.block k (by rw [f6]; exact hk) (by simp)
  have HST0 : NSt v w0 [] none 0 := by
    subst hv
    refine ⟨(g0 _ (by simp; try omega)).trans f1, (g0 _ (by simp)).trans f5, (g0 _ (by simp; try omega)).trans f3, (g0 E (by omega)).trans ((f7.block E hElt).trans hE), World.ownsRow_nil _ _ _ _, hd0, fun i hi => ?_, by rw [hsz0]; simp⟩
    obtain ⟨a, b⟩ := hS i hi
    have e : w0.heap[SB]? = w.heap[SB]? := (g0 SB (by omega)).trans (f7.block SB hSB)
    exact ⟨(show w0.cell? _ = w.cell? _ from by simp [World.cell?, e]).trans a, (show w0.cell? _ = w.cell? _ from by simp [World.cell?, e]).trans b⟩
  have H0 : Hid (NL v (w.heap.size + 1) (.cells #[.map (some B1), .map (some B2)] 109) 112 B1 (w.heap.size + 1 + 1 + 1 + 1 + 1) n1 D1 w w0 (Maps.has D1) (Maps.size D1) [] none 0) := by
    refine ⟨hrg0, HST0, ?_, (g0 _ (by omega)).trans f2, fun kl h => h⟩
    refine KE.of_below (f7.trans ⟨hgr0.os, hgr0.tape, hgr0.output, hgr0.size, fun k hk => ?_⟩)
    exact g0 k (by omega)
  have hs1 := h1.size_le
  have hs2 := h2.size_le
  have vE : v.E = E := by rw [hv]
  have vM : v.M = w.heap.size + 1 + 1 + 1 := by rw [hv]
  have vb : v.base = w.heap.size + 1 + 1 + 1 + 1 + 1 := by rw [hv]
  have vns : v.ns = ns := by rw [hv]
  have HV : Hid (v.V1 = w.heap.size ∧ v.V2 = w.heap.size + 1 + 1 + 1 + 1 ∧ v.V3 = w.heap.size + 1 + 1 ∧ (∀ r, vAt v r = validB (nb r.1.toNat) (na r.1.toNat) now) ∧ v.SB = SB ∧ v.q = q ∧ v.pm = pm) := by subst hv; exact ⟨rfl, rfl, rfl, fun _ => rfl, rfl, rfl, rfl⟩
  have VE : Hid (v.E = E ∧ v.M = w.heap.size + 1 + 1 + 1 ∧ v.base = w.heap.size + 1 + 1 + 1 + 1 + 1 ∧ v.ns = ns) := ⟨vE, vM, vb, vns⟩
  have HB : Hid ((∀ kl, Maps.has D1 kl = true → bb1 kl ≠ E ∧ bb1 kl < w.heap.size) ∧ (∀ kl, Maps.has D2 kl = true → bb2 kl ≠ E ∧ bb2 kl < w.heap.size)) := ⟨hbE1, hbE2⟩
  have HL1 : Hid (Lists w D1 bb1 mm1 R1) := l1
  have HL2 : Hid (Lists w D2 bb2 mm2 R2) := l2
  have HI1 : Hid (∀ kl, Maps.has D1 kl = true → allIn (R1 kl) (mm1 kl) ns) := in1
  have HI2 : Hid (∀ kl, Maps.has D2 kl = true → allIn (R2 kl) (mm2 kl) ns) := in2
  have HM1 : Hid (w.ownsMap Try.prog 112 RV B1 n1 D1) := h1
  have HM2 : Hid (w.ownsMap Try.prog 9 RV B2 n2 D2) := h2
  clear h1 h2 l1 l2 in1 in2 hbE1 hbE2 hE hS f1 f2 f3 f4 f5 f6 f7 hown0 hrg0 hgr0 hsz0 hd0 g0 HST0 hv vE vM vb vns
  go_enter Try.func32, Try.ntmps32
  go_wp2
  clear hrange hmk
  go_loopw [19] (fun _ wr => ∃ (left : Lit → Bool) (cnt : Nat) (L : List Rf) (ao : Option Addr) (c : Nat), Hid (NL v (w.heap.size + 1) (.cells #[.map (some B1), .map (some B2)] 109) 112 B1 (w.heap.size + 1 + 1 + 1 + 1 + 1) n1 D1 w wr left cnt L ao c) ∧ Hid (Met (vAt v) D1 mm1 R1 left [] L) ∧ L.length + 65536 * cnt ≤ 65536 * n1) (fun _ wr => wr.rangeLeft B1 (w.heap.size + 1 + 1 + 1 + 1 + 1))
  case atStart => exact ⟨_, _, _, _, _, H0, Met.start (by simp), by simp; omega⟩
  case round =>
    obtain ⟨left, cnt, L, ao, c, hno, hmet, hlen⟩ := hrel
    obtain ⟨wo, hwo⟩ : ∃ wo, wo = wr := ⟨_, rfl⟩
    subst hwo
    rcases hno.out.rg.next law112 0 with ⟨h0, hall, hrun⟩ | ⟨key, vv, kl, y, w1, cnt', hkey, hlk, hv, hat, hrun, hrg, hcnt, hgr, hsz1, hen⟩
    · have x0 : wo.cell? ⟨w.heap.size + 1, 0, none⟩ = some (.map (some B1)) := by simp [World.cell?, hno.out.ff]
      have x1 : wo.cell? ⟨w.heap.size + 1, 1, none⟩ = some (.map (some B2)) := by simp [World.cell?, hno.out.ff]
      have hm2 : wo.ownsMap Try.prog 9 RV B2 n2 D2 := by
        obtain ⟨es, clock, hb, r⟩ := HM2.out
        exact ⟨es, clock, (hno.out.ke.block B2 hB2 (by rw [VE.out.1]; exact hB2E)).trans hb, r⟩
      obtain ⟨w2, hrange, hrg2, hgr2, hsz2⟩ := hm2.range law9 Try.underlying107
      have hbs := hno.out.st.bs
      rw [VE.out.2.2.1] at hbs
      have hbel : Below wo.heap.size wo w2 := ⟨hgr2.os, hgr2.tape, hgr2.output, hgr2.size, fun k hk => hgr2.block k hk (by simp)⟩
      have H2 : Hid (NL v (w.heap.size + 1) (.cells #[.map (some B1), .map (some B2)] 109) 9 B2 wo.heap.size n2 D2 w w2 (Maps.has D2) (Maps.size D2) L ao c) := by
        refine ⟨hrg2, hno.out.st.below ok.out hbel, hno.out.ke.trans (KE.of_below (hbel.mono (by omega))), (hbel.block _ (by omega)).trans hno.out.ff, fun kl h => h⟩
      have HA1 : Hid (∀ kl, left kl = false) := hall
      have hlenL : L.length ≤ 65536 * n1 := by omega
      clear hm2 hrg2 hgr2 hsz2 hbel hall
      go_wp2
      clear hrun hrange x0 x1
      obtain ⟨r2, hr2⟩ : ∃ r2, r2 = wo.heap.size := ⟨_, rfl⟩
      rw [← hr2] at H2 hbs ⊢
      have L1 : Hid _ := hmet
      obtain ⟨La, hLa⟩ : ∃ La, La = L := ⟨_, rfl⟩
      go_loopw [29] (fun _ wr => ∃ (left : Lit → Bool) (cnt : Nat) (L : List Rf) (ao : Option Addr) (c : Nat), Hid (NL v (w.heap.size + 1) (.cells #[.map (some B1), .map (some B2)] 109) 9 B2 r2 n2 D2 w wr left cnt L ao c) ∧ Hid (Met (vAt v) D2 mm2 R2 left La L) ∧ L.length + 65536 * cnt ≤ 65536 * n1 + 65536 * n2) (fun _ wr => wr.rangeLeft B2 r2)
      case atStart => exact ⟨_, _, _, _, _, H2, (by subst hLa; exact Met.start hmet.out.nd), by omega⟩
      case round =>
        clear hr2
        obtain ⟨left2, cnt2, L2, ao2, c2, hno2, hmet2, hlen2⟩ := hrel
        obtain ⟨wp, hwp⟩ : ∃ wp, wp = wr := ⟨_, rfl⟩
        subst hwp
        rcases hno2.out.rg.next law9 0 with ⟨h0, hall, hrun⟩ | ⟨key, vv, kl, y, w1, cnt', hkey, hlk, hv, hat, hrun, hrg, hcnt, hgr, hsz1, hen⟩
        · have hbs2 := hno2.out.st.bs
          rw [VE.out.2.2.1] at hbs2
          have hst := hno2.out.st
          have x0 : wp.cell? ⟨w.heap.size + 1, 0, none⟩ = some (.map (some B1)) := by simp [World.cell?, hno2.out.ff]
          have x1 : wp.cell? ⟨w.heap.size + 1, 1, none⟩ = some (.map (some B2)) := by simp [World.cell?, hno2.out.ff]
          have x2 : wp.cell? ⟨w.heap.size + 1 + 1 + 1 + 1, 0, none⟩ = some (.map (some (w.heap.size + 1 + 1 + 1))) := by
            have := cell_of_one hst.v2
            rw [HV.out.2.1, VE.out.2.1] at this
            exact this
          have hlen3 : L2.length ≤ 17179869184 := by omega
          have hok : Hid (NumOk (fun r => validB (nb r.1.toNat) (na r.1.toNat) now) (From D1 mm1 R1) (From D2 mm2 R2) L2 La.length) := by
            have := Met.both (hLa ▸ L1.out) HA1.out hmet2.out hall
            have e : vAt v = fun r => validB (nb r.1.toNat) (na r.1.toNat) now := funext HV.out.2.2.2.1
            rw [e] at this
            exact this
          have same : ∀ W, Below wp.heap.size wp W → ∀ k, k < w.heap.size → k ≠ E → W.heap[k]? = w.heap[k]? := fun W hW k hk hkE => (hW.block k (by omega)).trans (hno2.out.ke.block k hk (by rw [VE.out.1]; exact hkE))
          have nm : ∀ W, Below wp.heap.size wp W → NumMap W (w.heap.size + 1 + 1 + 1) L2 := fun W hW => by
            have := hst.map
            rw [VE.out.2.1] at this
            exact this.same (hW.block _ (by omega))
          have C34 : Hid (∀ W, Below wp.heap.size wp W → Calls Try.prog 34 #[.map (some B1), .map (some (w.heap.size + 1 + 1 + 1))] W fun e w' => NumR 112 D1 mm1 R1 L2 n1 e w' ∧ Below W.heap.size W w') := fun W hW => by
            refine numbered34 B1 _ n1 D1 bb1 mm1 R1 L2 W hn1 hlen3 hok.out.nd ?_ (nm W hW) (HL1.out.same fun kl hk => same W hW _ (HB.out.1 kl hk).2 (HB.out.1 kl hk).1)
            obtain ⟨es, clock, hb, r⟩ := HM1.out
            exact ⟨es, clock, (same W hW B1 hB1 hB1E).trans hb, r⟩
          have C35 : Hid (∀ W, Below wp.heap.size wp W → Calls Try.prog 35 #[.map (some B2), .map (some (w.heap.size + 1 + 1 + 1))] W fun e w' => NumR 9 D2 mm2 R2 L2 n2 e w' ∧ Below W.heap.size W w') := fun W hW => by
            refine numbered35 B2 _ n2 D2 bb2 mm2 R2 L2 W hn2 hlen3 hok.out.nd ?_ (nm W hW) (HL2.out.same fun kl hk => same W hW _ (HB.out.2 kl hk).2 (HB.out.2 kl hk).1)
            obtain ⟨es, clock, hb, r⟩ := HM2.out
            exact ⟨es, clock, (same W hW B2 hB2 hB2E).trans hb, r⟩
          have FIN : Hid (∀ wF X1 X2, Below wp.heap.size wp wF → NumR 112 D1 mm1 R1 L2 n1 (.returned (.map (some X1))) wF → NumR 9 D2 mm2 R2 L2 n2 (.returned (.map (some X2))) wF → NumRes E SB ns n1 n2 now nb na q pm D1 D2 mm1 mm2 R1 R2 w (.returned (.tuple #[.map (some X1), .map (some X2)])) wF ∧ KE E w.heap.size w wF) := fun wF X1 X2 hb h1 h2 => by
            have he := hst.e
            rw [VE.out.1, VE.out.2.2.2, HV.out.2.2.2.2.1, HV.out.2.2.2.2.2.1, HV.out.2.2.2.2.2.2] at he
            refine ⟨numres_of hok.out hlen3 he (own_mono hst.own (by rw [VE.out.2.2.1]; omega)) hb h1 h2, ?_⟩
            have := hno2.out.ke
            rw [VE.out.1] at this
            exact this.trans (KE.of_below (hb.mono (by omega)))
          have HFC : Hid (∀ W, Below wp.heap.size wp W → W.cell? ⟨w.heap.size + 1, 0, none⟩ = some (.map (some B1)) ∧ W.cell? ⟨w.heap.size + 1, 1, none⟩ = some (.map (some B2)) ∧ W.cell? ⟨w.heap.size + 1 + 1 + 1 + 1, 0, none⟩ = some (.map (some (w.heap.size + 1 + 1 + 1)))) := fun W hW => ⟨(hW.cell (p := ⟨w.heap.size + 1, 0, none⟩) (by simp; omega)).trans x0, (hW.cell (p := ⟨w.heap.size + 1, 1, none⟩) (by simp; omega)).trans x1, (hW.cell (p := ⟨w.heap.size + 1 + 1 + 1 + 1, 0, none⟩) (by simp; omega)).trans x2⟩
          clear same nm hst
          go_wp2
          clear hrun hall
          go_region_held3 (fun w' => w'.cell? ⟨w.heap.size + 1, 0, none⟩ = some (.map (some B1)) ∧ w'.cell? ⟨w.heap.size + 1, 1, none⟩ = some (.map (some B2)) ∧ w'.cell? ⟨w.heap.size + 1 + 1 + 1 + 1, 0, none⟩ = some (.map (some (w.heap.size + 1 + 1 + 1)))) (first | go_keep | exact ⟨by assumption, by assumption, by assumption⟩) (first
            | (go_at_call 34; first
                | (refine Calls.mono (C34.out _ (Below.refl _ _).drew) ?_; rintro e wA ⟨⟨X1, D1', rfl, hX1, hent1⟩, hbA⟩; have HA : Hid (NumR 112 D1 mm1 R1 L2 n1 (.returned (.map (some X1))) wA) := ⟨X1, D1', rfl, hX1, hent1⟩; have HBA : Hid (Below wp.heap.size wp wA) := (Below.refl wp.heap.size wp).drew.trans hbA; have HLA : Hid (Below wA.heap.size wA wA) := Below.refl _ _; obtain ⟨y0, y1, y2⟩ := HFC.out wA HBA.out; clear hX1 hent1 hbA)
                | (refine Calls.mono (C34.out _ HBB.out) ?_; rintro e wA ⟨⟨X1, D1', rfl, hX1, hent1⟩, hbA⟩; have HA : Hid (NumR 112 D1 mm1 R1 L2 n1 (.returned (.map (some X1))) wA) := ⟨X1, D1', rfl, hX1, hent1⟩; have HBA : Hid (Below wp.heap.size wp wA) := HBB.out.trans (hbA.mono HBB.out.size); have HLA : Hid (Below wB.heap.size wB wA) := hbA; obtain ⟨y0, y1, y2⟩ := HFC.out wA HBA.out; clear hX1 hent1 hbA))
            | (go_at_call 35; first
                | (refine Calls.mono (C35.out _ (Below.refl _ _).drew) ?_; rintro e wB ⟨⟨X2, D2', rfl, hX2, hent2⟩, hbB⟩; have HB9 : Hid (NumR 9 D2 mm2 R2 L2 n2 (.returned (.map (some X2))) wB) := ⟨X2, D2', rfl, hX2, hent2⟩; have HBB : Hid (Below wp.heap.size wp wB) := (Below.refl wp.heap.size wp).drew.trans hbB; have HLB : Hid (Below wB.heap.size wB wB) := Below.refl _ _; obtain ⟨z0, z1, z2⟩ := HFC.out wB HBB.out; clear hX2 hent2 hbB)
                | (refine Calls.mono (C35.out _ HBA.out) ?_; rintro e wB ⟨⟨X2, D2', rfl, hX2, hent2⟩, hbB⟩; have HB9 : Hid (NumR 9 D2 mm2 R2 L2 n2 (.returned (.map (some X2))) wB) := ⟨X2, D2', rfl, hX2, hent2⟩; have HBB : Hid (Below wp.heap.size wp wB) := HBA.out.trans (hbB.mono HBA.out.size); have HLB : Hid (Below wA.heap.size wA wB) := hbB; obtain ⟨z0, z1, z2⟩ := HFC.out wB HBB.out; clear hX2 hent2 hbB)))
          all_goals
            go_wp2
            go_ret2
            first
              | exact FIN.out _ _ _ HBB.out (HA.out.below HLB.out) HB9.out
              | exact FIN.out _ _ _ HBA.out HA.out (HB9.out.below HLA.out)
        · obtain rfl : y = (.held vv, []) := by simpa [RV] using hv.symm
          have hhas : Maps.has D2 kl = true := hno2.out.lf kl hlk
          obtain ⟨hat2, hrow, hm, hwf⟩ := HL2.out kl hhas
          obtain ⟨hbE, hblt⟩ := HB.out.2 kl hhas
          obtain rfl : vv = .slice (some ⟨bb2 kl, 0, none⟩) (mm2 kl) (mm2 kl) := by
            have := (hat (.lit (.bool true))).symm.trans (hat2 _)
            simpa using this
          have hnl1 := hno2.out.next ok.out (by rw [VE.out.2.2.1]; omega) (by rw [VE.out.2.2.1]; omega) (by rw [VE.out.2.2.1]; omega) hgr hrg (fun z hz => by simp at hz; exact hz.1)
          have C : Hid _ := clos_any v ok.out (bb2 kl) (mm2 kl) c2 (R2 kl) L2 ao2 w1 hm (hrow.of_block (hnl1.ke.block _ hblt (by rw [VE.out.1]; exact hbE))) (by rw [VE.out.2.2.1]; omega) (by rw [VE.out.1]; exact hbE) (by rw [VE.out.2.1]; omega) (by rw [VE.out.2.2.2]; exact HI2.out kl hhas) hwf hnl1.st (by omega)
          rw [HV.out.1, HV.out.2.1, HV.out.2.2.1] at C
          have HNX : Hid _ := And.intro hnl1 hhas
          have HCN : cnt' + 1 ≤ cnt2 := hcnt
          have HLN := addAll_len (vAt v) (R2 kl) L2 (mm2 kl)
          clear hnl1 hkey hlk hv hat hat2 hrg hgr hhas hrow hwf hsz1 hcnt
          go_wp2_with fail
          refine Calls.mono C.out ?_
          rintro e wx ⟨rfl, ⟨ao', c', hst'⟩, hkb⟩
          have HN2 : Hid _ := HNX.out.1.call ok.out (by rw [VE.out.2.2.1]; omega) (by rw [VE.out.1]; omega) (by rw [VE.out.2.1]; omega) (by rw [VE.out.2.2.1]; omega) (by rw [VE.out.2.1]; omega) hB2 (by rw [VE.out.1]; exact hB2E) hkb (by rw [VE.out.1]; omega) (by rw [VE.out.2.1]; omega) hst'
          have HMT : Hid _ := hmet2.out.step HNX.out.2
          clear hst' hkb C
          go_wp2
          go_roundw
          case rel => exact ⟨_, _, _, _, _, HN2, HMT, by omega⟩
          case measure => rw [HN2.out.rg.left_eq, hno2.out.rg.left_eq]; exact HCN
    · obtain rfl : y = (.held vv, []) := by simpa [RV] using hv.symm
      have hhas : Maps.has D1 kl = true := hno.out.lf kl hlk
      obtain ⟨hat2, hrow, hm, hwf⟩ := HL1.out kl hhas
      obtain ⟨hbE, hblt⟩ := HB.out.1 kl hhas
      obtain rfl : vv = .slice (some ⟨bb1 kl, 0, none⟩) (mm1 kl) (mm1 kl) := by
        have := (hat (.lit (.bool true))).symm.trans (hat2 _)
        simpa using this
      have hnl1 := hno.out.next ok.out (by rw [VE.out.2.2.1]; omega) (by rw [VE.out.2.2.1]; omega) (by rw [VE.out.2.2.1]; omega) hgr hrg (fun z hz => by simp at hz; exact hz.1)
      have C : Hid _ := clos_any v ok.out (bb1 kl) (mm1 kl) c (R1 kl) L ao w1 hm (hrow.of_block (hnl1.ke.block _ hblt (by rw [VE.out.1]; exact hbE))) (by rw [VE.out.2.2.1]; omega) (by rw [VE.out.1]; exact hbE) (by rw [VE.out.2.1]; omega) (by rw [VE.out.2.2.2]; exact HI1.out kl hhas) hwf hnl1.st (by omega)
      rw [HV.out.1, HV.out.2.1, HV.out.2.2.1] at C
      have HNX : Hid _ := And.intro hnl1 hhas
      have HCN : cnt' + 1 ≤ cnt := hcnt
      have HLN := addAll_len (vAt v) (R1 kl) L (mm1 kl)
      clear hnl1 hkey hlk hv hat hat2 hrg hgr hhas hrow hwf hsz1 hcnt
      go_wp2_with fail
      refine Calls.mono C.out ?_
      rintro e wx ⟨rfl, ⟨ao', c', hst'⟩, hkb⟩
      have HN2 : Hid _ := HNX.out.1.call ok.out (by rw [VE.out.2.2.1]; omega) (by rw [VE.out.1]; omega) (by rw [VE.out.2.1]; omega) (by rw [VE.out.2.2.1]; omega) (by rw [VE.out.2.1]; omega) hB1 (by rw [VE.out.1]; exact hB1E) hkb (by rw [VE.out.1]; omega) (by rw [VE.out.2.1]; omega) hst'
      have HMT : Hid _ := hmet.out.step HNX.out.2
      clear hst' hkb C
      go_wp2
      go_roundw
      case rel => exact ⟨_, _, _, _, _, HN2, HMT, by omega⟩
      case measure => rw [HN2.out.rg.left_eq, hno.out.rg.left_eq]; exact HCN
end Go.Proofs.Qxb6612720a
