import Derived.Test.Qxb6612720aNg
import Derived.Test.Qxb6612720aNi
namespace Go.Proofs.Qxb6612720a
open Go.RowKit
open Go.Maps (Keyed)
set_option linter.unusedVariables false

/-! ### The plain numbering: what it holds -/
theorem addRef_mem {v : Rf → Bool} {L : List Rf} {r s : Rf} : s ∈ addRef v L r ↔ s ∈ L ∨ (v s = true ∧ r = s) := by
  unfold addRef
  by_cases h : r ∈ L
  · rw [if_pos h]
    exact ⟨Or.inl, fun h' => h'.elim id fun ⟨_, e⟩ => e ▸ h⟩
  · rw [if_neg h]
    by_cases hv : v r = true
    · rw [if_pos hv, List.mem_append]
      constructor
      · rintro (h' | h')
        · exact Or.inl h'
        · simp at h'; subst h'; exact Or.inr ⟨hv, rfl⟩
      · rintro (h' | ⟨_, e⟩)
        · exact Or.inl h'
        · right; simp [e]
    · rw [if_neg hv]
      exact ⟨Or.inl, fun h' => h'.elim id fun ⟨h1, e⟩ => absurd (e ▸ h1) hv⟩
theorem addAll_mem {v : Rf → Bool} {R : Nat → Rf} {L : List Rf} {s : Rf} : ∀ n, s ∈ addAll v R n L ↔ s ∈ L ∨ (v s = true ∧ ∃ i, i < n ∧ R i = s)
  | 0 => by simp [addAll]
  | n + 1 => by
    show s ∈ addRef v (addAll v R n L) (R n) ↔ _
    rw [addRef_mem, addAll_mem n]
    constructor
    · rintro ((h | ⟨h, i, hi, e⟩) | ⟨h, e⟩)
      · exact Or.inl h
      · exact Or.inr ⟨h, i, by omega, e⟩
      · exact Or.inr ⟨h, n, by omega, e⟩
    · rintro (h | ⟨h, i, hi, e⟩)
      · exact Or.inl (Or.inl h)
      · by_cases en : i = n
        · subst en; exact Or.inr ⟨h, e⟩
        · exact Or.inl (Or.inr ⟨h, i, by omega, e⟩)
theorem addRef_pre (v : Rf → Bool) (L : List Rf) (r : Rf) : ∃ S, addRef v L r = L ++ S := by
  unfold addRef
  split
  · exact ⟨[], by simp⟩
  · split
    · exact ⟨[r], rfl⟩
    · exact ⟨[], by simp⟩
theorem addAll_pre (v : Rf → Bool) (R : Nat → Rf) (L : List Rf) : ∀ n, ∃ S, addAll v R n L = L ++ S
  | 0 => ⟨[], by simp [addAll]⟩
  | n + 1 => by
    obtain ⟨S, hS⟩ := addAll_pre v R L n
    obtain ⟨T, hT⟩ := addRef_pre v (addAll v R n L) (R n)
    exact ⟨S ++ T, by show addRef v (addAll v R n L) (R n) = _; rw [hT, hS]; simp⟩
theorem addRef_nd {v : Rf → Bool} {L : List Rf} (h : L.Nodup) (r : Rf) : (addRef v L r).Nodup := by
  unfold addRef
  split
  · exact h
  · rename_i hr
    split
    · rw [List.nodup_append]
      exact ⟨h, by simp, fun a ha b hb => by simp at hb; subst hb; rintro rfl; exact hr ha⟩
    · exact h
theorem addAll_nd {v : Rf → Bool} {R : Nat → Rf} {L : List Rf} (h : L.Nodup) : ∀ n, (addAll v R n L).Nodup
  | 0 => h
  | n + 1 => addRef_nd (addAll_nd h n) _
theorem addAll_len (v : Rf → Bool) (R : Nat → Rf) (L : List Rf) : ∀ n, (addAll v R n L).length ≤ L.length + n
  | 0 => Nat.le_refl _
  | n + 1 => by
    have := addAll_len v R L n
    show (addRef v (addAll v R n L) (R n)).length ≤ _
    unfold addRef
    split
    · omega
    · split
      · simp; omega
      · omega
def From (D : DataW Value) (mm : Lit → Nat) (R : Lit → Nat → Rf) (r : Rf) : Prop := ∃ kl, Maps.has D kl = true ∧ ∃ i, i < mm kl ∧ R kl i = r
/-- What is said of the numbered: L, the first p of them from the listed. -/
structure NumOk (v : Rf → Bool) (f1 f2 : Rf → Prop) (L : List Rf) (p : Nat) : Prop where
  nd : L.Nodup
  val : ∀ r ∈ L, v r = true
  c1 : ∀ r, f1 r → v r = true → r ∈ L
  c2 : ∀ r, f2 r → v r = true → r ∈ L
  lo : ∀ g (h : g < L.length), g < p → f1 L[g]
  hi : ∀ g (h : g < L.length), p ≤ g → f2 L[g] ∧ ¬ f1 L[g]
/-- While the lists are met: those left are not done. -/
structure Met (v : Rf → Bool) (D : DataW Value) (mm : Lit → Nat) (R : Lit → Nat → Rf) (left : Lit → Bool) (L0 L : List Rf) : Prop where
  nd : L.Nodup
  pre : ∃ S, L = L0 ++ S ∧ ∀ r ∈ S, v r = true ∧ From D mm R r
  dn : ∀ kl, Maps.has D kl = true → left kl = false → ∀ i, i < mm kl → v (R kl i) = true → R kl i ∈ L
theorem Met.step {v : Rf → Bool} {D : DataW Value} {mm : Lit → Nat} {R : Lit → Nat → Rf} {left : Lit → Bool} {L0 L : List Rf} (h : Met v D mm R left L0 L) {kl : Lit} (hk : Maps.has D kl = true) :
    Met v D mm R (fun z => left z && !z.sameKey kl) L0 (addAll v (R kl) (mm kl) L) := by
  obtain ⟨S, hS, hS2⟩ := h.pre
  obtain ⟨T, hT⟩ := addAll_pre v (R kl) L (mm kl)
  have nd := addAll_nd (v := v) (R := R kl) h.nd (mm kl)
  refine ⟨nd, ⟨S ++ T, by rw [hT, hS]; simp, fun r hr => ?_⟩, fun kl' hk' hl i hi hv => ?_⟩
  · rcases List.mem_append.1 hr with h1 | h1
    · exact hS2 r h1
    · have hm : r ∈ addAll v (R kl) (mm kl) L := by rw [hT]; exact List.mem_append_right _ h1
      rcases (addAll_mem (mm kl)).1 hm with h2 | ⟨h2, i, hi, e⟩
      · rw [hT, List.nodup_append] at nd
        exact absurd rfl (nd.2.2 r h2 r h1)
      · exact ⟨h2, kl, hk, i, hi, e⟩
  · rw [addAll_mem]
    by_cases e : kl' = kl
    · subst e; exact Or.inr ⟨hv, i, hi, rfl⟩
    · have : left kl' = false := by simpa [Maps.sameKey_ne e] using hl
      exact Or.inl (h.dn kl' hk' this i hi hv)
theorem Met.start {v : Rf → Bool} {D : DataW Value} {mm : Lit → Nat} {R : Lit → Nat → Rf} {L : List Rf} (h : L.Nodup) : Met v D mm R (Maps.has D) L L :=
  ⟨h, ⟨[], by simp, by simp⟩, fun kl h1 h2 => by rw [h1] at h2; cases h2⟩
theorem Met.both {v : Rf → Bool} {D1 D2 : DataW Value} {mm1 mm2 : Lit → Nat} {R1 R2 : Lit → Nat → Rf} {l1 l2 : Lit → Bool} {L1 L : List Rf} (h1 : Met v D1 mm1 R1 l1 [] L1) (a1 : ∀ kl, l1 kl = false) (h2 : Met v D2 mm2 R2 l2 L1 L) (a2 : ∀ kl, l2 kl = false) :
    NumOk v (From D1 mm1 R1) (From D2 mm2 R2) L L1.length := by
  obtain ⟨S1, e1, hS1⟩ := h1.pre
  simp at e1; subst e1
  obtain ⟨S2, rfl, hS2⟩ := h2.pre
  have nd := h2.nd
  have c1 : ∀ r, From D1 mm1 R1 r → v r = true → r ∈ L1 := by
    rintro r ⟨kl, hk, i, hi, rfl⟩ hv
    exact h1.dn kl hk (a1 kl) i hi hv
  refine ⟨nd, fun r hr => ?_, fun r h hv => List.mem_append_left _ (c1 r h hv), ?_, fun g hg hp => ?_, fun g hg hp => ?_⟩
  · rcases List.mem_append.1 hr with h | h
    · exact (hS1 r h).1
    · exact (hS2 r h).1
  · rintro r ⟨kl, hk, i, hi, rfl⟩ hv
    exact h2.dn kl hk (a2 kl) i hi hv
  · rw [List.getElem_append_left hp]
    exact (hS1 _ (List.getElem_mem hp)).2
  · rw [List.getElem_append_right hp]
    simp at hg
    have hlt : g - L1.length < S2.length := by omega
    have hm := List.getElem_mem hlt
    refine ⟨(hS2 _ hm).2, fun hf => ?_⟩
    have := c1 _ hf (hS2 _ hm).1
    rw [List.nodup_append] at nd
    exact nd.2.2 _ this _ hm rfl

/-! ### number -/
structure KE (E B : Nat) (w w' : World) : Prop where
  os : w'.os = w.os
  tape : w'.tape = w.tape
  output : w'.output = w.output
  size : w.heap.size ≤ w'.heap.size
  block : ∀ k, k < B → k ≠ E → w'.heap[k]? = w.heap[k]?
theorem KE.trans {E B : Nat} {a b c : World} (h : KE E B a b) (k : KE E B b c) : KE E B a c :=
  ⟨k.os.trans h.os, k.tape.trans h.tape, k.output.trans h.output, Nat.le_trans h.size k.size, fun i hi h1 => (k.block i hi h1).trans (h.block i hi h1)⟩
theorem KE.of_below {E B : Nat} {w w' : World} (h : Below B w w') : KE E B w w' := ⟨h.os, h.tape, h.output, h.size, fun k hk _ => h.block k hk⟩
theorem KE.of_kb {v : Env} {B : Nat} {w w' : World} (h : Kb v w w') (hB : B ≤ v.base) (hM : B ≤ v.M) (hw : B ≤ w.heap.size) : KE v.E B w w' :=
  ⟨h.os, h.tape, h.output, h.size, fun k hk h1 => h.block k (by omega) h1 (by omega) (Or.inl (by omega))⟩
theorem KE.of_grown {E B r : Nat} {w w' : World} (h : w.grownBy w' (some r)) (hr : B ≤ r) (hw : B ≤ w.heap.size) : KE E B w w' :=
  ⟨h.os, h.tape, h.output, h.size, fun k hk _ => h.block k (by omega) (by simp; omega)⟩
structure NL (v : Env) (F : Nat) (fo : Obj) (kt : TypeId) (B r n : Nat) (D : DataW Value) (w wr : World) (left : Lit → Bool) (cnt : Nat) (L : List Rf) (ao : Option Addr) (c : Nat) : Prop where
  rg : wr.ranges Try.prog kt RV B r n D left cnt
  st : NSt v wr L ao c
  ke : KE v.E w.heap.size w wr
  ff : wr.heap[F]? = some fo
  lf : ∀ kl, left kl = true → Maps.has D kl = true
/-- The step of the loop over a map. -/
theorem NSt.grown {v : Env} {w w' : World} {L : List Rf} {ao : Option Addr} {c r : Nat} (ok : v.Ok) (h : NSt v w L ao c) (hg : w.grownBy w' (some r)) (hr : v.base ≤ r) (hr2 : ∀ cs t fz, w.heap[r]? ≠ some (.cells cs t fz)) : NSt v w' L ao c := by
  have hl : ∀ k, k < v.base → w'.heap[k]? = w.heap[k]? := fun k hk => hg.block k (Nat.lt_of_lt_of_le hk h.bs) (by simp; omega)
  have hc : ∀ k o, k < v.base → w'.cell? ⟨k, o, none⟩ = w.cell? ⟨k, o, none⟩ := fun k o hk => by simp [World.cell?, hl k hk]
  refine ⟨(hl _ ok.l1).trans h.v1, (hl _ ok.l2).trans h.v2, (hl _ ok.l3).trans h.v3, (hl _ ok.le).trans h.e, ?_, h.map.same (hl _ ok.lm), fun i hi => ?_, Nat.le_trans h.bs hg.size⟩
  · obtain ⟨h1, h2⟩ := h.own
    refine ⟨h1, ?_⟩
    rcases h2 with h2 | ⟨g, cap, cur, hv, hbg, hgg, rr⟩
    · exact Or.inl h2
    · exact Or.inr ⟨g, cap, cur, hv, hbg, (hg.block g (lt_of_block hgg) (by simp; rintro rfl; exact hr2 _ _ _ hgg)).trans hgg, rr⟩
  · obtain ⟨a, b⟩ := h.sets i hi
    exact ⟨(hc _ _ ok.ls).trans a, (hc _ _ ok.ls).trans b⟩
theorem iter_not {kt : TypeId} {B r n : Nat} {D : DataW Value} {w : World} {left : Lit → Bool} {cnt : Nat} (h : w.ranges Try.prog kt RV B r n D left cnt) : ∀ cs t fz, w.heap[r]? ≠ some (.cells cs t fz) := by
  obtain ⟨es', clock', since, seen, c0, _, _, _, _, hr, _⟩ := h
  intro cs t fz e
  rw [hr] at e; cases e
theorem map_not {kt : TypeId} {B n : Nat} {D : DataW Value} {w : World} (h : w.ownsMap Try.prog kt RV B n D) : ∀ cs t fz, w.heap[B]? ≠ some (.cells cs t fz) := by
  obtain ⟨es, clock, hb, _⟩ := h
  intro cs t fz e
  rw [hb] at e; cases e
theorem NL.next {v : Env} (ok : v.Ok) {F : Nat} {fo : Obj} (hF : F < v.base) {kt : TypeId} {B r n : Nat} {D : DataW Value} {w wr w1 : World} {left left' : Lit → Bool} {cnt cnt' : Nat} {L : List Rf} {ao : Option Addr} {c : Nat} (h : NL v F fo kt B r n D w wr left cnt L ao c) (hr : v.base ≤ r) (hb : w.heap.size ≤ v.base) (hgr : wr.grownBy w1 (some r)) (hrg : w1.ranges Try.prog kt RV B r n D left' cnt') (hl : ∀ kl, left' kl = true → left kl = true) : NL v F fo kt B r n D w w1 left' cnt' L ao c :=
  ⟨hrg, h.st.grown ok hgr hr (iter_not h.rg), h.ke.trans (KE.of_grown hgr (by omega) (by have := h.st.bs; omega)), (hgr.block F (by have := h.st.bs; omega) (by simp; omega)).trans h.ff, fun kl hk => h.lf kl (hl kl hk)⟩
theorem NL.call {v : Env} (ok : v.Ok) {F : Nat} {fo : Obj} (hF : F < v.base) (hFE : F ≠ v.E) (hFM : F ≠ v.M) {kt : TypeId} {B r n : Nat} {D : DataW Value} {w w1 w2 : World} {left : Lit → Bool} {cnt : Nat} {L L' : List Rf} {ao ao' : Option Addr} {c c' : Nat} (h : NL v F fo kt B r n D w w1 left cnt L ao c) (hb : w.heap.size ≤ v.base) (hM : w.heap.size ≤ v.M) (hB : B < w.heap.size) (hBE : B ≠ v.E) (hk : Kb v w1 w2) (hrE : r ≠ v.E) (hrM : r ≠ v.M) (hst : NSt v w2 L' ao' c') : NL v F fo kt B r n D w w2 left cnt L' ao' c' := by
  refine ⟨?_, hst, h.ke.trans (KE.of_kb hk hb hM (by have := h.st.bs; omega)), (hk.block F (by have := h.st.bs; omega) hFE hFM (Or.inl hF)).trans h.ff, h.lf⟩
  have hrn := iter_not h.rg
  have e1 := hk.block B h.rg.owns.lt hBE (by omega) (Or.inl (by omega))
  have e2 := hk.block r h.rg.lt hrE hrM (Or.inr fun cs fz => hrn cs 118 fz)
  obtain ⟨es, clock, since, seen, c0, hb', F, hs, hD, hr0, rest⟩ := h.rg
  exact ⟨es, clock, since, seen, c0, e1.trans hb', F, hs, hD, e2.trans hr0, rest⟩
end Go.Proofs.Qxb6612720a
