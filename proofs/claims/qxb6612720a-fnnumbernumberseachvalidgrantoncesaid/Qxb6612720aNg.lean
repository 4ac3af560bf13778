import Derived.Test.Qxb6612720aNf
import Derived.Deep.RegionLaw
namespace Go.Proofs.Qxb6612720a
open Go.RowKit
open Go.Maps (Keyed)
set_option linter.unusedVariables false

def vAt (v : Env) (r : Rf) : Bool := validB (v.nb r.1.toNat) (v.na r.1.toNat) v.now

theorem own_far {v : Env} {w : World} {L : List Rf} {ao : Option Addr} {c : Nat} (h : NSt v w L ao c) {k : Nat} (hk : k < v.base ∨ ∀ cs fz, w.heap[k]? ≠ some (.cells cs 118 fz)) : some k ≠ (Value.slice ao L.length c).ownBlock := by
  intro e
  rcases h.own.2 with ⟨hv, _⟩ | ⟨g', cap', cur, hv, hb, hh, _⟩
  · simp at hv; rw [hv.1] at e; simp [Value.ownBlock] at e
  · simp at hv
    obtain ⟨rfl, _⟩ := hv
    simp [Value.ownBlock] at e
    subst e
    rcases hk with hk | hk
    · omega
    · exact hk _ _ hh
theorem own_new {v : Env} {w : World} {L : List Rf} {ao : Option Addr} {c : Nat} (h : NSt v w L ao c) : some w.heap.size ≠ (Value.slice ao L.length c).ownBlock := by
  intro e
  rcases h.own.2 with ⟨hv, _⟩ | ⟨g', cap', cur, hv, hb, hh, _⟩
  · simp at hv; rw [hv.1] at e; simp [Value.ownBlock] at e
  · simp at hv
    obtain ⟨rfl, _⟩ := hv
    simp [Value.ownBlock] at e
    have := lt_of_block hh
    omega
theorem two_new (w : World) (x y : Value) (t : TypeId) : ∀ j u, [x, y][j]? = some u → (w.alloc (.cells #[x, y] t)).cell? ((⟨w.heap.size, 0, none⟩ : Addr).add j) = some u := fun j u h =>
  World.news_of_block (cs := #[x, y]) (MapKept.heap_alloc w _).1 j u (by simpa using h)
theorem two_one (a b : Int) : ∀ u ∈ [Value.int .i64 a, .int .i64 b], u.oneCell' = true := by
  intro u hu; simp at hu; rcases hu with rfl | rfl <;> rfl
/-- An append whose run is known, as a step of a region. -/
theorem step_app {P : Program} {ops : Array Oper} {o : Oper} {a : Act} {w : World} {K : Act → World → Prop} {Q : Exit → Act → World → Prop} {E : Prop}
    (hg : o.guard = none) (s x : Operand) (t : TypeId) (hop : o.op = Op.call { callee := Callee.builtin Builtin.append, args := #[s, x], argTypes := #[t, t] })
    (v u : Value) (hs : a.eval s = v) (hx : a.eval x = u) (v' : Value) (w' : World) (hrun : (Builtin.append_ #[t, t] o.type #[v, u]).run P w = .ok v' w')
    (hK : K (a.put o.dst v') w') : if Region.wanted o (yielded ops a.tmps) = true then Oper.wp P o a w K Q else E := by
  have hw : Region.wanted o (yielded ops a.tmps) = true := by simp [Region.wanted, hg]
  rw [if_pos hw]
  unfold Oper.wp
  simp [execOp, hop, resolve, invoke, builtin, hs, hx, hrun, Result.andThen]
  exact hK
theorem push_end {v : Env} (ok : v.Ok) {wd w2 w3 : World} {L : List Rf} {r : Rf} {ao : Option Addr} {c g cap : Nat} {o : Obj} (h : NSt v wd L ao c) (hm : NumMap w2 v.M (L ++ [r])) (ht : wd.mapTurned w2 v.M)
    (hown : w3.ownsRow v.base 118 2 (.slice (some ⟨g, 0, none⟩) (L.length + 1) cap) (L.length + 1) (flatR L ++ [.int .i64 r.1, .int .i64 r.2])) (hgrow : (w2.alloc o).grownBy w3 (Value.slice ao L.length c).ownBlock) :
    NSt v (w3.setCell ⟨v.E, 2, none⟩ (.slice (some ⟨g, 0, none⟩) (L.length + 1) cap)) (L ++ [r]) (some ⟨g, 0, none⟩) cap ∧ Kb v wd (w3.setCell ⟨v.E, 2, none⟩ (.slice (some ⟨g, 0, none⟩) (L.length + 1) cap)) := by
  have hs2 : wd.heap.size ≤ w2.heap.size := ht.grown.size
  have hfar : ∀ k, k < wd.heap.size → k ≠ v.M → (k < v.base ∨ ∀ cs fz, wd.heap[k]? ≠ some (.cells cs 118 fz)) → w3.heap[k]? = wd.heap[k]? := fun k hk hkM hk3 => by
    rw [hgrow.block k (by simp; omega) (own_far h hk3), Below.heap_alloc _ _ _ (by omega), ht.grown.block k hk (by simpa using hkM)]
  have hg : v.base ≤ g := by
    rcases hown.2 with ⟨hv, _⟩ | ⟨g', cap', cur, hv, hb, _⟩
    · simp at hv
    · simp at hv; rw [hv.1]; exact hb
  have hl : ∀ k, k < v.base → k ≠ v.M → k ≠ v.E → (w3.setCell ⟨v.E, 2, none⟩ (.slice (some ⟨g, 0, none⟩) (L.length + 1) cap)).heap[k]? = wd.heap[k]? := fun k hk hkM hkE => by
    rw [Below.heap_setCell _ _ _ _ hkE]
    exact hfar k (Nat.lt_of_lt_of_le hk h.bs) hkM (Or.inl hk)
  have hc : ∀ k o, k < v.base → k ≠ v.M → k ≠ v.E → (w3.setCell ⟨v.E, 2, none⟩ (.slice (some ⟨g, 0, none⟩) (L.length + 1) cap)).cell? ⟨k, o, none⟩ = wd.cell? ⟨k, o, none⟩ := fun k o hk h1 h2 => by simp [World.cell?, hl k hk h1 h2]
  have hE : w3.heap[v.E]? = some (.cells #[v.q, .slice (some ⟨v.SB, 0, none⟩) v.ns v.ns, .slice ao L.length c, v.pm] 102 (0, 0)) := (hfar v.E (Nat.lt_of_lt_of_le ok.le h.bs) ok.em.symm (Or.inl ok.le)).trans h.e
  have hE' : (w3.setCell ⟨v.E, 2, none⟩ (.slice (some ⟨g, 0, none⟩) (L.length + 1) cap)).heap[v.E]? = some (.cells #[v.q, .slice (some ⟨v.SB, 0, none⟩) v.ns v.ns, .slice (some ⟨g, 0, none⟩) (L.length + 1) cap, v.pm] 102 (0, 0)) := by
    have hlt := lt_of_block hE
    have hg' : w3.heap[v.E] = _ := Option.some.inj ((Array.getElem?_eq_getElem hlt).symm.trans hE)
    simp [World.setCell, hlt, Array.getElem_modify, hg']
  have hsz : (w3.setCell ⟨v.E, 2, none⟩ (.slice (some ⟨g, 0, none⟩) (L.length + 1) cap)).heap.size = w3.heap.size := by simp [World.setCell]
  have h3 : wd.heap.size ≤ w3.heap.size := by have := hgrow.size; simp at this; omega
  have hlm := Nat.lt_of_lt_of_le ok.lm h.bs
  refine ⟨⟨(hl _ ok.l1 ok.m1 ok.e1).trans h.v1, (hl _ ok.l2 ok.m2 ok.e2).trans h.v2, (hl _ ok.l3 ok.m3 ok.e3).trans h.v3, by simpa using hE', ?_, hm.same ?_, fun i hi => ?_, by rw [hsz]; exact Nat.le_trans h.bs h3⟩, ?_⟩
  · have := ownsRow_setCell_other (a := ⟨v.E, 2, none⟩) hown (by simp [Value.ownBlock]; have := ok.le; omega) (.slice (some ⟨g, 0, none⟩) (L.length + 1) cap)
    simpa [flatR_app, flatR] using this
  · rw [Below.heap_setCell _ _ _ _ ok.em, hgrow.block v.M (by simp; omega) (own_far h (Or.inl ok.lm)), Below.heap_alloc _ _ _ (by omega)]
  · obtain ⟨a, b⟩ := h.sets i hi
    exact ⟨(hc _ _ ok.ls ok.ms ok.es).trans a, (hc _ _ ok.ls ok.ms ok.es).trans b⟩
  · refine ⟨hgrow.os.trans ht.grown.os, hgrow.tape.trans ht.grown.tape, hgrow.output.trans ht.grown.output, by rw [hsz]; exact h3, fun k hk h1 h2 h3 => ?_⟩
    rw [Below.heap_setCell _ _ _ _ h1]
    exact hfar k hk h2 h3
theorem Kb.of_below {v : Env} {w w' : World} (h : Below w.heap.size w w') : Kb v w w' := ⟨h.os, h.tape, h.output, h.size, fun k hk _ _ _ => h.block k hk⟩
theorem NSt.below {v : Env} (ok : v.Ok) {w w' : World} {L : List Rf} {ao : Option Addr} {c : Nat} (h : NSt v w L ao c) (hb : Below w.heap.size w w') : NSt v w' L ao c := h.more ok hb.size hb.block
/-- The world when a reference has been laid into its variable. -/
theorem boxed (w : World) (cs : Array Value) (t : TypeId) (m : Nat) : Below w.heap.size w ((w.alloc (.cells cs t)).drewN m) := drewBelow ((Below.refl _ _).alloc (Nat.le_refl _) _) m

set_option maxHeartbeats 4000000 in
set_option maxRecDepth 100000 in
theorem clos_any (v : Env) (ok : v.Ok) (LB n c0 : Nat) (R : Nat → Rf) (L0 : List Rf) (ao0 : Option Addr) (w : World) (hn : n ≤ 65536) (hL : w.rowIs LB 118 (n * 2) (refAt R n)) (hLB : LB < v.base) (hLE : LB ≠ v.E) (hLM : LB ≠ v.M)
    (hin : allIn R n v.ns) (hwf : ∀ i, i < n → wfR (R i)) (hst : NSt v w L0 ao0 c0) (hl0 : L0.length + n ≤ 17179869184) :
    Calls Try.prog 33 #[.slice (some ⟨LB, 0, none⟩) n n, .pointer (some ⟨v.V1, 0, none⟩), .pointer (some ⟨v.V2, 0, none⟩), .pointer (some ⟨v.V3, 0, none⟩)] w fun e w' => e = .returned (.tuple #[]) ∧ (∃ ao c, NSt v w' (addAll (vAt v) R n L0) ao c) ∧ Kb v w w' := by
  have HL : Hid (w.rowIs LB 118 (n * 2) (refAt R n)) := hL
  have HI : Hid (allIn R n v.ns) := hin
  have HW : Hid (∀ i, i < n → wfR (R i)) := hwf
  have HS : Hid (NSt v w L0 ao0 c0) := hst
  have OK : Hid v.Ok := ok
  clear hL hin hwf hst
  go_enter Try.func33, Try.ntmps33
  go_wp2
  go_loopw [12] (fun i wr => ∃ k : Nat, k ≤ n ∧ i = .int .i64 k ∧ Hid (∃ ao c, NSt v wr (addAll (vAt v) R k L0) ao c) ∧ Hid (Kb v w wr) ∧ (addAll (vAt v) R k L0).length ≤ L0.length + k) (fun i _ => n - (intOf i).toNat)
  case atStart => exact ⟨0, Nat.zero_le _, rfl, ⟨ao0, c0, HS.out⟩, Kb.refl v w, Nat.le_refl _⟩
  case round =>
    obtain ⟨k, hk, rfl, hst, hkb, hlen⟩ := hrel
    by_cases hlt : k < n
    · obtain ⟨ao, c, hst⟩ := hst.out
      obtain ⟨L, hLe⟩ : ∃ L, L = addAll (vAt v) R k L0 := ⟨_, rfl⟩
      rw [← hLe] at hst hlen
      have hin := HI.out k hlt
      have hwf := HW.out k hlt
      have hblk := hkb.out.block LB HL.out.lt hLE hLM (Or.inl hLB)
      have k0 : wr.cell? ⟨LB, k * 2, none⟩ = some (.int .i64 (R k).1) := by
        have := HL.out.cell (i := k * 2) (by omega)
        rw [show wr.cell? ⟨LB, k * 2, none⟩ = w.cell? ⟨LB, k * 2, none⟩ from by simp [World.cell?, hblk], this]
        simp [refAt, hlt]
      have k1 : wr.cell? ⟨LB, k * 2 + 1, none⟩ = some (.int .i64 (R k).2) := by
        have := HL.out.cell (i := k * 2 + 1) (by omega)
        rw [show wr.cell? ⟨LB, k * 2 + 1, none⟩ = w.cell? ⟨LB, k * 2 + 1, none⟩ from by simp [World.cell?, hblk], this]
        have e1 : (k * 2 + 1) / 2 = k := by omega
        simp [refAt, hlt, e1]
      clear hblk
      obtain ⟨p, g, hpg⟩ : ∃ (p : Nat) (g : Int), R k = ((p : Int), g) := ⟨(R k).1.toNat, (R k).2, Prod.ext (by simp; omega) rfl⟩
      rw [hpg] at k0 k1 hin hwf
      simp only at k0 k1 hin
      have hp : p < v.ns := by omega
      obtain ⟨z1, z2⟩ := hst.sets p hp
      have x1 := cell_of_one hst.v1
      have x2 := cell_of_one hst.v2
      have x3 := cell_of_one hst.v3
      have y1 : wr.cell? ⟨v.E, 1, none⟩ = some (.slice (some ⟨v.SB, 0, none⟩) v.ns v.ns) := by simp [World.cell?, hst.e]
      have y2 : wr.cell? ⟨v.E, 2, none⟩ = some (.slice ao L.length c) := by simp [World.cell?, hst.e]
      have b1 := lt_of_block hst.v1
      have b2 := lt_of_block hst.v2
      have b3 := lt_of_block hst.v3
      have b4 := lt_of_block hst.e
      have b5 : v.SB < wr.heap.size := Nat.lt_of_lt_of_le ok.ls hst.bs
      have b6 : LB < wr.heap.size := Nat.lt_of_lt_of_le hLB hst.bs
      have hns := ok.ns
      obtain ⟨cv, hlook, hidx⟩ := hst.map.look ((p : Int), g) hwf
      by_cases hm : ((p : Int), g) ∈ L
      · have hlook2 : ∀ m, (Instr.lookup 120 (.map (some v.M)) (.agg #[.int .i64 (p : Int), .int .i64 g]) true).run Try.prog ((wr.alloc (.cells #[.int .i64 (p : Int), .int .i64 g] 118)).drewN m) = .ok (.tuple #[.int .i64 cv, .bool true]) ((wr.alloc (.cells #[.int .i64 (p : Int), .int .i64 g] 118)).drewN m) := fun m => by
          obtain ⟨cv', h1, h2⟩ := (hst.below ok (boxed wr #[.int .i64 (p : Int), .int .i64 g] 118 m)).map.look ((p : Int), g) hwf
          simp only at h1
          rw [h1, h2 hm, hidx hm]; simp [hm]
        have HA : Hid (addAll (vAt v) R (k + 1) L0 = L) := by
          show addRef _ (addAll (vAt v) R k L0) (R k) = L
          rw [← hLe, hpg]; simp [addRef, hm]
        clear hlook
        have HST : Hid (NSt v wr L ao c) := hst
        clear hst
        go_wp2
        go_quiet (fail)
        go_wp2
        go_quiet (fail)
        go_wp2
        go_roundw
        case rel => exact ⟨k + 1, by omega, by go_num, ⟨ao, c, HA.out ▸ HST.out.below ok (boxed _ _ _ _)⟩, hkb.out.trans (Kb.of_below (boxed _ _ _ _)), by rw [HA.out]; omega⟩
        case measure => simp [intOf]; omega
      · have hlook2 : ∀ m, ∃ cv, (Instr.lookup 120 (.map (some v.M)) (.agg #[.int .i64 (p : Int), .int .i64 g]) true).run Try.prog ((wr.alloc (.cells #[.int .i64 (p : Int), .int .i64 g] 118)).drewN m) = .ok (.tuple #[.int .i64 cv, .bool false]) ((wr.alloc (.cells #[.int .i64 (p : Int), .int .i64 g] 118)).drewN m) := fun m => by
          obtain ⟨cv', h1, h2⟩ := (hst.below ok (boxed wr #[.int .i64 (p : Int), .int .i64 g] 118 m)).map.look ((p : Int), g) hwf
          exact ⟨cv', by simpa [hm] using h1⟩
        obtain ⟨cv, hlook2⟩ := Classical.skolem.1 hlook2
        clear hlook
        have HST : Hid (NSt v wr L ao c) := hst
        clear hst
        by_cases t1 : v.nb p ≤ v.now
        · by_cases t2 : v.now < v.na p
          · go_wp2
            go_quiet (fail)
            go_wp2
            go_quiet (fail)
            go_wp2
            have HA : Hid (addAll (vAt v) R (k + 1) L0 = L ++ [((p : Int), g)]) := by
              show addRef _ (addAll (vAt v) R k L0) (R k) = _
              rw [← hLe, hpg]; simp [addRef, hm, vAt, validB, t1, t2]
            clear hlook2 z1 z2 x3 k0 k1 hLe
            generalize hwd : World.drewN _ _ = wd
            have hbel : Below wr.heap.size wr wd := hwd ▸ drewBelow (boxed wr #[.int .i64 (p : Int), .int .i64 g] 118 _) _
            have hbox : wd.heap[wr.heap.size]? = some (.cells #[.int .i64 (p : Int), .int .i64 g] 118 (0, 0)) := by subst hwd; exact (MapKept.heap_alloc wr _).1
            have hsd : wd.heap.size = wr.heap.size + 1 := by subst hwd; simp
            clear hwd x1 x2 y1 y2
            have hst := HST.out.below ok hbel
            have hsd' : NSt v wd.drew L ao c := hst.more ok (Nat.le_refl _) (fun _ _ => rfl)
            obtain ⟨w2, hput, hmap, hturn⟩ := hsd'.map.put ((p : Int), g) hwf hm (by omega)
            simp only at hput
            have hfar : ∀ k, k < wd.heap.size → k ≠ v.M → w2.heap[k]? = wd.heap[k]? := fun k hk h1 => hturn.grown.block k hk (by simpa using h1)
            have x1 := cell_of_one hst.v1
            have x2 := cell_of_one hst.v2
            have y2 : wd.cell? ⟨v.E, 2, none⟩ = some (.slice ao L.length c) := by simp [World.cell?, hst.e]
            have q0 : wd.cell? ⟨wr.heap.size, 0, none⟩ = some (.int .i64 (p : Int)) := by simp [World.cell?, hbox]
            have q1 : wd.cell? ⟨wr.heap.size, 1, none⟩ = some (.int .i64 g) := by simp [World.cell?, hbox]
            have HST2 : Hid (NSt v wd.drew L ao c) := hsd'
            have HB2 : Hid (Below wr.heap.size wr wd) := hbel
            have HX : Hid (NumMap w2 v.M (L ++ [((p : Int), g)]) ∧ wd.drew.mapTurned w2 v.M) := ⟨hmap, hturn⟩
            clear hst hsd' hmap hturn hbel
            go_region
            have m2 := HX.out.2.grown.size
            have m3 : wd.heap.size ≤ w2.heap.size := m2
            have cf : ∀ k o, k < wd.heap.size → k ≠ v.M → w2.cell? ⟨k, o, none⟩ = wd.cell? ⟨k, o, none⟩ := fun k o h1 h2 => by simp [World.cell?, hfar k h1 h2]
            have ne1 : wr.heap.size ≠ v.M := by have := HST.out.map.lt; omega
            have X1 := (cf _ 0 (by omega) ok.m1).trans x1
            have X2 := (cf _ 2 (by omega) ok.em.symm).trans y2
            have X3 := (cf _ 0 (by omega) ne1).trans q0
            have X4 := (cf _ 1 (by omega) ne1).trans q1
            have fE : w2.heap[v.E]? = some (.cells #[v.q, .slice (some ⟨v.SB, 0, none⟩) v.ns v.ns, .slice ao L.length c, v.pm] 102 (0, 0)) := (hfar v.E (by omega) ok.em.symm).trans HST2.out.e
            have l1 : v.V1 < w2.heap.size := by omega
            have l2 : v.E < w2.heap.size := by omega
            have l3 : wr.heap.size < w2.heap.size := by omega
            have hown : Hid (w2.ownsRow v.base 118 2 (.slice ao L.length c) L.length (flatR L)) := by
              obtain ⟨o1, o2⟩ := HST2.out.own
              refine ⟨o1, ?_⟩
              rcases o2 with o2 | ⟨g', cap', cur, hv, hbg, hg, r⟩
              · exact Or.inl o2
              · have := ok.lm
                exact Or.inr ⟨g', cap', cur, hv, hbg, (hfar g' (lt_of_block hg) (by omega)).trans hg, r⟩
            have fz0 : w2.frozen? ⟨v.E, 2, none⟩ = false := by simp [World.frozen?, fE]
            have HE : Hid _ := fE
            have HBX : Hid _ := hbox
            have HFR : Hid _ := hfar
            obtain ⟨i0, hi, hz0, hz1, hz2⟩ := info_parts info118
            have hbase : v.base ≤ w2.heap.size := by have := HST2.out.bs; have : v.base ≤ wd.heap.size := this; omega
            have f1 : (v.V1 : Nat) < v.base := ok.l1
            have f2 : v.E < v.base := ok.le
            have n1 : Hid (some v.V1 ≠ (Value.slice ao L.length c).ownBlock) := own_far HST2.out (Or.inl ok.l1)
            have n2 : Hid (some v.E ≠ (Value.slice ao L.length c).ownBlock) := own_far HST2.out (Or.inl ok.le)
            have n3 : Hid (some wr.heap.size ≠ (Value.slice ao L.length c).ownBlock) := own_new HST.out
            clear cf x1 x2 y2 q0 q1 hfar hbox fE m2
            obtain ⟨gg, cap, w3, happ, hown1, hgrow, hat, hlt3⟩ := run_append_lies (P := Try.prog) (w2.alloc (.cells #[.int .i64 (p : Int), .int .i64 g] 118)).drew 99 99 v.base 118 i0 (.agg #[.int .i64 0, .int .i64 0]) 2 16 Try.underlying99 hi hz0 hz1 hz2 (by rfl) (by decide) (.slice ao L.length c) L.length (flatR L) (hown.out.alloc (.cells #[.int .i64 (p : Int), .int .i64 g] 118)) ⟨w2.heap.size, 0, none⟩ 1 1 [.int .i64 (p : Int), .int .i64 g] (by rfl) (two_new w2 _ _ _) (two_one _ _) (by decide) (by simp only [maxLen]; omega) (by omega) (by simp; omega) (w2.heap.size + 1) (by simp)
            have al : ∀ k o, k < w2.heap.size → (w2.alloc (.cells #[.int .i64 (p : Int), .int .i64 g] 118)).drew.cell? ⟨k, o, none⟩ = w2.cell? ⟨k, o, none⟩ := fun k o hk => by
              have : (w2.alloc (.cells #[.int .i64 (p : Int), .int .i64 g] 118)).drew.heap[k]? = w2.heap[k]? := Below.heap_alloc _ _ _ hk
              simp only [World.cell?, this]
            have Y1 : w3.cell? ⟨v.V1, 0, none⟩ = some (.pointer (some ⟨v.E, 0, none⟩)) := (hgrow.cell_far ⟨v.V1, 0, none⟩ (by simp; omega) n1.out).trans ((al _ _ (by omega)).trans X1)
            have Y2 : w3.cell? ⟨v.E, 2, none⟩ = some (.slice ao L.length c) := (hgrow.cell_far ⟨v.E, 2, none⟩ (by simp; omega) n2.out).trans ((al _ _ (by omega)).trans X2)
            have Y3 : w3.cell? ⟨wr.heap.size, 0, none⟩ = some (.int .i64 (p : Int)) := (hgrow.cell_far ⟨wr.heap.size, 0, none⟩ (by simp; omega) n3.out).trans ((al _ _ (by omega)).trans X3)
            have Y4 : w3.cell? ⟨wr.heap.size, 1, none⟩ = some (.int .i64 g) := (hgrow.cell_far ⟨wr.heap.size, 1, none⟩ (by simp; omega) n3.out).trans ((al _ _ (by omega)).trans X4)
            have fz : w3.frozen? ⟨v.E, 2, none⟩ = false := (hgrow.frozen_far ⟨v.E, 2, none⟩ (by simp; omega) n2.out).trans (by
              show (w2.alloc (.cells #[.int .i64 (p : Int), .int .i64 g] 118)).frozen? ⟨v.E, 2, none⟩ = false
              have : (w2.alloc (.cells #[.int .i64 (p : Int), .int .i64 g] 118)).heap[v.E]? = w2.heap[v.E]? := Below.heap_alloc _ _ _ l2
              simp only [World.frozen?, this, HE.out]; rfl)
            have PE : Hid _ := push_end (g := gg) (cap := cap) (r := ((p : Int), g)) (o := .cells #[.int .i64 (p : Int), .int .i64 g] 118) ok HST2.out HX.out.1 HX.out.2 hown1 ⟨hgrow.os, hgrow.tape, hgrow.output, hgrow.size, hgrow.block⟩
            clear hown1 hgrow hat al
            have PF : Hid _ := And.intro PE.out.1 ((hkb.out.trans (Kb.of_below HB2.out)).trans (Kb.trans (Kb.of_below (w' := wd.drew) (drewBelow (Below.refl _ _) 1)) PE.out.2))
            have LE : (L ++ [((p : Int), g)]).length ≤ L0.length + (k + 1) := by simp; omega
            go_wp2
            go_region_law (refine step_app rfl (.tmp 58) (.tmp 60) 99 rfl _ _ (by rfl) (by rfl) _ _ happ ?_)
            all_goals
              go_wp2
              go_roundw
              case rel => exact ⟨k + 1, by omega, by go_num, ⟨_, cap, HA.out ▸ PF.out.1⟩, PF.out.2, by rw [HA.out]; exact LE⟩
              case measure => simp [intOf]; omega
          · have HA : Hid (addAll (vAt v) R (k + 1) L0 = L) := by
              show addRef _ (addAll (vAt v) R k L0) (R k) = L
              rw [← hLe, hpg]; simp [addRef, hm, vAt, validB, t2]
            have d2 : decide (v.now < v.na p) = false := by simpa using t2
            go_wp2
            go_quiet (fail)
            go_wp2
            go_quiet (fail)
            go_wp2
            go_roundw
            case rel => exact ⟨k + 1, by omega, by go_num, ⟨ao, c, HA.out ▸ HST.out.below ok (boxed _ _ _ _)⟩, hkb.out.trans (Kb.of_below (boxed _ _ _ _)), by rw [HA.out]; omega⟩
            case measure => simp [intOf]; omega
        · have HA : Hid (addAll (vAt v) R (k + 1) L0 = L) := by
            show addRef _ (addAll (vAt v) R k L0) (R k) = L
            rw [← hLe, hpg]; simp [addRef, hm, vAt, validB, t1]
          have d1 : decide (v.nb p ≤ v.now) = false := by simpa using t1
          go_wp2
          go_quiet (fail)
          go_wp2
          go_quiet (fail)
          go_wp2
          go_roundw
          case rel => exact ⟨k + 1, by omega, by go_num, ⟨ao, c, HA.out ▸ HST.out.below ok (boxed _ _ _ _)⟩, hkb.out.trans (Kb.of_below (boxed _ _ _ _)), by rw [HA.out]; omega⟩
          case measure => simp [intOf]; omega
    · obtain rfl : k = n := by omega
      go_wp2
      go_end0
      exact ⟨rfl, hst.out, hkb.out⟩
end Go.Proofs.Qxb6612720a
