import Derived.Test.Qxb6612720aDoorZe
import Derived.Deep.QuietTactic
import Derived.BigQuiet
namespace Go.Proofs.Qxb6612720aDoor
open Go.RowKit
set_option linter.unusedVariables false

theorem fits5 (a : Option Addr) (n c : Nat) (size : Int) (w : World) :
    Calls Tryd.prog 5 #[.int .i64 size, .slice a n c] w fun e w' => e = .returned (.bool (decide (n ≤ 1048576))) ∧ w' = w := by
  by_cases h : n ≤ 1048576
  · go_enter Tryd.func5, Tryd.ntmps5
    go_wp2
    go_ret
    exact ⟨by simp [h], rfl⟩
  · go_enter Tryd.func5, Tryd.ntmps5
    go_wp2
    go_ret
    exact ⟨by simp [h], rfl⟩

theorem law_big (a : Option Addr) (n c : Nat) (size : Int) (w : World) (h : ¬ n ≤ 1048576) :
    Calls Tryd.prog 3 #[.int .i64 size, .slice a n c] w fun e w' => e = .returned (.bool true) ∧ Below w.heap.size w w' := by
  have hd : decide (n ≤ 1048576) = false := by simp [h]
  go_enter Tryd.func3, Tryd.ntmps3
  go_wp2_with fail
  refine (fits5 _ _ _ _ _).mono ?_
  rintro e w1 ⟨rfl, rfl⟩
  go_wp2
  go_ret
  exact ⟨rfl, Below.refl _ _⟩

theorem law_out (a : Option Addr) (n c : Nat) (size : Int) (w : World) (h : n ≤ 1048576) (hs : 131072 < n ∨ (n ≤ 131072 ∧ size < 0) ∨ (n ≤ 131072 ∧ 0 ≤ size ∧ 65536 < size)) :
    Calls Tryd.prog 3 #[.int .i64 size, .slice a n c] w fun e w' => e = .returned (.bool true) ∧ Below w.heap.size w w' := by
  have hd : decide (n ≤ 1048576) = true := by simp [h]
  rcases hs with hs | ⟨hs1, hs⟩ | ⟨hs1, hs2, hs⟩
  all_goals
    go_enter Tryd.func3, Tryd.ntmps3
    go_wp2_with fail
    refine (fits5 _ _ _ _ _).mono ?_
    rintro e w1 ⟨rfl, rfl⟩
    go_wp2
    go_ret
    exact ⟨rfl, Below.refl _ _⟩

theorem dist_zero (v : Nat → Nat) (size : Nat) : dist v size 0 = 0 := by
  unfold dist
  rw [upTo_same (m := 0) (Nat.zero_le _) (fun i _ _ => by simp [inF, firsts])]
  simp [upTo]
theorem added_yes {w : World} {A size k : Nat} {v : Nat → Nat} (h : w.rowIs A 4 size (fun i => .bool (inF v k i))) (hv : inF v k (v k) = true) : w.rowIs A 4 size (fun i => .bool (inF v (k + 1) i)) :=
  h.congr fun i _ => by
    rw [inF_succ]
    by_cases e : i = v k
    · subst e; simp [hv]
    · simp [e]
theorem added_no {w : World} {A size k : Nat} {v : Nat → Nat} (h : w.rowIs A 4 size (fun i => .bool (inF v k i))) : (w.setCell ⟨A, v k, none⟩ (.bool true)).rowIs A 4 size (fun i => .bool (inF v (k + 1) i)) :=
  (h.set _ _).congr fun i _ => by
    rw [inF_succ]
    by_cases e : i = v k
    · subst e; simp
    · simp [e]

theorem own_cells {w : World} {base c : Nat} {ao : Option Addr} {L : List Nat} (h : w.ownsRow base 3 1 (.slice ao L.length c) L.length (ints L)) : ∀ j, j < L.length → ∃ g, ao = some ⟨g, 0, none⟩ ∧ w.cell? ⟨g, j, none⟩ = some (.int .i64 ((L.getD j 0 : Nat) : Int)) := by
  intro j hj
  rcases h.2 with ⟨hv, h0⟩ | ⟨g, cap, cur, hv, _⟩
  · omega
  · simp at hv
    obtain ⟨rfl, rfl⟩ := hv
    have := h.cells (g := g) rfl j (.int .i64 ((L[j] : Nat) : Int)) (by simp [ints, hj])
    rw [Addr.add_lit, Nat.zero_add] at this
    exact ⟨g, rfl, by rw [this]; simp [List.getD, hj]⟩

theorem upTo_at {P : Nat → Bool} {m : Nat} : ∀ j, j < (upTo P m).length → (upTo P m).getD j 0 < m ∧ P ((upTo P m).getD j 0) = true := by
  intro j hj
  rw [List.getD, List.getElem?_eq_getElem hj]
  exact upTo_mem.1 (List.getElem_mem hj)
theorem upTo_asc {P : Nat → Bool} {m : Nat} : ∀ j, j + 1 < (upTo P m).length → (upTo P m).getD j 0 < (upTo P m).getD (j + 1) 0 := by
  intro j hj
  rw [List.getD, List.getD, List.getElem?_eq_getElem (by omega), List.getElem?_eq_getElem hj]
  exact List.pairwise_iff_getElem.1 (upTo_sorted P m) j (j + 1) (by omega) hj (by omega)
theorem belowDrewN' {B : Nat} {a w : World} (h : Below B a w) (m : Nat) : Below B a (w.drewN m) := ⟨h.os, h.tape, h.output, h.size, h.block⟩

set_option maxHeartbeats 2000000 in
set_option maxRecDepth 100000 in
theorem law_core (a : Option Addr) (n c size : Nat) (z : Nat → Int) (w : World) (hn : n ≤ 131072) (hs : size ≤ 65536) (hN : Nums w a n z) (hT : Tab w) (hw0 : 0 < w.heap.size) :
    Calls Tryd.prog 3 #[.int .i64 size, .slice a n c] w fun e w' => e = .returned (.bool true) ∧ Below w.heap.size w w' := by
  have hd : decide (n ≤ 1048576) = true := by simp; omega
  have HN : Hid (Nums w a n z) := hN
  have HT : Hid (Tab w) := hT
  clear hN hT
  have hmk := run_make_row' (P := Tryd.prog) 24 4 (.bool false) 1 Tryd.underlying24 info4 rfl .i64 .i64 size (by omega) (by omega)
  go_enter Tryd.func3, Tryd.ntmps3
  go_wp2_with fail
  refine (fits5 _ _ _ _ _).mono ?_
  rintro e w1 ⟨rfl, rfl⟩
  go_wp2
  go_loop [5] (fun i => ∃ k : Nat, k ≤ n ∧ i = .int .i64 k ∧ Hid (∀ j, j < k → 0 ≤ z j ∧ z j < (size : Int))) (fun i => n - (intOf i).toNat)
  case atStart => exact ⟨0, Nat.zero_le _, rfl, fun j h => by omega⟩
  case round =>
    obtain ⟨k, hk, rfl, hq⟩ := hrel
    by_cases hlt : k < n
    · obtain ⟨b, off, rfl, hbo, c0⟩ := HN.out.cell hlt
      by_cases g1 : z k < 0
      · go_wp2
        go_ret
        exact ⟨rfl, Below.refl _ _⟩
      · by_cases g2 : (size : Int) ≤ z k
        · go_wp2
          go_ret
          exact ⟨rfl, Below.refl _ _⟩
        · have R : Hid (∀ j, j < k + 1 → 0 ≤ z j ∧ z j < (size : Int)) := fun j hj => by
            by_cases e : j = k
            · subst e; omega
            · exact hq.out j (by omega)
          go_wp2
          go_round
          case rel => exact ⟨k + 1, by omega, by go_num, R⟩
          case measure => simp [intOf]; omega
    · obtain rfl : k = n := by omega
      obtain ⟨v, hv⟩ : ∃ v : Nat → Nat, v = fun j => (z j).toNat := ⟨_, rfl⟩
      have HV : Hid (∀ j, j < k → z j = (v j : Int) ∧ v j < size) := fun j hj => by have := hq.out j hj; rw [hv]; simp only; omega
      clear hv hq
      have R1 : Hid ((w1.alloc (.cells (madeCells #[.bool false] size) 4)).rowIs w1.heap.size 4 size (fun i => .bool (inF v 0 i))) := (World.rowIs_made w1 _ _ _).congr (fun i _ => by simp [inF, firsts])
      go_wp2
      go_loopw [7, 8] (fun d i wr => ∃ k2 : Nat, k2 ≤ k ∧ i = .int .i64 k2 ∧ d = .int .i64 (dist v size k2) ∧ Hid (wr.rowIs w1.heap.size 4 size (fun i => .bool (inF v k2 i))) ∧ Hid (Below w1.heap.size w1 wr) ∧ wr.heap.size = w1.heap.size + 1) (fun _ i _ => k - (intOf i).toNat)
      case atStart => exact ⟨0, Nat.zero_le _, rfl, by rw [dist_zero]; rfl, R1, (Below.refl _ _).alloc (Nat.le_refl _) _, by simp⟩
      case round =>
        obtain ⟨k2, hk2, rfl, rfl, hr, hb, hsz⟩ := hrel
        have hdl := dist_le v size k2
        by_cases hlt2 : k2 < k
        · obtain ⟨b, off, rfl, hbo, c0⟩ := HN.out.cell hlt2
          obtain ⟨hz1, hz2⟩ := HV.out k2 hlt2
          have c1 := (hb.out.cell (p := ⟨b, off + k2, none⟩) hbo).trans c0
          rw [hz1] at c1
          have HD : Hid _ := dist_succ (k := k2) hz2
          have a1 := hr.out.cell hz2
          have af := hr.out.frozen (v k2)
          clear c0 hz1
          cases hv : inF v k2 (v k2) with
          | true =>
            have HR : Hid (wr.rowIs w1.heap.size 4 size (fun i => .bool (inF v (k2 + 1) i))) := added_yes hr.out hv
            have HD2 : Hid (dist v size (k2 + 1) = dist v size k2) := by rw [HD.out, hv]; rfl
            rw [hv] at a1
            clear hv hr HD
            go_wp2
            go_roundw
            case rel => exact ⟨k2 + 1, by omega, by go_num, by rw [HD2.out], HR, hb, hsz⟩
            case measure => simp [intOf]; omega
          | false =>
            have HR : Hid ((wr.setCell ⟨w1.heap.size, v k2, none⟩ (.bool true)).rowIs w1.heap.size 4 size (fun i => .bool (inF v (k2 + 1) i))) := added_no hr.out
            have HD2 : Hid (dist v size (k2 + 1) = dist v size k2 + 1) := by rw [HD.out, hv]; rfl
            have HSZ : Hid (wr.heap.size = w1.heap.size + 1) := hsz
            rw [hv] at a1
            clear hv hr HD hsz
            go_wp2
            go_roundw
            case rel => exact ⟨k2 + 1, by omega, by go_num, by rw [HD2.out]; go_num, HR, hb.out.setCell (Nat.le_refl _) _, by have := HSZ.out; simpa [World.setCell] using this⟩
            case measure => simp [intOf]; omega
        · obtain rfl : k2 = k := by omega
          have HSZ : Hid (wr.heap.size = w1.heap.size + 1) := hsz
          go_wp2_with fail
          refine (newbit_any size wr hs).mono ?_
          rintro e w3 ⟨rfl, rfl⟩
          have R2 : Hid ((wr.alloc (.cells (madeCells #[.int .u64 0] ((size + 63) / 64)) 36)).rowIs wr.heap.size 36 ((size + 63) / 64) (fun q => .int .u64 (word (firsts v 0) q))) := (World.rowIs_made wr _ _ _).congr (fun i _ => by simp [word, firsts])
          have R3 : Hid ((wr.alloc (.cells (madeCells #[.int .u64 0] ((size + 63) / 64)) 36)).rowIs w1.heap.size 4 size (fun i => .bool (inF v k2 i))) := hr.out.alloc _
          have R4 : Hid (Below w1.heap.size w1 (wr.alloc (.cells (madeCells #[.int .u64 0] ((size + 63) / 64)) 36))) := hb.out.alloc (by omega) _
          clear hr hb
          rw [hsz] at R2
          go_wp2
          go_loopw [10] (fun i w4 => ∃ k3 : Nat, k3 ≤ k2 ∧ i = .int .i64 k3 ∧ Hid (w4.rowIs (w1.heap.size + 1) 36 ((size + 63) / 64) (fun q => .int .u64 (word (firsts v k3) q))) ∧ Hid (w4.rowIs w1.heap.size 4 size (fun i => .bool (inF v k2 i))) ∧ Hid (Below w1.heap.size w1 w4) ∧ Hid (w4.heap.size = w1.heap.size + 2)) (fun i _ => k2 - (intOf i).toNat)
          case atStart => exact ⟨0, Nat.zero_le _, rfl, R2, R3, R4, by show _ = _; have := HSZ.out; simp [this]⟩
          case round =>
            obtain ⟨k3, hk3, rfl, q2, q3, q4, q5⟩ := hrel
            by_cases hlt3 : k3 < k2
            · obtain ⟨b, off, rfl, hbo, c0⟩ := HN.out.cell hlt3
              obtain ⟨hz1, hz2⟩ := HV.out k3 hlt3
              have c1 := (q4.out.cell (p := ⟨b, off + k3, none⟩) hbo).trans c0
              rw [hz1] at c1
              have C : Hid _ := zset_any (w1.heap.size + 1) ((size + 63) / 64) (v k3) (firsts v k3) wr (by omega) (by omega) q2.out
              rw [← firsts_succ] at C
              clear c0 hz1 R2 R3 R4
              go_wp2_with fail
              refine Calls.mono C.out ?_
              rintro e w5 ⟨rfl, E1, E2, E3⟩
              have F1 : Hid _ := E1
              have F2 : Hid (w5.rowIs w1.heap.size 4 size (fun i => .bool (inF v k2 i))) := q3.out.of_block (E2.block _ (by omega))
              have F3 : Hid (Below w1.heap.size w1 w5) := q4.out.trans (E2.mono (by omega))
              have F4 : Hid (w5.heap.size = w1.heap.size + 2) := E3.trans q5.out
              clear E1 E2 E3 C
              go_wp2
              go_roundw
              case rel => exact ⟨k3 + 1, by omega, by go_num, F1, F2, F3, F4⟩
              case measure => simp [intOf]; omega
            · obtain rfl : k3 = k2 := by omega
              have hq5 := q5.out
              have C : Hid _ := zeach_any (w1.heap.size + 1) ((size + 63) / 64) ((size + 63) / 64) (word (firsts v k3)) wr (word_lt _) (fun q hq => q2.out.cell hq) (by omega) (by omega) (HT.out.below q4.out hw0)
              rw [each_is (fun j hj => (HV.out j hj).2)] at C
              clear hq5 R2 R3 R4
              go_wp2_with fail
              refine Calls.mono C.out ?_
              rintro e w5 ⟨ao, cc, rfl, hown, hb5⟩
              have G1 : Hid (w5.rowIs w1.heap.size 4 size (fun i => .bool (inF v k3 i))) := q3.out.of_block (hb5.block _ q3.out.lt)
              have G2 : Hid (Below w1.heap.size w1 w5) := q4.out.trans (hb5.mono q4.out.size)
              have G3 : Hid (∀ j, j < (upTo (inF v k3) size).length → ∃ g, ao = some ⟨g, 0, none⟩ ∧ w5.cell? ⟨g, j, none⟩ = some (.int .i64 (((upTo (inF v k3) size).getD j 0 : Nat) : Int))) := own_cells hown
              have hlen : Hid (dist v size k3 = (upTo (inF v k3) size).length) := rfl
              obtain ⟨D, hD⟩ : ∃ D, D = upTo (inF v k3) size := ⟨_, rfl⟩
              rw [← hD] at G3 hlen
              have HD : Hid (D = upTo (inF v k3) size) := hD
              have hDl : D.length ≤ size := by rw [hD]; exact upTo_len _ _
              have hne : ((D.length : Int) != (dist v size k3 : Int)) = false := by rw [hlen.out]; simp
              rw [← hD]
              clear hown hb5 C hD q2 q3 q4
              have P1 : Hid (∀ j, j < D.length → D.getD j 0 < size ∧ inF v k3 (D.getD j 0) = true) := by rw [HD.out]; exact upTo_at
              have P2 : Hid (∀ j, j + 1 < D.length → D.getD j 0 < D.getD (j + 1) 0) := by rw [HD.out]; exact upTo_asc
              go_wp2
              go_loopw [12] (fun i w6 => ∃ k4 : Nat, k4 ≤ D.length ∧ i = .int .i64 k4 ∧ ∃ m, w6 = w5.drewN m) (fun i _ => D.length - (intOf i).toNat)
              case atStart => exact ⟨0, Nat.zero_le _, rfl, 0, rfl⟩
              case round =>
                obtain ⟨k4, hk4, rfl, m, rfl⟩ := hrel
                by_cases hlt4 : k4 < D.length
                · obtain ⟨g, rfl, c0⟩ := G3.out k4 hlt4
                  obtain ⟨hx1, hx2⟩ := P1.out k4 hlt4
                  obtain ⟨x, hx⟩ : ∃ x, x = D.getD k4 0 := ⟨_, rfl⟩
                  rw [← hx] at c0 hx1 hx2
                  have a1 : w5.cell? ⟨w1.heap.size, x, none⟩ = some (.bool true) := by rw [G1.out.cell hx1, hx2]
                  have b1 : ¬ (x : Int) < 0 := by omega
                  have b2 : ¬ (size : Int) ≤ (x : Int) := by omega
                  by_cases h0 : 0 < k4
                  · obtain ⟨g', hg', c1⟩ := G3.out (k4 - 1) (by omega)
                    obtain rfl : g = g' := by simpa using hg'
                    have hlt5 := P2.out (k4 - 1) (by omega)
                    rw [show k4 - 1 + 1 = k4 from by omega, ← hx] at hlt5
                    obtain ⟨y, hy⟩ : ∃ y, y = D.getD (k4 - 1) 0 := ⟨_, rfl⟩
                    rw [← hy] at c1 hlt5
                    clear hg' hx hy hx2
                    have t1 : (0 : Int) ≤ (k4 : Int) - 1 := by omega
                    have t2 : (k4 : Int) - 1 < (D.length : Int) := by omega
                    have t3 : ((k4 : Int) - 1).toNat = k4 - 1 := by omega
                    have t5 : IntKind.i64.wrap ((k4 : Int) - 1) = (k4 : Int) - 1 := by rw [IntKind.wrap_i64]; omega
                    have t6 : ¬ (x : Int) ≤ (y : Int) := by omega
                    go_wp2
                    go_quiet (fail)
                    go_wp2
                    go_roundw
                    case rel => exact ⟨k4 + 1, by omega, by go_num, _, rfl⟩
                    case measure => simp [intOf]; omega
                  · obtain rfl : k4 = 0 := by omega
                    have td : decide ((0 : Int) < ((0 : Nat) : Int)) = false := by simp
                    clear hx hx2 h0
                    go_wp2
                    go_quiet (fail)
                    go_wp2
                    go_roundw
                    case rel => exact ⟨1, by omega, by go_num, _, rfl⟩
                    case measure => simp [intOf]; omega
                · go_wp2
                  go_ret
                  exact ⟨rfl, belowDrewN' G2.out m⟩
end Go.Proofs.Qxb6612720aDoor
