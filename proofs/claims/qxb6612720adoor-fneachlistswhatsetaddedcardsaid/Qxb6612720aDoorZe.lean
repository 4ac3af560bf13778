import Derived.Test.Qxb6612720aDoorEa
namespace Go.Proofs.Qxb6612720aDoor
open Go.RowKit
set_option linter.unusedVariables false

theorem out_start (w : World) : OutIs ((w.alloc (.cells #[] 3)).alloc (.cells #[.slice (some ⟨w.heap.size, 0, none⟩) 0 0] 22)) (w.heap.size + 1) w.heap.size [] := by
  refine ⟨some ⟨w.heap.size, 0, none⟩, 0, ?_, ?_⟩
  · have := heap_alloc_new (w.alloc (.cells #[] 3)) (.cells #[.slice (some ⟨w.heap.size, 0, none⟩) 0 0] 22)
    simpa using this
  · refine ⟨by simp [ints], .inr ⟨w.heap.size, 0, #[], rfl, Nat.le_refl _, ?_, Nat.le_refl _, by simp [maxLen], by simp, by simp [ints]⟩⟩
    rw [Below.heap_alloc _ _ _ (by simp)]
    exact heap_alloc_new w _

set_option maxHeartbeats 400000 in
theorem zeach_any (bb W wc : Nat) (X : Nat → Nat) (w : World) (hX : ∀ q, X q < 2 ^ 64) (hc : ∀ q, q < W → w.cell? ⟨bb, q, none⟩ = some (.int .u64 (X q))) (hbb : bb < w.heap.size) (hW : W ≤ 1024) (hT : Tab w) :
    Calls Tryd.prog 8 #[.slice (some ⟨bb, 0, none⟩) W wc] w fun e w' => ∃ ao c, e = .returned (.slice ao (upTo (bitOf X) (64 * W)).length c) ∧ w'.ownsRow w.heap.size 3 1 (.slice ao (upTo (bitOf X) (64 * W)).length c) (upTo (bitOf X) (64 * W)).length (ints (upTo (bitOf X) (64 * W))) ∧ Below w.heap.size w w' := by
  have hb0 : Below w.heap.size w ((w.alloc (.cells #[] 3)).alloc (.cells #[.slice (some ⟨w.heap.size, 0, none⟩) 0 0] 22)) := ((Below.refl _ _).alloc (Nat.le_refl _) _).alloc (by simp) _
  have C : Hid _ := each_any bb W wc (w.heap.size + 1) w.heap.size X _ hX (fun q hq => (hb0.cell (p := ⟨bb, q, none⟩) hbb).trans (hc q hq)) hbb hW (hT.below hb0 (by omega)) (by omega) (out_start w) (by omega)
  clear hc hT hX
  go_enter Tryd.func8, Tryd.ntmps8
  go_wp2_with fail
  refine Calls.mono C.out ?_
  rintro e w1 ⟨rfl, ⟨ao, c, hV, hown⟩, hb⟩
  have c0 := cell_of_one hV
  have HO : Hid _ := hown
  have HB : Hid (Below w.heap.size w w1) := hb0.trans hb
  clear hV hown hb hb0 C
  go_wp2
  go_ret
  exact ⟨ao, c, rfl, HO.out, HB.out⟩

/-- A []int that came in. -/
def Nums (w : World) (a : Option Addr) (n : Nat) (z : Nat → Int) : Prop := n = 0 ∨ ∃ b off, a = some ⟨b, off, none⟩ ∧ ∀ j, j < n → w.cell? ⟨b, off + j, none⟩ = some (.int .i64 (z j))
theorem Nums.cell {w : World} {a : Option Addr} {n : Nat} {z : Nat → Int} (h : Nums w a n z) {j : Nat} (hj : j < n) : ∃ b off, a = some ⟨b, off, none⟩ ∧ b < w.heap.size ∧ w.cell? ⟨b, off + j, none⟩ = some (.int .i64 (z j)) := by
  rcases h with h | ⟨b, off, rfl, hc⟩
  · omega
  · exact ⟨b, off, rfl, World.block_lt_of_cell? w _ (hc j hj), hc j hj⟩

/-- The first k numbers. -/
def firsts (v : Nat → Nat) (k : Nat) : List Nat := (List.range k).map v
theorem firsts_succ (v : Nat → Nat) (k : Nat) : firsts v (k + 1) = firsts v k ++ [v k] := by
  simp [firsts, List.range_succ]
theorem firsts_mem {v : Nat → Nat} {k i : Nat} : i ∈ firsts v k ↔ ∃ j, j < k ∧ v j = i := by
  simp [firsts]
def inF (v : Nat → Nat) (k i : Nat) : Bool := decide (i ∈ firsts v k)
theorem inF_succ (v : Nat → Nat) (k i : Nat) : inF v (k + 1) i = (inF v k i || decide (i = v k)) := by
  simp [inF, firsts_succ]
/-- How many distinct numbers below size are among the first k. -/
def dist (v : Nat → Nat) (size k : Nat) : Nat := (upTo (inF v k) size).length
theorem dist_succ {v : Nat → Nat} {size k : Nat} (h : v k < size) : dist v size (k + 1) = dist v size k + if inF v k (v k) then 0 else 1 := by
  unfold dist
  have e : inF v (k + 1) = fun i => inF v k i || decide (i = v k) := funext fun i => inF_succ v k i
  rw [e, upTo_count]
  cases inF v k (v k) <;> simp [h]
theorem dist_le (v : Nat → Nat) (size k : Nat) : dist v size k ≤ size := upTo_len _ _
theorem each_is {v : Nat → Nat} {size n : Nat} (h : ∀ j, j < n → v j < size) : upTo (bitOf (word (firsts v n))) (64 * ((size + 63) / 64)) = upTo (inF v n) size := by
  have e : bitOf (word (firsts v n)) = inF v n := funext fun i => bitOf_word _ i
  rw [e]
  refine upTo_same (by omega) fun i a _ => ?_
  simp only [inF, decide_eq_false_iff_not]
  intro hm
  obtain ⟨j, hj, rfl⟩ := firsts_mem.1 hm
  have := h j hj
  omega

theorem info4 : (Tryd.prog.info? 4).map (fun i => (i.zero, i.size, i.bytes)) = some (some (.bool false), 1, 1) := by kernel_rfl
end Go.Proofs.Qxb6612720aDoor
