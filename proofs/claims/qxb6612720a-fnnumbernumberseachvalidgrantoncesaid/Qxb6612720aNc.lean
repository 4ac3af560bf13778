import Derived.Test.Qxb6612720aNb
import Derived.Laws.Bits64b
import Derived.Laws.BitsLemmas
namespace Go.Proofs.Qxb6612720a
open Go.RowKit
set_option linter.unusedVariables false

/-! ### The words of a bitset that was given the numbers of l -/
def orIn (q : Nat) (x v : Nat) : Nat := if v / 64 = q then x ||| 2 ^ (v % 64) else x
def word (l : List Nat) (q : Nat) : Nat := l.foldl (orIn q) 0
theorem orIn_lt {q x v : Nat} (h : x < 2 ^ 64) : orIn q x v < 2 ^ 64 := by
  unfold orIn
  split
  · exact Nat.or_lt_two_pow h (Nat.pow_lt_pow_right (by omega) (Nat.mod_lt _ (by omega)))
  · exact h
theorem word_lt (l : List Nat) (q : Nat) : word l q < 2 ^ 64 := by
  have : ∀ (l : List Nat) (x : Nat), x < 2 ^ 64 → l.foldl (orIn q) x < 2 ^ 64 := by
    intro l
    induction l with
    | nil => intro x h; exact h
    | cons v l ih => intro x h; exact ih _ (orIn_lt h)
  exact this l 0 (Nat.two_pow_pos 64)
theorem word_bit (l : List Nat) (q j : Nat) (hj : j < 64) : (word l q).testBit j = decide (64 * q + j ∈ l) := by
  have : ∀ (l : List Nat) (x : Nat), (l.foldl (orIn q) x).testBit j = (x.testBit j || decide (64 * q + j ∈ l)) := by
    intro l
    induction l with
    | nil => intro x; simp
    | cons v l ih =>
      intro x
      rw [List.foldl_cons, ih]
      unfold orIn
      by_cases hv : v / 64 = q
      · rw [if_pos hv, Nat.testBit_or, Nat.testBit_two_pow]
        have : (v % 64 = j) = (64 * q + j = v) := by rw [eq_iff_iff]; omega
        simp only [this, List.mem_cons, Bool.decide_or, Bool.or_assoc]
      · rw [if_neg hv]
        have : ¬ 64 * q + j = v := by omega
        simp [this]
  have h := this l 0
  simpa [word] using h
theorem word_snoc (l : List Nat) (v q : Nat) : word (l ++ [v]) q = orIn q (word l q) v := by
  unfold word; rw [List.foldl_append]; rfl
/-- Bit i of the words X. -/
def bitOf (X : Nat → Nat) (i : Nat) : Bool := (X (i / 64)).testBit (i % 64)
theorem bitOf_word (l : List Nat) (i : Nat) : bitOf (word l) i = decide (i ∈ l) := by
  unfold bitOf
  rw [word_bit l _ _ (Nat.mod_lt _ (by omega)), show 64 * (i / 64) + i % 64 = i from Nat.div_add_mod i 64]
theorem wraps_i64 (n : Int) (h₀ : 0 ≤ n) (h₁ : n < 2 ^ 63) : IntKind.i64.wrap n = n := by rw [IntKind.wrap_i64]; omega
theorem and63 (n : Nat) (h : n < 2 ^ 63) : bits .and .i64 (n : Int) 63 = ((n % 64 : Nat) : Int) := by
  have := bits_mask .i64 63 (by decide) wraps_i64 6 (by omega) n (by omega) (by omega)
  rw [show ((2 : Int) ^ 6 - 1) = 63 from rfl] at this
  rw [this]; omega
theorem orBit (x k : Nat) (hx : x < 2 ^ 64) (hk : k < 64) : bits .or .u64 (x : Int) (IntKind.u64.wrap (2 ^ k)) = ((x ||| 2 ^ k : Nat) : Int) := by
  have h2 : 2 ^ k < 2 ^ 64 := Nat.pow_lt_pow_right (by omega) hk
  obtain ⟨y, hy⟩ : ∃ y : Nat, y = 2 ^ k := ⟨_, rfl⟩
  have e : IntKind.u64.wrap (2 ^ k) = (y : Int) := by
    rw [IntKind.wrap_u64, show ((2 : Int) ^ k) = ((2 ^ k : Nat) : Int) from by simp, ← hy]
    omega
  rw [e, ← hy]
  exact bits_or_u64_nat x y (by omega) (by omega)
theorem set_any (Bb W n : Nat) (X : Nat → Nat) (w : World) (hn : n < 64 * W) (hW : W ≤ 536870912) (hX : ∀ q, X q < 2 ^ 64) (hr : w.rowIs Bb 91 W (fun q => .int .u64 (X q))) :
    Calls Try.prog 37 #[.slice (some ⟨Bb, 0, none⟩) W W, .int .i64 n] w fun e w' => e = .returned (.tuple #[]) ∧ w' = (w.setCell ⟨Bb, n / 64, none⟩ (.int .u64 (X (n / 64) ||| 2 ^ (n % 64) : Nat))).drew := by
  have hc := hr.cell (i := n / 64) (by omega)
  have hf := hr.frozen (n / 64)
  have hx := hX (n / 64)
  clear hr
  have t1 : (0 : Int) ≤ (n : Int) / 64 := by omega
  have t2 : (n : Int) / 64 < (W : Int) := by omega
  have t3 : ((n : Int) / 64).toNat = n / 64 := by omega
  have t4 : bits .and .i64 (n : Int) 63 = ((n % 64 : Nat) : Int) := and63 n (by omega)
  have t5 : (0 : Int) ≤ ((n % 64 : Nat) : Int) := by omega
  have t6 : n % 64 < 64 := by omega
  go_enter Try.func37, Try.ntmps37
  go_region
  go_end0
  exact ⟨rfl, by rw [orBit _ _ hx t6]⟩

theorem info91 : (Try.prog.info? 91).map (fun i => (i.zero, i.size, i.bytes)) = some (some (.int .u64 0), 1, 8) := by kernel_rfl
theorem newbit_any (size : Nat) (w : World) (h : size ≤ 17179869184) :
    Calls Try.prog 36 #[.int .i64 size] w fun e w' => e = .returned (.slice (some ⟨w.heap.size, 0, none⟩) ((size + 63) / 64) ((size + 63) / 64)) ∧ w' = w.alloc (.cells (madeCells #[.int .u64 0] ((size + 63) / 64)) 91) := by
  have hmk := run_make_row' (P := Try.prog) 119 91 (.int .u64 0) 8 Try.underlying119 info91 rfl .i64 .i64 ((size + 63) / 64) (by omega) (by omega)
  have e : (((size + 63) / 64 : Nat) : Int) = ((size : Int) + 63) / 64 := by omega
  rw [e] at hmk
  go_enter Try.func36, Try.ntmps36
  go_wp2
  go_ret
  exact ⟨rfl, rfl⟩
end Go.Proofs.Qxb6612720a
