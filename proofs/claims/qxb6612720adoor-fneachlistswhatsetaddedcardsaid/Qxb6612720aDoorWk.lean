import Derived.Test.Qxb6612720aDoorRows
import Derived.Test.Qxb6612720aDoorBt
import Derived.WalkKit
import Derived.WalkSpells
import Derived.WalkLawsBesides
import Derived.Deep.OwnRows
import Derived.Deep.LoopGhost
import Derived.Laws.Bits64b
import Derived.Laws.BitsLemmas
namespace Go.Proofs.Qxb6612720aDoor
open Go.RowKit
set_option linter.unusedVariables false

theorem wraps_i64 (n : Int) (h₀ : 0 ≤ n) (h₁ : n < 2 ^ 63) : IntKind.i64.wrap n = n := by rw [IntKind.wrap_i64]; omega
theorem and63 (n : Nat) (h : n < 2 ^ 63) : bits .and .i64 (n : Int) 63 = ((n % 64 : Nat) : Int) := by
  have := bits_mask .i64 63 (by decide) wraps_i64 6 (by omega) n (by omega) (by omega)
  rw [show ((2 : Int) ^ 6 - 1) = 63 from rfl] at this
  rw [this]; omega
theorem orBit (x k : Nat) (hx : x < 2 ^ 64) (hk : k < 64) : bits .or .u64 (x : Int) (IntKind.u64.wrap (2 ^ k)) = ((x ||| 2 ^ k : Nat) : Int) := by
  have h2 : 2 ^ k < 2 ^ 64 := Nat.pow_lt_pow_right (by omega) hk
  obtain ⟨y, hy⟩ : ∃ y : Nat, y = 2 ^ k := ⟨_, rfl⟩
  have e : IntKind.u64.wrap (2 ^ k) = (y : Int) := by
    rw [IntKind.wrap_u64, show ((2 : Int) ^ k) = ((2 ^ k : Nat) : Int) from by simp, ← hy]
    omega
  rw [e, ← hy]
  exact bits_or_u64_nat x y (by omega) (by omega)
theorem set_any (Bb W n : Nat) (X : Nat → Nat) (w : World) (hn : n < 64 * W) (hW : W ≤ 1048576) (hX : ∀ q, X q < 2 ^ 64) (hr : w.rowIs Bb 36 W (fun q => .int .u64 (X q))) :
    Calls Tryd.prog 13 #[.slice (some ⟨Bb, 0, none⟩) W W, .int .i64 n] w fun e w' => e = .returned (.tuple #[]) ∧ w' = (w.setCell ⟨Bb, n / 64, none⟩ (.int .u64 (X (n / 64) ||| 2 ^ (n % 64) : Nat))).drew := by
  have hc := hr.cell (i := n / 64) (by omega)
  have hf := hr.frozen (n / 64)
  have hx := hX (n / 64)
  clear hr
  have t1 : (0 : Int) ≤ (n : Int) / 64 := by omega
  have t2 : (n : Int) / 64 < (W : Int) := by omega
  have t3 : ((n : Int) / 64).toNat = n / 64 := by omega
  have t4 : bits .and .i64 (n : Int) 63 = ((n % 64 : Nat) : Int) := and63 n (by omega)
  have t5 : (0 : Int) ≤ ((n % 64 : Nat) : Int) := by omega
  have t6 : n % 64 < 64 := by omega
  go_enter Tryd.func13, Tryd.ntmps13
  go_region
  go_end0
  exact ⟨rfl, by rw [orBit _ _ hx t6]⟩

/-- ZZSet, in terms of the numbers that were given so far. -/
theorem zset_any (Bb W n : Nat) (l : List Nat) (w : World) (hn : n < 64 * W) (hW : W ≤ 1048576) (hr : w.rowIs Bb 36 W (fun q => .int .u64 (word l q))) :
    Calls Tryd.prog 7 #[.slice (some ⟨Bb, 0, none⟩) W W, .int .i64 n] w fun e w' => e = .returned (.tuple #[]) ∧ w'.rowIs Bb 36 W (fun q => .int .u64 (word (l ++ [n]) q)) ∧ Below Bb w w' ∧ w'.heap.size = w.heap.size := by
  have C : Hid _ := set_any Bb W n (word l) w hn hW (word_lt l) hr
  have R : Hid ((w.setCell ⟨Bb, n / 64, none⟩ (.int .u64 (word l (n / 64) ||| 2 ^ (n % 64) : Nat))).rowIs Bb 36 W (fun q => .int .u64 (word (l ++ [n]) q))) := by
    refine (hr.set _ _).congr fun q _ => ?_
    rw [word_snoc]
    unfold orIn
    by_cases e : q = n / 64
    · subst e; simp
    · rw [if_neg e, if_neg (by omega)]
  clear hr
  go_enter Tryd.func7, Tryd.ntmps7
  go_wp2_with fail
  refine Calls.mono C.out ?_
  rintro e w1 ⟨rfl, rfl⟩
  go_wp2
  go_end0
  exact ⟨rfl, R.out, ((Below.refl Bb w).setCell (p := ⟨Bb, n / 64, none⟩) (Nat.le_refl _) _).drew, by simp [World.setCell]⟩

theorem info36 : (Tryd.prog.info? 36).map (fun i => (i.zero, i.size, i.bytes)) = some (some (.int .u64 0), 1, 8) := by kernel_rfl
theorem newbit_any (size : Nat) (w : World) (h : size ≤ 65536) :
    Calls Tryd.prog 6 #[.int .i64 size] w fun e w' => e = .returned (.slice (some ⟨w.heap.size, 0, none⟩) ((size + 63) / 64) ((size + 63) / 64)) ∧ w' = w.alloc (.cells (madeCells #[.int .u64 0] ((size + 63) / 64)) 36) := by
  have hmk := run_make_row' (P := Tryd.prog) 32 36 (.int .u64 0) 8 Tryd.underlying32 info36 rfl .i64 .i64 ((size + 63) / 64) (by omega) (by omega)
  have e : (((size + 63) / 64 : Nat) : Int) = ((size : Int) + 63) / 64 := by omega
  rw [e] at hmk
  go_enter Tryd.func6, Tryd.ntmps6
  go_wp2
  go_ret
  exact ⟨rfl, rfl⟩
end Go.Proofs.Qxb6612720aDoor
