import Derived.Test.Qxb6612427aDoorRd
namespace Go.Proofs.Qxb6612427aDoor
open Go.RowKit
set_option linter.unusedVariables false

set_option maxHeartbeats 400000 in
theorem frame_true (D B n size : Nat) (pa : Addr) (z : Nat → Int) (w : World) (hn : n ≤ 1048576) (h1 : 1 ≤ size) (hs : size ≤ n) (hpa : 2 ≤ size → pa = ⟨B, 1, none⟩)
    (hD : ∀ j, j < n → w.cell? ⟨D, j, none⟩ = some (.int .u8 (z j))) (hB : ∀ j, j < size → w.cell? ⟨B, j, none⟩ = some (.int .u8 (z j))) :
    Calls Tryd.prog 15 #[.slice (some ⟨D, 0, none⟩) n n, .int .i64 size, .int .u8 (z 0), .slice (some pa) (size - 1) (size - 1)] w fun e w' => e = .returned (.bool true) ∧ ∃ m, w' = w.drewN m := by
  have hc0 := hD 0 (by omega)
  have HD : Hid (∀ j, j < n → w.cell? ⟨D, j, none⟩ = some (.int .u8 (z j))) := hD
  have HB : Hid (∀ j, j < size → w.cell? ⟨B, j, none⟩ = some (.int .u8 (z j))) := hB
  have HP : Hid (2 ≤ size → pa = ⟨B, 1, none⟩) := hpa
  clear hD hB hpa
  have e1 : ((size - 1 : Nat) : Int) = (size : Int) - 1 := by omega
  have e0 : (z 0 != z 0) = false := by simp
  have hn0 : 0 < n := by omega
  go_enter Tryd.func15, Tryd.ntmps15
  go_wp2
  go_loopw [9] (fun i wr => ∃ k : Nat, 1 ≤ k ∧ k ≤ size ∧ i = .int .i64 k ∧ ∃ m, wr = w.drewN m) (fun i _ => size - (intOf i).toNat)
  case atStart => exact ⟨1, by omega, by omega, rfl, 0, rfl⟩
  case round =>
    obtain ⟨k, hk1, hk, rfl, m, rfl⟩ := hrel
    by_cases hlt : k < size
    · have d1 := HD.out k (by omega)
      have b1 := HB.out k hlt
      have b2 : w.cell? ⟨B, 1 + (k - 1), none⟩ = some (.int .u8 (z k)) := by rw [show 1 + (k - 1) = k from by omega]; exact b1
      obtain rfl := HP.out (by omega)
      have t1 : (0 : Int) ≤ (k : Int) - 1 := by omega
      have t2 : (k : Int) - 1 < (size : Int) - 1 := by omega
      have t3 : ((k : Int) - 1).toNat = k - 1 := by omega
      have t4 : k < n := by omega
      have t5 : IntKind.i64.wrap ((k : Int) - 1) = (k : Int) - 1 := by rw [IntKind.wrap_i64]; omega
      have t6 : (z k != z k) = false := by simp
      go_wp2
      go_quiet (fail)
      go_wp2
      go_roundw
      case rel => exact ⟨k + 1, by omega, by omega, by go_num, _, rfl⟩
      case measure => simp [intOf]; omega
    · go_wp2
      go_ret
      exact ⟨rfl, _, rfl⟩
end Go.Proofs.Qxb6612427aDoor
