import Derived.Test.Qxb6612720aNd
import Derived.Maps.RangeWalk
import Derived.Maps.OwnSet
import Derived.DeepKeys4
namespace Go.Proofs.Qxb6612720a
open Go.RowKit
open Go.Maps (Keyed)
set_option linter.unusedVariables false

theorem laidOutN : laidOutB Try.prog = true := by kernel_rfl
theorem law118 : Keyed Try.prog 118 := Keyed.of_law (deep_law_laid laidOutN (m := 2) (by omega) (of_decide_eq_true (by kernel_rfl)) (by kernel_rfl) (by rw [Try.underlying118]))
theorem law112 : Keyed Try.prog 112 := Keyed.of_law (deep_law_laid laidOutN (m := 2) (by omega) (of_decide_eq_true (by kernel_rfl)) (by kernel_rfl) (by rw [Try.underlying112]))
theorem law9 : Keyed Try.prog 9 := Go.Maps.string_keyed Try.underlying9

theorem cells118 : Try.prog.cellsOf 118 = 2 := by kernel_rfl
theorem cells112 : Try.prog.cellsOf 112 = 2 := by kernel_rfl
theorem cells3' : Try.prog.cellsOf 3 = 1 := by kernel_rfl
theorem cells9' : Try.prog.cellsOf 9 = 1 := by kernel_rfl
theorem kt118 : Try.prog.keyType 118 = true := by kernel_rfl
theorem kt112 : Try.prog.keyType 112 = true := by kernel_rfl
theorem size_pos : ∃ d, Try.prog.types.size + 1 = d + 2 := ⟨Try.prog.types.size - 1, by have : 0 < Try.prog.types.size := of_decide_eq_true (by kernel_rfl); omega⟩
/-- What a reference reads as, being a key. -/
def kR (r : Rf) : Lit := .string (keyBytes [.int .i64 r.1, .int .i64 r.2])
def kS (s t : ByteArray) : Lit := .string (keyBytes [.string s.data.toList, .string t.data.toList])
theorem key118 (r : Rf) (h1 : (Lit.int .i64 r.1).wf = true) (h2 : (Lit.int .i64 r.2).wf = true) : keyOf Try.prog 118 (.agg #[.int .i64 r.1, .int .i64 r.2]) = some (kR r) := by
  obtain ⟨d, hd⟩ := size_pos
  unfold keyOf
  rw [Try.underlying118, hd]
  simp [Try.underlying118, Try.underlying3, kt118, Value.formed, cells118, cells3', Program.keyLits, Value.cells, h1, h2, kR]
theorem key112 (s t : ByteArray) (h1 : s.size ≤ maxLen) (h2 : t.size ≤ maxLen) : keyOf Try.prog 112 (.agg #[.string s, .string t]) = some (kS s t) := by
  obtain ⟨d, hd⟩ := size_pos
  unfold keyOf
  rw [Try.underlying112, hd]
  simp [Try.underlying112, Try.underlying9, kt112, Value.formed, cells112, cells9', Program.keyLits, Value.cells, h1, h2, kS]
end Go.Proofs.Qxb6612720a
