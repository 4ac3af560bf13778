import Derived.Test.Qxb6612427aDoorRows
import Derived.WalkKit
import Derived.WalkSpells
import Derived.WalkLawsBesides
import Derived.Deep.QuietTactic
import Derived.BigQuiet
import Derived.Deep.RegionLaw
import Derived.Deep.RegionWith
import Derived.Laws.CopyOwn
namespace Go.Proofs.Qxb6612427aDoor
open Go.RowKit
set_option linter.unusedVariables false

theorem size5 : (Tryd.prog.info? 5).map (·.size) = some 1 := by kernel_rfl

/-- (*bytes.Reader).Read at the end of the data: (0, io.EOF). -/
theorem read_eof (R : Nat) (sv : Option Addr) (n c : Nat) (i p : Int) (bv : Value) (ef : Value) (w : World)
    (hn : n ≤ 1048576) (hi : (n : Int) ≤ i)
    (h0 : w.cell? ⟨R, 0, none⟩ = some (.slice sv n c)) (h1 : w.cell? ⟨R, 1, none⟩ = some (.int .i64 i)) (h2 : w.cell? ⟨R, 2, none⟩ = some (.int .i64 p))
    (he : w.cell? ⟨5, 0, none⟩ = some ef) :
    Calls Tryd.prog 90 #[.pointer (some ⟨R, 0, none⟩), bv] w fun e w' => e = .returned (.tuple #[.int .i64 0, ef]) ∧ ∃ m, w' = w.drewN m := by
  go_enter Tryd.func90, Tryd.ntmps90
  go_wp2
  go_quiet (fail)
  go_wp2
  go_quiet (fail)
  go_wp2
  go_ret2
  exact ⟨rfl, _, World.drewN_drewN _ _ _⟩

theorem heap_at2 {w : World} {R B q : Nat} {u : Value} {o : Obj} (h : Hid (w.heap[B]? = some o)) (hne : B ≠ R) : (((w.drewN q).setCell ⟨R, 2, none⟩ u).drew).heap[B]? = some o := by
  show (w.setCell ⟨R, 2, none⟩ u).heap[B]? = _
  rw [Below.heap_setCell _ _ _ _ hne]
  exact h.out
theorem below_at2 (B : Nat) (w : World) (a : Addr) (q : Nat) {u : Value} : Below B (w.setCell a u) (((w.drewN q).setCell a u).drew) := ⟨rfl, rfl, rfl, Nat.le_refl _, fun _ _ => rfl⟩
theorem src_at2 {w : World} {R D B off i q : Nat} {u : Value} {cs : List Value} (h : Hid (∀ (m : Nat) (v : Value), cs[m]? = some v → w.cell? ⟨D, i + m, none⟩ = some v)) (hne : D ≠ R) :
    0 < cs.length → (some (⟨B, off, none⟩ : Addr)) = some ⟨B, off, none⟩ ∧ ∃ ad, some (⟨D, i, none⟩ : Addr) = some ad ∧ ∀ j v, cs[j]? = some v → (((w.drewN q).setCell ⟨R, 2, none⟩ u).drew).cell? (ad.add j) = some v := by
  intro _
  refine ⟨rfl, _, rfl, fun j v hv => ?_⟩
  rw [Addr.add_lit]
  show (w.setCell ⟨R, 2, none⟩ u).cell? _ = _
  rw [World.cell?_of_block (Below.heap_setCell _ _ _ _ hne)]
  exact h.out j v hv

set_option maxHeartbeats 400000 in
/-- (*bytes.Reader).Read with data left. -/
theorem read_some (R D n B off bl bc : Nat) (i : Nat) (p : Int) (cur cs : List Value) (w : World)
    (hn : n ≤ 1048576) (hi : i < n) (hRB : R < B) (hDR : D ≠ R)
    (h0 : w.cell? ⟨R, 0, none⟩ = some (.slice (some ⟨D, 0, none⟩) n n)) (h1 : w.cell? ⟨R, 1, none⟩ = some (.int .i64 i)) (h2 : w.cell? ⟨R, 2, none⟩ = some (.int .i64 p))
    (hf1 : w.frozen? ⟨R, 1, none⟩ = false) (hf2 : w.frozen? ⟨R, 2, none⟩ = false)
    (hB : w.heap[B]? = some (.cells cur.toArray 5 (0, 0))) (hcs : cs.length = Nat.min (n - i) bl) (hbl : off + bl ≤ cur.length) (hbm : bl ≤ 1048576)
    (hd : ∀ j v, cs[j]? = some v → w.cell? ⟨D, i + j, none⟩ = some v) (hone : ∀ v ∈ cs, v.oneCell' = true) :
    Calls Tryd.prog 90 #[.pointer (some ⟨R, 0, none⟩), .slice (some ⟨B, off, none⟩) bl bc] w fun e w' => e = .returned (.tuple #[.int .i64 cs.length, .nilIface]) ∧
      w'.heap[B]? = some (.cells (splice cur off cs).toArray 5 (0, 0)) ∧ ∃ w1, Below B (w.setCell ⟨R, 2, none⟩ (.int .i64 (-1))) w1 ∧ w' = w1.setCell ⟨R, 1, none⟩ (.int .i64 (i + cs.length : Nat)) := by
  have hle : i ≤ n := by omega
  have hne : ¬ n = i := by omega
  have hcb : cs.length ≤ bl := by rw [hcs]; exact Nat.min_le_right _ _
  have hcs' : cs.length ≤ 1048576 := by omega
  have A1 : Hid (cs.length = Nat.min (n - i) bl) := hcs
  have A2 : Hid (off + cs.length ≤ cur.length) := by show _ ≤ _; omega
  have A3 : Hid (∀ v ∈ cs, v.oneCell' = true) := hone
  have A4 : Hid (∀ m (v : Value), cs[m]? = some v → w.cell? ⟨D, i + m, none⟩ = some v) := hd
  have A5 : Hid (w.heap[B]? = some (.cells cur.toArray 5 (0, 0))) := hB
  clear hcs hone hd hB
  go_enter Tryd.func90, Tryd.ntmps90
  go_wp2
  go_quiet (fail)
  go_wp2
  go_region_law (refine step_copy_splice rfl (.tmp 20) (.tmp 29) 31 31 rfl 5 Tryd.underlying31 size5 (some ⟨B, off, none⟩) (some ⟨D, i, none⟩) bl bc (n - i) (n - i) (by simp [Act.eval, Act.put]) (by simp [Act.eval, Act.put]) B off cur 5 (heap_at2 A5 (by omega)) cs A1.out (src_at2 A4 hDR) A2.out A3.out B (w.setCell ⟨R, 2, none⟩ (.int .i64 (-1))) (below_at2 _ _ _ _) (Nat.le_refl _) ?_; intro w2 hg2 hb2)
  all_goals
    have hc1 : w2.cell? ⟨R, 1, none⟩ = some (.int .i64 i) := (hb2.cell (p := ⟨R, 1, none⟩) hRB).trans (by simp [go_sem, h1])
    have hc2 : w2.frozen? ⟨R, 1, none⟩ = false := (hb2.frozen (p := ⟨R, 1, none⟩) hRB).trans (by simp [go_sem, hf1])
    go_wp2
    go_ret2
    refine ⟨rfl, ?_, w2, hb2, by simp⟩
    rw [Below.heap_setCell _ _ _ _ (by show B ≠ R; omega)]
    exact hg2.out
end Go.Proofs.Qxb6612427aDoor
