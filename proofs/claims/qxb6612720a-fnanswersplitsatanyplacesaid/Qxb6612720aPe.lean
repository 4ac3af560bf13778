import Derived.Test.Qxb6612720aPd
import Derived.Deep.QuietTactic
import Derived.BigQuiet
namespace Go.Proofs.Qxb6612720a
open Go.RowKit
set_option linter.unusedVariables false

set_option maxHeartbeats 1000000 in
set_option maxRecDepth 100000 in
/-- sameStrings of a list and itself. -/
theorem same_any (a : Option Addr) (n c : Nat) (Ru : Nat → ByteArray) (w : World) (hn : n ≤ maxLen) (hS : Strs w a n Ru) :
    Calls Try.prog 30 #[.slice a n c, .slice a n c] w fun e w' => e = .returned (.bool true) ∧ ∃ m, w' = w.drewN m := by
  unfold maxLen at hn
  have HS : Hid (Strs w a n Ru) := hS
  clear hS
  have q23 : ∀ w : World, (binOp .eql 23 (.slice a n c) (.slice none 0 0)).run Try.prog w = .ok (.bool a.isNone) w := fun w => Lib.run_eql_slice_nil w _ _ _ _ _ _ _ Try.underlying23
  go_enter Try.func30, Try.ntmps30
  go_wp2
  go_loopw [5] (fun i wr => ∃ (k m : Nat), k ≤ n ∧ i = .int .i64 k ∧ wr = w.drewN m) (fun i _ => n - (intOf i).toNat)
  case atStart => exact ⟨0, 0, Nat.zero_le _, rfl, rfl⟩
  case round =>
    obtain ⟨k, m, hk, rfl, rfl⟩ := hrel
    by_cases hlt : k < n
    · obtain ⟨b, off, rfl, c0⟩ := HS.out.cell hlt
      go_wp2
      go_quiet (fail)
      go_wp2
      go_roundw
      case rel => exact ⟨k + 1, _, by omega, by go_num, rfl⟩
      case measure => simp [intOf]; omega
    · go_wp2
      go_ret
      exact ⟨rfl, _, rfl⟩
/-- A callee that only reads, where the region itself stands behind draws. -/
theorem quiet_behind {P : Program} {f : FuncId} {args : Array Value} {w : World} {a x : Nat} {v : Value}
    (h : Calls P f args (w.drewN (a + x)) fun e w' => e = .returned v ∧ ∃ m, w' = (w.drewN (a + x)).drewN m) : Calls P f args (w.drewN (a + x)) fun e w'' => e = .returned v ∧ ∃ n, w'' = w.drewN (a + n) :=
  h.mono fun _ _ ⟨he, m, hm⟩ => ⟨he, x + m, by rw [hm, World.drewN_drewN, Nat.add_assoc]⟩

theorem belowDrewN' {B : Nat} {a w : World} (h : Below B a w) (m : Nat) : Below B a (w.drewN m) := ⟨h.os, h.tape, h.output, h.size, h.block⟩

set_option maxHeartbeats 2000000 in
set_option maxRecDepth 100000 in
theorem target_same (t : Tg) (B : Nat) (w : World) (hl : TgL w t) (he : EnvAt w B t) :
    Calls Try.prog 25 #[.agg #[.string t.T, .slice t.i.a t.i.n t.i.c, .slice t.j.a t.j.n t.j.c, .slice t.k.a t.k.n t.k.c, .pointer t.E], .agg #[.string t.T, .slice t.i.a t.i.n t.i.c, .slice t.j.a t.j.n t.j.c, .slice t.k.a t.k.n t.k.c, .pointer t.E]] w fun e w' => e = .returned (.bool true) ∧ Below w.heap.size w w' := by
  obtain ⟨A, hA⟩ : ∃ A : Obj, A = .cells #[.string t.T, .slice t.i.a t.i.n t.i.c, .slice t.j.a t.j.n t.j.c, .slice t.k.a t.k.n t.k.c, .pointer t.E] 42 := ⟨_, rfl⟩
  have hb0 : Below w.heap.size w ((w.alloc A).alloc A) := ((Below.refl _ _).alloc (Nat.le_refl _) _).alloc (by simp) _
  have HL : Hid (TgL ((w.alloc A).alloc A) t) := hl.below hb0
  have HB : Hid (Below w.heap.size w ((w.alloc A).alloc A)) := hb0
  have HE : Hid (EnvAt w B t) := he
  clear hl he hb0
  subst hA
  rcases HE.out with hE | ⟨b, h1, h2, hE, h4, h5⟩
  · rw [hE]
    rw [hE] at HL HB
    go_enter Try.func25, Try.ntmps25
    go_wp2_with fail
    refine (same_any _ _ _ t.i.s _ HL.out.l1.le (by exact HL.out.l1.st)).mono ?_
    rintro e w1 ⟨rfl, m1, rfl⟩
    go_wp2_with fail
    refine (same_any _ _ _ t.j.s _ HL.out.l2.le (by exact HL.out.l2.st)).mono ?_
    rintro e w1 ⟨rfl, m2, rfl⟩
    go_wp2_with fail
    refine (same_any _ _ _ t.k.s _ HL.out.l3.le (by exact HL.out.l3.st)).mono ?_
    rintro e w1 ⟨rfl, m3, rfl⟩
    go_wp2
    go_ret
    exact ⟨rfl, belowDrewN' HB.out _⟩
  · rw [hE]
    rw [hE] at HL HB
    go_enter Try.func25, Try.ntmps25
    go_wp2_with fail
    refine (same_any _ _ _ t.i.s _ HL.out.l1.le (by exact HL.out.l1.st)).mono ?_
    rintro e w1 ⟨rfl, m1, rfl⟩
    go_wp2_with fail
    refine (same_any _ _ _ t.j.s _ HL.out.l2.le (by exact HL.out.l2.st)).mono ?_
    rintro e w1 ⟨rfl, m2, rfl⟩
    go_wp2_with fail
    refine (same_any _ _ _ t.k.s _ HL.out.l3.le (by exact HL.out.l3.st)).mono ?_
    rintro e w1 ⟨rfl, m3, rfl⟩
    go_wp2
    go_quiet ((go_at_call 30; first | exact quiet_behind (same_any _ _ _ t.s.s _ HL.out.l5.le (by exact HL.out.l5.st)) | exact quiet_behind (same_any _ _ _ t.d.s _ HL.out.l6.le (by exact HL.out.l6.st))))
    go_wp2
    go_ret
    exact ⟨rfl, belowDrewN' (belowDrewN' HB.out _) _⟩

set_option maxHeartbeats 2000000 in
set_option maxRecDepth 100000 in
theorem policy_same (t : Tg) (B r1 r2 : Nat) (ef : ByteArray) (w : World) (hl : TgL w t) (he : EnvAt w B t) (h10 : w.cell? ⟨r1, 0, none⟩ = some (.string ef)) (h11 : w.cell? ⟨r1, 1, none⟩ = some (.pointer none)) (h20 : w.cell? ⟨r2, 0, none⟩ = some (.string ef)) (h21 : w.cell? ⟨r2, 1, none⟩ = some (.pointer none)) :
    Calls Try.prog 10 #[.agg #[.string t.T, .slice t.i.a t.i.n t.i.c, .slice t.j.a t.j.n t.j.c, .slice t.k.a t.k.n t.k.c, .pointer t.E, .slice (some ⟨r1, 0, none⟩) 1 1], .agg #[.string t.T, .slice t.i.a t.i.n t.i.c, .slice t.j.a t.j.n t.j.c, .slice t.k.a t.k.n t.k.c, .pointer t.E, .slice (some ⟨r2, 0, none⟩) 1 1]] w fun e w' => e = .returned (.bool true) ∧ Below w.heap.size w w' := by
  have hb0 : Below w.heap.size w ((w.alloc (.cells #[.string t.T, .slice t.i.a t.i.n t.i.c, .slice t.j.a t.j.n t.j.c, .slice t.k.a t.k.n t.k.c, .pointer t.E, .slice (some ⟨r1, 0, none⟩) 1 1] 45)).alloc (.cells #[.string t.T, .slice t.i.a t.i.n t.i.c, .slice t.j.a t.j.n t.j.c, .slice t.k.a t.k.n t.k.c, .pointer t.E, .slice (some ⟨r2, 0, none⟩) 1 1] 45)) := ((Below.refl _ _).alloc (Nat.le_refl _) _).alloc (by simp) _
  have C : Hid _ := target_same t B _ (hl.below hb0) (he.below hb0)
  have b1 := World.block_lt_of_cell? w _ h10
  have b2 := World.block_lt_of_cell? w _ h20
  clear hl he
  go_enter Try.func10, Try.ntmps10
  go_wp2_with fail
  refine Calls.mono C.out ?_
  rintro e w1 ⟨rfl, hb1⟩
  have g1 : w1.cell? ⟨w.heap.size, 5, none⟩ = some (.slice (some ⟨r1, 0, none⟩) 1 1) := (hb1.cell (p := ⟨w.heap.size, 5, none⟩) (by simp; omega)).trans (by simp [go_sem])
  have g2 : w1.cell? ⟨w.heap.size + 1, 5, none⟩ = some (.slice (some ⟨r2, 0, none⟩) 1 1) := (hb1.cell (p := ⟨w.heap.size + 1, 5, none⟩) (by simp)).trans (by simp [go_sem])
  have BH : Below w.heap.size w w1 := hb0.trans (hb1.mono (by simp; omega))
  have k10 := (BH.cell (p := ⟨r1, 0, none⟩) b1).trans h10
  have k11 := (BH.cell (p := ⟨r1, 1, none⟩) b1).trans h11
  have k20 := (BH.cell (p := ⟨r2, 0, none⟩) b2).trans h20
  have k21 := (BH.cell (p := ⟨r2, 1, none⟩) b2).trans h21
  have HB : Hid (Below w.heap.size w w1) := BH
  clear hb0 hb1 BH C h10 h11 h20 h21
  go_wp2
  go_loopw [5] (fun i wr => ∃ (k m : Nat), k ≤ 1 ∧ i = .int .i64 k ∧ wr = w1.drewN m) (fun i _ => 1 - (intOf i).toNat)
  case atStart => exact ⟨0, 0, Nat.zero_le _, rfl, rfl⟩
  case round =>
    obtain ⟨k, m, hk, rfl, rfl⟩ := hrel
    by_cases hlt : k < 1
    · obtain rfl : k = 0 := by omega
      go_wp2
      go_quiet (fail)
      go_wp2
      go_roundw
      case rel => exact ⟨1, _, by omega, by go_num, rfl⟩
      case measure => simp [intOf]
    · obtain rfl : k = 1 := by omega
      go_wp2
      go_ret
      exact ⟨rfl, belowDrewN' HB.out _⟩
end Go.Proofs.Qxb6612720a
