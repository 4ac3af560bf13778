import Derived.Test.Qxb6612720aPa
import Derived.Deep.QuietTactic
import Derived.BigQuiet
namespace Go.Proofs.Qxb6612720a
open Go.RowKit
set_option linter.unusedVariables false

/-- A grant's reference: its set, its grant. -/
abbrev Rf := Int × Int
theorem drewBelow {B : Nat} {a w : World} (h : Below B a w) (m : Nat) : Below B a (w.drewN m) := ⟨h.os, h.tape, h.output, h.size, h.block⟩
theorem retB {a b : Bool} (h : a = b) : Ending.returned (.bool a) = .returned (.bool b) := by rw [h]

/-- A slice of references. -/
def Rfs (w : World) (a : Option Addr) (n : Nat) (R : Nat → Rf) : Prop := n = 0 ∨ ∃ b off, a = some ⟨b, off, none⟩ ∧ ∀ i, i < n → w.cell? ⟨b, off + i * 2, none⟩ = some (.int .i64 (R i).1) ∧ w.cell? ⟨b, off + i * 2 + 1, none⟩ = some (.int .i64 (R i).2)
theorem Rfs.at {w : World} {a : Option Addr} {n : Nat} {R : Nat → Rf} (h : Rfs w a n R) {i : Nat} (hi : i < n) : ∃ b off, a = some ⟨b, off, none⟩ ∧ b < w.heap.size ∧ w.cell? ⟨b, off + i * 2, none⟩ = some (.int .i64 (R i).1) ∧ w.cell? ⟨b, off + i * 2 + 1, none⟩ = some (.int .i64 (R i).2) := by
  rcases h with h | ⟨b, off, rfl, hc⟩
  · omega
  · exact ⟨b, off, rfl, World.block_lt_of_cell? w _ (hc i hi).1, hc i hi⟩
theorem Rfs.below {w w' : World} {a : Option Addr} {n : Nat} {R : Nat → Rf} (h : Rfs w a n R) (hb : Below w.heap.size w w') : Rfs w' a n R := by
  rcases h with h | ⟨b, off, rfl, hc⟩
  · exact Or.inl h
  · refine Or.inr ⟨b, off, rfl, fun i hi => ?_⟩
    obtain ⟨h1, h2⟩ := hc i hi
    have hlt := World.block_lt_of_cell? w _ h1
    exact ⟨(hb.cell (p := ⟨b, off + i * 2, none⟩) hlt).trans h1, (hb.cell (p := ⟨b, off + i * 2 + 1, none⟩) hlt).trans h2⟩

def validB (nb na now : Int) : Bool := decide (nb ≤ now) && decide (now < na)
theorem valid_any (nb na now : Int) (w : World) :
    Calls Try.prog 14 #[.agg #[.int .i64 nb, .int .i64 na], .int .i64 now] w fun e w' => e = .returned (.bool (validB nb na now)) ∧ Below w.heap.size w w' := by
  have hb : Hid (Below w.heap.size w (w.alloc (.cells #[.int .i64 nb, .int .i64 na] 63))) := (Below.refl _ _).alloc (Nat.le_refl _) _
  by_cases h1 : nb ≤ now
  · by_cases h2 : now < na
    · go_enter Try.func14, Try.ntmps14
      go_wp2
      go_ret
      exact ⟨retB (by simp [validB, h1, h2]), hb.out⟩
    · go_enter Try.func14, Try.ntmps14
      go_wp2
      go_ret
      exact ⟨retB (by simp [validB, h2]), hb.out⟩
  · go_enter Try.func14, Try.ntmps14
    go_wp2
    go_ret
    exact ⟨retB (by simp [validB]; omega), hb.out⟩

/-- Is r among the first n? -/
def inR (R : Nat → Rf) (n : Nat) (r : Rf) : Bool := (List.range n).any fun i => decide (R i = r)
theorem inR_iff {R : Nat → Rf} {n : Nat} {r : Rf} : inR R n r = true ↔ ∃ i, i < n ∧ R i = r := by
  simp [inR]
def FoundR (e : Ending) (b : Bool) : Prop := ∃ x : Int, e = .returned (.int .i64 x) ∧ b = decide (0 ≤ x)

set_option maxHeartbeats 1000000 in
set_option maxRecDepth 100000 in
theorem index_any (a : Option Addr) (n c : Nat) (R : Nat → Rf) (r : Rf) (w : World) (hn : n ≤ maxLen) (hR : Rfs w a n R) :
    Calls Try.prog 15 #[.slice a n c, .agg #[.int .i64 r.1, .int .i64 r.2]] w fun e w' => FoundR e (inR R n r) ∧ Below w.heap.size w w' := by
  unfold maxLen at hn
  have hb0 : Below w.heap.size w (w.alloc (.cells #[.int .i64 r.1, .int .i64 r.2] 60)) := (Below.refl _ _).alloc (Nat.le_refl _) _
  have HR : Hid (Rfs w a n R) := hR
  have HB : Hid (Below w.heap.size w (w.alloc (.cells #[.int .i64 r.1, .int .i64 r.2] 60))) := hb0
  clear hR hb0
  go_enter Try.func15, Try.ntmps15
  go_wp2
  go_loopw [5] (fun i wr => ∃ k m : Nat, k ≤ n ∧ i = .int .i64 k ∧ wr = (w.alloc (.cells #[.int .i64 r.1, .int .i64 r.2] 60)).drewN m ∧ Hid (∀ j, j < k → ¬ R j = r)) (fun i _ => n - (intOf i).toNat)
  case atStart => exact ⟨0, 0, Nat.zero_le _, rfl, rfl, fun j h => by omega⟩
  case round =>
    obtain ⟨k, m, hk, rfl, rfl, hq⟩ := hrel
    by_cases hlt : k < n
    · obtain ⟨b, off, rfl, hbo, c0, c1⟩ := HR.out.at hlt
      by_cases e : R k = r
      · have t1 : (R k).1 = r.1 := by rw [e]
        have t2 : (R k).2 = r.2 := by rw [e]
        have HF : Hid (inR R n r = true) := inR_iff.2 ⟨k, hlt, e⟩
        clear e
        go_wp2
        go_quiet (fail)
        go_wp2
        go_ret
        exact ⟨⟨_, rfl, by rw [HF.out]; simp⟩, drewBelow (drewBelow HB.out _) _⟩
      · have HE : Hid (¬ R k = r) := e
        by_cases t1 : (R k).1 = r.1
        · have t2 : ¬ (R k).2 = r.2 := fun h => e (Prod.ext t1 h)
          clear e
          have HQ : Hid (∀ j, j < k + 1 → ¬ R j = r) := fun j hj => by
            by_cases e' : j = k
            · subst e'; exact HE.out
            · exact hq.out j (by omega)
          go_wp2
          go_quiet (fail)
          go_wp2
          go_roundw
          case rel => exact ⟨k + 1, _, by omega, by go_num, rfl, HQ⟩
          case measure => simp [intOf]; omega
        · clear e
          have HQ : Hid (∀ j, j < k + 1 → ¬ R j = r) := fun j hj => by
            by_cases e' : j = k
            · subst e'; exact HE.out
            · exact hq.out j (by omega)
          go_wp2
          go_quiet (fail)
          go_wp2
          go_roundw
          case rel => exact ⟨k + 1, _, by omega, by go_num, rfl, HQ⟩
          case measure => simp [intOf]; omega
    · go_wp2
      go_ret
      have HF : inR R n r = false := by
        cases h : inR R n r with
        | false => rfl
        | true => obtain ⟨i, hi, he⟩ := inR_iff.1 h; exact absurd he (hq.out i (by omega))
      exact ⟨⟨_, rfl, by rw [HF]; simp⟩, drewBelow HB.out _⟩

def allIn (R : Nat → Rf) (n : Nat) (m : Int) : Prop := ∀ i, i < n → 0 ≤ (R i).1 ∧ (R i).1 < m
def RangeR (e : Ending) (R : Nat → Rf) (n : Nat) (m : Int) : Prop := ∃ b : Bool, e = .returned (.bool b) ∧ (b = true → allIn R n m)
set_option maxHeartbeats 1000000 in
set_option maxRecDepth 100000 in
theorem inrange_any (a : Option Addr) (n c : Nat) (R : Nat → Rf) (m : Int) (w : World) (hn : n ≤ maxLen) (hR : Rfs w a n R) :
    Calls Try.prog 26 #[.slice a n c, .int .i64 m] w fun e w' => RangeR e R n m ∧ w' = w := by
  unfold maxLen at hn
  have HR : Hid (Rfs w a n R) := hR
  clear hR
  go_enter Try.func26, Try.ntmps26
  go_wp2
  go_loop [5] (fun i => ∃ k : Nat, k ≤ n ∧ i = .int .i64 k ∧ Hid (allIn R k m)) (fun i => n - (intOf i).toNat)
  case atStart => exact ⟨0, Nat.zero_le _, rfl, fun j h => by omega⟩
  case round =>
    obtain ⟨k, hk, rfl, hq⟩ := hrel
    by_cases hlt : k < n
    · obtain ⟨b, off, rfl, hbo, c0, c1⟩ := HR.out.at hlt
      by_cases t1 : (R k).1 < 0
      · go_wp2
        go_ret
        exact ⟨⟨_, rfl, by simp⟩, rfl⟩
      by_cases t2 : m ≤ (R k).1
      · go_wp2
        go_ret
        exact ⟨⟨_, rfl, by simp⟩, rfl⟩
      have HQ : Hid (allIn R (k + 1) m) := fun j hj => by
        by_cases e' : j = k
        · subst e'; omega
        · exact hq.out j (by omega)
      clear hq
      go_wp2
      go_round
      case rel => exact ⟨k + 1, by omega, by go_num, HQ⟩
      case measure => simp [intOf]; omega
    · obtain rfl : k = n := by omega
      go_wp2
      go_ret
      exact ⟨⟨_, rfl, fun _ => hq.out⟩, rfl⟩
end Go.Proofs.Qxb6612720a
