import Derived.Test.Qxb6612720aPa
import Derived.Test.Qxb6612720aNa
namespace Go.Proofs.Qxb6612720a
open Go.RowKit
set_option linter.unusedVariables false

theorem info3 : (Try.prog.info? 3).map (fun i => (i.zero, i.size, i.bytes)) = some (some (.int .i64 0), 1, 8) := by kernel_rfl
/-- The numbers copied so far. -/
def upto (f : Nat → Int) (k j : Nat) : Value := .int .i64 (if j < k then f j else 0)

set_option maxHeartbeats 1000000 in
set_option maxRecDepth 100000 in
theorem sets_any (a : Option Addr) (n c : Nat) (R : Nat → Rf) (w : World) (hn : n ≤ 65536) (hR : Rfs w a n R) :
    Calls Try.prog 27 #[.slice a n c] w fun e w' => e = .returned (.slice (some ⟨w.heap.size, 0, none⟩) n n) ∧ w'.rowIs w.heap.size 3 n (upto (fun i => (R i).1) n) ∧ Below w.heap.size w w' ∧ w'.heap.size = w.heap.size + 1 := by
  have HR : Hid (Rfs w a n R) := hR
  clear hR
  have hmk := run_make_row' (P := Try.prog) 87 3 (.int .i64 0) 8 Try.underlying87 info3 rfl .i64 .i64 n (by omega) (by omega)
  have H0 : Hid ((w.alloc (.cells (madeCells #[.int .i64 0] n) 3)).rowIs w.heap.size 3 n (upto (fun i => (R i).1) 0)) := (World.rowIs_made w (.int .i64 0) n 3).congr fun j _ => by simp [upto]
  go_enter Try.func27, Try.ntmps27
  go_wp2
  clear hmk
  go_loopw [4] (fun i wr => ∃ k : Nat, k ≤ n ∧ i = .int .i64 k ∧ Hid (wr.rowIs w.heap.size 3 n (upto (fun i => (R i).1) k)) ∧ Hid (Below w.heap.size w wr) ∧ wr.heap.size = w.heap.size + 1) (fun i _ => n - (intOf i).toNat)
  case atStart => exact ⟨0, Nat.zero_le _, rfl, H0, (Below.refl _ _).alloc (Nat.le_refl _) _, by simp⟩
  case round =>
    obtain ⟨k, hk, rfl, hr, hb, hsz⟩ := hrel
    by_cases hlt : k < n
    · obtain ⟨b, off, rfl, hbo, c0, c1⟩ := (HR.out.below hb.out).at hlt
      have d0 := hr.out.cell (i := k) (by omega)
      have df := hr.out.frozen k
      have HS : Hid (wr.heap.size = w.heap.size + 1) := hsz
      have RH : Hid ((wr.setCell ⟨w.heap.size, k, none⟩ (.int .i64 (R k).1)).rowIs w.heap.size 3 n (upto (fun i => (R i).1) (k + 1))) := (hr.out.set _ _).congr fun j _ => by
        unfold upto
        by_cases e : j = k
        · subst e; simp
        · rw [if_neg e]
          have : (j < k + 1) = (j < k) := by rw [eq_iff_iff]; omega
          simp only [this]
      clear hsz hr
      go_wp2
      go_roundw
      case rel => exact ⟨k + 1, by omega, by go_num, RH, hb.out.setCell (Nat.le_refl _) _, by have := HS.out; simpa [World.setCell] using this⟩
      case measure => simp [intOf]; omega
    · obtain rfl : k = n := by omega
      go_wp2
      go_ret
      exact ⟨rfl, hr.out, hb.out, hsz⟩
set_option maxHeartbeats 1000000 in
set_option maxRecDepth 100000 in
theorem grants_any (a : Option Addr) (n c : Nat) (R : Nat → Rf) (w : World) (hn : n ≤ 65536) (hR : Rfs w a n R) :
    Calls Try.prog 28 #[.slice a n c] w fun e w' => e = .returned (.slice (some ⟨w.heap.size, 0, none⟩) n n) ∧ w'.rowIs w.heap.size 3 n (upto (fun i => (R i).2) n) ∧ Below w.heap.size w w' ∧ w'.heap.size = w.heap.size + 1 := by
  have HR : Hid (Rfs w a n R) := hR
  clear hR
  have hmk := run_make_row' (P := Try.prog) 87 3 (.int .i64 0) 8 Try.underlying87 info3 rfl .i64 .i64 n (by omega) (by omega)
  have H0 : Hid ((w.alloc (.cells (madeCells #[.int .i64 0] n) 3)).rowIs w.heap.size 3 n (upto (fun i => (R i).2) 0)) := (World.rowIs_made w (.int .i64 0) n 3).congr fun j _ => by simp [upto]
  go_enter Try.func28, Try.ntmps28
  go_wp2
  clear hmk
  go_loopw [4] (fun i wr => ∃ k : Nat, k ≤ n ∧ i = .int .i64 k ∧ Hid (wr.rowIs w.heap.size 3 n (upto (fun i => (R i).2) k)) ∧ Hid (Below w.heap.size w wr) ∧ wr.heap.size = w.heap.size + 1) (fun i _ => n - (intOf i).toNat)
  case atStart => exact ⟨0, Nat.zero_le _, rfl, H0, (Below.refl _ _).alloc (Nat.le_refl _) _, by simp⟩
  case round =>
    obtain ⟨k, hk, rfl, hr, hb, hsz⟩ := hrel
    by_cases hlt : k < n
    · obtain ⟨b, off, rfl, hbo, c0, c1⟩ := (HR.out.below hb.out).at hlt
      have d0 := hr.out.cell (i := k) (by omega)
      have df := hr.out.frozen k
      have HS : Hid (wr.heap.size = w.heap.size + 1) := hsz
      have RH : Hid ((wr.setCell ⟨w.heap.size, k, none⟩ (.int .i64 (R k).2)).rowIs w.heap.size 3 n (upto (fun i => (R i).2) (k + 1))) := (hr.out.set _ _).congr fun j _ => by
        unfold upto
        by_cases e : j = k
        · subst e; simp
        · rw [if_neg e]
          have : (j < k + 1) = (j < k) := by rw [eq_iff_iff]; omega
          simp only [this]
      clear hsz hr
      go_wp2
      go_roundw
      case rel => exact ⟨k + 1, by omega, by go_num, RH, hb.out.setCell (Nat.le_refl _) _, by have := HS.out; simpa [World.setCell] using this⟩
      case measure => simp [intOf]; omega
    · obtain rfl : k = n := by omega
      go_wp2
      go_ret
      exact ⟨rfl, hr.out, hb.out, hsz⟩

/-- The references made so far: cell j. -/
def refAt (R : Nat → Rf) (k j : Nat) : Value := .int .i64 (if j / 2 < k then (if j % 2 = 0 then (R (j / 2)).1 else (R (j / 2)).2) else 0)
theorem info118 : (Try.prog.info? 118).map (fun i => (i.zero, i.size, i.bytes)) = some (some (.agg #[.int .i64 0, .int .i64 0]), 2, 16) := by kernel_rfl
theorem make118 (n : Nat) (h : n ≤ 65536) (w : World) : (Instr.makeSlice 99 (.int .i64 n) (.int .i64 n)).run Try.prog w = .ok (.slice (some ⟨w.heap.size, 0, none⟩) n n) (w.alloc (.cells (madeCells #[.int .i64 0, .int .i64 0] (n * 2)) 118)) := by
  obtain ⟨i0, hi, hz0, hz1, hz2⟩ := info_parts info118
  have := run_make (P := Try.prog) w 99 118 i0 _ Try.underlying99 hi hz0 .i64 .i64 n n (by omega) (by omega) (by rw [hz2]; omega) (by omega)
  rw [hz1] at this
  simpa [Value.cells] using this
theorem made118 (w : World) (n : Nat) (R : Nat → Rf) : (w.alloc (.cells (madeCells #[.int .i64 0, .int .i64 0] (n * 2)) 118)).rowIs w.heap.size 118 (n * 2) (refAt R 0) := by
  have := World.rowIs_alloc w (madeCells #[.int .i64 0, .int .i64 0] (n * 2)) 118 (refAt R 0) (fun i hi => by
    rw [size_madeCells] at hi
    have : i % 2 = 0 ∨ i % 2 = 1 := by omega
    rcases this with e | e <;> simp [madeCells, hi, refAt, e])
  rwa [size_madeCells] at this
theorem ref_step {w : World} {O N k : Nat} {R : Nat → Rf} (h : w.rowIs O 118 N (refAt R k)) : ((w.setCell ⟨O, k * 2, none⟩ (.int .i64 (R k).1)).setCell ⟨O, k * 2 + 1, none⟩ (.int .i64 (R k).2)).rowIs O 118 N (refAt R (k + 1)) := by
  refine ((h.set _ _).set _ _).congr fun j _ => ?_
  unfold refAt
  by_cases e : j / 2 = k
  · have hj : j / 2 < k + 1 := by omega
    have : j % 2 = 0 ∨ j % 2 = 1 := by omega
    rcases this with q | q
    · have : j = k * 2 := by omega
      subst this; simp [q, e]
    · have : j = k * 2 + 1 := by omega
      subst this; simp [q, e]
  · rw [if_neg (by omega), if_neg (by omega)]
    have : (j / 2 < k + 1) = (j / 2 < k) := by rw [eq_iff_iff]; omega
    simp only [this]

set_option maxHeartbeats 1000000 in
set_option maxRecDepth 100000 in
theorem zrefs_any (b1 b2 n : Nat) (R : Nat → Rf) (w : World) (hn : n ≤ 65536) (h1 : w.rowIs b1 3 n (upto (fun i => (R i).1) n)) (h2 : w.rowIs b2 3 n (upto (fun i => (R i).2) n)) :
    Calls Try.prog 31 #[.slice (some ⟨b1, 0, none⟩) n n, .slice (some ⟨b2, 0, none⟩) n n] w fun e w' => e = .returned (.slice (some ⟨w.heap.size, 0, none⟩) n n) ∧ w'.rowIs w.heap.size 118 (n * 2) (refAt R n) ∧ Below w.heap.size w w' ∧ w'.heap.size = w.heap.size + 1 := by
  have H1 : Hid (w.rowIs b1 3 n (upto (fun i => (R i).1) n)) := h1
  have H2 : Hid (w.rowIs b2 3 n (upto (fun i => (R i).2) n)) := h2
  have l1 := h1.lt
  have l2 := h2.lt
  clear h1 h2
  have hmk := make118 n hn
  have H0 : Hid ((w.alloc (.cells (madeCells #[.int .i64 0, .int .i64 0] (n * 2)) 118)).rowIs w.heap.size 118 (n * 2) (refAt R 0)) := made118 w n R
  go_enter Try.func31, Try.ntmps31
  go_wp2
  clear hmk
  go_loopw [12] (fun i wr => ∃ k : Nat, k ≤ n ∧ i = .int .i64 k ∧ Hid (wr.rowIs w.heap.size 118 (n * 2) (refAt R k)) ∧ Hid (Below w.heap.size w wr) ∧ wr.heap.size = w.heap.size + 1) (fun i _ => n - (intOf i).toNat)
  case atStart => exact ⟨0, Nat.zero_le _, rfl, H0, (Below.refl _ _).alloc (Nat.le_refl _) _, by simp⟩
  case round =>
    obtain ⟨k, hk, rfl, hr, hb, hsz⟩ := hrel
    by_cases hlt : k < n
    · have c0 : wr.cell? ⟨b1, k, none⟩ = some (.int .i64 (R k).1) := (hb.out.cell (p := ⟨b1, k, none⟩) l1).trans ((H1.out.cell hlt).trans (by simp [upto, hlt]))
      have c1 : wr.cell? ⟨b2, k, none⟩ = some (.int .i64 (R k).2) := (hb.out.cell (p := ⟨b2, k, none⟩) l2).trans ((H2.out.cell hlt).trans (by simp [upto, hlt]))
      have d0 := hr.out.cell (i := k * 2) (by omega)
      have d1 := hr.out.cell (i := k * 2 + 1) (by omega)
      have df := hr.out.frozen
      have HS : Hid (wr.heap.size = w.heap.size + 1) := hsz
      have RH : Hid _ := ref_step hr.out
      clear hsz hr
      go_wp2
      go_region
      go_wp2
      go_roundw
      case rel => exact ⟨k + 1, by omega, by go_num, RH.out, ((hb.out.setCell (by simp) _).setCell (by simp) _).drew, by have := HS.out; simpa [World.setCell] using this⟩
      case measure => simp [intOf]; omega
    · obtain rfl : k = n := by omega
      go_wp2
      go_ret
      exact ⟨rfl, hr.out, hb.out, hsz⟩
end Go.Proofs.Qxb6612720a
