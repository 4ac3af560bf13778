import Derived.Test.Qxb6612468aAb
namespace Go.Proofs.Qxb6612468a
open Go.RowKit
set_option linter.unusedVariables false

def em : ByteArray := ⟨#[]⟩
theorem info35 : (Try.prog.info? 35).map (fun i => (i.zero, i.size, i.bytes)) = some (some (.agg #[.string em, .string em, .string em, .string em]), 4, 64) := by kernel_rfl
theorem info50 : (Try.prog.info? 50).map (fun i => (i.zero, i.size, i.bytes)) = some (some (.agg #[.string em, .slice none 0 0, .slice none 0 0, .slice none 0 0]), 4, 88) := by kernel_rfl

def zero35 : Array Value := #[.string em, .string em, .string em, .string em]
def zero50 : Array Value := #[.string em, .slice none 0 0, .slice none 0 0, .slice none 0 0]

theorem make35 (n : Nat) (h : n ≤ 8192) (w : World) : (Instr.makeSlice 26 (.int .i64 n) (.int .i64 n)).run Try.prog w = .ok (.slice (some ⟨w.heap.size, 0, none⟩) n n) (w.alloc (.cells (madeCells zero35 (n * 4)) 35)) := by
  obtain ⟨i0, hi, hz0, hz1, hz2⟩ := info_parts info35
  have := run_make (P := Try.prog) w 26 35 i0 _ Try.underlying26 hi hz0 .i64 .i64 n n (by omega) (by omega) (by rw [hz2]; omega) (by omega)
  rw [hz1] at this
  simpa [Value.cells, zero35] using this
theorem make50 (n : Nat) (h : n ≤ 8192) (w : World) : (Instr.makeSlice 28 (.int .i64 n) (.int .i64 n)).run Try.prog w = .ok (.slice (some ⟨w.heap.size, 0, none⟩) n n) (w.alloc (.cells (madeCells zero50 (n * 4)) 50)) := by
  obtain ⟨i0, hi, hz0, hz1, hz2⟩ := info_parts info50
  have := run_make (P := Try.prog) w 28 50 i0 _ Try.underlying28 hi hz0 .i64 .i64 n n (by omega) (by omega) (by rw [hz2]; omega) (by omega)
  rw [hz1] at this
  simpa [Value.cells, zero50] using this

/-- The refs built so far: cell j. -/
def outAt (F : Nat → Nat → ByteArray) (k j : Nat) : Value := .string (if j / 4 < k then F (j / 4) (j % 4) else em)
def ruleAt (Ru : Nat → ByteArray) (k j : Nat) : Value := if j % 4 = 0 then .string (if j / 4 < k then Ru (j / 4) else em) else .slice none 0 0

theorem made_row (w : World) (z : Array Value) (t n : Nat) (f : Nat → Value) (hz : z.size = 4) (h : ∀ j, z[j % 4]? = some (f j)) : (w.alloc (.cells (madeCells z (n * 4)) t)).rowIs w.heap.size t (n * 4) f := by
  have := World.rowIs_alloc w (madeCells z (n * 4)) t f (fun i hi => by
    rw [size_madeCells] at hi
    have h1 := h i
    rw [Array.getElem?_eq_some_iff] at h1
    obtain ⟨hlt, he⟩ := h1
    have h2 : z[i % 4]! = f i := by rw [getElem!_pos z (i % 4) hlt, he]
    simp [madeCells, hi, hz, h2])
  rwa [size_madeCells] at this

theorem made35 (w : World) (n : Nat) (F : Nat → Nat → ByteArray) : (w.alloc (.cells (madeCells zero35 (n * 4)) 35)).rowIs w.heap.size 35 (n * 4) (outAt F 0) :=
  made_row w zero35 35 n _ rfl (fun j => by
    have : j % 4 < 4 := Nat.mod_lt _ (by omega)
    simp only [outAt, Nat.not_lt_zero, if_false, zero35]
    rcases (show j % 4 = 0 ∨ j % 4 = 1 ∨ j % 4 = 2 ∨ j % 4 = 3 from by omega) with e | e | e | e <;> rw [e] <;> rfl)
theorem made50 (w : World) (n : Nat) (Ru : Nat → ByteArray) : (w.alloc (.cells (madeCells zero50 (n * 4)) 50)).rowIs w.heap.size 50 (n * 4) (ruleAt Ru 0) :=
  made_row w zero50 50 n _ rfl (fun j => by
    simp only [ruleAt, Nat.not_lt_zero, if_false, zero50]
    rcases (show j % 4 = 0 ∨ j % 4 = 1 ∨ j % 4 = 2 ∨ j % 4 = 3 from by omega) with e | e | e | e <;> rw [e] <;> rfl)

/-- Four cells stored: the next ref stands. -/
theorem out_step {w : World} {O N k : Nat} {F : Nat → Nat → ByteArray} (h : w.rowIs O 35 N (outAt F k)) :
    ((((w.setCell ⟨O, k * 4, none⟩ (.string (F k 0))).setCell ⟨O, k * 4 + 1, none⟩ (.string (F k 1))).setCell ⟨O, k * 4 + 2, none⟩ (.string (F k 2))).setCell ⟨O, k * 4 + 3, none⟩ (.string (F k 3))).rowIs O 35 N (outAt F (k + 1)) := by
  refine ((((h.set _ _).set _ _).set _ _).set _ _).congr fun j _ => ?_
  unfold outAt
  by_cases e : j / 4 = k
  · have hj : j / 4 < k + 1 := by omega
    have : j % 4 = 0 ∨ j % 4 = 1 ∨ j % 4 = 2 ∨ j % 4 = 3 := by omega
    rcases this with q | q | q | q
    · have : j = k * 4 := by omega
      subst this; simp [q, e]
    · have : j = k * 4 + 1 := by omega
      subst this; simp [q, e]
    · have : j = k * 4 + 2 := by omega
      subst this; simp [q, e]
    · have : j = k * 4 + 3 := by omega
      subst this; simp [q, e]
  · rw [if_neg (by omega), if_neg (by omega), if_neg (by omega), if_neg (by omega)]
    have : (j / 4 < k + 1) = (j / 4 < k) := by rw [eq_iff_iff]; omega
    simp only [this]
theorem rule_step {w : World} {O N k : Nat} {Ru : Nat → ByteArray} (h : w.rowIs O 50 N (ruleAt Ru k)) :
    ((((w.setCell ⟨O, k * 4, none⟩ (.string (Ru k))).setCell ⟨O, k * 4 + 1, none⟩ (.slice none 0 0)).setCell ⟨O, k * 4 + 2, none⟩ (.slice none 0 0)).setCell ⟨O, k * 4 + 3, none⟩ (.slice none 0 0)).rowIs O 50 N (ruleAt Ru (k + 1)) := by
  refine ((((h.set _ _).set _ _).set _ _).set _ _).congr fun j _ => ?_
  unfold ruleAt
  by_cases e : j / 4 = k
  · have hj : j / 4 < k + 1 := by omega
    have : j % 4 = 0 ∨ j % 4 = 1 ∨ j % 4 = 2 ∨ j % 4 = 3 := by omega
    rcases this with q | q | q | q
    · have : j = k * 4 := by omega
      subst this; simp [q, e]
    · have : j = k * 4 + 1 := by omega
      subst this; simp [q]
    · have : j = k * 4 + 2 := by omega
      subst this; simp [q]
    · have : j = k * 4 + 3 := by omega
      subst this; simp [q]
  · rw [if_neg (by omega), if_neg (by omega), if_neg (by omega), if_neg (by omega)]
    have : (j / 4 < k + 1) = (j / 4 < k) := by rw [eq_iff_iff]; omega
    simp only [this]

/-- A row's cells, as the walk asks them for a store. -/
theorem row_four {w : World} {O t N k : Nat} {f : Nat → Value} (h : w.rowIs O t N f) (hk : k * 4 + 3 < N) : (∃ v, w.cell? ⟨O, k * 4, none⟩ = some v) ∧ (∃ v, w.cell? ⟨O, k * 4 + 1, none⟩ = some v) ∧ (∃ v, w.cell? ⟨O, k * 4 + 2, none⟩ = some v) ∧ (∃ v, w.cell? ⟨O, k * 4 + 3, none⟩ = some v) ∧ ∀ j, w.frozen? ⟨O, j, none⟩ = false :=
  ⟨⟨_, h.cell (by omega)⟩, ⟨_, h.cell (by omega)⟩, ⟨_, h.cell (by omega)⟩, ⟨_, h.cell hk⟩, fun j => h.frozen j⟩

theorem row_set3 {w : World} {O B t N : Nat} {f : Nat → Value} {u v x : Value} (h : w.rowIs O t N f) (hne : O ≠ B) : (((w.setCell ⟨B, 0, none⟩ u).setCell ⟨B, 1, none⟩ v).setCell ⟨B, 2, none⟩ x).rowIs O t N f :=
  ((h.setOther hne u).setOther (a := ⟨B, 1, none⟩) hne v).setOther (a := ⟨B, 2, none⟩) hne x
theorem below_set3 {w wr : World} {u v x : Value} (h : Below w.heap.size w wr) : Below w.heap.size w (((wr.setCell ⟨w.heap.size, 0, none⟩ u).setCell ⟨w.heap.size, 1, none⟩ v).setCell ⟨w.heap.size, 2, none⟩ x) :=
  ((h.setCell (p := ⟨w.heap.size, 0, none⟩) (Nat.le_refl _) u).setCell (p := ⟨w.heap.size, 1, none⟩) (Nat.le_refl _) v).setCell (p := ⟨w.heap.size, 2, none⟩) (Nat.le_refl _) x

set_option maxHeartbeats 1000000 in
set_option maxRecDepth 100000 in
theorem build_any (a s : Option Addr) (n c m mc x : Nat) (F : Nat → Nat → ByteArray) (Ru : Nat → ByteArray) (w : World) (hn : n ≤ 4096) (hm : m ≤ 4096) (hx : x ≤ 1) (hR : Refs w a n F) (hS : Strs w s m Ru) :
    Calls Try.prog 9 #[.slice a n c, .slice s m mc, .int .i64 x] w fun e w' => ∃ O Q, e = .returned (.tuple #[.slice (some ⟨O, 0, none⟩) (n + x) (n + x), .agg #[.slice none 0 0, .slice none 0 0, .slice (some ⟨Q, 0, none⟩) m m]]) ∧ w.heap.size ≤ O ∧ O < Q ∧
      w'.rowIs O 35 ((n + x) * 4) (outAt F n) ∧ w'.rowIs Q 50 (m * 4) (ruleAt Ru m) ∧ Below w.heap.size w w' := by
  have HR : Hid (Refs w a n F) := hR
  have HS : Hid (Strs w s m Ru) := hS
  clear hR hS
  have hmk1 := make35 (n + x) (by omega)
  have e1 : ((n + x : Nat) : Int) = (n : Int) + (x : Int) := by omega
  rw [e1] at hmk1
  have hmk2 := make50 m (by omega)
  go_enter Try.func9, Try.ntmps9
  go_wp2
  go_loopw [9] (fun i wr => ∃ k : Nat, k ≤ n ∧ i = .int .i64 k ∧ Hid (wr.rowIs (w.heap.size + 1) 35 ((n + x) * 4) (outAt F k)) ∧ Hid (Below (w.heap.size + 1) (w.alloc (.cells #[.slice none 0 0, .slice none 0 0, .slice none 0 0] 30)) wr) ∧ wr.heap.size = w.heap.size + 2) (fun i _ => n - (intOf i).toNat)
  case atStart => exact ⟨0, Nat.zero_le _, rfl, by have := made35 (w.alloc (.cells #[.slice none 0 0, .slice none 0 0, .slice none 0 0] 30)) (n + x) F; show World.rowIs _ _ _ _ _; simpa using this, (Below.refl _ _).alloc (by simp) _, by simp⟩
  case round =>
    obtain ⟨k, hk, rfl, hr, hb, hsz⟩ := hrel
    have hbw : Below w.heap.size w wr := ((Below.refl _ _).alloc (Nat.le_refl _) _).trans (hb.out.mono (by omega))
    by_cases hlt : k < n
    · obtain ⟨b, off, rfl, e0, e1, e2, e3⟩ := HR.out.cells hlt
      have hbo : b < w.heap.size := World.block_lt_of_cell? w _ e0
      have c0 := (hbw.cell (p := ⟨b, off + k * 4, none⟩) hbo).trans e0
      have c1 := (hbw.cell (p := ⟨b, off + k * 4 + 1, none⟩) hbo).trans e1
      have c2 := (hbw.cell (p := ⟨b, off + k * 4 + 2, none⟩) hbo).trans e2
      have c3 := (hbw.cell (p := ⟨b, off + k * 4 + 3, none⟩) hbo).trans e3
      obtain ⟨⟨v0, d0⟩, ⟨v1, d1⟩, ⟨v2, d2⟩, ⟨v3, d3⟩, df⟩ := row_four hr.out (k := k) (by omega)
      have R := out_step hr.out
      have RH : Hid _ := R
      have HSZ : Hid (wr.heap.size = w.heap.size + 2) := hsz
      clear e0 e1 e2 e3 R hr hsz
      go_wp2
      go_region
      go_wp2
      go_roundw
      case rel =>
        refine ⟨k + 1, by omega, by go_num, RH.out, ?_, ?_⟩
        · exact ((((hb.out.setCell (by simp) _).setCell (by simp) _).setCell (by simp) _).setCell (by simp) _).drew
        · have := HSZ.out; simpa [World.setCell] using this
      case measure => simp [intOf]; omega
    · obtain rfl : k = n := by omega
      have HSZ : Hid (wr.heap.size = w.heap.size + 2) := hsz
      have hr2 : Hid ((wr.alloc (.cells (madeCells zero50 (m * 4)) 50)).rowIs (w.heap.size + 2) 50 (m * 4) (ruleAt Ru 0)) := by
        have := made50 wr m Ru
        rw [hsz] at this
        exact this
      have hr1 : Hid ((wr.alloc (.cells (madeCells zero50 (m * 4)) 50)).rowIs (w.heap.size + 1) 35 ((k + x) * 4) (outAt F k)) := hr.out.alloc _
      have hb1 : Hid (Below (w.heap.size + 1) (w.alloc (.cells #[.slice none 0 0, .slice none 0 0, .slice none 0 0] 30)) (wr.alloc (.cells (madeCells zero50 (m * 4)) 50))) := hb.out.alloc (by omega) _
      have hsz1 : Hid ((wr.alloc (.cells (madeCells zero50 (m * 4)) 50)).heap.size = w.heap.size + 3) := by show _ = _; simp [hsz]
      clear hbw hr hb
      go_wp2
      go_loopw [11] (fun i w2 => ∃ k2 : Nat, k2 ≤ m ∧ i = .int .i64 k2 ∧ Hid (w2.rowIs (w.heap.size + 1) 35 ((k + x) * 4) (outAt F k)) ∧ Hid (w2.rowIs (w.heap.size + 2) 50 (m * 4) (ruleAt Ru k2)) ∧ Hid (Below (w.heap.size + 1) (w.alloc (.cells #[.slice none 0 0, .slice none 0 0, .slice none 0 0] 30)) w2) ∧ Hid (w2.heap.size = w.heap.size + 3)) (fun i _ => m - (intOf i).toNat)
      case atStart => exact ⟨0, Nat.zero_le _, rfl, hr1, hr2, hb1, hsz1⟩
      case round =>
        obtain ⟨k2, hk2, rfl, hq1, hq2, hb, hsz2⟩ := hrel
        have hbw : Below w.heap.size w wr := ((Below.refl _ _).alloc (Nat.le_refl _) _).trans (hb.out.mono (by omega))
        by_cases hlt2 : k2 < m
        · obtain ⟨b, off, rfl, e0⟩ := HS.out.cell hlt2
          have hbo : b < w.heap.size := World.block_lt_of_cell? w _ e0
          have c0 := (hbw.cell (p := ⟨b, off + k2, none⟩) hbo).trans e0
          obtain ⟨⟨v0, d0⟩, ⟨v1, d1⟩, ⟨v2, d2⟩, ⟨v3, d3⟩, df⟩ := row_four hq2.out (k := k2) (by omega)
          have RH : Hid _ := rule_step hq2.out
          clear e0 hq2
          go_wp2
          go_roundw
          case rel =>
            refine ⟨k2 + 1, by omega, by go_num, ?_, RH.out, ?_, ?_⟩
            · exact (((hq1.out.setOther (by simp) _).setOther (by simp) _).setOther (by simp) _).setOther (by simp) _
            · exact (((hb.out.setCell (by simp) _).setCell (by simp) _).setCell (by simp) _).setCell (by simp) _
            · have := hsz2.out; show _ = _; simpa [World.setCell] using this
          case measure => simp [intOf]; omega
        · obtain rfl : k2 = m := by omega
          have f0 : wr.cell? ⟨w.heap.size, 0, none⟩ = some (.slice none 0 0) := (hb.out.cell (p := ⟨w.heap.size, 0, none⟩) (by simp)).trans (by simp [go_sem])
          have f1 : wr.cell? ⟨w.heap.size, 1, none⟩ = some (.slice none 0 0) := (hb.out.cell (p := ⟨w.heap.size, 1, none⟩) (by simp)).trans (by simp [go_sem])
          have f2 : wr.cell? ⟨w.heap.size, 2, none⟩ = some (.slice none 0 0) := (hb.out.cell (p := ⟨w.heap.size, 2, none⟩) (by simp)).trans (by simp [go_sem])
          have ff : ∀ j, wr.frozen? ⟨w.heap.size, j, none⟩ = false := fun j => (hb.out.frozen (p := ⟨w.heap.size, j, none⟩) (by simp)).trans (by simp [go_sem])
          go_wp2
          refine bodyPost_ret (v := .tuple #[.slice (some ⟨w.heap.size + 1, 0, none⟩) (k + x) (k + x), .agg #[.slice none 0 0, .slice none 0 0, .slice (some ⟨w.heap.size + 2, 0, none⟩) k2 k2]]) (by simp [results, Try.results9, go_sem, f0, f1, f2]) rfl ⟨w.heap.size + 1, w.heap.size + 2, rfl, by omega, by omega, ?_, ?_, ?_⟩
          · exact row_set3 hq1.out (by omega)
          · exact row_set3 hq2.out (by omega)
          · exact below_set3 hbw
end Go.Proofs.Qxb6612468a
