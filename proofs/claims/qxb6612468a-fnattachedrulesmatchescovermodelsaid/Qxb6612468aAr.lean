import Derived.Test.Qxb6612468aRows
import Derived.WalkKit
import Derived.WalkSpells
import Derived.WalkLawsBesides
import Derived.Deep.OwnRows
namespace Go.Proofs.Qxb6612468a
open Go.RowKit
set_option linter.unusedVariables false

/-- Does a ref of name N and section S cover a rule named r of the route 'name'? -/
def covB (N S name r : ByteArray) : Bool := decide (N.toList = name.toList ∧ (S.toList = [] ∨ S.toList = r.toList))

theorem ret_bool' {a b : Bool} (h : a = b) : Ending.returned (.bool a) = .returned (.bool b) := by rw [h]

set_option maxHeartbeats 400000 in
theorem covers_any (G K N S name r : ByteArray) (w : World) :
    Calls Try.prog 23 #[.agg #[.string G, .string K, .string N, .string S], .string name, .agg #[.string r, .slice none 0 0, .slice none 0 0, .slice none 0 0]] w fun e w' => e = .returned (.bool (covB N S name r)) ∧ Below w.heap.size w w' := by
  go_enter Try.func23, Try.ntmps23
  go_wp2
  all_goals
    go_ret
    refine ⟨ret_bool' ?_, ((Below.refl _ _).alloc (Nat.le_refl _) _).alloc (by simp) _⟩
    rw [Bool.eq_iff_iff]
    simp [covB, *]

/-- The struct that a ref is, the struct that a rule is. -/
def refV (F : Nat → ByteArray) : Value := .agg #[.string (F 0), .string (F 1), .string (F 2), .string (F 3)]
/-- The two variables that the closure has captured. -/
structure Capt (w : World) (nb rb : Nat) (name r : ByteArray) : Prop where
  nm : w.cell? ⟨nb, 0, none⟩ = some (.string name)
  r0 : w.cell? ⟨rb, 0, none⟩ = some (.string r)
  r1 : w.cell? ⟨rb, 1, none⟩ = some (.slice none 0 0)
  r2 : w.cell? ⟨rb, 2, none⟩ = some (.slice none 0 0)
  r3 : w.cell? ⟨rb, 3, none⟩ = some (.slice none 0 0)
theorem Capt.lt {w : World} {nb rb : Nat} {name r : ByteArray} (h : Capt w nb rb name r) : nb < w.heap.size ∧ rb < w.heap.size := ⟨World.block_lt_of_cell? w _ h.nm, World.block_lt_of_cell? w _ h.r0⟩
theorem Capt.below {w w' : World} {nb rb : Nat} {name r : ByteArray} (h : Capt w nb rb name r) (hb : Below w.heap.size w w') : Capt w' nb rb name r := by
  obtain ⟨a, b⟩ := h.lt
  exact ⟨(hb.cell (p := ⟨nb, 0, none⟩) a).trans h.nm, (hb.cell (p := ⟨rb, 0, none⟩) b).trans h.r0, (hb.cell (p := ⟨rb, 1, none⟩) b).trans h.r1, (hb.cell (p := ⟨rb, 2, none⟩) b).trans h.r2, (hb.cell (p := ⟨rb, 3, none⟩) b).trans h.r3⟩

set_option maxHeartbeats 400000 in
theorem clos_any (F : Nat → ByteArray) (name r : ByteArray) (nb rb : Nat) (w : World) (h : Capt w nb rb name r) :
    Calls Try.prog 22 #[.agg #[.string (F 0), .string (F 1), .string (F 2), .string (F 3)], .pointer (some ⟨nb, 0, none⟩), .pointer (some ⟨rb, 0, none⟩)] w fun e w' => e = .returned (.bool (covB (F 2) (F 3) name r)) ∧ Below w.heap.size w w' := by
  obtain ⟨b1, b2⟩ := h.lt
  have c1 := h.nm
  have c2 := h.r0
  have c3 := h.r1
  have c4 := h.r2
  have c5 := h.r3
  clear h
  go_enter Try.func22, Try.ntmps22
  go_wp2_with fail
  refine (covers_any _ _ _ _ _ _ _).mono ?_
  rintro e w1 ⟨rfl, hb⟩
  go_wp2
  go_ret
  exact ⟨rfl, ((Below.refl _ _).alloc (Nat.le_refl _) _).trans (hb.mono (by simp))⟩

/-- A slice of refs: element i's four fields. -/
def Refs (w : World) (a : Option Addr) (n : Nat) (F : Nat → Nat → ByteArray) : Prop := n = 0 ∨ ∃ b off, a = some ⟨b, off, none⟩ ∧ ∀ i q, i < n → q < 4 → w.cell? ⟨b, off + i * 4 + q, none⟩ = some (.string (F i q))
theorem Refs.below {w w' : World} {a : Option Addr} {n : Nat} {F : Nat → Nat → ByteArray} (h : Refs w a n F) (hb : Below w.heap.size w w') : Refs w' a n F := by
  rcases h with h | ⟨b, off, rfl, hc⟩
  · exact Or.inl h
  · exact Or.inr ⟨b, off, rfl, fun i q hi hq => (hb.cell (p := ⟨b, off + i * 4 + q, none⟩) (World.block_lt_of_cell? w _ (hc i q hi hq))).trans (hc i q hi hq)⟩
theorem Refs.cells {w : World} {a : Option Addr} {n : Nat} {F : Nat → Nat → ByteArray} (h : Refs w a n F) {i : Nat} (hi : i < n) : ∃ b off, a = some ⟨b, off, none⟩ ∧ w.cell? ⟨b, off + i * 4, none⟩ = some (.string (F i 0)) ∧ w.cell? ⟨b, off + i * 4 + 1, none⟩ = some (.string (F i 1)) ∧ w.cell? ⟨b, off + i * 4 + 2, none⟩ = some (.string (F i 2)) ∧ w.cell? ⟨b, off + i * 4 + 3, none⟩ = some (.string (F i 3)) := by
  rcases h with h | ⟨b, off, rfl, hc⟩
  · omega
  · exact ⟨b, off, rfl, hc i 0 hi (by omega), hc i 1 hi (by omega), hc i 2 hi (by omega), hc i 3 hi (by omega)⟩

def anyB (n : Nat) (F : Nat → Nat → ByteArray) (name r : ByteArray) : Bool := (List.range n).any fun i => covB (F i 2) (F i 3) name r
/-- An index that tells whether anything was found. -/
def Found (e : Ending) (b : Bool) : Prop := ∃ x : Int, e = .returned (.int .i64 x) ∧ b = decide (0 ≤ x)

theorem any_yes {n i : Nat} {F : Nat → Nat → ByteArray} {name r : ByteArray} (hi : i < n) (h : covB (F i 2) (F i 3) name r = true) : anyB n F name r = true := by
  unfold anyB; rw [List.any_eq_true]; exact ⟨i, List.mem_range.2 hi, h⟩
theorem any_no {n : Nat} {F : Nat → Nat → ByteArray} {name r : ByteArray} (h : ∀ i, i < n → covB (F i 2) (F i 3) name r = false) : anyB n F name r = false := by
  unfold anyB; rw [List.any_eq_false]; intro i hi; rw [h i (List.mem_range.1 hi)]; simp

set_option maxHeartbeats 400000 in
theorem index_any (a : Option Addr) (n c : Nat) (F : Nat → Nat → ByteArray) (name r : ByteArray) (nb rb : Nat) (w : World) (hn : n ≤ 1048576) (hR : Refs w a n F) (hC : Capt w nb rb name r) :
    Calls Try.prog 27 #[.slice a n c, .func (.func 22) #[] #[.pointer (some ⟨nb, 0, none⟩), .pointer (some ⟨rb, 0, none⟩)]] w fun e w' => Found e (anyB n F name r) ∧ Below w.heap.size w w' := by
  have HR : Hid (Refs w a n F) := hR
  have HC : Hid (Capt w nb rb name r) := hC
  clear hR hC
  go_enter Try.func27, Try.ntmps27
  go_wp2
  go_loopw [8] (fun i wr => ∃ k : Nat, k ≤ n ∧ i = .int .i64 k ∧ Hid (∀ j, j < k → covB (F j 2) (F j 3) name r = false) ∧ Below w.heap.size w wr) (fun i _ => n - (intOf i).toNat)
  case atStart => exact ⟨0, Nat.zero_le _, rfl, fun j h => by omega, Below.refl _ _⟩
  case round =>
    obtain ⟨k, hk, rfl, hq, hb⟩ := hrel
    by_cases hlt : k < n
    · obtain ⟨b, off, rfl, c0, c1, c2, c3⟩ := (HR.out.below hb).cells hlt
      have HCr : Hid (Capt wr nb rb name r) := HC.out.below hb
      cases hcv : covB (F k 2) (F k 3) name r with
      | true =>
        have HV : Hid (covB (F k 2) (F k 3) name r = true) := hcv
        clear hcv
        go_wp2_with fail
        refine (clos_any (F k) name r nb rb wr HCr.out).mono ?_
        rintro e w1 ⟨rfl, hb1⟩
        rw [HV.out]
        go_wp2
        go_ret
        exact ⟨⟨_, rfl, by rw [any_yes hlt HV.out]; simp⟩, hb.trans (hb1.mono hb.size)⟩
      | false =>
        have HV : Hid (covB (F k 2) (F k 3) name r = false) := hcv
        clear hcv
        go_wp2_with fail
        refine (clos_any (F k) name r nb rb wr HCr.out).mono ?_
        rintro e w1 ⟨rfl, hb1⟩
        rw [HV.out]
        go_wp2
        go_roundw
        case rel => exact ⟨k + 1, by omega, by go_num, (fun j hj => by by_cases e : j = k; (subst e; exact HV.out); exact hq.out j (by omega)), hb.trans (hb1.mono hb.size)⟩
        case measure => simp [intOf]; omega
    · go_wp2
      go_ret
      exact ⟨⟨_, rfl, by rw [any_no (fun i hi => hq.out i (by omega))]; simp⟩, hb⟩

theorem contains_any (a : Option Addr) (n c : Nat) (F : Nat → Nat → ByteArray) (name r : ByteArray) (nb rb : Nat) (w : World) (hn : n ≤ 1048576) (hR : Refs w a n F) (hC : Capt w nb rb name r) :
    Calls Try.prog 21 #[.slice a n c, .func (.func 22) #[] #[.pointer (some ⟨nb, 0, none⟩), .pointer (some ⟨rb, 0, none⟩)]] w fun e w' => e = .returned (.bool (anyB n F name r)) ∧ Below w.heap.size w w' := by
  go_enter Try.func21, Try.ntmps21
  go_wp2_with fail
  refine (index_any a n c F name r nb rb w hn hR hC).mono ?_
  rintro e w1 ⟨⟨x, rfl, hx⟩, hb⟩
  have HX : Hid (anyB n F name r = decide (0 ≤ x)) := hx
  clear hx
  go_wp2
  go_ret
  exact ⟨ret_bool' HX.out.symm, hb⟩

/-- A slice of rules: element j is a rule named 'Ru j', all else empty. -/
def Rules (w : World) (a : Option Addr) (m : Nat) (Ru : Nat → ByteArray) : Prop := m = 0 ∨ ∃ b off, a = some ⟨b, off, none⟩ ∧ ∀ j, j < m → w.cell? ⟨b, off + j * 4, none⟩ = some (.string (Ru j)) ∧ w.cell? ⟨b, off + j * 4 + 1, none⟩ = some (.slice none 0 0) ∧ w.cell? ⟨b, off + j * 4 + 2, none⟩ = some (.slice none 0 0) ∧ w.cell? ⟨b, off + j * 4 + 3, none⟩ = some (.slice none 0 0)
theorem Rules.below {w w' : World} {a : Option Addr} {m : Nat} {Ru : Nat → ByteArray} (h : Rules w a m Ru) (hb : Below w.heap.size w w') : Rules w' a m Ru := by
  rcases h with h | ⟨b, off, rfl, hc⟩
  · exact Or.inl h
  · refine Or.inr ⟨b, off, rfl, fun j hj => ?_⟩
    obtain ⟨a0, a1, a2, a3⟩ := hc j hj
    have hlt := World.block_lt_of_cell? w _ a0
    exact ⟨(hb.cell (p := ⟨b, off + j * 4, none⟩) hlt).trans a0, (hb.cell (p := ⟨b, off + j * 4 + 1, none⟩) hlt).trans a1, (hb.cell (p := ⟨b, off + j * 4 + 2, none⟩) hlt).trans a2, (hb.cell (p := ⟨b, off + j * 4 + 3, none⟩) hlt).trans a3⟩

/-- How many of the first k rules are covered. -/
def cnt (n : Nat) (F : Nat → Nat → ByteArray) (name : ByteArray) (Ru : Nat → ByteArray) : Nat → Nat
  | 0 => 0
  | k + 1 => cnt n F name Ru k + if anyB n F name (Ru k) then 1 else 0
theorem cnt_le (n : Nat) (F : Nat → Nat → ByteArray) (name : ByteArray) (Ru : Nat → ByteArray) : ∀ k, cnt n F name Ru k ≤ k
  | 0 => Nat.le_refl _
  | k + 1 => by have := cnt_le n F name Ru k; simp only [cnt]; split <;> omega

set_option maxHeartbeats 400000 in
theorem attached_any (a q : Option Addr) (n c m mc : Nat) (F : Nat → Nat → ByteArray) (name : ByteArray) (Ru : Nat → ByteArray) (w : World) (hn : n ≤ 1048576) (hm : m ≤ 1048576) (hR : Refs w a n F) (hU : Rules w q m Ru) :
    Calls Try.prog 10 #[.slice a n c, .string name, .agg #[.slice none 0 0, .slice none 0 0, .slice q m mc]] w fun e w' => e = .returned (.int .i64 (cnt n F name Ru m)) ∧ Below w.heap.size w w' := by
  have HR : Hid (Refs w a n F) := hR
  have HU : Hid (Rules w q m Ru) := hU
  clear hR hU
  go_enter Try.func10, Try.ntmps10
  go_wp2
  go_loopw [7, 13] (fun t i wr => ∃ k : Nat, k ≤ m ∧ i = .int .i64 k ∧ t = .int .i64 (cnt n F name Ru k) ∧ Below w.heap.size w wr ∧ w.heap.size < wr.heap.size ∧ wr.cell? ⟨w.heap.size, 0, none⟩ = some (.string name)) (fun _ i _ => m - (intOf i).toNat)
  case atStart => exact ⟨0, Nat.zero_le _, rfl, rfl, ((Below.refl _ _).alloc (Nat.le_refl _) _).alloc (by simp) _, by simp; omega, by simp [go_sem]⟩
  case round =>
    obtain ⟨k, hk, rfl, rfl, hb, hz, hnm⟩ := hrel
    have hcl := cnt_le n F name Ru k
    by_cases hlt : k < m
    · obtain ⟨b, off, rfl, hc⟩ : ∃ b off, q = some ⟨b, off, none⟩ ∧ ∀ j, j < m → wr.cell? ⟨b, off + j * 4, none⟩ = some (.string (Ru j)) ∧ wr.cell? ⟨b, off + j * 4 + 1, none⟩ = some (.slice none 0 0) ∧ wr.cell? ⟨b, off + j * 4 + 2, none⟩ = some (.slice none 0 0) ∧ wr.cell? ⟨b, off + j * 4 + 3, none⟩ = some (.slice none 0 0) := by
        rcases HU.out.below hb with h | h
        · omega
        · exact h
      obtain ⟨c0, c1, c2, c3⟩ := hc k hlt
      clear hc
      have HCr : Hid (Capt (wr.alloc (.cells #[.string (Ru k), .slice none 0 0, .slice none 0 0, .slice none 0 0] 50)) w.heap.size wr.heap.size name (Ru k)) :=
        ⟨by rw [World.cell?_alloc_lt _ _ _ (by show w.heap.size < _; omega)]; exact hnm, by simp [go_sem], by simp [go_sem], by simp [go_sem], by simp [go_sem]⟩
      have HRr : Hid (Refs (wr.alloc (.cells #[.string (Ru k), .slice none 0 0, .slice none 0 0, .slice none 0 0] 50)) a n F) := (HR.out.below hb).below ((Below.refl _ _).alloc (Nat.le_refl _) _)
      have HN : Hid (wr.cell? ⟨w.heap.size, 0, none⟩ = some (.string name)) := hnm
      have C : Hid _ := contains_any a n c F name (Ru k) w.heap.size wr.heap.size _ hn HRr.out HCr.out
      have hcn : Hid (cnt n F name Ru (k + 1) = cnt n F name Ru k + if anyB n F name (Ru k) then 1 else 0) := rfl
      cases hv : anyB n F name (Ru k) with
      | true =>
        rw [hv] at C
        have hcn' : Hid (cnt n F name Ru (k + 1) = cnt n F name Ru k + 1) := by rw [hcn.out, hv]; rfl
        clear hv hcn
        go_wp2_with fail
        refine Calls.mono C.out ?_
        rintro e w1 ⟨rfl, hb1⟩
        have hb2 : Below wr.heap.size wr w1 := ((Below.refl _ _).alloc (Nat.le_refl _) _).trans (hb1.mono (by simp))
        clear hb1 C
        go_wp2
        go_roundw
        case rel => exact ⟨k + 1, by omega, by go_num, by rw [hcn'.out]; go_num, hb.trans (hb2.mono hb.size), Nat.lt_of_lt_of_le hz hb2.size, (hb2.cell (p := ⟨w.heap.size, 0, none⟩) hz).trans HN.out⟩
        case measure => simp [intOf]; omega
      | false =>
        rw [hv] at C
        have hcn' : Hid (cnt n F name Ru (k + 1) = cnt n F name Ru k) := by rw [hcn.out, hv]; rfl
        clear hv hcn
        go_wp2_with fail
        refine Calls.mono C.out ?_
        rintro e w1 ⟨rfl, hb1⟩
        have hb2 : Below wr.heap.size wr w1 := ((Below.refl _ _).alloc (Nat.le_refl _) _).trans (hb1.mono (by simp))
        clear hb1 C
        go_wp2
        go_roundw
        case rel => exact ⟨k + 1, by omega, by go_num, by rw [hcn'.out], hb.trans (hb2.mono hb.size), Nat.lt_of_lt_of_le hz hb2.size, (hb2.cell (p := ⟨w.heap.size, 0, none⟩) hz).trans HN.out⟩
        case measure => simp [intOf]; omega
    · obtain rfl : k = m := by omega
      go_wp2
      go_ret
      exact ⟨rfl, hb⟩
end Go.Proofs.Qxb6612468a
