import Derived.Test.Qxb6612468aBu
namespace Go.Proofs.Qxb6612468a
open Go.RowKit
set_option linter.unusedVariables false

theorem refs_of_row {w : World} {O N k : Nat} {F : Nat → Nat → ByteArray} (h : w.rowIs O 35 (N * 4) (outAt F k)) (hk : k ≤ N) : Refs w (some ⟨O, 0, none⟩) k F := by
  refine Or.inr ⟨O, 0, rfl, fun i q hi hq => ?_⟩
  rw [Nat.zero_add, h.cell (by omega)]
  have e1 : (i * 4 + q) / 4 = i := by omega
  have e2 : (i * 4 + q) % 4 = q := by omega
  simp only [outAt, e1, e2, if_pos hi]
theorem rules_of_row {w : World} {Q m : Nat} {Ru : Nat → ByteArray} (h : w.rowIs Q 50 (m * 4) (ruleAt Ru m)) : Rules w (some ⟨Q, 0, none⟩) m Ru := by
  refine Or.inr ⟨Q, 0, rfl, fun j hj => ?_⟩
  have e : ∀ q, q < 4 → w.cell? ⟨Q, j * 4 + q, none⟩ = some (ruleAt Ru m (j * 4 + q)) := fun q hq => h.cell (by omega)
  have e1 : ∀ q, q < 4 → (j * 4 + q) / 4 = j := fun q hq => by omega
  have e2 : ∀ q, q < 4 → (j * 4 + q) % 4 = q := fun q hq => by omega
  rw [Nat.zero_add]
  refine ⟨?_, ?_, ?_, ?_⟩
  · have := e 0 (by omega)
    simpa [ruleAt, hj] using this
  · rw [e 1 (by omega)]; simp [ruleAt, e2 1 (by omega)]
  · rw [e 2 (by omega)]; simp [ruleAt, e2 2 (by omega)]
  · rw [e 3 (by omega)]; simp [ruleAt, e2 3 (by omega)]

/-- The refs and one more that names the route with no section. -/
def wider (F : Nat → Nat → ByteArray) (n : Nat) (name : ByteArray) (i q : Nat) : ByteArray := if i < n then F i q else if q = 2 then name else em
theorem wider_step {w : World} {O n : Nat} {F : Nat → Nat → ByteArray} {name : ByteArray} (h : w.rowIs O 35 ((n + 1) * 4) (outAt F n)) :
    ((((w.setCell ⟨O, n * 4, none⟩ (.string em)).setCell ⟨O, n * 4 + 1, none⟩ (.string em)).setCell ⟨O, n * 4 + 2, none⟩ (.string name)).setCell ⟨O, n * 4 + 3, none⟩ (.string em)).rowIs O 35 ((n + 1) * 4) (outAt (wider F n name) (n + 1)) := by
  have h' : w.rowIs O 35 ((n + 1) * 4) (outAt (wider F n name) n) := h.congr fun j _ => by
    unfold outAt wider
    by_cases e : j / 4 < n
    · rw [if_pos e, if_pos e, if_pos e]
    · rw [if_neg e, if_neg e]
  have := out_step h'
  simpa [wider] using this
theorem wider_cnt (F : Nat → Nat → ByteArray) (n : Nat) (name : ByteArray) (Ru : Nat → ByteArray) : ∀ k, cnt (n + 1) (wider F n name) name Ru k = k
  | 0 => rfl
  | k + 1 => by
    have h : anyB (n + 1) (wider F n name) name (Ru k) = true := any_yes (i := n) (by omega) (by simp [wider, covB, em, ByteArray.toList_eq])
    simp only [cnt, wider_cnt F n name Ru k, h, if_true]

theorem row_set4 {w : World} {O O2 t N p : Nat} {f : Nat → Value} {u0 u1 u2 u3 : Value} (h : w.rowIs O t N f) (hne : O ≠ O2) : ((((w.setCell ⟨O2, p, none⟩ u0).setCell ⟨O2, p + 1, none⟩ u1).setCell ⟨O2, p + 2, none⟩ u2).setCell ⟨O2, p + 3, none⟩ u3).rowIs O t N f :=
  (((h.setOther (a := ⟨O2, p, none⟩) hne u0).setOther (a := ⟨O2, p + 1, none⟩) hne u1).setOther (a := ⟨O2, p + 2, none⟩) hne u2).setOther (a := ⟨O2, p + 3, none⟩) hne u3
theorem below_set4 {w0 w : World} {B O2 p : Nat} {u0 u1 u2 u3 : Value} (h : Below B w0 w) (hO : B ≤ O2) : Below B w0 ((((w.setCell ⟨O2, p, none⟩ u0).setCell ⟨O2, p + 1, none⟩ u1).setCell ⟨O2, p + 2, none⟩ u2).setCell ⟨O2, p + 3, none⟩ u3) :=
  (((h.setCell (p := ⟨O2, p, none⟩) hO u0).setCell (p := ⟨O2, p + 1, none⟩) hO u1).setCell (p := ⟨O2, p + 2, none⟩) hO u2).setCell (p := ⟨O2, p + 3, none⟩) hO u3

set_option maxHeartbeats 1000000 in
set_option maxRecDepth 100000 in
theorem whole_walk (a s : Option Addr) (n c m mc : Nat) (F : Nat → Nat → ByteArray) (name : ByteArray) (Ru : Nat → ByteArray) (w : World) (hn : n ≤ maxLen) (hm : m ≤ maxLen) (hR : Refs w a n F) (hS : Strs w s m Ru) :
    Calls Try.prog 4 #[.slice a n c, .string name, .slice s m mc] w fun e w' => e = .returned (.bool true) ∧ Below w.heap.size w w' := by
  have B : Hid _ := bytes12 a s n c m mc F name Ru w hn hm hR hS
  unfold maxLen at hn hm
  by_cases h1 : n ≤ 4096
  · by_cases h2 : m ≤ 4096
    · have A : Hid _ := abytes_any a s n c m mc F name Ru w h1 h2 hR hS
      have HR : Hid (Refs w a n F) := hR
      have HS : Hid (Strs w s m Ru) := hS
      clear hR hS
      go_enter Try.func4, Try.ntmps4
      go_wp2_with fail
      refine Calls.mono B.out ?_
      rintro e w1 ⟨⟨r, rfl⟩, rfl⟩
      cases r with
      | false =>
        go_wp2
        go_ret
        exact ⟨rfl, Below.refl _ _⟩
      | true =>
        go_wp2_with fail
        refine Calls.mono A.out ?_
        rintro e w2 ⟨⟨t, rfl, ht0, ht1⟩, rfl⟩
        by_cases ht : 1048576 < t
        · go_wp2
          go_ret
          exact ⟨rfl, Below.refl _ _⟩
        · go_wp2_with fail
          refine (build_any a s n c m mc 0 F Ru w2 h1 h2 (by omega) HR.out HS.out).mono ?_
          rintro e w3 ⟨O, Q, rfl, hO, hQ, hr, hq, hb⟩
          have hba : Below w3.heap.size w3 (w3.alloc (.cells #[.slice none 0 0, .slice none 0 0, .slice (some ⟨Q, 0, none⟩) m m] 30)) := (Below.refl _ _).alloc (Nat.le_refl _) _
          have C1 : Hid _ := attached_any (some ⟨O, 0, none⟩) (some ⟨Q, 0, none⟩) n n m m F name Ru _ (by omega) (by omega) ((refs_of_row hr (by omega)).below hba) ((rules_of_row hq).below hba)
          have hl1 := cnt_le n F name Ru m
          clear hr hq hO hQ A B
          go_wp2_with fail
          refine Calls.mono C1.out ?_
          rintro e w4 ⟨rfl, hb4⟩
          have hb5 : Below w2.heap.size w2 w4 := hb.trans ((hba.trans (hb4.mono hba.size)).mono hb.size)
          clear hb4 hba hb C1
          go_wp2_with fail
          refine (build_any a s n c m mc 1 F Ru w4 h1 h2 (by omega) (HR.out.below hb5) (HS.out.below hb5)).mono ?_
          rintro e w5 ⟨O2, Q2, rfl, hO, hQ, hr, hq, hb⟩
          have hb6 : Below w2.heap.size w2 w5 := hb5.trans (hb.mono hb5.size)
          have hO2 : w2.heap.size ≤ O2 := Nat.le_trans hb5.size hO
          have hO5 := hr.lt
          have hba : Below w5.heap.size w5 (w5.alloc (.cells #[.slice none 0 0, .slice none 0 0, .slice (some ⟨Q2, 0, none⟩) m m] 30)) := (Below.refl _ _).alloc (Nat.le_refl _) _
          obtain ⟨⟨v0, d0⟩, ⟨v1, d1⟩, ⟨v2, d2⟩, ⟨v3, d3⟩, df⟩ := row_four hr (k := n) (by omega)
          have W1 : Hid _ := wider_step (name := name) hr
          have W2 : Hid (w5.rowIs Q2 50 (m * 4) (ruleAt Ru m)) := hq
          clear hr hq hb hb5
          have W3 : Hid _ := row_set4 (O2 := O2) (p := n * 4) (u0 := .string em) (u1 := .string em) (u2 := .string name) (u3 := .string em) W2.out (by omega)
          have hb7 : Hid _ := below_set4 (O2 := O2) (p := n * 4) (u0 := .string em) (u1 := .string em) (u2 := .string name) (u3 := .string em) hb6 hO2
          obtain ⟨W, hW⟩ : ∃ W, W = (((w5.setCell ⟨O2, n * 4, none⟩ (.string em)).setCell ⟨O2, n * 4 + 1, none⟩ (.string em)).setCell ⟨O2, n * 4 + 2, none⟩ (.string name)).setCell ⟨O2, n * 4 + 3, none⟩ (.string em) := ⟨_, rfl⟩
          rw [← hW] at W1 W3 hb7
          have hbW : Below W.heap.size W (W.alloc (.cells #[.slice none 0 0, .slice none 0 0, .slice (some ⟨Q2, 0, none⟩) m m] 30)) := (Below.refl _ _).alloc (Nat.le_refl _) _
          have C2 : Hid _ := attached_any (some ⟨O2, 0, none⟩) (some ⟨Q2, 0, none⟩) (n + 1) (n + 1) m m (wider F n name) name Ru _ (by omega) (by omega) ((refs_of_row W1.out (Nat.le_refl _)).below hbW) ((rules_of_row W3.out).below hbW)
          rw [wider_cnt] at C2
          have hb8 : Hid (Below w2.heap.size w2 (W.alloc (.cells #[.slice none 0 0, .slice none 0 0, .slice (some ⟨Q2, 0, none⟩) m m] 30))) := hb7.out.trans (hbW.mono hb7.out.size)
          clear W1 W2 W3 hb7 hbW
          rw [hW] at C2 hb8
          clear hW
          go_wp2_with fail
          refine Calls.mono C2.out ?_
          rintro e w6 ⟨rfl, hb9⟩
          have hbf := hb8.out.trans (hb9.mono hb8.out.size)
          clear hb9 hb8 C2 hba
          go_wp2
          go_ret
          exact ⟨rfl, hbf⟩
    · have A1 : (4096 : Int) < (m : Int) := by omega
      clear hR hS
      go_enter Try.func4, Try.ntmps4
      go_wp2_with fail
      refine Calls.mono B.out ?_
      rintro e w1 ⟨⟨r, rfl⟩, rfl⟩
      cases r
      all_goals
        go_wp2
        go_ret
        exact ⟨rfl, Below.refl _ _⟩
  · have A1 : (4096 : Int) < (n : Int) := by omega
    clear hR hS
    go_enter Try.func4, Try.ntmps4
    go_wp2_with fail
    refine Calls.mono B.out ?_
    rintro e w1 ⟨⟨r, rfl⟩, rfl⟩
    cases r
    all_goals
      go_wp2
      go_ret
      exact ⟨rfl, Below.refl _ _⟩
end Go.Proofs.Qxb6612468a
