import Derived.Test.Qxb6612468aRows
import Derived.WalkKit
import Derived.WalkSpells
import Derived.WalkLawsBesides
import Derived.Deep.OwnRows
import Derived.Laws.IdiomStrings
namespace Go.Proofs.Qxb6612468a
open Go.RowKit
set_option linter.unusedVariables false

def upN (n : Nat) : Nat := if 97 ≤ n ∧ n ≤ 122 then n - 32 else n
def lowN (n : Nat) : Nat := if 65 ≤ n ∧ n ≤ 90 then n + 32 else n
/-- s equals l when ASCII case is ignored (l lower case). -/
def Fold (s l : ByteArray) : Prop := s.size = l.size ∧ ∀ j (h : j < s.size) (h' : j < l.size), lowN s[j].toNat = l[j].toNat
def nums (s : ByteArray) : List Nat := s.data.toList.map (·.toNat)
def foldB (s l : ByteArray) : Bool := ((nums s).map lowN == nums l)
def validB (s : ByteArray) : Bool := (nums s == [84, 67, 80]) || (nums s == [85, 68, 80]) || (nums s == [83, 67, 84, 80])

theorem foldB_iff (s l : ByteArray) : foldB s l = true ↔ Fold s l := by
  unfold foldB Fold nums
  rw [beq_iff_eq]
  constructor
  · intro h
    have hl : s.size = l.size := by simpa using congrArg List.length h
    refine ⟨hl, fun j h1 h2 => ?_⟩
    have := congrArg (·[j]?) h
    show lowN (s.data[j]).toNat = (l.data[j]).toNat
    simpa [h1, h2] using this
  · rintro ⟨hl, h⟩
    apply List.ext_getElem
    · simpa using hl
    · intro j h1 h2
      simp at h1 h2 ⊢
      exact h j h1 h2

theorem nums_eq (s : ByteArray) (l : List UInt8) : nums s = l.map (·.toNat) ↔ s.toList = l := by
  rw [ByteArray.toList_eq]
  unfold nums
  constructor
  · intro h
    exact List.map_inj_right (fun a b e => UInt8.toNat_inj.1 e) |>.1 h
  · intro h; rw [h]

theorem ret_bool {a b : Bool} (h : a = b) : Ending.returned (.bool a) = .returned (.bool b) := by rw [h]

theorem valid_any (s : ByteArray) (w : World) : Calls Try.prog 16 #[.string s] w fun e w' => e = .returned (.bool (validB s)) ∧ w' = w := by
  have e1 := nums_eq s [84, 67, 80]
  have e2 := nums_eq s [85, 68, 80]
  have e3 := nums_eq s [83, 67, 84, 80]
  have E : Hid (validB s = ((s.toList == [84, 67, 80]) || (s.toList == [85, 68, 80]) || (s.toList == [83, 67, 84, 80]))) := by
    show _ = _
    unfold validB
    rw [Bool.eq_iff_iff]
    simp only [Bool.or_eq_true, beq_iff_eq]
    exact or_congr (or_congr e1 e2) e3
  clear e1 e2 e3
  go_enter Try.func16, Try.ntmps16
  go_wp2
  all_goals
    go_ret
    refine ⟨ret_bool ?_, rfl⟩
    rw [E.out]
    try simp [*]

theorem fold_no {s l : ByteArray} {k : Nat} (h : k < s.size) (h' : k < l.size) (hne : lowN s[k].toNat ≠ l[k].toNat) : foldB s l = false := by
  rw [Bool.eq_false_iff]
  intro e
  exact hne (((foldB_iff s l).1 e).2 k h h')

theorem fold_step {s l : ByteArray} {k : Nat} (h : k < s.size) (h' : k < l.size) (hq : Hid (∀ j (h : j < s.size) (h' : j < l.size), j < k → lowN s[j].toNat = l[j].toNat)) (he : lowN s[k].toNat = l[k].toNat) : Hid (∀ j (h : j < s.size) (h' : j < l.size), j < k + 1 → lowN s[j].toNat = l[j].toNat) := by
  intro j a b c
  by_cases e : j = k
  · subst e; exact he
  · exact hq.out j a b (by omega)

theorem low_in {x : Nat} (h1 : (65 : Int) ≤ x) (h2 : (x : Int) ≤ 90) : lowN x = x + 32 := by unfold lowN; rw [if_pos (by omega)]
theorem low_lo {x : Nat} (h1 : (x : Int) < 65) : lowN x = x := by unfold lowN; rw [if_neg (by omega)]
theorem low_hi {x : Nat} (h1 : (90 : Int) < x) : lowN x = x := by unfold lowN; rw [if_neg (by omega)]

set_option maxHeartbeats 400000 in
theorem fold_any (s l : ByteArray) (w : World) (hs : s.size ≤ 1048576) (hl : l.size ≤ 1048576) : Calls Try.prog 15 #[.string s, .string l] w fun e w' => e = .returned (.bool (foldB s l)) ∧ w' = w := by
  by_cases hsz : s.size = l.size
  · have HS : Hid (s.size = l.size) := hsz
    have hle : s.size ≤ l.size := by omega
    have hne : ((s.size : Int) != (l.size : Int)) = false := by simp [hsz]
    clear hsz
    go_enter Try.func15, Try.ntmps15
    go_wp2
    go_loop [5] (fun i => ∃ k : Nat, k ≤ s.size ∧ i = .int .i64 k ∧ Hid (∀ j (h : j < s.size) (h' : j < l.size), j < k → lowN s[j].toNat = l[j].toNat)) (fun i => s.size - (intOf i).toNat)
    case atStart => exact ⟨0, Nat.zero_le _, rfl, fun j _ _ h => by omega⟩
    case round =>
      obtain ⟨k, hk, rfl, hq⟩ := hrel
      by_cases hlt : k < s.size
      · have hlt' : k < l.size := by omega
        rcases (show (65 ≤ s[k].toNat ∧ s[k].toNat ≤ 90) ∨ s[k].toNat < 65 ∨ 90 < s[k].toNat from by omega) with ⟨b1, b2⟩ | b1 | b1
        · have E : Hid (lowN s[k].toNat = s[k].toNat + 32) := low_in (by omega) (by omega)
          by_cases he : s[k].toNat + 32 = l[k].toNat
          · have R := fold_step hlt hlt' hq (by rw [E.out, he])
            have hb : ((s[k].toNat : Int) + 32 != (l[k].toNat : Int)) = false := by simp; omega
            clear he
            go_wp2
            go_round
            case rel => exact ⟨k + 1, by omega, by go_num, R⟩
            case measure => simp [intOf]; omega
          · have R := fold_no hlt hlt' (by rw [E.out]; exact he)
            have hb : ((s[k].toNat : Int) + 32 != (l[k].toNat : Int)) = true := by simp; omega
            have RH : Hid (foldB s l = false) := R
            clear he R
            go_wp2
            go_ret
            exact ⟨ret_bool RH.out.symm, rfl⟩
        · have E : Hid (lowN s[k].toNat = s[k].toNat) := low_lo (by omega)
          by_cases he : s[k].toNat = l[k].toNat
          · have R := fold_step hlt hlt' hq (by rw [E.out, he])
            have hb : ((s[k].toNat : Int) != (l[k].toNat : Int)) = false := by simp; omega
            clear he
            go_wp2
            go_round
            case rel => exact ⟨k + 1, by omega, by go_num, R⟩
            case measure => simp [intOf]; omega
          · have R := fold_no hlt hlt' (by rw [E.out]; exact he)
            have hb : ((s[k].toNat : Int) != (l[k].toNat : Int)) = true := by simp; omega
            have RH : Hid (foldB s l = false) := R
            clear he R
            go_wp2
            go_ret
            exact ⟨ret_bool RH.out.symm, rfl⟩
        · have E : Hid (lowN s[k].toNat = s[k].toNat) := low_hi (by omega)
          by_cases he : s[k].toNat = l[k].toNat
          · have R := fold_step hlt hlt' hq (by rw [E.out, he])
            have hb : ((s[k].toNat : Int) != (l[k].toNat : Int)) = false := by simp; omega
            clear he
            go_wp2
            go_round
            case rel => exact ⟨k + 1, by omega, by go_num, R⟩
            case measure => simp [intOf]; omega
          · have R := fold_no hlt hlt' (by rw [E.out]; exact he)
            have hb : ((s[k].toNat : Int) != (l[k].toNat : Int)) = true := by simp; omega
            have RH : Hid (foldB s l = false) := R
            clear he R
            go_wp2
            go_ret
            exact ⟨ret_bool RH.out.symm, rfl⟩
      · have RH : Hid (foldB s l = true) := (foldB_iff s l).2 ⟨HS.out, fun j h h' => hq.out j h h' (by omega)⟩
        go_wp2
        go_ret
        exact ⟨ret_bool RH.out.symm, rfl⟩
  · have hne : ((s.size : Int) != (l.size : Int)) = true := by simp; omega
    have RH : Hid (foldB s l = false) := by
      show _ = _
      rw [Bool.eq_false_iff]; exact fun e => hsz ((foldB_iff s l).1 e).1
    go_enter Try.func15, Try.ntmps15
    go_wp2
    go_ret
    exact ⟨ret_bool RH.out.symm, rfl⟩

theorem info5 : (Try.prog.info? 5).map (fun i => (i.zero, i.size, i.bytes)) = some (some (.int .u8 0), 1, 1) := by kernel_rfl

/-- The bytes of b after k rounds. -/
def upAt (s : ByteArray) (k j : Nat) : Value := .int .u8 ((if j < k then upN (s.data.toList.getD j 0).toNat else 0 : Nat) : Int)
theorem upAt_step (s : ByteArray) (k : Nat) (h : k < s.size) (x : Nat) (hx : upN s[k].toNat = x) (j : Nat) : (if j = k then .int .u8 (x : Int) else upAt s k j) = upAt s (k + 1) j := by
  by_cases e : j = k
  · subst e
    have : s.data.toList.getD j 0 = s[j] := by
      rw [List.getD, List.getElem?_eq_getElem (by simpa using h)]; rfl
    simp only [upAt, if_true, Nat.lt_succ_self, this, hx]
  · have : (j < k + 1) = (j < k) := by rw [eq_iff_iff]; omega
    simp only [upAt, if_neg e, this]
def upL (s : ByteArray) : List UInt8 := s.data.toList.map fun c => UInt8.ofNat (upN c.toNat)
theorem upN_lt {n : Nat} (h : n < 256) : upN n < 256 := by unfold upN; split <;> omega
theorem upL_cells {s : ByteArray} {w : World} {B : Nat} (h : Hid (w.rowIs B 5 s.size (upAt s s.size))) : ∀ j (hj : j < (upL s).length), w.cell? ((⟨B, 0, none⟩ : Addr).add j) = some (.int .u8 ((upL s)[j].toNat : Int)) := by
  intro j hj
  have hj' : j < s.size := by simpa [upL] using hj
  rw [Addr.add_lit, Nat.zero_add, h.out.cell hj']
  have hl := upN_lt (s.data.toList[j]'(by simpa using hj')).toNat_lt
  simp only [upAt, if_pos hj', upL, List.getElem_map, List.getD, List.getElem?_eq_getElem (show j < s.data.toList.length by simpa using hj'), Option.getD_some]
  rw [UInt8.toNat_ofNat_of_lt' hl]
theorem nums_upL (s : ByteArray) : nums ⟨(upL s).toArray⟩ = (nums s).map upN := by
  simp only [nums, upL, List.map_map]
  apply List.map_congr_left
  intro c _
  exact UInt8.toNat_ofNat_of_lt' (upN_lt c.toNat_lt)
theorem up_in {x : Nat} (h1 : 97 ≤ x) (h2 : x ≤ 122) : upN x = x - 32 := by unfold upN; rw [if_pos (by omega)]
theorem up_out {x : Nat} (h1 : x < 97 ∨ 122 < x) : upN x = x := by unfold upN; rw [if_neg (by omega)]

set_option maxHeartbeats 400000 in
theorem upper_any (s : ByteArray) (w : World) (hs : s.size ≤ 1048576) : Calls Try.prog 14 #[.string s] w fun e w' => ∃ u : ByteArray, e = .returned (.string u) ∧ nums u = (nums s).map upN ∧ Below w.heap.size w w' := by
  have hmk := run_make_row' (P := Try.prog) 55 5 (.int .u8 0) 1 Try.underlying55 info5 rfl .i64 .i64 s.size (by omega) (by omega)
  go_enter Try.func14, Try.ntmps14
  go_wp2
  go_loopw [4] (fun i wr => ∃ k : Nat, k ≤ s.size ∧ i = .int .i64 k ∧ Hid (wr.rowIs w.heap.size 5 s.size (upAt s k)) ∧ Below w.heap.size w wr) (fun i _ => s.size - (intOf i).toNat)
  case atStart => exact ⟨0, Nat.zero_le _, rfl, (World.rowIs_made w _ _ _).congr (fun i _ => by simp [upAt]), (Below.refl _ _).alloc (Nat.le_refl _) _⟩
  case round =>
    obtain ⟨k, hk, rfl, hr, hb⟩ := hrel
    by_cases hlt : k < s.size
    · have hc := hr.out.cell hlt
      have hf := hr.out.frozen k
      obtain ⟨v0, hv0⟩ : ∃ v0, wr.cell? ⟨w.heap.size, k, none⟩ = some v0 := ⟨_, hc⟩
      clear hc
      rcases (show (97 ≤ s[k].toNat ∧ s[k].toNat ≤ 122) ∨ s[k].toNat < 97 ∨ 122 < s[k].toNat from by omega) with ⟨b1, b2⟩ | b1 | b1
      · have R : Hid ((wr.setCell ⟨w.heap.size, k, none⟩ (.int .u8 ((s[k].toNat : Int) - 32))).rowIs w.heap.size 5 s.size (upAt s (k + 1))) := by
          have := hr.out.set k (.int .u8 ((s[k].toNat : Int) - 32))
          refine this.congr fun i _ => ?_
          rw [← upAt_step s k hlt _ (up_in b1 b2) i]
          rw [show ((s[k].toNat - 32 : Nat) : Int) = (s[k].toNat : Int) - 32 from by omega]
        go_wp2
        go_roundw
        case rel => exact ⟨k + 1, by omega, by go_num, R, hb.setCell (Nat.le_refl _) _⟩
        case measure => simp [intOf]; omega
      all_goals
        have R : Hid ((wr.setCell ⟨w.heap.size, k, none⟩ (.int .u8 (s[k].toNat : Int))).rowIs w.heap.size 5 s.size (upAt s (k + 1))) := by
          have := hr.out.set k (.int .u8 (s[k].toNat : Int))
          exact this.congr fun i _ => upAt_step s k hlt _ (up_out (by omega)) i
        go_wp2
        go_roundw
        case rel => exact ⟨k + 1, by omega, by go_num, R, hb.setCell (Nat.le_refl _) _⟩
        case measure => simp [intOf]; omega
    · obtain rfl : k = s.size := by omega
      have hcv := run_convert_bytes_back (P := Try.prog) wr 55 9 5 ⟨w.heap.size, 0, none⟩ s.size (upL s) Try.underlying55 Try.underlying5 Try.underlying9 (upL_cells hr)
      rw [show (upL s).length = s.size from by simp [upL]] at hcv
      go_wp2
      go_ret
      exact ⟨_, rfl, nums_upL s, hb⟩
end Go.Proofs.Qxb6612468a
