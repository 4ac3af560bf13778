import Derived.Test.Qxb6612468aRows
import Derived.Test.Qxb6612468aVp
import Derived.WalkKit
import Derived.ProofKit
import Derived.OpenShut
import Derived.ShutString
namespace Go.Proofs.Qxb6612468a.fnValidProtocolCaseSensitive
open Go.ChangeShapes Go.WideShapes Go.ChangeAt Go.RowKit
open Go.ChangeMaps (open_string shut_string)
set_option linter.unusedVariables false      -- a walk need not use every 'w<i>' (that an integer argument fits its kind)

theorem own : ownKnob Try.prog.godebug = none := by kernel_rfl


theorem bytes_fits (p : ByteArray) (w : World) : Calls Try.prog 13 #[.string p] w fun e w' => e = .returned (.bool (decide (p.size ≤ 1048576))) ∧ w' = w := by
  by_cases h : p.size ≤ 1048576
  · go_enter Try.func13, Try.ntmps13
    go_wp2
    go_ret
    exact ⟨by simp [h], rfl⟩
  · go_enter Try.func13, Try.ntmps13
    go_wp2
    go_ret
    exact ⟨by simp [h], rfl⟩

/-! ### THE PLAIN LAW -/
def lowT : ByteArray := ⟨#[116, 99, 112]⟩
def lowU : ByteArray := ⟨#[117, 100, 112]⟩
def lowS : ByteArray := ⟨#[115, 99, 116, 112]⟩
theorem cross (n x : Nat) (h : 65 ≤ x ∧ x ≤ 90) : upN n = x ↔ lowN n = x + 32 := by
  unfold upN lowN
  constructor
  · intro e
    split at e <;> split <;> omega
  · intro e
    split at e <;> split <;> omega
theorem cross_list (xs : List Nat) (hx : ∀ x ∈ xs, 65 ≤ x ∧ x ≤ 90) : ∀ l : List Nat, l.map upN = xs ↔ l.map lowN = xs.map (· + 32) := by
  induction xs with
  | nil => intro l; simp
  | cons x xs ih =>
    intro l
    cases l with
    | nil => simp
    | cons n l =>
      simp only [List.map_cons, List.cons.injEq]
      exact and_congr (cross n x (hx x (by simp))) (ih (fun y hy => hx y (by simp [hy])) l)
theorem up_id (xs : List Nat) (hx : ∀ x ∈ xs, 65 ≤ x ∧ x ≤ 90) : xs.map upN = xs := by
  induction xs with
  | nil => rfl
  | cons x xs ih =>
    have h := hx x (by simp)
    rw [List.map_cons, ih (fun y hy => hx y (by simp [hy]))]
    have : upN x = x := by unfold upN; rw [if_neg (by omega)]
    rw [this]
theorem law_up {p u : ByteArray} (hu : nums u = (nums p).map upN) : validB u = (foldB p lowT || foldB p lowU || foldB p lowS) := by
  unfold validB foldB
  rw [hu, Bool.eq_iff_iff]
  simp only [Bool.or_eq_true, beq_iff_eq]
  exact or_congr (or_congr (cross_list [84, 67, 80] (by decide) _) (cross_list [85, 68, 80] (by decide) _)) (cross_list [83, 67, 84, 80] (by decide) _)
theorem nums_inj {p u : ByteArray} : nums p = nums u ↔ p.toList = u.toList := by
  rw [ByteArray.toList_eq, ByteArray.toList_eq]
  unfold nums
  exact List.map_inj_right (fun a b e => UInt8.toNat_inj.1 e)
theorem law_self {p u : ByteArray} (hu : nums u = (nums p).map upN) : validB p = (validB u && (p.toList == u.toList)) := by
  rw [Bool.eq_iff_iff]
  simp only [Bool.and_eq_true, beq_iff_eq, ← nums_inj]
  have same : nums p = nums u → validB p = validB u := fun h => by unfold validB; rw [h]
  constructor
  · intro h
    have e : nums p = nums u := by
      have h' := h
      unfold validB at h'
      simp only [Bool.or_eq_true, beq_iff_eq] at h'
      rw [hu]
      rcases h' with (h' | h') | h' <;> rw [h'] <;> exact (up_id _ (by decide)).symm
    exact ⟨(same e) ▸ h, e⟩
  · rintro ⟨a, b⟩
    rw [same b]; exact a

/-! ### THE WALK -/
theorem walk (a0 : ByteArray) (w0 : a0.size ≤ maxLen) (w : World) :
    Calls Try.prog 5 #[.string a0] w fun e w' => e = .returned (.bool true) ∧ Below w.heap.size w w' := by
  by_cases h : a0.size ≤ 1048576
  · have hd : decide (a0.size ≤ 1048576) = true := by simp [h]
    have f1 := fun w => fold_any a0 lowT w h (by decide)
    have f2 := fun w => fold_any a0 lowU w h (by decide)
    have f3 := fun w => fold_any a0 lowS w h (by decide)
    have F1 : Hid _ := f1
    have F2 : Hid _ := f2
    have F3 : Hid _ := f3
    clear f1 f2 f3
    go_enter Try.func5, Try.ntmps5
    go_wp2_with fail
    refine (bytes_fits _ _).mono ?_
    rintro e w1 ⟨rfl, rfl⟩
    go_wp2_with fail
    refine (upper_any a0 _ h).mono ?_
    rintro e w2 ⟨u, rfl, hu, hb⟩
    have L1 := law_up hu
    have L2 := law_self hu
    clear hu
    have VU : Hid _ := fun w => valid_any u w
    have VP : Hid _ := fun w => valid_any a0 w
    obtain ⟨vu, hvu⟩ : ∃ vu, validB u = vu := ⟨_, rfl⟩
    obtain ⟨vp, hvp⟩ : ∃ vp, validB a0 = vp := ⟨_, rfl⟩
    obtain ⟨q, hq⟩ : ∃ q, (a0.toList == u.toList) = q := ⟨_, rfl⟩
    obtain ⟨b1, hb1⟩ : ∃ b, foldB a0 lowT = b := ⟨_, rfl⟩
    obtain ⟨b2, hb2⟩ : ∃ b, foldB a0 lowU = b := ⟨_, rfl⟩
    obtain ⟨b3, hb3⟩ : ∃ b, foldB a0 lowS = b := ⟨_, rfl⟩
    rw [hvu, hb1, hb2, hb3] at L1
    rw [hvp, hvu, hq] at L2
    rw [hvu] at VU
    rw [hvp] at VP
    rw [hb1] at F1
    rw [hb2] at F2
    rw [hb3] at F3
    clear hvu hvp hb1 hb2 hb3
    go_wp2_with fail
    refine Calls.mono (F1.out _) ?_
    rintro e w3 ⟨rfl, rfl⟩
    cases b1 with
    | true =>
      obtain rfl : vu = true := by simpa using L1
      cases q
      · obtain rfl : vp = false := by simpa using L2
        clear L1 L2
        go_wp2_with fail
        refine Calls.mono (VU.out _) ?_
        rintro e w4 ⟨rfl, rfl⟩
        go_wp2_with fail
        refine Calls.mono (VP.out _) ?_
        rintro e w5 ⟨rfl, rfl⟩
        go_wp2
        go_ret
        exact ⟨rfl, hb⟩
      · obtain rfl : vp = true := by simpa using L2
        clear L1 L2
        go_wp2_with fail
        refine Calls.mono (VU.out _) ?_
        rintro e w4 ⟨rfl, rfl⟩
        go_wp2_with fail
        refine Calls.mono (VP.out _) ?_
        rintro e w5 ⟨rfl, rfl⟩
        go_wp2
        go_ret
        exact ⟨rfl, hb⟩
    | false =>
      go_wp2_with fail
      refine Calls.mono (F2.out _) ?_
      rintro e w3 ⟨rfl, rfl⟩
      cases b2 with
      | true =>
        obtain rfl : vu = true := by simpa using L1
        cases q
        · obtain rfl : vp = false := by simpa using L2
          clear L1 L2
          go_wp2_with fail
          refine Calls.mono (VU.out _) ?_
          rintro e w4 ⟨rfl, rfl⟩
          go_wp2_with fail
          refine Calls.mono (VP.out _) ?_
          rintro e w5 ⟨rfl, rfl⟩
          go_wp2
          go_ret
          exact ⟨rfl, hb⟩
        · obtain rfl : vp = true := by simpa using L2
          clear L1 L2
          go_wp2_with fail
          refine Calls.mono (VU.out _) ?_
          rintro e w4 ⟨rfl, rfl⟩
          go_wp2_with fail
          refine Calls.mono (VP.out _) ?_
          rintro e w5 ⟨rfl, rfl⟩
          go_wp2
          go_ret
          exact ⟨rfl, hb⟩
      | false =>
        go_wp2_with fail
        refine Calls.mono (F3.out _) ?_
        rintro e w3 ⟨rfl, rfl⟩
        cases b3 with
        | true =>
          obtain rfl : vu = true := by simpa using L1
          cases q
          · obtain rfl : vp = false := by simpa using L2
            clear L1 L2
            go_wp2_with fail
            refine Calls.mono (VU.out _) ?_
            rintro e w4 ⟨rfl, rfl⟩
            go_wp2_with fail
            refine Calls.mono (VP.out _) ?_
            rintro e w5 ⟨rfl, rfl⟩
            go_wp2
            go_ret
            exact ⟨rfl, hb⟩
          · obtain rfl : vp = true := by simpa using L2
            clear L1 L2
            go_wp2_with fail
            refine Calls.mono (VU.out _) ?_
            rintro e w4 ⟨rfl, rfl⟩
            go_wp2_with fail
            refine Calls.mono (VP.out _) ?_
            rintro e w5 ⟨rfl, rfl⟩
            go_wp2
            go_ret
            exact ⟨rfl, hb⟩
        | false =>
          obtain rfl : vu = false := by simpa using L1
          cases q
          · obtain rfl : vp = false := by simpa using L2
            clear L1 L2
            go_wp2_with fail
            refine Calls.mono (VU.out _) ?_
            rintro e w4 ⟨rfl, rfl⟩
            go_wp2_with fail
            refine Calls.mono (VP.out _) ?_
            rintro e w5 ⟨rfl, rfl⟩
            go_wp2
            go_ret
            exact ⟨rfl, hb⟩
          · obtain rfl : vp = false := by simpa using L2
            clear L1 L2
            go_wp2_with fail
            refine Calls.mono (VU.out _) ?_
            rintro e w4 ⟨rfl, rfl⟩
            go_wp2_with fail
            refine Calls.mono (VP.out _) ?_
            rintro e w5 ⟨rfl, rfl⟩
            go_wp2
            go_ret
            exact ⟨rfl, hb⟩
  · have hd : decide (a0.size ≤ 1048576) = false := by simp [h]
    go_enter Try.func5, Try.ntmps5
    go_wp2_with fail
    refine (bytes_fits _ _).mono ?_
    rintro e w1 ⟨rfl, rfl⟩
    go_wp2
    go_ret
    exact ⟨rfl, Below.refl _ _⟩

/-! ### THE ROW's STEP: WRITTEN OUT: LEAVE IT -/
set_option maxRecDepth 100000 in
theorem lifted (os : Os) (started : os.Started) (H : Type) (enc : TypeId × Value → H) :
    ReturnsInHanded {} Try.checked os 5 .any (Rows.fnValidProtocolCaseSensitiveSpec.pre6 enc Try.prog Try.f5 Rows.fnValidProtocolCaseSensitiveRow.domain false) (Rows.fnValidProtocolCaseSensitiveSpec.post enc Try.prog Try.f5 false true false false) := by
  refine returnsInHanded_of_change (C := Try.checked) own started (by kernel_rfl) Try.func5
    (ChangeSpec.witness6 (enc := enc) (C := Try.checked) false ⟨#[], #[.string ByteArray.empty], []⟩ 8 (by kernel_rfl) (by kernel_rfl) (by kernel_rfl) (by kernel_rfl)) ?_
  intro W base args ds gs before hval0 hW hcnd _
  have hval : ∀ (j : Nat) t v, Try.f5.params[j]? = some t → args[j]? = some v → Value.okWide Try.prog W .any base t v := hval0
  have hW' := hW
  obtain ⟨p, q, hA0, hV, rfl, hfz, hnd⟩ := hW
  have hA : DataW.TrodAll enc Try.prog W 0 (fun _ => true) true Try.f5.params.toList args.toList ds p := hA0
  rw [Try.params5] at hA hval
  obtain ⟨v0, vs0, d0, ds0, p0, q0, hargs, rfl, rfl, h0, r0⟩ := trodAll_cons hA
  obtain ⟨rfl, rfl, rfl⟩ := trodAll_nil r0
  obtain rfl : args = #[v0] := by cases args; simp_all
  obtain ⟨rfl, rfl⟩ := trodVars_none hV
  obtain ⟨a0, rfl, rfl, rfl, w0⟩ := open_string Try.underlying9 (hval 0 9 v0 rfl rfl) h0
  clear hA0 hval0
  simp only [List.append_nil] at hW'
  refine (walk a0 w0 W).mono fun e W' ⟨he, hg⟩ => ?_
  subst he
  exact ⟨_, rfl, _, _, _, [], _, [], hW', trodAll_mk1 (shut_bool Try.underlying4 _), (trodAll_cons_mk (shut_string Try.underlying9 w0) trodAll_mk0), rfl, hg.frame _, fun h => by cases h⟩

theorem over : Rows.fnValidProtocolCaseSensitiveRow.holds Try.pinned (OpenSpec.ofChange Rows.fnValidProtocolCaseSensitiveSpec) :=
  OpenClaim.holds_of_wide 5 Try.f5 rfl rfl rfl rfl rfl rfl rfl ⟨rfl, rfl, rfl, rfl, rfl⟩ rfl rfl rfl rfl rfl (by kernel_rfl) Try.func5 (by kernel_rfl)
    (of_decide_eq_true (by kernel_rfl)) (by unfold Func.isWrapper; first | (rw [if_pos (by decide +kernel)]; kernel_rfl) | (rw [if_neg (by decide +kernel)]; exact ⟨rfl, rfl⟩))
    (fun os started H enc _ => lifted os started H enc)

/-- ████ THE STATEMENT ████ -/
theorem proved : Rows.FnValidProtocolCaseSensitiveSaid :=
  over
end Go.Proofs.Qxb6612468a.fnValidProtocolCaseSensitive
