import Derived.Test.Qxb6612468aWp
import Derived.Test.Qxb6612468aMo
namespace Go.Proofs.Qxb6612468a
open Go.ChangeShapes Go.WideShapes Go.ChangeAt Go.RowKit
open Go.ChangeMaps (open_string shut_string)
open Go.Deep
set_option linter.unusedVariables false

set_option maxHeartbeats 1000000 in
set_option maxRecDepth 100000 in
theorem match_walk (a s : Option Addr) (n c m mc : Nat) (F : Nat → Nat → ByteArray) (name : ByteArray) (Ru : Nat → ByteArray) (w : World) (hn : n ≤ maxLen) (hm : m ≤ maxLen) (hR : Refs w a n F) (hS : Strs w s m Ru) :
    Calls Try.prog 3 #[.slice a n c, .string name, .slice s m mc] w fun e w' => e = .returned (.bool true) ∧ Below w.heap.size w w' := by
  have B : Hid _ := bytes7 a s n c m mc F name Ru w hn hm hR hS
  unfold maxLen at hn hm
  by_cases h1 : n ≤ 4096
  · by_cases h2 : m ≤ 4096
    · have A : Hid _ := abytes_any a s n c m mc F name Ru w h1 h2 hR hS
      have HR : Hid (Refs w a n F) := hR
      have HS : Hid (Strs w s m Ru) := hS
      clear hR hS
      go_enter Try.func3, Try.ntmps3
      go_wp2_with fail
      refine Calls.mono B.out ?_
      rintro e w1 ⟨⟨r, rfl⟩, rfl⟩
      cases r with
      | false =>
        go_wp2
        go_ret
        exact ⟨rfl, Below.refl _ _⟩
      | true =>
        go_wp2_with fail
        refine Calls.mono A.out ?_
        rintro e w2 ⟨⟨t, rfl, ht0, ht1⟩, rfl⟩
        by_cases ht : 1048576 < t
        · go_wp2
          go_ret
          exact ⟨rfl, Below.refl _ _⟩
        · go_wp2_with fail
          refine (build_any a s n c m mc 0 F Ru w2 h1 h2 (by omega) HR.out HS.out).mono ?_
          rintro e w3 ⟨O, Q, rfl, hO, hQ, hr, hq, hb⟩
          have hba : Below w3.heap.size w3 (w3.alloc (.cells #[.slice none 0 0, .slice none 0 0, .slice (some ⟨Q, 0, none⟩) m m] 30)) := (Below.refl _ _).alloc (Nat.le_refl _) _
          have C1 : Hid _ := attached_any (some ⟨O, 0, none⟩) (some ⟨Q, 0, none⟩) n n m m F name Ru _ (by omega) (by omega) ((refs_of_row hr (by omega)).below hba) ((rules_of_row hq).below hba)
          have hl1 := cnt_le n F name Ru m
          clear hr hq hO hQ A B
          go_wp2_with fail
          refine Calls.mono C1.out ?_
          rintro e w4 ⟨rfl, hb4⟩
          have hb5 : Below w2.heap.size w2 w4 := hb.trans ((hba.trans (hb4.mono hba.size)).mono hb.size)
          clear hb4 hba hb C1
          have M : Hid _ := model_any a s n c m mc F name Ru w4 h1 h2 (HR.out.below hb5) (HS.out.below hb5)
          go_wp2_with fail
          refine Calls.mono M.out ?_
          rintro e w5 ⟨rfl, hb6⟩
          have hb7 : Below w2.heap.size w2 w5 := hb5.trans (hb6.mono hb5.size)
          clear hb5 hb6 M
          go_wp2
          go_ret
          refine ⟨ret_bool' (by simp), hb7⟩
    · have A1 : (4096 : Int) < (m : Int) := by omega
      clear hR hS
      go_enter Try.func3, Try.ntmps3
      go_wp2_with fail
      refine Calls.mono B.out ?_
      rintro e w1 ⟨⟨r, rfl⟩, rfl⟩
      cases r
      all_goals
        go_wp2
        go_ret
        exact ⟨rfl, Below.refl _ _⟩
  · have A1 : (4096 : Int) < (n : Int) := by omega
    clear hR hS
    go_enter Try.func3, Try.ntmps3
    go_wp2_with fail
    refine Calls.mono B.out ?_
    rintro e w1 ⟨⟨r, rfl⟩, rfl⟩
    cases r
    all_goals
      go_wp2
      go_ret
      exact ⟨rfl, Below.refl _ _⟩

set_option maxRecDepth 100000 in
theorem liftedMatch (os : Os) (started : os.Started) (H : Type) (enc : TypeId × Value → H) :
    ReturnsInHanded {} Try.checked os 3 .any (Rows.fnAttachedRulesMatchesCoverModelSpec.pre6 enc Try.prog Try.f3 Rows.fnAttachedRulesMatchesCoverModelRow.domain false) (Rows.fnAttachedRulesMatchesCoverModelSpec.post enc Try.prog Try.f3 false true false false) := by
  refine returnsInHanded_of_change (C := Try.checked) own started (by kernel_rfl) Try.func3
    (ChangeSpec.witness6 (enc := enc) (C := Try.checked) false ⟨#[], #[.slice none 0 0, .string ByteArray.empty, .slice none 0 0], []⟩ 8 (by kernel_rfl) (by kernel_rfl) (by kernel_rfl) (by kernel_rfl)) ?_
  intro W base args ds gs before hval0 hW hcnd _
  have hval : ∀ (j : Nat) t v, Try.f3.params[j]? = some t → args[j]? = some v → Value.okWide Try.prog W .any base t v := hval0
  have hW' := hW
  obtain ⟨p, q, hA0, hV, rfl, hfz, hnd⟩ := hW
  have hA : DataW.TrodAll enc Try.prog W 0 (fun _ => true) true Try.f3.params.toList args.toList ds p := hA0
  rw [Try.params3] at hA hval
  obtain ⟨v0, vs0, d0, ds0, p0, q0, hargs, rfl, rfl, h0, r0⟩ := trodAll_cons hA
  obtain ⟨v1, vs1, d1, ds1, p1, q1, rfl, rfl, rfl, h1, r1⟩ := trodAll_cons r0
  obtain ⟨v2, vs2, d2, ds2, p2, q2, rfl, rfl, rfl, h2, r2⟩ := trodAll_cons r1
  obtain ⟨rfl, rfl, rfl⟩ := trodAll_nil r2
  obtain rfl : args = #[v0, v1, v2] := by cases args; simp_all
  obtain ⟨rfl, rfl⟩ := trodVars_none hV
  obtain ⟨a0, n, c, rfl⟩ := okWide_slice Try.underlying22 (hval 0 22 v0 rfl rfl)
  obtain ⟨a2, m, mc, rfl⟩ := okWide_slice Try.underlying23 (hval 2 23 v2 rfl rfl)
  have k0 := h0
  have k2 := h2
  have lt0 : ∀ x ∈ p0, x.block < W.heap.size := by obtain ⟨m, hm⟩ := k0; exact DataW.trod_lt m _ _ _ hm
  have lt2 : ∀ x ∈ p2, x.block < W.heap.size := by obtain ⟨m, hm⟩ := k2; exact DataW.trod_lt m _ _ _ hm
  obtain ⟨F, hn, hR⟩ : ∃ F, n ≤ maxLen ∧ Refs W a0 n F := by obtain ⟨f, hf⟩ := h0; exact open_refs hf
  obtain ⟨Ru, hm, hS⟩ : ∃ Ru, m ≤ maxLen ∧ Strs W a2 m Ru := by obtain ⟨f, hf⟩ := h2; exact open_names hf
  obtain ⟨a1, rfl, rfl, rfl, w1⟩ := open_string Try.underlying9 (hval 1 9 v1 rfl rfl) h1
  clear hA0 hval0
  refine (match_walk a0 a2 n c m mc F a1 Ru W hn hm hR hS).mono fun e W' ⟨he, bel⟩ => ?_
  subst he
  exact ⟨_, rfl, _, _, _, [], _, [], hW', trodAll_mk1 (shut_bool Try.underlying4 _), (trodAll_cons_mk (Below.trod laidOut (by kernel_rfl) (of_decide_eq_true (by kernel_rfl)) k0 bel lt0) (trodAll_cons_mk (shut_string Try.underlying9 w1) (trodAll_cons_mk (Below.trod laidOut (by kernel_rfl) (of_decide_eq_true (by kernel_rfl)) k2 bel lt2) trodAll_mk0))), rfl, bel.frame _, fun h => by cases h⟩

/-- THE STATEMENT. -/
theorem matchesModel_proved : Rows.FnAttachedRulesMatchesCoverModelSaid :=
  OpenClaim.holds_of_wide 3 Try.f3 rfl rfl rfl rfl rfl rfl rfl ⟨rfl, rfl, rfl, rfl, rfl⟩ rfl rfl rfl rfl rfl (by kernel_rfl) Try.func3 (by kernel_rfl)
    (of_decide_eq_true (by kernel_rfl)) (by unfold Func.isWrapper; first | (rw [if_pos (by decide +kernel)]; kernel_rfl) | (rw [if_neg (by decide +kernel)]; exact ⟨rfl, rfl⟩))
    (fun os started H enc _ => liftedMatch os started H enc)
end Go.Proofs.Qxb6612468a
