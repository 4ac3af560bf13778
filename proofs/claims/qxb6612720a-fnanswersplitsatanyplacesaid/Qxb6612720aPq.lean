import Derived.Test.Qxb6612720aPi
namespace Go.Proofs.Qxb6612720a
open Go.RowKit
set_option linter.unusedVariables false

set_option maxHeartbeats 2000000 in
set_option maxRecDepth 100000 in
theorem st10n (v0 v15 v16 v17 v20 : Value) (depth : Int) (la : Option Addr) (O n ln lc cut : Nat) (T : Nat → Tg) (B : Nat → Bool) (w w0 : World) (N : Act → World → Prop) (hn : n ≤ 65536) (hcut : cut ≤ n) (hP : PolsW w O n T) (act : Act)
    (hI : J3 v0 (.int .i64 depth) (.slice la ln lc) (.slice none 0 0) (.int .i64 cut) (.slice (some ⟨O, 0, none⟩) n n) (.int .i64 0) v15 v16 v17 v20 act)
    (hnext : ∀ bp act' w', J3 v0 (.int .i64 depth) (.slice la ln lc) (.slice none 0 0) (.int .i64 cut) (.slice (some ⟨O, 0, none⟩) n n) (.int .i64 0) v15 (.pointer (some ⟨bp, 0, none⟩)) v17 v20 act' → Below w.heap.size w w' → Ans w' bp cut T (fun i => effB (hasB 0 B i)) → N act' w') : Code.wp Try.prog (pick [1, 1, 1, 1, 1, 1, 1, 1, 1, 1, 0] b3) (Exit.then N (bodyPost Try.prog Try.f3 (fun e w' => e = .returned (.bool true) ∧ Below w0.heap.size w0 w'))) act w := by
  obtain ⟨g, rfl⟩ := hI
  have HN : Hid (∀ bp act' w', J3 v0 (.int .i64 depth) (.slice la ln lc) (.slice none 0 0) (.int .i64 cut) (.slice (some ⟨O, 0, none⟩) n n) (.int .i64 0) v15 (.pointer (some ⟨bp, 0, none⟩)) v17 v20 act' → Below w.heap.size w w' → Ans w' bp cut T (fun i => effB (hasB 0 B i)) → N act' w') := hnext
  have PI : Hid (PIn w (some ⟨O, 0, none⟩) cut T) := Or.inr ⟨O, 0, rfl, fun i hi => by rw [Nat.zero_add]; exact (hP i (by omega)).2.2⟩
  have CG : Hid (∀ W, Below w.heap.size w W → Calls Try.prog 9 #[.slice (some ⟨O, 0, none⟩) cut n, .int .i64 depth, .slice la ln lc, .slice none 0 0] W fun e w' => AnsR W w' depth (.slice la ln lc) cut T (fun i => effB (hasB 0 B i)) e ∧ Below W.heap.size W w') := fun W hW => zanswer_any (some ⟨O, 0, none⟩) la none cut n ln lc 0 0 depth _ _ W (by omega) (by unfold maxLen; omega) (PI.out.below hW) (Or.inl rfl)
  clear hnext hP
  conv => arg 2; whnf
  go_wp2_with fail
  go_region_with (go_at_call 9; first | (refine Calls.mono (CG.out _ (Below.refl _ _).drew) ?_; rintro e w1 ⟨⟨O1, f, rfl, hO, hr, ho⟩, hb⟩; have HR : Hid (w1.rowIs O1 45 (cut * 6) f) := hr; have HO : Hid (OutK w1 O1 cut f T (fun i => effB (hasB 0 B i))) := ho; have HB := hb; clear hr ho) | (refine Calls.mono (CG.out _ ((Below.refl _ _).alloc (Nat.le_refl _) _).drew) ?_; rintro e w1 ⟨⟨O1, f, rfl, hO, hr, ho⟩, hb⟩; obtain ⟨f0, f1, f2, ff⟩ := zero_facts hb; have HR : Hid (w1.rowIs O1 45 (cut * 6) f) := hr; have HO : Hid (OutK w1 O1 cut f T (fun i => effB (hasB 0 B i))) := ho; have HB := hb; clear hr ho))
  · have hb2 : Below w1.heap.size w1 (w1.alloc (.cells #[.int .i64 depth, .slice la ln lc, .slice (some ⟨O1, 0, none⟩) cut cut] 34)) := (Below.refl _ _).alloc (Nat.le_refl _) _
    have hb3 : Below w.heap.size w w1 := ((Below.refl w.heap.size w).drew).trans hb
    show N _ _
    exact HN.out w1.heap.size _ _ (J3_mk _ rfl rfl rfl rfl rfl rfl rfl rfl rfl rfl rfl rfl) (hb3.trans (hb2.mono hb3.size)) (ans_of HR.out HO.out hb2 (by simp [go_sem]))
  all_goals
    have hO2 : w.heap.size + 1 ≤ O1 := by simpa using hO
    have hb3 : Below w.heap.size w w1 := (((Below.refl w.heap.size w).alloc (Nat.le_refl _) _).drew).trans (hb.mono (by simp))
    show N _ _
    exact HN.out w.heap.size _ _ (J3_mk _ rfl rfl rfl rfl rfl rfl rfl rfl rfl rfl rfl rfl) (below_set3 hb3 (Nat.le_refl _)) (ans_at (row_set3 HR.out (by omega)) (out_set3 HO.out (by omega)) (by simp [go_sem, f2]))

set_option maxHeartbeats 2000000 in
set_option maxRecDepth 100000 in
theorem st11n (v0 v15 v16 v17 v20 : Value) (depth : Int) (la : Option Addr) (O n ln lc cut : Nat) (T : Nat → Tg) (B : Nat → Bool) (w w0 : World) (N : Act → World → Prop) (hn : n ≤ 65536) (hcut : cut ≤ n) (hP : PolsW w O n T) (act : Act)
    (hI : J3 v0 (.int .i64 depth) (.slice la ln lc) (.slice none 0 0) (.int .i64 cut) (.slice (some ⟨O, 0, none⟩) n n) (.int .i64 0) v15 v16 v17 v20 act)
    (hnext : ∀ bp act' w', J3 v0 (.int .i64 depth) (.slice la ln lc) (.slice none 0 0) (.int .i64 cut) (.slice (some ⟨O, 0, none⟩) n n) (.int .i64 0) v15 v16 (.pointer (some ⟨bp, 0, none⟩)) v20 act' → Below w.heap.size w w' → Ans w' bp (n - cut) (fun i => T (cut + i)) (fun i => effB (hasB 0 B i)) → N act' w') : Code.wp Try.prog (pick [1, 1, 1, 1, 1, 1, 1, 1, 1, 1, 1, 0] b3) (Exit.then N (bodyPost Try.prog Try.f3 (fun e w' => e = .returned (.bool true) ∧ Below w0.heap.size w0 w'))) act w := by
  obtain ⟨g, rfl⟩ := hI
  have HN : Hid (∀ bp act' w', J3 v0 (.int .i64 depth) (.slice la ln lc) (.slice none 0 0) (.int .i64 cut) (.slice (some ⟨O, 0, none⟩) n n) (.int .i64 0) v15 v16 (.pointer (some ⟨bp, 0, none⟩)) v20 act' → Below w.heap.size w w' → Ans w' bp (n - cut) (fun i => T (cut + i)) (fun i => effB (hasB 0 B i)) → N act' w') := hnext
  obtain ⟨a1, e1⟩ : ∃ a1, (if n = cut then some ⟨O, 0, none⟩ else some ⟨O, cut * 6, none⟩ : Option Addr) = a1 := ⟨_, rfl⟩
  have PI : Hid (PIn w a1 (n - cut) (fun i => T (cut + i))) := by
    by_cases h : n = cut
    · exact Or.inl (by omega)
    · rw [if_neg h] at e1
      refine Or.inr ⟨O, cut * 6, e1.symm, fun i hi => ?_⟩
      obtain ⟨ra, rn, rc, hc⟩ := (hP (cut + i) (by omega)).2.2
      rw [Nat.add_mul] at hc
      exact ⟨ra, rn, rc, hc⟩
  have CG : Hid (∀ W, Below w.heap.size w W → Calls Try.prog 9 #[.slice a1 (n - cut) (n - cut), .int .i64 depth, .slice la ln lc, .slice none 0 0] W fun e w' => AnsR W w' depth (.slice la ln lc) (n - cut) (fun i => T (cut + i)) (fun i => effB (hasB 0 B i)) e ∧ Below W.heap.size W w') := fun W hW => zanswer_any a1 la none (n - cut) (n - cut) ln lc 0 0 depth _ _ W (by omega) (by unfold maxLen; omega) (PI.out.below hW) (Or.inl rfl)
  clear hnext hP
  conv => arg 2; whnf
  go_wp2_with fail
  go_region_with (go_at_call 9; first | (refine Calls.mono (CG.out _ (Below.refl _ _).drew) ?_; rintro e w1 ⟨⟨O1, f, rfl, hO, hr, ho⟩, hb⟩; have HR : Hid (w1.rowIs O1 45 ((n - cut) * 6) f) := hr; have HO : Hid (OutK w1 O1 (n - cut) f (fun i => T (cut + i)) (fun i => effB (hasB 0 B i))) := ho; have HB := hb; clear hr ho) | (refine Calls.mono (CG.out _ ((Below.refl _ _).alloc (Nat.le_refl _) _).drew) ?_; rintro e w1 ⟨⟨O1, f, rfl, hO, hr, ho⟩, hb⟩; obtain ⟨f0, f1, f2, ff⟩ := zero_facts hb; have HR : Hid (w1.rowIs O1 45 ((n - cut) * 6) f) := hr; have HO : Hid (OutK w1 O1 (n - cut) f (fun i => T (cut + i)) (fun i => effB (hasB 0 B i))) := ho; have HB := hb; clear hr ho))
  · have hb2 : Below w1.heap.size w1 (w1.alloc (.cells #[.int .i64 depth, .slice la ln lc, .slice (some ⟨O1, 0, none⟩) (n - cut) (n - cut)] 34)) := (Below.refl _ _).alloc (Nat.le_refl _) _
    have hb3 : Below w.heap.size w w1 := ((Below.refl w.heap.size w).drew).trans hb
    show N _ _
    exact HN.out w1.heap.size _ _ (J3_mk _ rfl rfl rfl rfl rfl rfl rfl rfl rfl rfl rfl rfl) (hb3.trans (hb2.mono hb3.size)) (ans_of HR.out HO.out hb2 (by simp [go_sem]))
  all_goals
    have hO2 : w.heap.size + 1 ≤ O1 := by simpa using hO
    have hb3 : Below w.heap.size w w1 := (((Below.refl w.heap.size w).alloc (Nat.le_refl _) _).drew).trans (hb.mono (by simp))
    show N _ _
    exact HN.out w.heap.size _ _ (J3_mk _ rfl rfl rfl rfl rfl rfl rfl rfl rfl rfl rfl rfl) (below_set3 hb3 (Nat.le_refl _)) (ans_at (row_set3 HR.out (by omega)) (out_set3 HO.out (by omega)) (by simp [go_sem, f2]))
end Go.Proofs.Qxb6612720a
