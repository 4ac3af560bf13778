import Derived.Test.Qxb6612720aPr
import Derived.Test.Qxb6612720aPj
import Derived.Test.Qxb6612720aPk
import Derived.Test.Qxb6612720aPn
import Derived.Test.Qxb6612720aPq
namespace Go.Proofs.Qxb6612720a
open Go.RowKit
set_option linter.unusedVariables false

theorem fin3 (w0 w : World) (hb : Below w0.heap.size w0 w) (fr : Array Value) (h : fr[10]? = some (.bool true)) : (bodyPost Try.prog Try.f3 (fun e w' => e = .returned (.bool true) ∧ Below w0.heap.size w0 w')) .ret ⟨fr, []⟩ w :=
  bodyPost_ret (v := .bool true) (by simp [results, Try.results3, go_sem, h]) rfl ⟨rfl, hb⟩

set_option maxHeartbeats 2000000 in
set_option maxRecDepth 100000 in
theorem chainC (v1 v2 v4 v13 v14 v20 : Value) (a q : Option Addr) (O n c m mc cut p15 p16 p17 : Nat) (T : Nat → Tg) (B : Nat → Bool) (e2 e3 : Nat → ByteArray) (w w0 : World) (hn : n ≤ 65536) (hm : m ≤ 1048576) (hcut : cut ≤ n) (hP : PolsW w O n T) (hB : Bls w q m B)
    (A1 : Ans w p15 n T (fun i => effB (hasB m B i))) (A2 : Ans w p16 cut T e2) (A3 : Ans w p17 (n - cut) (fun i => T (cut + i)) e3) (h12 : ∀ i, i < cut → effB (hasB m B i) = e2 i) (h13 : ∀ i, i < n - cut → effB (hasB m B (cut + i)) = e3 i) (hb : Below w0.heap.size w0 w) (act : Act)
    (hI : J3 (.slice a n c) v1 v2 (.slice q m mc) v4 v13 v14 (.pointer (some ⟨p15, 0, none⟩)) (.pointer (some ⟨p16, 0, none⟩)) (.pointer (some ⟨p17, 0, none⟩)) v20 act) : Code.wp Try.prog (pick [1, 1, 1, 1, 1, 1, 1, 1, 1, 1, 1, 1] b3) (bodyPost Try.prog Try.f3 (fun e w' => e = .returned (.bool true) ∧ Below w0.heap.size w0 w')) act w := by
  refine wp_seq (st12 _ _ _ _ _ _ _ a n c cut p15 p16 p17 T T (fun i => T (cut + i)) _ _ _ w _ hn hcut A1 A2 A3 act hI ?_)
  intro act1 hI1
  refine wp_seq (st13 _ _ _ _ _ _ _ _ O n cut p15 p16 p17 T _ _ w w0 _ hn hcut hP A1 A2 h12 act1 hI1 ?_)
  intro act2 w2 hI2 hb2
  refine wp_seq (st14 _ _ _ _ _ _ _ _ O n cut p15 p16 p17 T _ _ _ w2 w0 _ hn hcut (hP.below hb2) (A1.below hb2) (A2.below hb2) (A3.below hb2) h13 act2 hI2 ?_)
  intro act3 w3 hI3 hb3
  refine wp_seq (st15 _ _ _ _ _ _ _ _ _ _ _ w3 _ act3 hI3 ?_)
  intro act4 hI4
  refine wp_seq (st16 _ _ _ _ _ _ _ _ _ n p15 T (hasB m B) w3 _ hn ((A1.below hb2).below hb3) act4 hI4 ?_)
  intro act5 hI5
  refine st17 _ _ _ _ _ _ _ _ a q n c m mc B w3 _ hn hm ((hB.below hb2).below hb3) act5 hI5 ?_
  intro fr h
  exact fin3 w0 w3 (hb.trans ((hb2.mono hb.size).trans (hb3.mono (Nat.le_trans hb.size hb2.size)))) fr h

theorem eff_left (m cut i : Nat) (B : Nat → Bool) (h : i < cut) : effB (hasB m B i) = effB (hasB (Nat.min cut m) B i) := by
  have e : (i < Nat.min cut m) = (i < m) := by
    rw [eq_iff_iff, Nat.lt_min]
    omega
  simp only [hasB, e]
theorem eff_right (m cut i : Nat) (B : Nat → Bool) : effB (hasB m B (cut + i)) = effB (hasB (m - Nat.min cut m) (fun j => B (Nat.min cut m + j)) i) := by
  by_cases h : m ≤ cut
  · have e : Nat.min cut m = m := Nat.min_eq_right h
    rw [e]
    have h1 : ¬ cut + i < m := by omega

    simp [hasB, h1]
  · have e : Nat.min cut m = cut := Nat.min_eq_left (by omega)
    rw [e]
    have h1 : (cut + i < m) = (i < m - cut) := by rw [eq_iff_iff]; omega
    simp only [hasB, h1]

set_option maxHeartbeats 2000000 in
set_option maxRecDepth 100000 in
theorem chain3 (v13 v14 v15 v16 v17 v20 : Value) (a s q : Option Addr) (n c sn sc m mc : Nat) (x y : Int) (P : Nat → Pl) (Ru : Nat → ByteArray) (B : Nat → Bool) (w : World) (hn : n ≤ maxLen) (hsn : sn ≤ maxLen) (hm : m ≤ maxLen) (hP : Pols w a n P) (hS : Strs w s sn Ru) (hB : Bls w q m B) (hq : q = none → m = 0 ∧ mc = 0) (act : Act)
    (hI : J3 (.slice a n c) (.int .i64 x) (.slice s sn sc) (.slice q m mc) (.int .i64 y) v13 v14 v15 v16 v17 v20 act) : Code.wp Try.prog b3 (bodyPost Try.prog Try.f3 (fun e w' => e = .returned (.bool true) ∧ Below w.heap.size w w')) act w := by
  refine wp_seq (st0 _ _ _ _ _ _ _ _ _ _ _ w _ act hI ?_)
  intro act0 hI0
  refine wp_seq (st1 _ _ _ _ _ _ a s q n c sn sc m mc x y P Ru w _ hn hsn hm hP hS act0 hI0 (fun fr h => fin3 w w (Below.refl _ _) fr h) ?_)
  intro act1 hI1
  refine wp_seq (st2 _ _ _ _ _ _ a s q n c sn sc m mc x y P Ru w _ hn hsn hm hP hS act1 hI1 (fun fr h => fin3 w w (Below.refl _ _) fr h) ?_)
  intro k1 k2 k3 k4 act2 hI2
  refine wp_seq (st3 _ _ _ _ _ _ _ _ _ a n c y w _ k1 act2 hI2 (fun fr h => fin3 w w (Below.refl _ _) fr h) ?_)
  intro y0 y1 act3 hI3
  obtain ⟨cut, rfl⟩ : ∃ cut : Nat, y = cut := ⟨y.toNat, by omega⟩
  have hcut : cut ≤ n := by omega
  refine wp_seq (st4 _ _ _ _ _ _ _ _ _ _ s sn sc Ru w _ k2 hS act3 hI3 ?_)
  intro a4 c4 act4 w4 hI4 hb4 _
  cases q with
  | none =>
    obtain ⟨rfl, rfl⟩ := hq rfl
    refine wp_seq (st5n _ _ _ _ _ _ _ _ _ _ w4 _ act4 hI4 ?_)
    intro act5 hI5
    obtain ⟨w5, hw5⟩ : ∃ w5, w5 = w4 := ⟨_, rfl⟩
    subst hw5
    have hb5 := hb4
    refine wp_seq (st6 _ _ _ _ _ _ _ _ _ _ a n c P w5 _ k1 (hP.below hb5) k4 act5 hI5 ?_)
    intro O T act6 w6 hI6 hb6 hT
    have hw6 : Below w.heap.size w w6 := hb5.trans (hb6.mono hb5.size)
    refine wp_seq (st7 _ _ _ _ _ _ _ _ _ _ _ w6 _ act6 hI6 ?_)
    intro act7 hI7
    refine wp_seq (st8 _ _ _ _ _ _ _ _ _ none 0 0 cut w6 _ act7 hI7 ?_)
    intro act8 hI8
    rw [show Nat.min cut 0 = 0 from Nat.min_eq_right (Nat.zero_le _)] at hI8
    refine wp_seq (st9 _ _ _ _ _ _ _ x a4 none O n sn c4 0 0 T B w6 _ k1 (by unfold maxLen; omega) hT (Or.inl rfl) act8 hI8 ?_)
    intro p15 act9 w9 hI9 hb9 hA1
    refine wp_seq (st10n _ _ _ _ _ x a4 O n sn c4 cut T B w9 w _ k1 hcut (hT.below hb9) act9 hI9 ?_)
    intro p16 act10 w10 hI10 hb10 hA2
    refine wp_seq (st11n _ _ _ _ _ x a4 O n sn c4 cut T B w10 w _ k1 hcut ((hT.below hb9).below hb10) act10 hI10 ?_)
    intro p17 act11 w11 hI11 hb11 hA3
    have hw9 := hw6.trans (hb9.mono hw6.size)
    have hw10 := hw9.trans (hb10.mono hw9.size)
    exact chainC _ _ _ _ _ _ a none O n c 0 0 cut p15 p16 p17 T B _ _ w11 w k1 (by omega) hcut (((hT.below hb9).below hb10).below hb11) (Or.inl rfl) ((hA1.below hb10).below hb11) (hA2.below hb11) hA3 (fun i hi => rfl) (fun i hi => by simp [hasB]) (hw10.trans (hb11.mono hw10.size)) act11 hI11
  | some ad =>
    refine wp_seq (st5s _ _ _ _ _ _ _ _ _ _ ad m mc B w4 _ k3 (hB.below hb4) act4 hI4 ?_)
    intro b5 act5 w5 hI5 hb45 hBb0
    have hBb : Bls w5 (some ⟨b5, 0, none⟩) m B := hBb0
    have hb5 : Below w.heap.size w w5 := hb4.trans (hb45.mono hb4.size)
    refine wp_seq (st6 _ _ _ _ _ _ _ _ _ _ a n c P w5 _ k1 (hP.below hb5) k4 act5 hI5 ?_)
    intro O T act6 w6 hI6 hb6 hT
    have hw6 : Below w.heap.size w w6 := hb5.trans (hb6.mono hb5.size)
    refine wp_seq (st7 _ _ _ _ _ _ _ _ _ _ _ w6 _ act6 hI6 ?_)
    intro act7 hI7
    refine wp_seq (st8 _ _ _ _ _ _ _ _ _ (some ⟨b5, 0, none⟩) m m cut w6 _ act7 hI7 ?_)
    intro act8 hI8
    refine wp_seq (st9 _ _ _ _ _ _ _ x a4 (some ⟨b5, 0, none⟩) O n sn c4 m m T B w6 _ k1 (by unfold maxLen; omega) hT (hBb.below hb6) act8 hI8 ?_)
    intro p15 act9 w9 hI9 hb9 hA1
    refine wp_seq (st10 _ _ _ _ _ x a4 ⟨b5, 0, none⟩ O n sn c4 m m cut (Nat.min cut m) T B w9 w _ k1 k3 (Nat.le_refl _) hcut (Nat.min_le_right _ _) (hT.below hb9) ((hBb.below hb6).below hb9) act9 hI9 ?_)
    intro p16 act10 w10 hI10 hb10 hA2
    refine wp_seq (st11 _ _ _ _ _ x a4 ⟨b5, 0, none⟩ O n sn c4 m m cut (Nat.min cut m) T B w10 w _ k1 k3 (Nat.le_refl _) hcut (Nat.min_le_right _ _) ((hT.below hb9).below hb10) (((hBb.below hb6).below hb9).below hb10) act10 hI10 ?_)
    intro p17 act11 w11 hI11 hb11 hA3
    have hw9 := hw6.trans (hb9.mono hw6.size)
    have hw10 := hw9.trans (hb10.mono hw9.size)
    exact chainC _ _ _ _ _ _ a (some ⟨b5, 0, none⟩) O n c m m cut p15 p16 p17 T B _ _ w11 w k1 k3 hcut (((hT.below hb9).below hb10).below hb11) ((((hBb.below hb6).below hb9).below hb10).below hb11) ((hA1.below hb10).below hb11) (hA2.below hb11) hA3 (fun i hi => eff_left m cut i B hi) (fun i hi => eff_right m cut i B) (hw10.trans (hb11.mono hw10.size)) act11 hI11

set_option maxHeartbeats 2000000 in
set_option maxRecDepth 100000 in
theorem splits_walk (a s q : Option Addr) (n c sn sc m mc : Nat) (x y : Int) (P : Nat → Pl) (Ru : Nat → ByteArray) (B : Nat → Bool) (w : World) (hn : n ≤ maxLen) (hsn : sn ≤ maxLen) (hm : m ≤ maxLen) (hP : Pols w a n P) (hS : Strs w s sn Ru) (hB : Bls w q m B) (hq : q = none → m = 0 ∧ mc = 0) :
    Calls Try.prog 3 #[.slice a n c, .int .i64 x, .slice s sn sc, .slice q m mc, .int .i64 y] w fun e w' => e = .returned (.bool true) ∧ Below w.heap.size w w' := by
  have C : Hid (∀ v13 v14 v15 v16 v17 v20 act, J3 (.slice a n c) (.int .i64 x) (.slice s sn sc) (.slice q m mc) (.int .i64 y) v13 v14 v15 v16 v17 v20 act → Code.wp Try.prog b3 (bodyPost Try.prog Try.f3 (fun e w' => e = .returned (.bool true) ∧ Below w.heap.size w w')) act w) := fun _ _ _ _ _ _ act hI => chain3 _ _ _ _ _ _ a s q n c sn sc m mc x y P Ru B w hn hsn hm hP hS hB hq act hI
  go_enter Try.func3, Try.ntmps3
  exact C.out _ _ _ _ _ _ _ (J3_mk _ rfl rfl rfl rfl rfl rfl rfl rfl rfl rfl rfl rfl)
end Go.Proofs.Qxb6612720a
