import Derived.Test.Qxb6612720aNc
namespace Go.Proofs.Qxb6612720a
open Go.RowKit
set_option linter.unusedVariables false

theorem shrBit (x j : Nat) (hx : x < 2 ^ 64) : (bits .and .u64 ((x : Int) / 2 ^ j) 1 == 1) = x.testBit j := by
  have e : (x : Int) / 2 ^ j = ((x / 2 ^ j : Nat) : Int) := by simp
  have hl : x / 2 ^ j < 2 ^ 64 := Nat.lt_of_le_of_lt (Nat.div_le_self _ _) hx
  have := bits_and_u64_nat (x / 2 ^ j) 1 (by omega) (by omega)
  rw [e, show (1 : Int) = ((1 : Nat) : Int) from rfl, this, Nat.and_one_is_mod, Nat.testBit_eq_decide_div_mod_eq, Bool.eq_iff_iff]
  simp only [beq_iff_eq, decide_eq_true_eq]
  omega

set_option maxHeartbeats 1000000 in
theorem bitat_any (Bb W wc n : Nat) (X : Nat → Nat) (w : World) (hn : n < 64 * W) (hW : W ≤ 536870912) (hX : ∀ q, X q < 2 ^ 64) (hc : ∀ q, q < W → w.cell? ⟨Bb, q, none⟩ = some (.int .u64 (X q))) :
    Calls Try.prog 17 #[.slice (some ⟨Bb, 0, none⟩) W wc, .int .i64 n] w fun e w' => e = .returned (.bool (bitOf X n)) ∧ w' = w := by
  have c0 := hc (n / 64) (by omega)
  have hx := hX (n / 64)
  have HX : Hid (∀ q, X q < 2 ^ 64) := hX
  clear hc hX
  have t1 : (0 : Int) ≤ (n : Int) / 64 := by omega
  have t2 : (n : Int) / 64 < (W : Int) := by omega
  have t3 : ((n : Int) / 64).toNat = n / 64 := by omega
  have t4 : bits .and .i64 (n : Int) 63 = ((n % 64 : Nat) : Int) := and63 n (by omega)
  have t5 : (0 : Int) ≤ ((n % 64 : Nat) : Int) := by omega
  have t6 : n % 64 < 64 := by omega
  go_enter Try.func17, Try.ntmps17
  go_wp2
  go_ret
  exact ⟨retB (shrBit _ _ hx), rfl⟩

theorem bit_at (X : Nat → Nat) (k j : Nat) (h : j < 64) : bitOf X (k * 64 + j) = (X k).testBit j := by
  unfold bitOf
  rw [show (k * 64 + j) / 64 = k from by omega, show (k * 64 + j) % 64 = j from by omega]

set_option maxHeartbeats 2000000 in
set_option maxRecDepth 100000 in
theorem bitsare_any (ba la ra : Option Addr) (Bb W wc nl lc n c : Nat) (X : Nat → Nat) (L R : Nat → Rf) (w : World) (hW : W ≤ 536870912) (hnl : nl ≤ 17179869184) (hn : n ≤ maxLen) (hX : ∀ q, X q < 2 ^ 64) (hc : ∀ q, q < W → w.cell? ⟨Bb, q, none⟩ = some (.int .u64 (X q)))
    (hL : Rfs w la nl L) (hR : Rfs w ra n R) (hbit : ∀ g, g < 64 * W → bitOf X g = (decide (g < nl) && inR R n (L g))) :
    Calls Try.prog 16 #[.slice (some ⟨Bb, 0, none⟩) W wc, .slice la nl lc, .slice ra n c, .int .i64 W] w fun e w' => e = .returned (.bool true) ∧ Below w.heap.size w w' := by
  have HX : Hid (∀ q, X q < 2 ^ 64) := hX
  have HC : Hid (∀ q, q < W → w.cell? ⟨Bb, q, none⟩ = some (.int .u64 (X q))) := hc
  have HL : Hid (Rfs w la nl L) := hL
  have HR : Hid (Rfs w ra n R) := hR
  have HT : Hid (∀ g, g < 64 * W → bitOf X g = (decide (g < nl) && inR R n (L g))) := hbit
  have HM : Hid (n ≤ maxLen) := hn
  clear hX hc hL hR hbit hn
  go_enter Try.func16, Try.ntmps16
  go_wp2
  go_loopw [9] (fun i wr => ∃ k : Nat, k ≤ W ∧ i = .int .i64 k ∧ Hid (Below w.heap.size w wr)) (fun i _ => W - (intOf i).toNat)
  case atStart => exact ⟨0, Nat.zero_le _, rfl, Below.refl _ _⟩
  case round =>
    obtain ⟨k, hk, rfl, hb⟩ := hrel
    obtain ⟨wo, hwo⟩ : ∃ wo, wo = wr := ⟨_, rfl⟩
    subst hwo
    by_cases hlt : k < W
    · go_wp2
      go_loopw [10] (fun i w2 => ∃ j : Nat, j ≤ 64 ∧ i = .int .i64 j ∧ Hid (Below w.heap.size w w2)) (fun i _ => 64 - (intOf i).toNat)
      case atStart => exact ⟨0, Nat.zero_le _, rfl, hb⟩
      case round =>
        obtain ⟨j, hj, rfl, hb2⟩ := hrel
        by_cases hlj : j < 64
        · have c0 : wr.cell? ⟨Bb, k, none⟩ = some (.int .u64 (X k)) := (hb2.out.cell (p := ⟨Bb, k, none⟩) (World.block_lt_of_cell? w _ (HC.out k hlt))).trans (HC.out k hlt)
          have s1 := shrBit (X k) j (HX.out k)
          rw [← bit_at X k j hlj, HT.out (k * 64 + j) (by omega)] at s1
          by_cases hg : k * 64 + j < nl
          · obtain ⟨b, off, rfl, hbo, d0, d1⟩ := (HL.out.below hb2.out).at hg
            have C : Hid _ := index_any ra n c R (L (k * 64 + j)) wr HM.out (HR.out.below hb2.out)
            have t1 : (k : Int) * 64 + (j : Int) < (nl : Int) := by omega
            have t2 : ((k : Int) * 64 + (j : Int)).toNat = k * 64 + j := by omega
            have t3 : (0 : Int) ≤ (k : Int) * 64 + (j : Int) := by omega
            have s2 : Hid ((bits .and .u64 ((X k : Int) / 2 ^ j) 1 == 1) = inR R n (L (k * 64 + j))) := by show _ = _; rw [s1]; simp [hg]
            clear s1
            go_wp2_with fail
            refine Calls.mono C.out ?_
            rintro e w1 ⟨⟨x, rfl, hx⟩, hb3⟩
            have s3 : (bits .and .u64 ((X k : Int) / 2 ^ j) 1 == 1) = decide (0 ≤ x) := s2.out.trans hx
            have HB3 : Hid (Below w.heap.size w w1) := hb2.out.trans (hb3.mono hb2.out.size)
            clear hx hb3 C
            go_wp2
            go_roundw
            case rel => exact ⟨j + 1, by omega, by go_num, HB3⟩
            case measure => simp [intOf]; omega
          · have t1 : ¬ (k : Int) * 64 + (j : Int) < (nl : Int) := by omega
            have s2 : (bits .and .u64 ((X k : Int) / 2 ^ j) 1 == 1) = false := by rw [s1]; simp [hg]
            clear s1
            go_wp2
            go_roundw
            case rel => exact ⟨j + 1, by omega, by go_num, hb2⟩
            case measure => simp [intOf]; omega
        · go_wp2
          go_roundw
          case rel => exact ⟨k + 1, by omega, by go_num, hb2⟩
          case measure => simp [intOf]; omega
    · go_wp2
      go_ret
      exact ⟨rfl, hb.out⟩
end Go.Proofs.Qxb6612720a
