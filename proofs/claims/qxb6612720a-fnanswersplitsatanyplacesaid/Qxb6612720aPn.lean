import Derived.Test.Qxb6612720aPi
namespace Go.Proofs.Qxb6612720a
open Go.RowKit
set_option linter.unusedVariables false

/-- How many of the first k hold. -/
def cntP (p : Nat → Bool) : Nat → Nat
  | 0 => 0
  | k + 1 => cntP p k + if p k then 1 else 0
theorem cntP_le (p : Nat → Bool) : ∀ k, cntP p k ≤ k
  | 0 => Nat.le_refl _
  | k + 1 => by have := cntP_le p k; simp only [cntP]; split <;> omega
theorem cntP_in (m : Nat) (B : Nat → Bool) : ∀ k, k ≤ m → cntP (hasB m B) k = cntP B k
  | 0, _ => rfl
  | k + 1, h => by
    have e : hasB m B k = B k := by simp [hasB]; omega
    simp only [cntP, cntP_in m B k (by omega), e]
theorem cntP_out (m : Nat) (B : Nat → Bool) : ∀ d, cntP (hasB m B) (m + d) = cntP (hasB m B) m
  | 0 => rfl
  | d + 1 => by
    have e : hasB m B (m + d) = false := by simp [hasB]; intro h; omega
    show cntP (hasB m B) (m + d) + (if hasB m B (m + d) then 1 else 0) = _
    rw [cntP_out m B d, e]; simp
theorem cntP_all (m n : Nat) (B : Nat → Bool) : cntP (hasB m B) n = cntP B (Nat.min n m) := by
  by_cases h : n ≤ m
  · rw [show Nat.min n m = n from Nat.min_eq_left h, cntP_in m B n h]
  · obtain ⟨d, rfl⟩ : ∃ d, n = m + d := ⟨n - m, by omega⟩
    rw [show Nat.min (m + d) m = m from Nat.min_eq_right (by omega), cntP_out, cntP_in m B m (Nat.le_refl _)]

set_option maxHeartbeats 2000000 in
set_option maxRecDepth 100000 in
theorem st15 (v0 v1 v2 v3 v4 v13 v14 v15 v16 v17 v20 : Value) (w : World) (Q : Exit → Act → World → Prop) (act : Act) (hI : J3 v0 v1 v2 v3 v4 v13 v14 v15 v16 v17 v20 act)
    (hnext : ∀ act', J3 v0 v1 v2 v3 v4 v13 v14 v15 v16 v17 (.int .i64 0) act' → Q .normal act' w) : Code.wp Try.prog (pick [1, 1, 1, 1, 1, 1, 1, 1, 1, 1, 1, 1, 1, 1, 1, 0] b3) Q act w := by
  obtain ⟨g, rfl⟩ := hI
  have HN : Hid (∀ act', J3 v0 v1 v2 v3 v4 v13 v14 v15 v16 v17 (.int .i64 0) act' → Q .normal act' w) := hnext
  clear hnext
  conv => arg 2; whnf
  go_wp2
  exact HN.out _ (J3_mk _ rfl rfl rfl rfl rfl rfl rfl rfl rfl rfl rfl rfl)

set_option maxHeartbeats 4000000 in
set_option maxRecDepth 100000 in
theorem st16 (v0 v1 v2 v3 v4 v13 v14 v16 v17 : Value) (n p15 : Nat) (T : Nat → Tg) (p : Nat → Bool) (w : World) (Q : Exit → Act → World → Prop) (hn : n ≤ 65536) (A1 : Ans w p15 n T (fun i => effB (p i))) (act : Act)
    (hI : J3 v0 v1 v2 v3 v4 v13 v14 (.pointer (some ⟨p15, 0, none⟩)) v16 v17 (.int .i64 0) act)
    (hnext : ∀ act', J3 v0 v1 v2 v3 v4 v13 v14 (.pointer (some ⟨p15, 0, none⟩)) v16 v17 (.int .i64 (cntP p n : Nat)) act' → Q .normal act' w) : Code.wp Try.prog (pick [1, 1, 1, 1, 1, 1, 1, 1, 1, 1, 1, 1, 1, 1, 1, 1, 0] b3) Q act w := by
  obtain ⟨g, rfl⟩ := hI
  have HN : Hid (∀ act', J3 v0 v1 v2 v3 v4 v13 v14 (.pointer (some ⟨p15, 0, none⟩)) v16 v17 (.int .i64 (cntP p n : Nat)) act' → Q .normal act' w) := hnext
  obtain ⟨O1, c1, r1⟩ := A1
  have HR : Hid (∀ i, i < n → ∃ rb, PCells w O1 (i * 6) (T i) (some ⟨rb, 0, none⟩) 1 1 ∧ w.cell? ⟨rb, 0, none⟩ = some (.string (effB (p i))) ∧ w.cell? ⟨rb, 1, none⟩ = some (.pointer none)) := r1
  clear hnext r1
  conv => arg 2; whnf
  go_wp2
  go_loop [20, 21] (fun t i => ∃ k : Nat, k ≤ n ∧ i = .int .i64 k ∧ t = .int .i64 (cntP p k : Nat)) (fun _ i => n - (intOf i).toNat)
  case atStart => exact ⟨0, Nat.zero_le _, rfl, rfl⟩
  case round =>
    obtain ⟨k, hk, rfl, rfl⟩ := hrel
    have hcl := cntP_le p k
    by_cases hlt : k < n
    · obtain ⟨rb, q1, x1, _⟩ := HR.out k hlt
      have a5 := q1.c5
      clear q1
      have hcn : Hid (cntP p (k + 1) = cntP p k + if p k then 1 else 0) := rfl
      cases hv : p k with
      | true =>
        rw [hv] at x1
        have hcn' : Hid (cntP p (k + 1) = cntP p k + 1) := by rw [hcn.out, hv]; rfl
        have x2 : w.cell? ⟨rb, 0, none⟩ = some (.string ⟨#[80, 101, 114, 109, 105, 116]⟩) := x1
        clear hv hcn x1
        go_wp2
        go_round
        case rel => exact ⟨k + 1, by omega, by go_num, by rw [hcn'.out]; go_num⟩
        case measure => simp [intOf]; omega
      | false =>
        rw [hv] at x1
        have hcn' : Hid (cntP p (k + 1) = cntP p k) := by rw [hcn.out, hv]; rfl
        have x2 : w.cell? ⟨rb, 0, none⟩ = some (.string ⟨#[68, 101, 110, 121]⟩) := x1
        clear hv hcn x1
        go_wp2
        go_round
        case rel => exact ⟨k + 1, by omega, by go_num, by rw [hcn'.out]⟩
        case measure => simp [intOf]; omega
    · obtain rfl : k = n := by omega
      go_wp2
      exact HN.out _ (J3_mk _ rfl rfl rfl rfl rfl rfl rfl rfl rfl rfl rfl rfl)

set_option maxHeartbeats 4000000 in
set_option maxRecDepth 100000 in
theorem st17 (v1 v2 v4 v13 v14 v15 v16 v17 : Value) (a q : Option Addr) (n c m mc : Nat) (B : Nat → Bool) (w : World) (Q : Exit → Act → World → Prop) (hn : n ≤ 65536) (hm : m ≤ 1048576) (hB : Bls w q m B) (act : Act)
    (hI : J3 (.slice a n c) v1 v2 (.slice q m mc) v4 v13 v14 v15 v16 v17 (.int .i64 (cntP (hasB m B) n : Nat)) act)
    (hret : ∀ fr, fr[10]? = some (.bool true) → Q .ret ⟨fr, []⟩ w) : Code.wp Try.prog (pick [1, 1, 1, 1, 1, 1, 1, 1, 1, 1, 1, 1, 1, 1, 1, 1, 1] b3) Q act w := by
  obtain ⟨g, rfl⟩ := hI
  rw [cntP_all m n B]
  have HN : Hid (∀ fr, fr[10]? = some (.bool true) → Q .ret ⟨fr, []⟩ w) := hret
  have HB : Hid (Bls w q m B) := hB
  obtain ⟨M, hM⟩ : ∃ M, M = Nat.min n m := ⟨_, rfl⟩
  rw [← hM]
  have hM1 : M ≤ n := by rw [hM]; exact Nat.min_le_left _ _
  have hM2 : M ≤ m := by rw [hM]; exact Nat.min_le_right _ _
  have hM3 : ∀ k, M ≤ k → ¬ (k < n ∧ k < m) := by
    intro k hk
    rw [hM] at hk
    intro hh
    have : k < Nat.min n m := Nat.lt_min.2 hh
    omega
  have HM3 : Hid (∀ k, M ≤ k → ¬ (k < n ∧ k < m)) := hM3
  clear hret hB hM hM3
  conv => arg 2; whnf
  go_wp2
  go_loop [22, 23] (fun t i => ∃ k : Nat, k ≤ M ∧ i = .int .i64 k ∧ t = .int .i64 (cntP B k : Nat)) (fun _ i => M - (intOf i).toNat)
  case atStart => exact ⟨0, Nat.zero_le _, rfl, rfl⟩
  case round =>
    obtain ⟨k, hk, rfl, rfl⟩ := hrel
    have hcl := cntP_le B k
    have hcM := cntP_le B M
    by_cases hlt : k < M
    · obtain ⟨b, off, rfl, c0⟩ := HB.out.cell (j := k) (by omega)
      have h1 : k < n := by omega
      have h2 : k < m := by omega
      have hcn : Hid (cntP B (k + 1) = cntP B k + if B k then 1 else 0) := rfl
      cases hv : B k with
      | true =>
        rw [hv] at c0
        have hcn' : Hid (cntP B (k + 1) = cntP B k + 1) := by rw [hcn.out, hv]; rfl
        clear hv hcn
        go_wp2
        go_round
        case rel => exact ⟨k + 1, by omega, by go_num, by rw [hcn'.out]; go_num⟩
        case measure => simp [intOf]; omega
      | false =>
        rw [hv] at c0
        have hcn' : Hid (cntP B (k + 1) = cntP B k) := by rw [hcn.out, hv]; rfl
        clear hv hcn
        go_wp2
        go_round
        case rel => exact ⟨k + 1, by omega, by go_num, by rw [hcn'.out]⟩
        case measure => simp [intOf]; omega
    · obtain rfl : k = M := by omega
      have h3 := HM3.out k (Nat.le_refl _)
      by_cases h1 : k < n
      · have h2 : ¬ k < m := fun h => h3 ⟨h1, h⟩
        clear h3
        go_wp2
        exact HN.out _ rfl
      · clear h3
        go_wp2
        exact HN.out _ rfl
end Go.Proofs.Qxb6612720a
