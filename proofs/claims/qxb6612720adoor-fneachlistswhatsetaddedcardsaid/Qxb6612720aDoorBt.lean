import Derived.Lib.TrailingZeros
namespace Go.Proofs.Qxb6612720aDoor
open Go

/-- What the lowest set bit is, and what 'x & (x - 1)' leaves. -/
theorem low_facts (x : Nat) (h0 : x ≠ 0) (h : x < 18446744073709551616) :
    Lib.ctz 64 x < 64 ∧ x.testBit (Lib.ctz 64 x) = true ∧ (∀ j, j < Lib.ctz 64 x → x.testBit j = false) ∧ ∀ j, (x &&& (x - 1)).testBit j = (x.testBit j && decide (j ≠ Lib.ctz 64 x)) := by
  obtain ⟨m, hm, hc⟩ := Lib.ctzFrom_spec 64 x (by omega) (by simpa using h)
  have e : Lib.ctz 64 x = Lib.ctzFrom 64 x := by unfold Lib.ctz; rw [if_neg h0]
  rw [e]
  generalize Lib.ctzFrom 64 x = c at hm hc
  subst hm
  have hp : 0 < 2 ^ c := Nat.two_pow_pos c
  have t1 : ∀ j, (2 ^ c * (2 * m + 1)).testBit j = (decide (c ≤ j) && (2 * m + 1).testBit (j - c)) := fun j => by
    rw [Nat.testBit_two_pow_mul]
  have e2 : 2 ^ c * (2 * m + 1) - 1 = 2 ^ c * (2 * m) + (2 ^ c - 1) := by
    rw [Nat.mul_add, Nat.mul_one]; omega
  have t2 : ∀ j, (2 ^ c * (2 * m + 1) - 1).testBit j = if j < c then (2 ^ c - 1).testBit j else (2 * m).testBit (j - c) := fun j => by
    rw [e2, Nat.testBit_two_pow_mul_add _ (by omega)]
  refine ⟨hc, by rw [t1]; simp, fun j hj => by rw [t1]; simp; omega, fun j => ?_⟩
  rw [Nat.testBit_and, t2, t1]
  by_cases hj : j < c
  · have : ¬ c ≤ j := by omega
    simp [this]
  · have hle : c ≤ j := by omega
    simp only [hj, if_false, hle, decide_true, Bool.true_and]
    by_cases he : j = c
    · subst he; simp
    · obtain ⟨q, hq⟩ : ∃ q, j - c = q + 1 := ⟨j - c - 1, by omega⟩
      rw [hq]
      have a1 : (2 * m + 1).testBit (q + 1) = m.testBit q := by
        rw [Nat.testBit_succ]; congr 1; omega
      have a2 : (2 * m).testBit (q + 1) = m.testBit q := by
        rw [Nat.testBit_succ]; congr 1; omega
      rw [a1, a2]
      simp [he]

/-! ### The numbers below m that P holds, ascending -/
def upTo (P : Nat → Bool) (m : Nat) : List Nat := (List.range m).filter P
theorem upTo_succ (P : Nat → Bool) (m : Nat) : upTo P (m + 1) = upTo P m ++ if P m then [m] else [] := by
  unfold upTo
  rw [List.range_succ, List.filter_append]
  simp [List.filter_cons]
theorem upTo_none (P : Nat → Bool) (m : Nat) : ∀ d, (∀ i, m ≤ i → i < m + d → P i = false) → upTo P (m + d) = upTo P m
  | 0, _ => rfl
  | d + 1, h => by
    rw [← Nat.add_assoc, upTo_succ, upTo_none P m d (fun i a b => h i a (by omega)), h (m + d) (by omega) (by omega)]
    simp
/-- The next number that P holds. -/
theorem upTo_next {P : Nat → Bool} {m n : Nat} (hmn : m ≤ n) (h : ∀ i, m ≤ i → i < n → P i = false) (hn : P n = true) : upTo P (n + 1) = upTo P m ++ [n] := by
  have := upTo_none P m (n - m) (fun i a b => h i a (by omega))
  rw [show m + (n - m) = n from by omega] at this
  rw [upTo_succ, this, hn]; simp
theorem upTo_same {P : Nat → Bool} {m n : Nat} (hmn : m ≤ n) (h : ∀ i, m ≤ i → i < n → P i = false) : upTo P n = upTo P m := by
  have := upTo_none P m (n - m) (fun i a b => h i a (by omega))
  rwa [show m + (n - m) = n from by omega] at this
theorem upTo_len (P : Nat → Bool) (m : Nat) : (upTo P m).length ≤ m := by
  unfold upTo
  have := List.length_filter_le P (List.range m)
  simpa using this
theorem upTo_mem {P : Nat → Bool} {m i : Nat} : i ∈ upTo P m ↔ i < m ∧ P i = true := by
  unfold upTo; simp [List.mem_filter]
theorem upTo_sorted (P : Nat → Bool) : ∀ m, (upTo P m).Pairwise (· < ·)
  | 0 => by simp [upTo]
  | m + 1 => by
    rw [upTo_succ, List.pairwise_append]
    refine ⟨upTo_sorted P m, by split <;> simp, fun a ha b hb => ?_⟩
    have := (upTo_mem.1 ha).1
    split at hb
    · simp at hb; omega
    · simp at hb
/-- One number more: the count. -/
theorem upTo_count (P : Nat → Bool) (v : Nat) : ∀ m, (upTo (fun i => P i || decide (i = v)) m).length = (upTo P m).length + if v < m ∧ P v = false then 1 else 0
  | 0 => by simp [upTo]
  | m + 1 => by
    rw [upTo_succ, upTo_succ, List.length_append, List.length_append, upTo_count P v m]
    by_cases e : m = v
    · subst e
      cases h : P m <;> simp
    · have : (v < m + 1) = (v < m) := by rw [eq_iff_iff]; omega
      simp only [this]
      cases h : P m <;> simp [e] <;> omega
theorem upTo_congr {P Q : Nat → Bool} {m : Nat} (h : ∀ i, i < m → P i = Q i) : upTo P m = upTo Q m := by
  unfold upTo
  exact List.filter_congr fun i hi => h i (List.mem_range.1 hi)

/-! ### The words of a bitset that was given the numbers of l -/
def orIn (q : Nat) (x v : Nat) : Nat := if v / 64 = q then x ||| 2 ^ (v % 64) else x
def word (l : List Nat) (q : Nat) : Nat := l.foldl (orIn q) 0
theorem orIn_lt {q x v : Nat} (h : x < 2 ^ 64) : orIn q x v < 2 ^ 64 := by
  unfold orIn
  split
  · exact Nat.or_lt_two_pow h (Nat.pow_lt_pow_right (by omega) (Nat.mod_lt _ (by omega)))
  · exact h
theorem word_lt (l : List Nat) (q : Nat) : word l q < 2 ^ 64 := by
  have : ∀ (l : List Nat) (x : Nat), x < 2 ^ 64 → l.foldl (orIn q) x < 2 ^ 64 := by
    intro l
    induction l with
    | nil => intro x h; exact h
    | cons v l ih => intro x h; exact ih _ (orIn_lt h)
  exact this l 0 (Nat.two_pow_pos 64)
theorem word_bit (l : List Nat) (q j : Nat) (hj : j < 64) : (word l q).testBit j = decide (64 * q + j ∈ l) := by
  have : ∀ (l : List Nat) (x : Nat), (l.foldl (orIn q) x).testBit j = (x.testBit j || decide (64 * q + j ∈ l)) := by
    intro l
    induction l with
    | nil => intro x; simp
    | cons v l ih =>
      intro x
      rw [List.foldl_cons, ih]
      unfold orIn
      by_cases hv : v / 64 = q
      · rw [if_pos hv, Nat.testBit_or, Nat.testBit_two_pow]
        have : (v % 64 = j) = (64 * q + j = v) := by rw [eq_iff_iff]; omega
        simp only [this, List.mem_cons, Bool.decide_or, Bool.or_assoc]
      · rw [if_neg hv]
        have : ¬ 64 * q + j = v := by omega
        simp [this]
  have h := this l 0
  simpa [word] using h
theorem word_snoc (l : List Nat) (v q : Nat) : word (l ++ [v]) q = orIn q (word l q) v := by
  unfold word; rw [List.foldl_append]; rfl
/-- Bit i of the words X. -/
def bitOf (X : Nat → Nat) (i : Nat) : Bool := (X (i / 64)).testBit (i % 64)
theorem bitOf_word (l : List Nat) (i : Nat) : bitOf (word l) i = decide (i ∈ l) := by
  unfold bitOf
  rw [word_bit l _ _ (Nat.mod_lt _ (by omega)), show 64 * (i / 64) + i % 64 = i from Nat.div_add_mod i 64]
end Go.Proofs.Qxb6612720aDoor
