import Derived.Test.Qxb6612720aNq
namespace Go.Proofs.Qxb6612720a
open Go.RowKit
open Go.Maps (Keyed)
set_option linter.unusedVariables false

/-! ### What the law is given -/
def Wins (w : World) (a : Option Addr) (n : Nat) (nb na : Nat → Int) : Prop := n = 0 ∨ ∃ b off, a = some ⟨b, off, none⟩ ∧ ∀ i, i < n → w.cell? ⟨b, off + i * 2, none⟩ = some (.int .i64 (nb i)) ∧ w.cell? ⟨b, off + i * 2 + 1, none⟩ = some (.int .i64 (na i))
theorem Wins.at {w : World} {a : Option Addr} {n : Nat} {nb na : Nat → Int} (h : Wins w a n nb na) {i : Nat} (hi : i < n) : ∃ b off, a = some ⟨b, off, none⟩ ∧ b < w.heap.size ∧ w.cell? ⟨b, off + i * 2, none⟩ = some (.int .i64 (nb i)) ∧ w.cell? ⟨b, off + i * 2 + 1, none⟩ = some (.int .i64 (na i)) := by
  rcases h with h | ⟨b, off, rfl, hc⟩
  · omega
  · exact ⟨b, off, rfl, World.block_lt_of_cell? w _ (hc i hi).1, hc i hi⟩
theorem Wins.below {w w' : World} {a : Option Addr} {n : Nat} {nb na : Nat → Int} (h : Wins w a n nb na) (hb : Below w.heap.size w w') : Wins w' a n nb na := by
  rcases h with h | ⟨b, off, rfl, hc⟩
  · exact Or.inl h
  · refine Or.inr ⟨b, off, rfl, fun i hi => ?_⟩
    obtain ⟨h1, h2⟩ := hc i hi
    have hlt := World.block_lt_of_cell? w _ h1
    exact ⟨(hb.cell (p := ⟨b, off + i * 2, none⟩) hlt).trans h1, (hb.cell (p := ⟨b, off + i * 2 + 1, none⟩) hlt).trans h2⟩
/-- An entry: type, identifier, references. -/
structure En where
  T : ByteArray
  I : ByteArray
  a : Option Addr
  n : Nat
  c : Nat
  R : Nat → Rf
structure LAt (w : World) (b o : Nat) (p : En) : Prop where
  c0 : w.cell? ⟨b, o, none⟩ = some (.string p.T)
  c1 : w.cell? ⟨b, o + 1, none⟩ = some (.string p.I)
  c2 : w.cell? ⟨b, o + 2, none⟩ = some (.slice p.a p.n p.c)
  rf : Rfs w p.a p.n p.R
  le : p.n ≤ maxLen
structure UAt (w : World) (b o : Nat) (p : En) : Prop where
  c0 : w.cell? ⟨b, o, none⟩ = some (.string p.T)
  c2 : w.cell? ⟨b, o + 1, none⟩ = some (.slice p.a p.n p.c)
  rf : Rfs w p.a p.n p.R
  le : p.n ≤ maxLen
theorem LAt.below {w w' : World} {b o : Nat} {p : En} (h : LAt w b o p) (hb : Below w.heap.size w w') : LAt w' b o p := by
  have hlt := World.block_lt_of_cell? w _ h.c0
  exact ⟨(hb.cell (p := ⟨b, o, none⟩) hlt).trans h.c0, (hb.cell (p := ⟨b, o + 1, none⟩) hlt).trans h.c1, (hb.cell (p := ⟨b, o + 2, none⟩) hlt).trans h.c2, h.rf.below hb, h.le⟩
theorem UAt.below {w w' : World} {b o : Nat} {p : En} (h : UAt w b o p) (hb : Below w.heap.size w w') : UAt w' b o p := by
  have hlt := World.block_lt_of_cell? w _ h.c0
  exact ⟨(hb.cell (p := ⟨b, o, none⟩) hlt).trans h.c0, (hb.cell (p := ⟨b, o + 1, none⟩) hlt).trans h.c2, h.rf.below hb, h.le⟩
def Lis (w : World) (a : Option Addr) (n : Nat) (P : Nat → En) : Prop := n = 0 ∨ ∃ b off, a = some ⟨b, off, none⟩ ∧ ∀ i, i < n → LAt w b (off + i * 3) (P i)
def Uns (w : World) (a : Option Addr) (n : Nat) (P : Nat → En) : Prop := n = 0 ∨ ∃ b off, a = some ⟨b, off, none⟩ ∧ ∀ i, i < n → UAt w b (off + i * 2) (P i)
theorem Lis.below {w w' : World} {a : Option Addr} {n : Nat} {P : Nat → En} (h : Lis w a n P) (hb : Below w.heap.size w w') : Lis w' a n P := by
  rcases h with h | ⟨b, off, rfl, hc⟩
  · exact Or.inl h
  · exact Or.inr ⟨b, off, rfl, fun i hi => (hc i hi).below hb⟩
theorem Uns.below {w w' : World} {a : Option Addr} {n : Nat} {P : Nat → En} (h : Uns w a n P) (hb : Below w.heap.size w w') : Uns w' a n P := by
  rcases h with h | ⟨b, off, rfl, hc⟩
  · exact Or.inl h
  · exact Or.inr ⟨b, off, rfl, fun i hi => (hc i hi).below hb⟩
theorem Lis.at {w : World} {a : Option Addr} {n : Nat} {P : Nat → En} (h : Lis w a n P) {i : Nat} (hi : i < n) : ∃ b off, a = some ⟨b, off, none⟩ ∧ b < w.heap.size ∧ LAt w b (off + i * 3) (P i) := by
  rcases h with h | ⟨b, off, rfl, hc⟩
  · omega
  · exact ⟨b, off, rfl, World.block_lt_of_cell? w _ (hc i hi).c0, hc i hi⟩
theorem Uns.at {w : World} {a : Option Addr} {n : Nat} {P : Nat → En} (h : Uns w a n P) {i : Nat} (hi : i < n) : ∃ b off, a = some ⟨b, off, none⟩ ∧ b < w.heap.size ∧ UAt w b (off + i * 2) (P i) := by
  rcases h with h | ⟨b, off, rfl, hc⟩
  · omega
  · exact ⟨b, off, rfl, World.block_lt_of_cell? w _ (hc i hi).c0, hc i hi⟩

/-! ### The rows that callNumber lays -/
def strAt (T : Nat → ByteArray) (k j : Nat) : Value := .string (if j < k then T j else ⟨#[]⟩)
def slAt (sb m : Nat → Nat) (k j : Nat) : Value := if j < k then .slice (some ⟨sb j, 0, none⟩) (m j) (m j) else .slice none 0 0
theorem str_step {w : World} {O n k : Nat} {T : Nat → ByteArray} (h : w.rowIs O 9 n (strAt T k)) : (w.setCell ⟨O, k, none⟩ (.string (T k))).rowIs O 9 n (strAt T (k + 1)) := (h.set _ _).congr fun j _ => by
  unfold strAt
  by_cases e : j = k
  · subst e; simp
  · rw [if_neg e]
    have : (j < k + 1) = (j < k) := by rw [eq_iff_iff]; omega
    simp only [this]
theorem int_step {w : World} {O n k : Nat} {f : Nat → Int} {t : TypeId} (h : w.rowIs O t n (upto f k)) : (w.setCell ⟨O, k, none⟩ (.int .i64 (f k))).rowIs O t n (upto f (k + 1)) := (h.set _ _).congr fun j _ => by
  unfold upto
  by_cases e : j = k
  · subst e; simp
  · rw [if_neg e]
    have : (j < k + 1) = (j < k) := by rw [eq_iff_iff]; omega
    simp only [this]
theorem sl_step {w : World} {O n k x : Nat} {sb m : Nat → Nat} (h : w.rowIs O 87 n (slAt sb m k)) : (w.setCell ⟨O, k, none⟩ (.slice (some ⟨x, 0, none⟩) (m k) (m k))).rowIs O 87 n (slAt (fun j => if j = k then x else sb j) m (k + 1)) := (h.set _ _).congr fun j _ => by
  unfold slAt
  by_cases e : j = k
  · subst e; simp
  · rw [if_neg e]
    have : (j < k + 1) = (j < k) := by rw [eq_iff_iff]; omega
    simp only [this, e, if_false]
structure HBc (w : World) (O16 O17 n k base : Nat) (sb gb m : Nat → Nat) (R : Nat → Nat → Rf) : Prop where
  r16 : w.rowIs O16 87 n (slAt sb m k)
  r17 : w.rowIs O17 87 n (slAt gb m k)
  rs : ∀ j, j < k → w.rowIs (sb j) 3 (m j) (upto (fun i => (R j i).1) (m j)) ∧ base ≤ sb j
  rg : ∀ j, j < k → w.rowIs (gb j) 3 (m j) (upto (fun i => (R j i).2) (m j)) ∧ base ≤ gb j
theorem HBc.set {w : World} {O16 O17 n k base : Nat} {sb gb m : Nat → Nat} {R : Nat → Nat → Rf} (h : HBc w O16 O17 n k base sb gb m R) {O i : Nat} (v : Value) (h1 : O16 ≠ O) (h2 : O17 ≠ O) (h3 : O < base) : HBc (w.setCell ⟨O, i, none⟩ v) O16 O17 n k base sb gb m R :=
  ⟨h.r16.setOther h1 v, h.r17.setOther h2 v, fun j hj => ⟨(h.rs j hj).1.setOther (a := ⟨O, i, none⟩) (by have := (h.rs j hj).2; show sb j ≠ O; omega) v, (h.rs j hj).2⟩, fun j hj => ⟨(h.rg j hj).1.setOther (a := ⟨O, i, none⟩) (by have := (h.rg j hj).2; show gb j ≠ O; omega) v, (h.rg j hj).2⟩⟩
theorem HBc.below {w w' : World} {O16 O17 n k base : Nat} {sb gb m : Nat → Nat} {R : Nat → Nat → Rf} (h : HBc w O16 O17 n k base sb gb m R) (hb : Below w.heap.size w w') : HBc w' O16 O17 n k base sb gb m R :=
  ⟨h.r16.of_block (hb.block _ h.r16.lt), h.r17.of_block (hb.block _ h.r17.lt), fun j hj => ⟨(h.rs j hj).1.of_block (hb.block _ (h.rs j hj).1.lt), (h.rs j hj).2⟩, fun j hj => ⟨(h.rg j hj).1.of_block (hb.block _ (h.rg j hj).1.lt), (h.rg j hj).2⟩⟩
theorem hbc_step {wA wB wD : World} {O16 O17 n k base : Nat} {sb gb m : Nat → Nat} {R : Nat → Nat → Rf} (h : HBc wA O16 O17 n k base sb gb m R) (h16 : O16 < base) (h17 : O17 < base) (hne : O16 ≠ O17) (hA : base ≤ wA.heap.size) (hB : Below wA.heap.size wA wB) (hrB : wB.rowIs wA.heap.size 3 (m k) (upto (fun i => (R k i).1) (m k))) (hsB : wB.heap.size = wA.heap.size + 1)
    (hD : Below wB.heap.size (wB.setCell ⟨O16, k, none⟩ (.slice (some ⟨wA.heap.size, 0, none⟩) (m k) (m k))) wD) (hrD : wD.rowIs wB.heap.size 3 (m k) (upto (fun i => (R k i).2) (m k))) :
    HBc (wD.setCell ⟨O17, k, none⟩ (.slice (some ⟨wB.heap.size, 0, none⟩) (m k) (m k))) O16 O17 n (k + 1) base (fun j => if j = k then wA.heap.size else sb j) (fun j => if j = k then wB.heap.size else gb j) m R := by
  have hb1 := h.below hB
  have rowC : ∀ {b t N f}, wB.rowIs b t N f → b ≠ O16 → wD.rowIs b t N f := fun {b t N f} hr hb => by
    have h1 := hr.setOther (a := ⟨O16, k, none⟩) hb (.slice (some ⟨wA.heap.size, 0, none⟩) (m k) (m k))
    exact h1.of_block (hD.block b hr.lt)
  refine ⟨?_, ?_, fun j hj => ?_, fun j hj => ?_⟩
  · have h1 := sl_step (x := wA.heap.size) hb1.r16
    exact (h1.of_block (hD.block O16 hb1.r16.lt)).setOther (a := ⟨O17, k, none⟩) hne _
  · exact sl_step (rowC hb1.r17 hne.symm)
  · by_cases e : j = k
    · subst e
      simp only [if_true]
      exact ⟨(rowC hrB (by omega)).setOther (a := ⟨O17, j, none⟩) (by show wA.heap.size ≠ O17; omega) _, hA⟩
    · simp only [e, if_false]
      obtain ⟨q1, q2⟩ := hb1.rs j (by omega)
      exact ⟨(rowC q1 (by omega)).setOther (a := ⟨O17, k, none⟩) (by show sb j ≠ O17; omega) _, q2⟩
  · by_cases e : j = k
    · subst e
      simp only [if_true]
      exact ⟨hrD.setOther (a := ⟨O17, j, none⟩) (by show wB.heap.size ≠ O17; omega) _, by omega⟩
    · simp only [e, if_false]
      obtain ⟨q1, q2⟩ := hb1.rg j (by omega)
      exact ⟨(rowC q1 (by omega)).setOther (a := ⟨O17, k, none⟩) (by show gb j ≠ O17; omega) _, q2⟩
end Go.Proofs.Qxb6612720a
