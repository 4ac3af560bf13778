import Derived.Test.Qxb6612720aPc
namespace Go.Proofs.Qxb6612720a
open Go.RowKit
set_option linter.unusedVariables false

/-- A slice of Booleans. -/
def Bls (w : World) (a : Option Addr) (m : Nat) (B : Nat → Bool) : Prop := m = 0 ∨ ∃ b off, a = some ⟨b, off, none⟩ ∧ ∀ j, j < m → w.cell? ⟨b, off + j, none⟩ = some (.bool (B j))
theorem Bls.cell {w : World} {a : Option Addr} {m : Nat} {B : Nat → Bool} (h : Bls w a m B) {j : Nat} (hj : j < m) : ∃ b off, a = some ⟨b, off, none⟩ ∧ w.cell? ⟨b, off + j, none⟩ = some (.bool (B j)) := by
  rcases h with h | ⟨b, off, rfl, hc⟩
  · omega
  · exact ⟨b, off, rfl, hc j hj⟩
theorem Bls.below {w w' : World} {a : Option Addr} {m : Nat} {B : Nat → Bool} (h : Bls w a m B) (hb : Below w.heap.size w w') : Bls w' a m B := by
  rcases h with h | ⟨b, off, rfl, hc⟩
  · exact Or.inl h
  · exact Or.inr ⟨b, off, rfl, fun j hj => (hb.cell (p := ⟨b, off + j, none⟩) (World.block_lt_of_cell? w _ (hc j hj))).trans (hc j hj)⟩
def hasB (m : Nat) (B : Nat → Bool) (k : Nat) : Bool := decide (k < m) && B k

theorem perm_any (k : Nat) (pb : Nat) (q : Option Addr) (m mc : Nat) (B : Nat → Bool) (w : World) (hk : k ≤ 9223372036854775807) (hm : m ≤ maxLen) (hc : w.cell? ⟨pb, 0, none⟩ = some (.slice q m mc)) (hB : Bls w q m B) :
    Calls Try.prog 24 #[.int .i64 k, .pointer (some ⟨pb, 0, none⟩)] w fun e w' => e = .returned (.bool (hasB m B k)) ∧ w' = w := by
  unfold maxLen at hm
  have HB : Hid (Bls w q m B) := hB
  clear hB
  by_cases hlt : k < m
  · obtain ⟨b, off, rfl, c0⟩ := HB.out.cell hlt
    have HV : Hid (hasB m B k = B k) := by show _ = _; simp [hasB, hlt]
    go_enter Try.func24, Try.ntmps24
    go_wp2
    go_ret
    exact ⟨by rw [HV.out]; rfl, rfl⟩
  · have HV : Hid (hasB m B k = false) := by show _ = _; simp [hasB, hlt]
    go_enter Try.func24, Try.ntmps24
    go_wp2
    go_ret
    exact ⟨by rw [HV.out]; rfl, rfl⟩

def permitS : ByteArray := ⟨#[80, 101, 114, 109, 105, 116]⟩
def denyS : ByteArray := ⟨#[68, 101, 110, 121]⟩
def effB (b : Bool) : ByteArray := if b then permitS else denyS

/-- A policy's six cells in memory. -/
structure PCells (w : World) (b o : Nat) (t : Tg) (ra : Option Addr) (rn rc : Nat) : Prop where
  c0 : w.cell? ⟨b, o, none⟩ = some (.string t.T)
  c1 : w.cell? ⟨b, o + 1, none⟩ = some (.slice t.i.a t.i.n t.i.c)
  c2 : w.cell? ⟨b, o + 2, none⟩ = some (.slice t.j.a t.j.n t.j.c)
  c3 : w.cell? ⟨b, o + 3, none⟩ = some (.slice t.k.a t.k.n t.k.c)
  c4 : w.cell? ⟨b, o + 4, none⟩ = some (.pointer t.E)
  c5 : w.cell? ⟨b, o + 5, none⟩ = some (.slice ra rn rc)
theorem PCells.below {w w' : World} {b o : Nat} {t : Tg} {ra : Option Addr} {rn rc : Nat} (h : PCells w b o t ra rn rc) (hb : Below w.heap.size w w') : PCells w' b o t ra rn rc := by
  have hlt := World.block_lt_of_cell? w _ h.c0
  exact ⟨(hb.cell (p := ⟨b, o, none⟩) hlt).trans h.c0, (hb.cell (p := ⟨b, o + 1, none⟩) hlt).trans h.c1, (hb.cell (p := ⟨b, o + 2, none⟩) hlt).trans h.c2, (hb.cell (p := ⟨b, o + 3, none⟩) hlt).trans h.c3, (hb.cell (p := ⟨b, o + 4, none⟩) hlt).trans h.c4, (hb.cell (p := ⟨b, o + 5, none⟩) hlt).trans h.c5⟩
/-- A slice of policies. -/
def PIn (w : World) (a : Option Addr) (n : Nat) (T : Nat → Tg) : Prop := n = 0 ∨ ∃ b off, a = some ⟨b, off, none⟩ ∧ ∀ i, i < n → ∃ ra rn rc, PCells w b (off + i * 6) (T i) ra rn rc
theorem PIn.below {w w' : World} {a : Option Addr} {n : Nat} {T : Nat → Tg} (h : PIn w a n T) (hb : Below w.heap.size w w') : PIn w' a n T := by
  rcases h with h | ⟨b, off, rfl, hc⟩
  · exact Or.inl h
  · refine Or.inr ⟨b, off, rfl, fun i hi => ?_⟩
    obtain ⟨ra, rn, rc, h⟩ := hc i hi
    exact ⟨ra, rn, rc, h.below hb⟩
theorem PIn.at {w : World} {a : Option Addr} {n : Nat} {T : Nat → Tg} (h : PIn w a n T) {i : Nat} (hi : i < n) : ∃ b off ra rn rc, a = some ⟨b, off, none⟩ ∧ PCells w b (off + i * 6) (T i) ra rn rc := by
  rcases h with h | ⟨b, off, rfl, hc⟩
  · omega
  · obtain ⟨ra, rn, rc, h⟩ := hc i hi
    exact ⟨b, off, ra, rn, rc, rfl, h⟩

/-- The policies that were answered so far: the row's cells and each one's rule. -/
structure Row6 (f : Nat → Value) (o : Nat) (t : Tg) (rb : Nat) : Prop where
  c0 : f o = .string t.T
  c1 : f (o + 1) = .slice t.i.a t.i.n t.i.c
  c2 : f (o + 2) = .slice t.j.a t.j.n t.j.c
  c3 : f (o + 3) = .slice t.k.a t.k.n t.k.c
  c4 : f (o + 4) = .pointer t.E
  c5 : f (o + 5) = .slice (some ⟨rb, 0, none⟩) 1 1
def OutK (w : World) (O k : Nat) (f : Nat → Value) (T : Nat → Tg) (ef : Nat → ByteArray) : Prop := ∀ i, i < k → ∃ rb, O < rb ∧ rb < w.heap.size ∧ Row6 f (i * 6) (T i) rb ∧ w.cell? ⟨rb, 0, none⟩ = some (.string (ef i)) ∧ w.cell? ⟨rb, 1, none⟩ = some (.pointer none)
theorem OutK.below {w w' : World} {O k : Nat} {f : Nat → Value} {T : Nat → Tg} {ef : Nat → ByteArray} (h : OutK w O k f T ef) (hb : Below w.heap.size w w') : OutK w' O k f T ef := by
  intro i hi
  obtain ⟨rb, h1, h2, h3, h4, h5⟩ := h i hi
  exact ⟨rb, h1, Nat.lt_of_lt_of_le h2 hb.size, h3, (hb.cell (p := ⟨rb, 0, none⟩) h2).trans h4, (hb.cell (p := ⟨rb, 1, none⟩) h2).trans h5⟩
theorem put6_size (w : World) (B o : Nat) (v0 v1 v2 v3 v4 v5 : Value) : (put6 w B o v0 v1 v2 v3 v4 v5).heap.size = w.heap.size := by simp [put6, World.setCell]
theorem put6_other (w : World) (B o b j : Nat) (v0 v1 v2 v3 v4 v5 : Value) (h : b ≠ B) : (put6 w B o v0 v1 v2 v3 v4 v5).cell? ⟨b, j, none⟩ = w.cell? ⟨b, j, none⟩ := by
  unfold put6
  rw [cell_setOther _ _ _ _ _ h, cell_setOther _ _ _ _ _ h, cell_setOther _ _ _ _ _ h, cell_setOther _ _ _ _ _ h, cell_setOther _ _ _ _ _ h, cell_setOther _ _ _ _ _ h]
/-- The world behind a round of answer. -/
def ansW (w : World) (O k : Nat) (t : Tg) (X : Obj) (es : ByteArray) : World := ((put6 w O (k * 6) (.string t.T) (.slice t.i.a t.i.n t.i.c) (.slice t.j.a t.j.n t.j.c) (.slice t.k.a t.k.n t.k.c) (.pointer t.E) (.slice (some ⟨w.heap.size + 1, 0, none⟩) 1 1)).alloc X).alloc (.cells #[.string es, .pointer none] 49)
def ansF (w : World) (f : Nat → Value) (k : Nat) (t : Tg) : Nat → Value := upd6 f (k * 6) (.string t.T) (.slice t.i.a t.i.n t.i.c) (.slice t.j.a t.j.n t.j.c) (.slice t.k.a t.k.n t.k.c) (.pointer t.E) (.slice (some ⟨w.heap.size + 1, 0, none⟩) 1 1)
theorem ansW_size (w : World) (O k : Nat) (t : Tg) (X : Obj) (es : ByteArray) : (ansW w O k t X es).heap.size = w.heap.size + 2 := by simp [ansW, put6_size]
theorem ansW_other (w : World) (O k : Nat) (t : Tg) (X : Obj) (es : ByteArray) (b j : Nat) (hb : b ≠ O) (hlt : b < w.heap.size) : (ansW w O k t X es).cell? ⟨b, j, none⟩ = w.cell? ⟨b, j, none⟩ := by
  unfold ansW
  rw [World.cell?_alloc_lt _ _ _ (by simp [put6_size]; omega), World.cell?_alloc_lt _ _ _ (by simpa [put6_size] using hlt), put6_other _ _ _ _ _ _ _ _ _ _ _ hb]
theorem ansW_new (w : World) (O k : Nat) (t : Tg) (X : Obj) (es : ByteArray) : (ansW w O k t X es).cell? ⟨w.heap.size + 1, 0, none⟩ = some (.string es) ∧ (ansW w O k t X es).cell? ⟨w.heap.size + 1, 1, none⟩ = some (.pointer none) := by
  have hs : w.heap.size + 1 = ((put6 w O (k * 6) (.string t.T) (.slice t.i.a t.i.n t.i.c) (.slice t.j.a t.j.n t.j.c) (.slice t.k.a t.k.n t.k.c) (.pointer t.E) (.slice (some ⟨w.heap.size + 1, 0, none⟩) 1 1)).alloc X).heap.size := by simp [put6_size]
  unfold ansW
  constructor
  · conv => lhs; arg 2; rw [hs]
    simp [go_sem]
  · conv => lhs; arg 2; rw [hs]
    simp [go_sem]
theorem ansW_row {w : World} {O k N : Nat} {f : Nat → Value} {t : Tg} {X : Obj} {es : ByteArray} (h : w.rowIs O 45 N f) : (ansW w O k t X es).rowIs O 45 N (ansF w f k t) := ((put6_row h).alloc X).alloc _
theorem ansW_below {w0 w : World} {O k B : Nat} {t : Tg} {X : Obj} {es : ByteArray} (h : Below B w0 w) (h1 : B ≤ O) (h2 : B ≤ w.heap.size) : Below B w0 (ansW w O k t X es) :=
  ((put6_below h h1).alloc (by rw [put6_size]; exact h2) X).alloc (by simp [put6_size]; omega) _
theorem OutK.step {w : World} {O k : Nat} {f : Nat → Value} {T : Nat → Tg} {ef : Nat → ByteArray} {X : Obj} {es : ByteArray} (h : OutK w O k f T ef) (hO : O < w.heap.size) (he : ef k = es) : OutK (ansW w O k (T k) X es) O (k + 1) (ansF w f k (T k)) T ef := by
  intro i hi
  by_cases e : i = k
  · subst e
    exact ⟨w.heap.size + 1, by omega, by rw [ansW_size]; omega, ⟨upd6_0 .., upd6_1 .., upd6_2 .., upd6_3 .., upd6_4 .., upd6_5 ..⟩, by rw [he]; exact (ansW_new ..).1, (ansW_new ..).2⟩
  · obtain ⟨rb', h1, h2, h3, h4, h5⟩ := h i (by omega)
    refine ⟨rb', h1, by rw [ansW_size]; omega, ⟨?_, ?_, ?_, ?_, ?_, ?_⟩, (ansW_other _ _ _ _ _ _ _ _ (by omega) h2).trans h4, (ansW_other _ _ _ _ _ _ _ _ (by omega) h2).trans h5⟩
    · exact (upd6_other (by omega)).trans h3.c0
    · exact (upd6_other (by omega)).trans h3.c1
    · exact (upd6_other (by omega)).trans h3.c2
    · exact (upd6_other (by omega)).trans h3.c3
    · exact (upd6_other (by omega)).trans h3.c4
    · exact (upd6_other (by omega)).trans h3.c5

/-- What answer hands back: its policies lie in a row of its own. -/
def AnsR (w w' : World) (depth : Int) (L : Value) (n : Nat) (T : Nat → Tg) (ef : Nat → ByteArray) (e : Ending) : Prop := ∃ O f, e = .returned (.agg #[.int .i64 depth, L, .slice (some ⟨O, 0, none⟩) n n]) ∧ w.heap.size ≤ O ∧ w'.rowIs O 45 (n * 6) f ∧ OutK w' O n f T ef

theorem row_set3 {w : World} {O B t N : Nat} {f : Nat → Value} {u v x : Value} (h : w.rowIs O t N f) (hne : O ≠ B) : (((w.setCell ⟨B, 0, none⟩ u).setCell ⟨B, 1, none⟩ v).setCell ⟨B, 2, none⟩ x).rowIs O t N f :=
  ((h.setOther hne u).setOther (a := ⟨B, 1, none⟩) hne v).setOther (a := ⟨B, 2, none⟩) hne x
theorem below_set3 {w wr : World} {B0 B : Nat} {u v x : Value} (h : Below B0 w wr) (hB : B0 ≤ B) : Below B0 w (((wr.setCell ⟨B, 0, none⟩ u).setCell ⟨B, 1, none⟩ v).setCell ⟨B, 2, none⟩ x) :=
  ((h.setCell (p := ⟨B, 0, none⟩) hB u).setCell (p := ⟨B, 1, none⟩) hB v).setCell (p := ⟨B, 2, none⟩) hB x
theorem out_set3 {w : World} {O B k : Nat} {f : Nat → Value} {T : Nat → Tg} {ef : Nat → ByteArray} {u v x : Value} (h : OutK w O k f T ef) (hB : B < O) : OutK (((w.setCell ⟨B, 0, none⟩ u).setCell ⟨B, 1, none⟩ v).setCell ⟨B, 2, none⟩ x) O k f T ef := by
  intro i hi
  obtain ⟨rb, h1, h2, h3, h4, h5⟩ := h i hi
  have hne : rb ≠ B := by omega
  refine ⟨rb, h1, by simpa [World.setCell] using h2, h3, ?_, ?_⟩
  · rw [cell_setOther _ _ _ _ _ hne, cell_setOther _ _ _ _ _ hne, cell_setOther _ _ _ _ _ hne]; exact h4
  · rw [cell_setOther _ _ _ _ _ hne, cell_setOther _ _ _ _ _ hne, cell_setOther _ _ _ _ _ hne]; exact h5

set_option maxHeartbeats 2000000 in
set_option maxRecDepth 100000 in
theorem answer_any (a la q : Option Addr) (n c ln lc m mc pb : Nat) (depth : Int) (T : Nat → Tg) (B : Nat → Bool) (w : World) (hn : n ≤ 65536) (hm : m ≤ maxLen) (hP : PIn w a n T) (hc : w.cell? ⟨pb, 0, none⟩ = some (.slice q m mc)) (hB : Bls w q m B) :
    Calls Try.prog 23 #[.slice a n c, .int .i64 depth, .slice la ln lc, .func (.func 24) #[] #[.pointer (some ⟨pb, 0, none⟩)]] w fun e w' => AnsR w w' depth (.slice la ln lc) n T (fun i => effB (hasB m B i)) e ∧ Below w.heap.size w w' := by
  have HP : Hid (PIn w a n T) := hP
  have HB : Hid (Bls w q m B) := hB
  have HC : Hid (w.cell? ⟨pb, 0, none⟩ = some (.slice q m mc)) := hc
  have HM : Hid (m ≤ maxLen) := hm
  clear hP hB hc hm
  have hmk1 := make45 n hn
  go_enter Try.func23, Try.ntmps23
  go_wp2
  have SR : Hid (∃ f, World.rowIs (((w.alloc (.cells #[.int .i64 0, .slice none 0 0, .slice none 0 0] 34)).alloc (.cells (madeCells zero45 (n * 6)) 45)).alloc (.cells #[.int .i64 depth, .slice la ln lc, .slice (some ⟨w.heap.size + 1, 0, none⟩) n n] 34)) (w.heap.size + 1) 45 (n * 6) f) := by
    obtain ⟨f0, hf0⟩ := some_row (w.alloc (.cells #[.int .i64 0, .slice none 0 0, .slice none 0 0] 34)) (madeCells zero45 (n * 6)) 45
    rw [size_madeCells] at hf0
    have := hf0.alloc (.cells #[.int .i64 depth, .slice la ln lc, .slice (some ⟨w.heap.size + 1, 0, none⟩) n n] 34)
    refine ⟨f0, ?_⟩
    simpa using this
  clear hmk1
  go_loopw [23] (fun i wr => ∃ k : Nat, k ≤ n ∧ i = .int .i64 k ∧ (∃ f, Hid (wr.rowIs (w.heap.size + 1) 45 (n * 6) f) ∧ Hid (OutK wr (w.heap.size + 1) k f T (fun i => effB (hasB m B i)))) ∧ Hid (wr.cell? ⟨w.heap.size + 2, 0, none⟩ = some (.int .i64 depth)) ∧ Hid (wr.cell? ⟨w.heap.size + 2, 1, none⟩ = some (.slice la ln lc)) ∧ Hid (wr.cell? ⟨w.heap.size + 2, 2, none⟩ = some (.slice (some ⟨w.heap.size + 1, 0, none⟩) n n)) ∧ Hid (Below (w.heap.size + 1) (w.alloc (.cells #[.int .i64 0, .slice none 0 0, .slice none 0 0] 34)) wr) ∧ w.heap.size + 2 < wr.heap.size) (fun i _ => n - (intOf i).toNat)
  case atStart =>
    obtain ⟨f0, hf0⟩ := SR.out
    refine ⟨0, Nat.zero_le _, rfl, ⟨f0, hf0, fun i hi => by omega⟩, ?_, ?_, ?_, ((Below.refl _ _).alloc (by simp) _).alloc (by simp) _, by simp⟩
    all_goals (show _ = _; simp [go_sem])
  case round =>
    obtain ⟨k, hk, rfl, ⟨f, hr, ho⟩, s0, s1, s2, hb, hz⟩ := hrel
    have hbw : Below w.heap.size w wr := ((Below.refl _ _).alloc (Nat.le_refl _) _).trans (hb.out.mono (by omega))
    by_cases hlt : k < n
    · obtain ⟨b, off, ra, rn, rc, rfl, hp⟩ := (HP.out.below hbw).at hlt
      have c0 := hp.c0
      have c1 := hp.c1
      have c2 := hp.c2
      have c3 := hp.c3
      have c4 := hp.c4
      have c5 := hp.c5
      have hbo : b < wr.heap.size := World.block_lt_of_cell? wr _ c0
      have e2 : wr.cell? ⟨w.heap.size + 1 + 1, 2, none⟩ = some (.slice (some ⟨w.heap.size + 1, 0, none⟩) n n) := s2.out
      have hz2 : w.heap.size + 1 + 1 < wr.heap.size := hz
      have hz3 : w.heap.size + 1 < wr.heap.size := by omega
      have hz4 : w.heap.size < wr.heap.size := by omega
      have HCX : Hid (∀ X, (wr.alloc X).cell? ⟨pb, 0, none⟩ = some (.slice q m mc)) := fun X => by
        have hpb := World.block_lt_of_cell? w _ HC.out
        rw [World.cell?_alloc_lt _ _ _ (Nat.lt_of_lt_of_le hpb hbw.size)]
        exact (hbw.cell (p := ⟨pb, 0, none⟩) hpb).trans HC.out
      have HBX : Hid (∀ X, Bls (wr.alloc X) q m B) := fun X => (HB.out.below hbw).below ((Below.refl _ _).alloc (Nat.le_refl _) _)
      obtain ⟨⟨v0, d0⟩, ⟨v1, d1⟩, ⟨v2, d2⟩, ⟨v3, d3⟩, ⟨v4, d4⟩, ⟨v5, d5⟩, df⟩ := row_six hr.out (k := k) (by omega)
      clear hp
      cases hv : hasB m B k with
      | true =>
        have HV : Hid (hasB m B k = true) := hv
        clear hv
        go_wp2_with fail
        refine (perm_any k pb q m mc B _ (by omega) HM.out (HCX.out _) (HBX.out _)).mono ?_
        rintro e w1 ⟨rfl, rfl⟩
        rw [HV.out]
        go_wp2
        go_roundw
        case rel =>
          have hef : (fun i => effB (hasB m B i)) k = permitS := by simp [HV.out, effB]
          have O1 := OutK.step (X := .cells #[.string (T k).T, .slice (T k).i.a (T k).i.n (T k).i.c, .slice (T k).j.a (T k).j.n (T k).j.c, .slice (T k).k.a (T k).k.n (T k).k.c, .pointer (T k).E, .slice ra rn rc] 45) ho.out hz3 hef
          exact ⟨k + 1, by omega, by go_num, ⟨_, ansW_row hr.out, O1⟩, (ansW_other _ _ _ _ _ _ _ _ (by omega) hz).trans s0.out, (ansW_other _ _ _ _ _ _ _ _ (by omega) hz).trans s1.out, (ansW_other _ _ _ _ _ _ _ _ (by omega) hz).trans s2.out, ansW_below hb.out (Nat.le_refl _) (by omega), by have := ansW_size wr (w.heap.size + 1) k (T k) (.cells #[.string (T k).T, .slice (T k).i.a (T k).i.n (T k).i.c, .slice (T k).j.a (T k).j.n (T k).j.c, .slice (T k).k.a (T k).k.n (T k).k.c, .pointer (T k).E, .slice ra rn rc] 45) permitS; exact Nat.lt_of_lt_of_eq (by omega) this.symm⟩
        case measure => simp [intOf]; omega
      | false =>
        have HV : Hid (hasB m B k = false) := hv
        clear hv
        go_wp2_with fail
        refine (perm_any k pb q m mc B _ (by omega) HM.out (HCX.out _) (HBX.out _)).mono ?_
        rintro e w1 ⟨rfl, rfl⟩
        rw [HV.out]
        go_wp2
        go_roundw
        case rel =>
          have hef : (fun i => effB (hasB m B i)) k = denyS := by simp [HV.out, effB]
          have O1 := OutK.step (X := .cells #[.string (T k).T, .slice (T k).i.a (T k).i.n (T k).i.c, .slice (T k).j.a (T k).j.n (T k).j.c, .slice (T k).k.a (T k).k.n (T k).k.c, .pointer (T k).E, .slice ra rn rc] 45) ho.out hz3 hef
          exact ⟨k + 1, by omega, by go_num, ⟨_, ansW_row hr.out, O1⟩, (ansW_other _ _ _ _ _ _ _ _ (by omega) hz).trans s0.out, (ansW_other _ _ _ _ _ _ _ _ (by omega) hz).trans s1.out, (ansW_other _ _ _ _ _ _ _ _ (by omega) hz).trans s2.out, ansW_below hb.out (Nat.le_refl _) (by omega), by have := ansW_size wr (w.heap.size + 1) k (T k) (.cells #[.string (T k).T, .slice (T k).i.a (T k).i.n (T k).i.c, .slice (T k).j.a (T k).j.n (T k).j.c, .slice (T k).k.a (T k).k.n (T k).k.c, .pointer (T k).E, .slice ra rn rc] 45) denyS; exact Nat.lt_of_lt_of_eq (by omega) this.symm⟩
        case measure => simp [intOf]; omega
    · obtain rfl : k = n := by omega
      have f0 : wr.cell? ⟨w.heap.size, 0, none⟩ = some (.int .i64 0) := (hb.out.cell (p := ⟨w.heap.size, 0, none⟩) (by simp)).trans (by simp [go_sem])
      have f1 : wr.cell? ⟨w.heap.size, 1, none⟩ = some (.slice none 0 0) := (hb.out.cell (p := ⟨w.heap.size, 1, none⟩) (by simp)).trans (by simp [go_sem])
      have f2 : wr.cell? ⟨w.heap.size, 2, none⟩ = some (.slice none 0 0) := (hb.out.cell (p := ⟨w.heap.size, 2, none⟩) (by simp)).trans (by simp [go_sem])
      have ff : ∀ j, wr.frozen? ⟨w.heap.size, j, none⟩ = false := fun j => (hb.out.frozen (p := ⟨w.heap.size, j, none⟩) (by simp)).trans (by simp [go_sem])
      have e0 : wr.cell? ⟨w.heap.size + 1 + 1, 0, none⟩ = some (.int .i64 depth) := s0.out
      have e1 : wr.cell? ⟨w.heap.size + 1 + 1, 1, none⟩ = some (.slice la ln lc) := s1.out
      have e2 : wr.cell? ⟨w.heap.size + 1 + 1, 2, none⟩ = some (.slice (some ⟨w.heap.size + 1, 0, none⟩) k k) := s2.out
      have HBW : Hid (Below w.heap.size w wr) := hbw
      clear hbw
      go_wp2
      refine bodyPost_ret (v := .agg #[.int .i64 depth, .slice la ln lc, .slice (some ⟨w.heap.size + 1, 0, none⟩) k k]) (by simp [results, Try.results23, go_sem, f0, f1, f2]) rfl ⟨⟨w.heap.size + 1, f, rfl, by omega, ?_, ?_⟩, ?_⟩
      · exact row_set3 hr.out (by omega)
      · exact out_set3 ho.out (by omega)
      · exact below_set3 HBW.out (Nat.le_refl _)

set_option maxHeartbeats 1000000 in
theorem zanswer_any (a la q : Option Addr) (n c ln lc m mc : Nat) (depth : Int) (T : Nat → Tg) (B : Nat → Bool) (w : World) (hn : n ≤ 65536) (hm : m ≤ maxLen) (hP : PIn w a n T) (hB : Bls w q m B) :
    Calls Try.prog 9 #[.slice a n c, .int .i64 depth, .slice la ln lc, .slice q m mc] w fun e w' => AnsR w w' depth (.slice la ln lc) n T (fun i => effB (hasB m B i)) e ∧ Below w.heap.size w w' := by
  have hb0 : Below w.heap.size w ((w.alloc (.cells #[.slice q m mc] 24)).alloc (.cells #[.int .i64 0, .slice none 0 0, .slice none 0 0] 34)) := ((Below.refl _ _).alloc (Nat.le_refl _) _).alloc (by simp) _
  have C : Hid _ := answer_any a la q n c ln lc m mc w.heap.size depth T B ((w.alloc (.cells #[.slice q m mc] 24)).alloc (.cells #[.int .i64 0, .slice none 0 0, .slice none 0 0] 34)) hn hm (hP.below hb0) (by simp [go_sem]) (hB.below hb0)
  clear hm hP hB
  go_enter Try.func9, Try.ntmps9
  go_wp2_with fail
  refine Calls.mono C.out ?_
  rintro e w1 ⟨⟨O, f, rfl, hO, hr, ho⟩, hb1⟩
  have hO2 : w.heap.size + 2 ≤ O := by simpa using hO
  have f0 : w1.cell? ⟨w.heap.size + 1, 0, none⟩ = some (.int .i64 0) := (hb1.cell (p := ⟨w.heap.size + 1, 0, none⟩) (by simp)).trans (by simp [go_sem])
  have f1 : w1.cell? ⟨w.heap.size + 1, 1, none⟩ = some (.slice none 0 0) := (hb1.cell (p := ⟨w.heap.size + 1, 1, none⟩) (by simp)).trans (by simp [go_sem])
  have f2 : w1.cell? ⟨w.heap.size + 1, 2, none⟩ = some (.slice none 0 0) := (hb1.cell (p := ⟨w.heap.size + 1, 2, none⟩) (by simp)).trans (by simp [go_sem])
  have ff : ∀ j, w1.frozen? ⟨w.heap.size + 1, j, none⟩ = false := fun j => (hb1.frozen (p := ⟨w.heap.size + 1, j, none⟩) (by simp)).trans (by simp [go_sem])
  have RH : Hid (w1.rowIs O 45 (n * 6) f) := hr
  have OH : Hid (OutK w1 O n f T (fun i => effB (hasB m B i))) := ho
  have BH : Hid (Below w.heap.size w w1) := hb0.trans (hb1.mono (by simp; omega))
  clear hr ho hb1 hb0 C hO
  go_wp2
  refine bodyPost_ret (v := .agg #[.int .i64 depth, .slice la ln lc, .slice (some ⟨O, 0, none⟩) n n]) (by simp [results, Try.results9, go_sem, f0, f1, f2]) rfl ⟨⟨O, f, rfl, by omega, ?_, ?_⟩, ?_⟩
  · exact row_set3 RH.out (by omega)
  · exact out_set3 OH.out (by omega)
  · exact below_set3 BH.out (by omega)
end Go.Proofs.Qxb6612720a
