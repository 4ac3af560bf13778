import Derived.Test.Qxb6612720aNp
namespace Go.Proofs.Qxb6612720a
open Go.RowKit
open Go.Maps (Keyed)
set_option linter.unusedVariables false

theorem DM.grown {w w' : World} {kt : TypeId} {keys : Nat → Lit} {k B X : Nat} {m : Nat → Nat} {R : Nat → Nat → Rf} (h : DM w kt keys k B m R) (hg : w.grownBy w' (some X)) (hX : B ≠ X) (hno : ∀ cs t fz, w.heap[X]? ≠ some (.cells cs t fz)) : DM w' kt keys k B m R :=
  h.same (hg.block B h.lt (by simpa using hX)) fun j cs hj => hg.block j (lt_of_block hj) (by simp; rintro rfl; exact hno _ _ _ hj)
theorem below_grown {a b : World} {X B : Nat} (h : a.grownBy b (some X)) (hX : B ≤ X) (ha : B ≤ a.heap.size) : Below B a b := ⟨h.os, h.tape, h.output, h.size, fun k hk => h.block k (by omega) (by simp; omega)⟩
theorem below_ke {a b : World} {E B C : Nat} (h : KE E C a b) (hE : B ≤ E) (hC : B ≤ C) : Below B a b := ⟨h.os, h.tape, h.output, h.size, fun k hk => h.block k (by omega) (by omega)⟩
theorem Ent.below {w w' : World} {D : DataW Value} {kl : Lit} {R : Nat → Rf} {m : Nat} {L : List Rf} (h : Ent w D kl R m L) (hb : Below w.heap.size w w') : Ent w' D kl R m L := by
  obtain ⟨xb, X, h1, h2, h3, h4⟩ := h
  exact ⟨xb, X, h1, h2.of_block (hb.block xb h2.lt), h3, h4⟩
/-- A slice of numbers. -/
def Ints (w : World) (a : Option Addr) (n : Nat) (F : Nat → Int) : Prop := n = 0 ∨ ∃ b off, a = some ⟨b, off, none⟩ ∧ ∀ j, j < n → w.cell? ⟨b, off + j, none⟩ = some (.int .i64 (F j))
theorem own_ints {w : World} {base : Nat} {L : List Rf} {f : Rf → Int} {ao : Option Addr} {n c : Nat} (h : w.ownsRow base 3 1 (.slice ao n c) n (intsF f L n)) : Ints w ao n (fun g => f (L.getD g (0, 0))) := by
  obtain ⟨h1, h2⟩ := h
  rcases h2 with ⟨hv, h0⟩ | ⟨g, cap, cur, hv, hbg, hg, hc, _, hs, ht⟩
  · exact Or.inl h0
  · simp at hv
    obtain ⟨rfl, rfl⟩ := hv
    refine Or.inr ⟨g, 0, rfl, fun j hj => ?_⟩
    have e : (intsF f L n)[j]? = some (.int .i64 (f (L.getD j (0, 0)))) := by simp [intsF, hj]
    rw [← ht, List.getElem?_take, if_pos (by omega)] at e
    simp only [Nat.zero_add, World.cell?, hg]
    simpa using e
theorem Ints.below {w w' : World} {a : Option Addr} {n : Nat} {F : Nat → Int} (h : Ints w a n F) (hb : Below w.heap.size w w') : Ints w' a n F := by
  rcases h with h | ⟨b, off, rfl, hc⟩
  · exact Or.inl h
  · exact Or.inr ⟨b, off, rfl, fun j hj => (hb.cell (p := ⟨b, off + j, none⟩) (World.block_lt_of_cell? w _ (hc j hj))).trans (hc j hj)⟩
/-- The bitset at place i of the row O. -/
def BitRow (w : World) (O i : Nat) (L : List Rf) (R : Nat → Rf) (m : Nat) : Prop :=
  ∃ (xb : Nat) (X : Nat → Nat), w.cell? ⟨O, i, none⟩ = some (.slice (some ⟨xb, 0, none⟩) (Wd L) (Wd L)) ∧ (∀ q, q < Wd L → w.cell? ⟨xb, q, none⟩ = some (.int .u64 (X q))) ∧ (∀ q, X q < 2 ^ 64) ∧ ∀ g, bitOf X g = (decide (g < L.length) && inR R m (L.getD g (0, 0)))
theorem BitRow.below {w w' : World} {O i : Nat} {L : List Rf} {R : Nat → Rf} {m : Nat} (h : BitRow w O i L R m) (hb : Below w.heap.size w w') : BitRow w' O i L R m := by
  obtain ⟨xb, X, h1, h2, h3, h4⟩ := h
  exact ⟨xb, X, (hb.cell (p := ⟨O, i, none⟩) (World.block_lt_of_cell? w _ h1)).trans h1, fun q hq => (hb.cell (p := ⟨xb, q, none⟩) (World.block_lt_of_cell? w _ (h2 q hq))).trans (h2 q hq), h3, h4⟩
structure ZIn (w : World) (b0 b1 b2 b3 b4 b5 b6 b7 b8 ns nl nu : Nat) (nb na : Nat → Int) (T I U : Nat → ByteArray) (sb1 gb1 m1 sb2 gb2 m2 : Nat → Nat) (R1 R2 : Nat → Nat → Rf) : Prop where
  r0 : w.rowIs b0 2 ns (fun i => .int .i64 (nb i))
  r1 : w.rowIs b1 2 ns (fun i => .int .i64 (na i))
  r2 : w.rowIs b2 9 nl (fun i => .string (T i))
  r3 : w.rowIs b3 9 nl (fun i => .string (I i))
  h1 : Half w b4 b5 nl sb1 gb1 m1 R1
  r6 : w.rowIs b6 9 nu (fun i => .string (U i))
  h2 : Half w b7 b8 nu sb2 gb2 m2 R2
theorem ZIn.below {w w' : World} {b0 b1 b2 b3 b4 b5 b6 b7 b8 ns nl nu : Nat} {nb na : Nat → Int} {T I U : Nat → ByteArray} {sb1 gb1 m1 sb2 gb2 m2 : Nat → Nat} {R1 R2 : Nat → Nat → Rf} (h : ZIn w b0 b1 b2 b3 b4 b5 b6 b7 b8 ns nl nu nb na T I U sb1 gb1 m1 sb2 gb2 m2 R1 R2) (hb : Below w.heap.size w w') : ZIn w' b0 b1 b2 b3 b4 b5 b6 b7 b8 ns nl nu nb na T I U sb1 gb1 m1 sb2 gb2 m2 R1 R2 :=
  ⟨h.r0.of_block (hb.block _ h.r0.lt), h.r1.of_block (hb.block _ h.r1.lt), h.r2.of_block (hb.block _ h.r2.lt), h.r3.of_block (hb.block _ h.r3.lt), h.h1.below hb, h.r6.of_block (hb.block _ h.r6.lt), h.h2.below hb⟩
/-- What numberFits has seen to. -/
structure ZLog (ns nl nu : Nat) (T I U : Nat → ByteArray) (m1 m2 : Nat → Nat) (R1 R2 : Nat → Nat → Rf) : Prop where
  hns : ns ≤ 65536
  hnl : nl ≤ 65536
  hnu : nu ≤ 65536
  sT : ∀ i, i < nl → (T i).size ≤ maxLen
  sI : ∀ i, i < nl → (I i).size ≤ maxLen
  sU : ∀ i, i < nu → (U i).size ≤ maxLen
  d1 : ∀ i j, i < nl → j < nl → T i = T j → I i = I j → i = j
  d2 : ∀ i j, i < nu → j < nu → U i = U j → i = j
  l1 : ∀ i, i < nl → m1 i ≤ 65536
  l2 : ∀ i, i < nu → m2 i ≤ 65536
  w1 : ∀ i, i < nl → ∀ j, j < m1 i → wfR (R1 i j)
  w2 : ∀ i, i < nu → ∀ j, j < m2 i → wfR (R2 i j)
  a1 : ∀ i, i < nl → allIn (R1 i) (m1 i) ns
  a2 : ∀ i, i < nu → allIn (R2 i) (m2 i) ns
def kU (s : ByteArray) : Lit := .string s.data.toList
theorem key9 (s : ByteArray) (h : s.size ≤ maxLen) : keyOf Try.prog 9 (.string s) = some (kU s) := by
  simp [keyOf, Try.underlying9, mapKey, h, kU]
theorem ZLog.i1 {ns nl nu : Nat} {T I U : Nat → ByteArray} {m1 m2 : Nat → Nat} {R1 R2 : Nat → Nat → Rf} (h : ZLog ns nl nu T I U m1 m2 R1 R2) : ∀ i j, i < nl → j < nl → kS (T i) (I i) = kS (T j) (I j) → i = j := fun i j hi hj e => by
  have h1 := key112 (T i) (I i) (h.sT i hi) (h.sI i hi)
  have h2 := key112 (T j) (I j) (h.sT j hj) (h.sI j hj)
  rw [e] at h1
  have := law112.inj h1 h2
  simp at this
  exact h.d1 i j hi hj this.1 this.2
theorem ZLog.i2 {ns nl nu : Nat} {T I U : Nat → ByteArray} {m1 m2 : Nat → Nat} {R1 R2 : Nat → Nat → Rf} (h : ZLog ns nl nu T I U m1 m2 R1 R2) : ∀ i j, i < nu → j < nu → kU (U i) = kU (U j) → i = j := fun i j hi hj e => by
  have h1 := key9 (U i) (h.sU i hi)
  have h2 := key9 (U j) (h.sU j hj)
  rw [e] at h1
  have := law9.inj h1 h2
  simp at this
  exact h.d2 i j hi hj this
/-- What ZZNumber gives back. -/
def ZRes (ns nl nu : Nat) (now : Int) (nb na : Nat → Int) (m1 m2 : Nat → Nat) (R1 R2 : Nat → Nat → Rf) (e : Ending) (w' : World) : Prop :=
  ∃ (L : List Rf) (p : Nat) (a1 a2 : Option Addr) (c1 c2 lO uO : Nat), e = .returned (.tuple #[.slice a1 L.length c1, .slice a2 L.length c2, .slice (some ⟨lO, 0, none⟩) nl nl, .slice (some ⟨uO, 0, none⟩) nu nu]) ∧
    NumOk (fun r => validB (nb r.1.toNat) (na r.1.toNat) now) (Fr nl m1 R1) (Fr nu m2 R2) L p ∧ L.length ≤ 17179869184 ∧ Ints w' a1 L.length (fun g => (L.getD g (0, 0)).1) ∧ Ints w' a2 L.length (fun g => (L.getD g (0, 0)).2) ∧ (∀ i, i < nl → BitRow w' lO i L (R1 i) (m1 i)) ∧ (∀ i, i < nu → BitRow w' uO i L (R2 i) (m2 i))

set_option maxHeartbeats 4000000 in
set_option maxRecDepth 100000 in
theorem chain29 (v20 v21 v22 v23 v24 v26 v29 v30 : Value) (b0 b1 b2 b3 b4 b5 b6 b7 b8 ns nl nu : Nat) (now : Int) (nb na : Nat → Int) (T I U : Nat → ByteArray) (sb1 gb1 m1 sb2 gb2 m2 : Nat → Nat) (R1 R2 : Nat → Nat → Rf) (w : World) (hz : ZIn w b0 b1 b2 b3 b4 b5 b6 b7 b8 ns nl nu nb na T I U sb1 gb1 m1 sb2 gb2 m2 R1 R2) (hl : ZLog ns nl nu T I U m1 m2 R1 R2) (act : Act) (hI : J29 (.slice (some ⟨b0, 0, none⟩) ns ns) (.slice (some ⟨b1, 0, none⟩) ns ns) (.slice (some ⟨b2, 0, none⟩) nl nl) (.slice (some ⟨b3, 0, none⟩) nl nl) (.slice (some ⟨b4, 0, none⟩) nl nl) (.slice (some ⟨b5, 0, none⟩) nl nl) (.slice (some ⟨b6, 0, none⟩) nu nu) (.slice (some ⟨b7, 0, none⟩) nu nu) (.slice (some ⟨b8, 0, none⟩) nu nu) (.int .i64 now) v20 v21 v22 v23 v24 v26 v29 v30 act) : Code.wp Try.prog b29 (bodyPost Try.prog Try.f29 (fun e w' => ZRes ns nl nu now nb na m1 m2 R1 R2 e w' ∧ Below w.heap.size w w')) act w := by
  refine wp_seq (z0 _ _ _ _ _ _ _ _ _ _ _ _ _ _ _ _ _ _ w _ act hI ?_)
  intro act0 hI0
  refine wp_seq (z1 _ _ _ _ _ _ _ _ _ _ _ _ _ _ _ _ _ b0 ns nb na w _ hl.hns act0 hI0 ?_)
  intro act1 w1 hI1 hr1 he1 hb1 hs1
  have hz1 := hz.below hb1
  refine wp_seq (z2 _ _ _ _ _ _ _ _ _ _ _ _ _ _ _ b0 b1 ns (w.heap.size + 1) w.heap.size nb na w1 _ _ hl.hns hz1.r0 hz1.r1 hr1 he1 hz.r0.lt hz.r1.lt (by omega) act1 hI1 ?_)
  intro act2 w2 hI2 hr2 he2 hb2 hs2
  have B2 : Below w.heap.size w w2 := hb1.trans hb2
  refine wp_seq (z3 _ _ _ _ _ _ _ _ _ _ _ _ _ _ _ _ _ _ (fun i => kS (T i) (I i)) (fun i => kU (U i)) m1 m2 R1 R2 w2 _ act2 hI2 ?_)
  intro act3 w3 hI3 dm1 dm2 hf3 hb3 hs3
  obtain ⟨M1, hM1⟩ : ∃ M1, M1 = w2.heap.size := ⟨_, rfl⟩
  have B3 : Below w.heap.size w w3 := B2.trans (hb3.mono (by omega))
  have hz3 := hz.below B3
  have he3 := (hb3.block (w.heap.size + 1) (by omega)).trans he2
  have hr3 := hr2.of_block (hb3.block w.heap.size (by omega))
  rw [← hM1] at dm1 dm2 hf3 hI3
  refine wp_seq (z4 _ _ _ _ _ _ _ _ _ _ _ _ _ b2 b3 b4 b5 nl (M1 + 1 + 1) M1 (M1 + 1) T I (fun i => kS (T i) (I i)) sb1 gb1 m1 R1 w3 _ _ hl.hnl hz3.r2 hz3.r3 hz3.h1 hf3 dm1 (fun i hi => key112 _ _ (hl.sT i hi) (hl.sI i hi)) hl.i1 act3 hI3 ?_)
  intro act4 w4 hI4 dm14 hg4
  have no1 := dm1.not
  have B4 : Below w.heap.size w w4 := B3.trans (below_grown hg4 (by omega) (by omega))
  have hz4 := hz.below B4
  have dm24 := dm2.grown hg4 (by omega) no1
  have he4 := (hg4.block (w.heap.size + 1) (by omega) (by simp; omega)).trans he3
  have hr4 := row_grown hr3 hg4 no1
  have hf4 := (hg4.block (M1 + 1 + 1) (by omega) (by simp; omega)).trans hf3
  refine wp_seq (z5 _ _ _ _ _ _ _ _ _ _ _ _ _ _ b6 0 b7 b8 nu (M1 + 1 + 1) M1 (M1 + 1) U (fun i => kU (U i)) sb2 gb2 m2 R2 w4 _ _ hl.hnu hz4.r6 hz4.h2 hf4 dm24 (fun i hi => key9 _ (hl.sU i hi)) hl.i2 act4 hI4 ?_)
  intro act5 w5 hI5 dm25 hg5
  have no2 := dm24.not
  have hs4 := hg4.size
  have B5 : Below w.heap.size w w5 := B4.trans (below_grown hg5 (by omega) (by omega))
  have hs5 := hg5.size
  have dm15 := dm14.grown hg5 (by omega) no2
  have he5 := (hg5.block (w.heap.size + 1) (by omega) (by simp; omega)).trans he4
  have hr5 := row_grown hr4 hg5 no2
  have hf5 := (hg5.block (M1 + 1 + 1) (by omega) (by simp)).trans hf4
  refine wp_seq (z6 _ _ _ _ _ _ _ _ _ _ _ _ _ _ _ (w.heap.size + 1) w.heap.size ns nl nu (M1 + 1 + 1) M1 (M1 + 1) now nb na (fun i => kS (T i) (I i)) (fun i => kU (U i)) m1 m2 R1 R2 w5 _ hl.hns hl.hnl hl.hnu he5 hr5 hf5 dm15 dm25 hl.i1 hl.i2 hl.l1 hl.l2 hl.w1 hl.w2 hl.a1 hl.a2 act5 hI5 ?_)
  intro act6 w6 L p ao c X1 X2 D1 D2 hI6 Z
  have B6 : Below w.heap.size w w6 := B5.trans (below_ke Z.ke (by omega) (by omega))
  refine wp_seq (z7 _ _ _ _ _ _ _ _ _ _ _ _ _ _ _ (w.heap.size + 1) w.heap.size ns L ao c w6 _ Z.len Z.e (own_rfs Z.own) act6 hI6 ?_)
  intro act7 w7 a1 a2 c1 c2 hI7 hrows hb7
  have B7 : Below w.heap.size w w7 := B6.trans (hb7.mono B6.size)
  have hz7 := hz.below B7
  have e1 : ∀ i, ∃ xb, i < nl → (∀ z, D1.atKey (kS (T i) (I i)) z = .held (.slice (some ⟨xb, 0, none⟩) (Wd L) (Wd L))) ∧ ∃ X : Nat → Nat, w7.rowIs xb 91 (Wd L) (fun q => .int .u64 (X q)) ∧ (∀ q, X q < 2 ^ 64) ∧ ∀ g, bitOf X g = (decide (g < L.length) && inR (R1 i) (m1 i) (L.getD g (0, 0))) := fun i => by
    by_cases hi : i < nl
    · obtain ⟨xb, X, q1, q2, q3, q4⟩ := (Z.e1 i hi).below hb7
      exact ⟨xb, fun _ => ⟨q1, X, q2, q3, q4⟩⟩
    · exact ⟨0, fun h => absurd h hi⟩
  have e2 : ∀ i, ∃ xb, i < nu → (∀ z, D2.atKey (kU (U i)) z = .held (.slice (some ⟨xb, 0, none⟩) (Wd L) (Wd L))) ∧ ∃ X : Nat → Nat, w7.rowIs xb 91 (Wd L) (fun q => .int .u64 (X q)) ∧ (∀ q, X q < 2 ^ 64) ∧ ∀ g, bitOf X g = (decide (g < L.length) && inR (R2 i) (m2 i) (L.getD g (0, 0))) := fun i => by
    by_cases hi : i < nu
    · obtain ⟨xb, X, q1, q2, q3, q4⟩ := (Z.e2 i hi).below hb7
      exact ⟨xb, fun _ => ⟨q1, X, q2, q3, q4⟩⟩
    · exact ⟨0, fun h => absurd h hi⟩
  obtain ⟨xb1, hx1⟩ := Classical.skolem.1 e1
  obtain ⟨xb2, hx2⟩ := Classical.skolem.1 e2
  have om : ∀ {kt X n D} {W : World}, w6.ownsMap Try.prog kt RV X n D → Below w7.heap.size w7 W → W.ownsMap Try.prog kt RV X n D := fun {kt X n D} {W} h hb => by
    obtain ⟨es, clock, h1, r⟩ := h
    have hlt := lt_of_block h1
    have := hb7.size
    exact ⟨es, clock, (hb.block X (by omega)).trans ((hb7.block X hlt).trans h1), r⟩
  refine wp_seq (z8 _ _ _ _ _ _ _ _ _ _ _ _ _ _ _ _ _ b2 nl w7 _ hl.hnl act7 hI7 ?_)
  intro act8 w8 hI8 hr8 hb8 hs8
  have hz8 := hz7.below hb8
  have hw7 := B7.size
  refine wp_seq (z9 _ _ _ _ _ _ _ _ _ _ _ _ _ _ b2 b3 nl w7.heap.size X1 (Wd L) T I (fun i => kS (T i) (I i)) xb1 D1 w8 _ _ hl.hnl hz8.r2 hz8.r3 hz7.r2.lt hz7.r3.lt (om Z.o1 hb8) (fun i hi => key112 _ _ (hl.sT i hi) (hl.sI i hi)) (fun i hi => (hx1 i hi).1) (hr8 _ _) act8 hI8 ?_)
  intro act9 w9 hI9 hr9 hg9
  have C9 : Below w7.heap.size w7 w9 := hb8.trans (below_grown hg9 (Nat.le_refl _) (by omega))
  have hz9 := hz7.below C9
  refine wp_seq (z10 _ _ _ _ _ _ _ _ _ _ _ _ _ _ _ _ _ b6 nu w9 _ hl.hnu act9 hI9 ?_)
  intro act10 w10 hI10 hr10 hb10 hs10
  have C10 : Below w7.heap.size w7 w10 := C9.trans (hb10.mono C9.size)
  have hz10 := hz7.below C10
  refine wp_seq (z11 _ _ _ _ _ _ _ _ _ _ _ _ _ _ _ b6 0 nu w9.heap.size X2 (Wd L) U (fun i => kU (U i)) xb2 D2 w10 _ _ hl.hnu hz10.r6 hz9.r6.lt (om Z.o2 C10) (fun i hi => key9 _ (hl.sU i hi)) (fun i hi => (hx2 i hi).1) (hr10 _ _) act10 hI10 ?_)
  intro act11 w11 hI11 hr11 hg11
  have C119 : Below w9.heap.size w9 w11 := hb10.trans (below_grown hg11 (Nat.le_refl _) (by omega))
  have C11 : Below w7.heap.size w7 w11 := C9.trans (C119.mono C9.size)
  refine z12 _ _ _ _ _ _ _ _ _ _ _ _ _ _ _ _ _ _ w11 _ act11 hI11 ⟨⟨L, p, a1, a2, c1, c2, w7.heap.size, w9.heap.size, rfl, Z.ok, Z.len, (own_ints hrows.1).below C11, (own_ints hrows.2.1).below C11, fun i hi => ?_, fun i hi => ?_⟩, B7.trans (C11.mono B7.size)⟩
  · obtain ⟨_, X, q2, q3, q4⟩ := hx1 i hi
    have hc := (hr9.cell hi).trans (show some (bitsAt xb1 (Wd L) nl i) = some (.slice (some ⟨xb1 i, 0, none⟩) (Wd L) (Wd L)) by simp [bitsAt, hi])
    exact ⟨xb1 i, X, (C119.cell (p := ⟨w7.heap.size, i, none⟩) hr9.lt).trans hc, fun q hq => (q2.of_block (C11.block _ q2.lt)).cell hq, q3, q4⟩
  · obtain ⟨_, X, q2, q3, q4⟩ := hx2 i hi
    have hc := (hr11.cell hi).trans (show some (bitsAt xb2 (Wd L) nu i) = some (.slice (some ⟨xb2 i, 0, none⟩) (Wd L) (Wd L)) by simp [bitsAt, hi])
    exact ⟨xb2 i, X, hc, fun q hq => (q2.of_block (C11.block _ q2.lt)).cell hq, q3, q4⟩

set_option maxHeartbeats 4000000 in
set_option maxRecDepth 100000 in
theorem zz_any (b0 b1 b2 b3 b4 b5 b6 b7 b8 ns nl nu : Nat) (now : Int) (nb na : Nat → Int) (T I U : Nat → ByteArray) (sb1 gb1 m1 sb2 gb2 m2 : Nat → Nat) (R1 R2 : Nat → Nat → Rf) (w : World) (hz : ZIn w b0 b1 b2 b3 b4 b5 b6 b7 b8 ns nl nu nb na T I U sb1 gb1 m1 sb2 gb2 m2 R1 R2) (hl : ZLog ns nl nu T I U m1 m2 R1 R2) :
    Calls Try.prog 29 #[.slice (some ⟨b0, 0, none⟩) ns ns, .slice (some ⟨b1, 0, none⟩) ns ns, .slice (some ⟨b2, 0, none⟩) nl nl, .slice (some ⟨b3, 0, none⟩) nl nl, .slice (some ⟨b4, 0, none⟩) nl nl, .slice (some ⟨b5, 0, none⟩) nl nl, .slice (some ⟨b6, 0, none⟩) nu nu, .slice (some ⟨b7, 0, none⟩) nu nu, .slice (some ⟨b8, 0, none⟩) nu nu, .int .i64 now] w fun e w' => ZRes ns nl nu now nb na m1 m2 R1 R2 e w' ∧ Below w.heap.size w w' := by
  have C : Hid (∀ v20 v21 v22 v23 v24 v26 v29 v30 act, J29 (.slice (some ⟨b0, 0, none⟩) ns ns) (.slice (some ⟨b1, 0, none⟩) ns ns) (.slice (some ⟨b2, 0, none⟩) nl nl) (.slice (some ⟨b3, 0, none⟩) nl nl) (.slice (some ⟨b4, 0, none⟩) nl nl) (.slice (some ⟨b5, 0, none⟩) nl nl) (.slice (some ⟨b6, 0, none⟩) nu nu) (.slice (some ⟨b7, 0, none⟩) nu nu) (.slice (some ⟨b8, 0, none⟩) nu nu) (.int .i64 now) v20 v21 v22 v23 v24 v26 v29 v30 act → Code.wp Try.prog b29 (bodyPost Try.prog Try.f29 (fun e w' => ZRes ns nl nu now nb na m1 m2 R1 R2 e w' ∧ Below w.heap.size w w')) act w) := fun _ _ _ _ _ _ _ _ act hI => chain29 _ _ _ _ _ _ _ _ b0 b1 b2 b3 b4 b5 b6 b7 b8 ns nl nu now nb na T I U sb1 gb1 m1 sb2 gb2 m2 R1 R2 w hz hl act hI
  clear hz hl
  go_enter Try.func29, Try.ntmps29
  exact C.out _ _ _ _ _ _ _ _ _ (J29_mk _ rfl rfl rfl rfl rfl rfl rfl rfl rfl rfl rfl rfl rfl rfl rfl rfl rfl rfl rfl)
end Go.Proofs.Qxb6612720a
