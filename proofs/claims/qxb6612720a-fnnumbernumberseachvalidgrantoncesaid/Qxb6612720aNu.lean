import Derived.Test.Qxb6612720aNt
namespace Go.Proofs.Qxb6612720a
open Go.RowKit
open Go.Maps (Keyed)
set_option linter.unusedVariables false

set_option maxHeartbeats 4000000 in
set_option maxRecDepth 100000 in
theorem y13 (v0 v1 v2 v27 v23 v24 v25 v26 : Value) (b0 b1 b2 b3 b4 b5 b6 b7 b8 ns nl nu : Nat) (now : Int) (nb na : Nat → Int) (T I U : Nat → ByteArray) (sb1 gb1 m1 sb2 gb2 m2 : Nat → Nat) (R1 R2 : Nat → Nat → Rf) (w : World) (Q : Exit → Act → World → Prop) (hz : ZIn w b0 b1 b2 b3 b4 b5 b6 b7 b8 ns nl nu nb na T I U sb1 gb1 m1 sb2 gb2 m2 R1 R2) (hl : ZLog ns nl nu T I U m1 m2 R1 R2) (act : Act) (hI : J13 v0 v1 v2 (.int .i64 now) (.slice (some ⟨b0, 0, none⟩) ns ns) (.slice (some ⟨b1, 0, none⟩) ns ns) (.slice (some ⟨b2, 0, none⟩) nl nl) (.slice (some ⟨b3, 0, none⟩) nl nl) (.slice (some ⟨b4, 0, none⟩) nl nl) (.slice (some ⟨b5, 0, none⟩) nl nl) (.slice (some ⟨b6, 0, none⟩) nu nu) (.slice (some ⟨b7, 0, none⟩) nu nu) (.slice (some ⟨b8, 0, none⟩) nu nu) v23 v24 v25 v26 v27 act)
    (hnext : ∀ act' w' L p a1 a2 c1 c2 lO uO, J13 v0 v1 v2 (.int .i64 now) (.slice (some ⟨b0, 0, none⟩) ns ns) (.slice (some ⟨b1, 0, none⟩) ns ns) (.slice (some ⟨b2, 0, none⟩) nl nl) (.slice (some ⟨b3, 0, none⟩) nl nl) (.slice (some ⟨b4, 0, none⟩) nl nl) (.slice (some ⟨b5, 0, none⟩) nl nl) (.slice (some ⟨b6, 0, none⟩) nu nu) (.slice (some ⟨b7, 0, none⟩) nu nu) (.slice (some ⟨b8, 0, none⟩) nu nu) (.slice a1 L.length c1) (.slice a2 L.length c2) (.slice (some ⟨lO, 0, none⟩) nl nl) (.slice (some ⟨uO, 0, none⟩) nu nu) v27 act' → NumOk (fun r => validB (nb r.1.toNat) (na r.1.toNat) now) (Fr nl m1 R1) (Fr nu m2 R2) L p → L.length ≤ 17179869184 → Ints w' a1 L.length (fun g => (L.getD g (0, 0)).1) → Ints w' a2 L.length (fun g => (L.getD g (0, 0)).2) → (∀ i, i < nl → BitRow w' lO i L (R1 i) (m1 i)) → (∀ i, i < nu → BitRow w' uO i L (R2 i) (m2 i)) → Below w.heap.size w w' → Q .normal act' w') : Code.wp Try.prog (pick [1, 1, 1, 1, 1, 1, 1, 1, 1, 1, 1, 1, 1, 0] b13) Q act w := by
  obtain ⟨g, rfl⟩ := hI
  have HN : Hid _ := hnext
  have C : Hid _ := zz_any b0 b1 b2 b3 b4 b5 b6 b7 b8 ns nl nu now nb na T I U sb1 gb1 m1 sb2 gb2 m2 R1 R2 w hz hl
  clear hnext hz hl
  conv => arg 2; whnf
  go_wp2_with fail
  refine Calls.mono C.out ?_
  rintro e w' ⟨⟨L, p, a1, a2, c1, c2, lO, uO, rfl, q1, q2, q3, q4, q5, q6⟩, q7⟩
  have HQ : Hid _ := And.intro q1 (And.intro q2 (And.intro q3 (And.intro q4 (And.intro q5 (And.intro q6 q7)))))
  clear q1 q2 q3 q4 q5 q6 q7 C
  go_wp2
  obtain ⟨q1, q2, q3, q4, q5, q6, q7⟩ := HQ.out
  exact HN.out _ w' L p a1 a2 c1 c2 lO uO (J13_mk _ rfl rfl rfl rfl rfl rfl rfl rfl rfl rfl rfl rfl rfl rfl rfl rfl rfl rfl rfl) q1 q2 q3 q4 q5 q6 q7

set_option maxHeartbeats 4000000 in
set_option maxRecDepth 100000 in
theorem y14 (v0 v1 v2 v3 v11 v12 v14 v15 v16 v17 v19 v20 v21 v24 v25 v26 v27 : Value) (sa : Option Addr) (n sc : Nat) (R : Nat → Rf) (w : World) (Q : Exit → Act → World → Prop) (hn : n ≤ 17179869184) (act : Act) (hI : J13 v0 v1 v2 v3 v11 v12 v14 v15 v16 v17 v19 v20 v21 (.slice sa n sc) v24 v25 v26 v27 act)
    (hnext : ∀ act' w', J13 v0 v1 v2 v3 v11 v12 v14 v15 v16 v17 v19 v20 v21 (.slice sa n sc) v24 v25 v26 (.slice (some ⟨w.heap.size, 0, none⟩) n n) act' → w'.rowIs w.heap.size 60 (n * 2) (refAt R 0) → Below w.heap.size w w' → w'.heap.size = w.heap.size + 1 → Q .normal act' w') : Code.wp Try.prog (pick [1, 1, 1, 1, 1, 1, 1, 1, 1, 1, 1, 1, 1, 1, 0] b13) Q act w := by
  obtain ⟨g, rfl⟩ := hI
  have HN : Hid _ := hnext
  have hmk := make60 n hn
  clear hnext
  conv => arg 2; whnf
  go_wp2
  exact HN.out _ _ (J13_mk _ rfl rfl rfl rfl rfl rfl rfl rfl rfl rfl rfl rfl rfl rfl rfl rfl rfl rfl rfl) (made60 w n R) ((Below.refl _ _).alloc (Nat.le_refl _) _) (by simp)

theorem Ints.at {w : World} {a : Option Addr} {n : Nat} {F : Nat → Int} (h : Ints w a n F) {i : Nat} (hi : i < n) : ∃ b off, a = some ⟨b, off, none⟩ ∧ b < w.heap.size ∧ w.cell? ⟨b, off + i, none⟩ = some (.int .i64 (F i)) := by
  rcases h with h | ⟨b, off, rfl, hc⟩
  · omega
  · exact ⟨b, off, rfl, World.block_lt_of_cell? w _ (hc i hi), hc i hi⟩

set_option maxHeartbeats 4000000 in
set_option maxRecDepth 100000 in
theorem y15 (v0 v1 v2 v3 v11 v12 v14 v15 v16 v17 v19 v20 v21 v25 v26 : Value) (a1 a2 : Option Addr) (n c1 c2 O : Nat) (R : Nat → Rf) (w0 w : World) (N : Act → World → Prop) (Q : Ending → World → Prop) (hn : n ≤ 17179869184) (x1 : Ints w0 a1 n (fun g => (R g).1)) (x2 : Ints w0 a2 n (fun g => (R g).2)) (hb0 : Below w0.heap.size w0 w) (hO : w0.heap.size ≤ O) (hr : w.rowIs O 60 (n * 2) (refAt R 0)) (act : Act) (hI : J13 v0 v1 v2 v3 v11 v12 v14 v15 v16 v17 v19 v20 v21 (.slice a1 n c1) (.slice a2 n c2) v25 v26 (.slice (some ⟨O, 0, none⟩) n n) act)
    (hnext : ∀ act' w', J13 v0 v1 v2 v3 v11 v12 v14 v15 v16 v17 v19 v20 v21 (.slice a1 n c1) (.slice a2 n c2) v25 v26 (.slice (some ⟨O, 0, none⟩) n n) act' → w'.rowIs O 60 (n * 2) (refAt R n) → Below O w w' → N act' w') : Code.wp Try.prog (pick [1, 1, 1, 1, 1, 1, 1, 1, 1, 1, 1, 1, 1, 1, 1, 0] b13) (Exit.then N (bodyPost Try.prog Try.f13 Q)) act w := by
  obtain ⟨g, rfl⟩ := hI
  have HN : Hid _ := hnext
  have X1 : Hid (Ints w0 a1 n (fun g => (R g).1)) := x1
  have X2 : Hid (Ints w0 a2 n (fun g => (R g).2)) := x2
  have HB0 : Hid (Below w0.heap.size w0 w) := hb0
  have HR : Hid (w.rowIs O 60 (n * 2) (refAt R 0)) := hr
  clear hnext x1 x2 hb0 hr
  conv => arg 2; whnf
  go_wp2
  go_loopw [28] (fun i wr => ∃ k : Nat, k ≤ n ∧ i = .int .i64 k ∧ Hid (wr.rowIs O 60 (n * 2) (refAt R k)) ∧ Hid (Below O w wr)) (fun i _ => n - (intOf i).toNat)
  case atStart => exact ⟨0, Nat.zero_le _, rfl, HR, Below.refl _ _⟩
  case round =>
    obtain ⟨k, hk, rfl, hr, hb⟩ := hrel
    by_cases hlt : k < n
    · have hall := HB0.out.trans (hb.out.mono hO)
      obtain ⟨p1, o1, rfl, l1, y1⟩ := X1.out.at hlt
      obtain ⟨p2, o2, rfl, l2, y2⟩ := X2.out.at hlt
      have z1 := (hall.cell (p := ⟨p1, o1 + k, none⟩) l1).trans y1
      have z2 := (hall.cell (p := ⟨p2, o2 + k, none⟩) l2).trans y2
      have n1 : p1 ≠ O := by omega
      have n2 : p2 ≠ O := by omega
      have d0 := hr.out.cell (i := k * 2) (by omega)
      have d1 := hr.out.cell (i := k * 2 + 1) (by omega)
      have df := hr.out.frozen
      have RH : Hid _ := ref_step60 hr.out
      have KS : Hid (((wr.setCell ⟨O, k * 2, none⟩ (.int .i64 (R k).1)).setCell ⟨O, k * 2 + 1, none⟩ (.int .i64 (R k).2)).drew.cell? ⟨p1, o1 + k, none⟩ = some (.int .i64 (R k).1) ∧ ((wr.setCell ⟨O, k * 2, none⟩ (.int .i64 (R k).1)).setCell ⟨O, k * 2 + 1, none⟩ (.int .i64 (R k).2)).drew.cell? ⟨p2, o2 + k, none⟩ = some (.int .i64 (R k).2)) := ⟨(set2_cell n1).trans z1, (set2_cell n2).trans z2⟩
      clear hr hall y1 y2
      go_wp2
      go_region_held3 (fun W' => W'.cell? ⟨p1, o1 + k, none⟩ = some (.int .i64 (R k).1) ∧ W'.cell? ⟨p2, o2 + k, none⟩ = some (.int .i64 (R k).2)) (first | (go_keep; done) | exact KS.out) (fail)
      go_wp2
      go_roundw
      case rel => exact ⟨k + 1, by omega, by go_num, RH.out, ((hb.out.setCell (Nat.le_refl _) _).setCell (Nat.le_refl _) _).drew⟩
      case measure => simp [intOf]; omega
    · obtain rfl : k = n := by omega
      go_wp2
      exact HN.out _ _ (J13_mk _ rfl rfl rfl rfl rfl rfl rfl rfl rfl rfl rfl rfl rfl rfl rfl rfl rfl rfl rfl) hr.out hb.out

set_option maxHeartbeats 4000000 in
set_option maxRecDepth 100000 in
theorem y16 (v0 v1 v2 v3 v11 v12 v14 v15 v16 v17 v19 v20 v21 v23 v24 v25 v26 v27 : Value) (w : World) (Q : Ending → World → Prop) (act : Act) (hI : J13 v0 v1 v2 v3 v11 v12 v14 v15 v16 v17 v19 v20 v21 v23 v24 v25 v26 v27 act)
    (hnext : Q (.returned (.tuple #[v27, v25, v26])) w) : Code.wp Try.prog (pick [1, 1, 1, 1, 1, 1, 1, 1, 1, 1, 1, 1, 1, 1, 1, 1] b13) (bodyPost Try.prog Try.f13 Q) act w := by
  obtain ⟨g, rfl⟩ := hI
  have HN : Hid _ := hnext
  clear hnext
  conv => arg 2; whnf
  go_wp2
  go_ret3
  exact HN.out

/-- What callNumber gives back. -/
def CRes (nl nu : Nat) (now : Int) (nb na : Nat → Int) (P U : Nat → En) (e : Ending) (w' : World) : Prop :=
  ∃ (L : List Rf) (p O lO uO : Nat), e = .returned (.tuple #[.slice (some ⟨O, 0, none⟩) L.length L.length, .slice (some ⟨lO, 0, none⟩) nl nl, .slice (some ⟨uO, 0, none⟩) nu nu]) ∧
    NumOk (fun r => validB (nb r.1.toNat) (na r.1.toNat) now) (Fr nl (fun i => (P i).n) (fun i => (P i).R)) (Fr nu (fun i => (U i).n) (fun i => (U i).R)) L p ∧ L.length ≤ 17179869184 ∧ Rfs w' (some ⟨O, 0, none⟩) L.length (fun g => L.getD g (0, 0)) ∧ (∀ i, i < nl → BitRow w' lO i L (P i).R (P i).n) ∧ (∀ i, i < nu → BitRow w' uO i L (U i).R (U i).n)
theorem hbc_half {w : World} {O16 O17 n base : Nat} {sb gb m : Nat → Nat} {R : Nat → Nat → Rf} (h : HBc w O16 O17 n n base sb gb m R) (hm : ∀ i, i < n → m i ≤ 65536) : Half w O16 O17 n sb gb m R :=
  ⟨h.r16.congr fun i hi => by simp [slAt, hi], h.r17.congr fun i hi => by simp [slAt, hi], hm, fun i hi => (h.rs i hi).1, fun i hi => (h.rg i hi).1⟩

set_option maxHeartbeats 4000000 in
set_option maxRecDepth 100000 in
theorem chain13 (v11 v12 v14 v15 v16 v17 v19 v20 v21 v23 v24 v25 v26 v27 : Value) (sa la ua : Option Addr) (ns sc nl lc nu uc : Nat) (now : Int) (nb na : Nat → Int) (P U : Nat → En) (w : World) (hW : Wins w sa ns nb na) (hP : Lis w la nl P) (hU : Uns w ua nu U) (hl : ZLog ns nl nu (fun i => (P i).T) (fun i => (P i).I) (fun i => (U i).T) (fun i => (P i).n) (fun i => (U i).n) (fun i => (P i).R) (fun i => (U i).R)) (act : Act) (hI : J13 (.slice sa ns sc) (.slice la nl lc) (.slice ua nu uc) (.int .i64 now) v11 v12 v14 v15 v16 v17 v19 v20 v21 v23 v24 v25 v26 v27 act) : Code.wp Try.prog b13 (bodyPost Try.prog Try.f13 (fun e w' => CRes nl nu now nb na P U e w' ∧ Below w.heap.size w w')) act w := by
  refine wp_seq (y0 _ _ _ _ _ _ _ _ _ _ _ _ _ _ _ _ _ _ w _ act hI ?_)
  intro act0 hI0
  refine wp_seq (y1 _ _ _ _ _ _ _ _ _ _ _ _ _ _ _ _ _ sa ns sc w _ hl.hns act0 hI0 ?_)
  intro act1 w1 hI1 r11 hb1 hs1
  refine wp_seq (y2 _ _ _ _ _ _ _ _ _ _ _ _ _ _ _ _ _ sa ns sc w1 _ hl.hns act1 hI1 ?_)
  intro act2 w2 hI2 r12 hb2 hs2
  have B2 : Below w.heap.size w w2 := hb1.trans (hb2.mono (by omega))
  refine wp_seq (y3 _ _ _ _ _ _ _ _ _ _ _ _ _ _ _ sa ns sc w.heap.size w1.heap.size nb na w w2 _ hl.hns hW B2 (Nat.le_refl _) (by omega) (r11.of_block (hb2.block _ (by omega))) r12 act2 hI2 ?_)
  intro act3 w3 hI3 q11 q12 hb3 hs3
  have B3 : Below w.heap.size w w3 := B2.trans hb3
  refine wp_seq (y4 _ _ _ _ _ _ _ _ _ _ _ _ _ _ _ _ _ la nl lc w3 _ hl.hnl act3 hI3 ?_)
  intro act4 w4 hI4 r14 hb4 hs4
  refine wp_seq (y5 _ _ _ _ _ _ _ _ _ _ _ _ _ _ _ _ _ la nl lc w4 _ hl.hnl act4 hI4 ?_)
  intro act5 w5 hI5 r15 hb5 hs5
  refine wp_seq (y6 _ _ _ _ _ _ _ _ _ _ _ _ _ _ _ _ _ la nl lc w5 _ hl.hnl act5 hI5 ?_)
  intro act6 w6 hI6 r16 hb6 hs6
  refine wp_seq (y7 _ _ _ _ _ _ _ _ _ _ _ _ _ _ _ _ _ la nl lc w6 _ hl.hnl act6 hI6 ?_)
  intro act7 w7 hI7 r17 hb7 hs7
  have K57 : Below w5.heap.size w5 w7 := hb6.trans (hb7.mono (by omega))
  have K47 : Below w4.heap.size w4 w7 := hb5.trans (K57.mono (by omega))
  have K37 : Below w3.heap.size w3 w7 := hb4.trans (K47.mono (by omega))
  have B7 : Below w.heap.size w w7 := B3.trans (K37.mono (by omega))
  refine wp_seq (y8 _ _ _ _ _ _ _ _ _ _ _ _ _ la nl lc w3.heap.size w4.heap.size w5.heap.size w6.heap.size P w w7 _ hl.hnl hl.l1 hP B7 (by omega) (by omega) (by omega) (by omega) (by omega) (r14.of_block (K47.block _ (by omega))) (r15.of_block (K57.block _ (by omega))) (r16.of_block (hb7.block _ (by omega))) r17 act7 hI7 ?_)
  intro act8 w8 sb1 gb1 hI8 q14 q15 qc1 hb8
  have B8 : Below w.heap.size w w8 := B7.trans (hb8.mono (by omega))
  have K38 : Below w3.heap.size w3 w8 := K37.trans hb8
  have s8 := hb8.size
  refine wp_seq (y9 _ _ _ _ _ _ _ _ _ _ _ _ _ _ _ _ _ ua nu uc w8 _ hl.hnu act8 hI8 ?_)
  intro act9 w9 hI9 r19 hb9 hs9
  refine wp_seq (y10 _ _ _ _ _ _ _ _ _ _ _ _ _ _ _ _ _ ua nu uc w9 _ hl.hnu act9 hI9 ?_)
  intro act10 w10 hI10 r20 hb10 hs10
  refine wp_seq (y11 _ _ _ _ _ _ _ _ _ _ _ _ _ _ _ _ _ ua nu uc w10 _ hl.hnu act10 hI10 ?_)
  intro act11 w11 hI11 r21 hb11 hs11
  have K911 : Below w9.heap.size w9 w11 := hb10.trans (hb11.mono (by omega))
  have K811 : Below w8.heap.size w8 w11 := hb9.trans (K911.mono (by omega))
  have B11 : Below w.heap.size w w11 := B8.trans (K811.mono (by omega))
  refine wp_seq (y12 _ _ _ _ _ _ _ _ _ _ _ _ _ _ ua nu uc w8.heap.size w9.heap.size w10.heap.size U w w11 _ hl.hnu hl.l2 hU B11 (by omega) (by omega) (by omega) (by omega) (r19.of_block (K911.block _ (by omega))) (r20.of_block (hb11.block _ (by omega))) r21 act11 hI11 ?_)
  intro act12 w12 sb2 gb2 hI12 q19 qc2 hb12
  have B12 : Below w.heap.size w w12 := B11.trans (hb12.mono (by omega))
  have K812 : Below w8.heap.size w8 w12 := K811.trans hb12
  have K312 : Below w3.heap.size w3 w12 := K38.trans (K812.mono (by omega))
  have hz : ZIn w12 w.heap.size w1.heap.size w3.heap.size w4.heap.size w5.heap.size w6.heap.size w8.heap.size w9.heap.size w10.heap.size ns nl nu nb na (fun i => (P i).T) (fun i => (P i).I) (fun i => (U i).T) sb1 gb1 (fun i => (P i).n) sb2 gb2 (fun i => (U i).n) (fun i => (P i).R) (fun i => (U i).R) := by
    refine ⟨(q11.of_block (K312.block _ (by omega))).congr fun i hi => by simp [upto, hi], (q12.of_block (K312.block _ (by omega))).congr fun i hi => by simp [upto, hi], (q14.of_block (K812.block _ (by omega))).congr fun i hi => by simp [strAt, hi], (q15.of_block (K812.block _ (by omega))).congr fun i hi => by simp [strAt, hi], (hbc_half qc1 hl.l1).below K812, q19.congr fun i hi => by simp [strAt, hi], hbc_half qc2 hl.l2⟩
  refine wp_seq (y13 _ _ _ _ _ _ _ _ w.heap.size w1.heap.size w3.heap.size w4.heap.size w5.heap.size w6.heap.size w8.heap.size w9.heap.size w10.heap.size ns nl nu now nb na (fun i => (P i).T) (fun i => (P i).I) (fun i => (U i).T) sb1 gb1 (fun i => (P i).n) sb2 gb2 (fun i => (U i).n) (fun i => (P i).R) (fun i => (U i).R) w12 _ hz hl act12 hI12 ?_)
  intro act13 w13 L p a1 a2 c1 c2 lO uO hI13 ok hlen x1 x2 e1 e2 hb13
  have B13 : Below w.heap.size w w13 := B12.trans (hb13.mono (by have := B12.size; omega))
  refine wp_seq (y14 _ _ _ _ _ _ _ _ _ _ _ _ _ _ _ _ _ a1 L.length c1 (fun g => L.getD g (0, 0)) w13 _ hlen act13 hI13 ?_)
  intro act14 w14 hI14 r27 hb14 hs14
  refine wp_seq (y15 _ _ _ _ _ _ _ _ _ _ _ _ _ _ _ a1 a2 L.length c1 c2 w13.heap.size (fun g => L.getD g (0, 0)) w13 w14 _ _ hlen x1 x2 hb14 (Nat.le_refl _) r27 act14 hI14 ?_)
  intro act15 w15 hI15 q27 hb15
  have K : Below w13.heap.size w13 w15 := hb14.trans hb15
  refine y16 _ _ _ _ _ _ _ _ _ _ _ _ _ _ _ _ _ _ w15 _ act15 hI15 ⟨⟨L, p, w13.heap.size, lO, uO, rfl, ok, hlen, ?_, fun i hi => (e1 i hi).below K, fun i hi => (e2 i hi).below K⟩, B13.trans (K.mono B13.size)⟩
  exact Or.inr ⟨_, 0, rfl, fun i hi => by
    have h0 := q27.cell (i := i * 2) (by omega)
    have h1 := q27.cell (i := i * 2 + 1) (by omega)
    have e1 : (i * 2 + 1) / 2 = i := by omega
    exact ⟨by rw [Nat.zero_add]; exact h0.trans (by simp [refAt, hi]), by rw [Nat.zero_add]; exact h1.trans (by simp [refAt, hi, e1])⟩⟩

set_option maxHeartbeats 4000000 in
set_option maxRecDepth 100000 in
theorem call_any (sa la ua : Option Addr) (ns sc nl lc nu uc : Nat) (now : Int) (nb na : Nat → Int) (P U : Nat → En) (w : World) (hW : Wins w sa ns nb na) (hP : Lis w la nl P) (hU : Uns w ua nu U) (hl : ZLog ns nl nu (fun i => (P i).T) (fun i => (P i).I) (fun i => (U i).T) (fun i => (P i).n) (fun i => (U i).n) (fun i => (P i).R) (fun i => (U i).R)) :
    Calls Try.prog 13 #[.slice sa ns sc, .slice la nl lc, .slice ua nu uc, .int .i64 now] w fun e w' => CRes nl nu now nb na P U e w' ∧ Below w.heap.size w w' := by
  have C : Hid (∀ v11 v12 v14 v15 v16 v17 v19 v20 v21 v23 v24 v25 v26 v27 act, J13 (.slice sa ns sc) (.slice la nl lc) (.slice ua nu uc) (.int .i64 now) v11 v12 v14 v15 v16 v17 v19 v20 v21 v23 v24 v25 v26 v27 act → Code.wp Try.prog b13 (bodyPost Try.prog Try.f13 (fun e w' => CRes nl nu now nb na P U e w' ∧ Below w.heap.size w w')) act w) := fun _ _ _ _ _ _ _ _ _ _ _ _ _ _ act hI => chain13 _ _ _ _ _ _ _ _ _ _ _ _ _ _ sa la ua ns sc nl lc nu uc now nb na P U w hW hP hU hl act hI
  clear hW hP hU hl
  go_enter Try.func13, Try.ntmps13
  exact C.out _ _ _ _ _ _ _ _ _ _ _ _ _ _ _ (J13_mk _ rfl rfl rfl rfl rfl rfl rfl rfl rfl rfl rfl rfl rfl rfl rfl rfl rfl rfl rfl)
end Go.Proofs.Qxb6612720a
