import Derived.Test.Qxb6612720aNn
namespace Go.Proofs.Qxb6612720a
open Go.RowKit
open Go.Maps (Keyed)
set_option linter.unusedVariables false

theorem NumOk.congr {v : Rf → Bool} {f1 f2 g1 g2 : Rf → Prop} {L : List Rf} {p : Nat} (h : NumOk v f1 f2 L p) (h1 : ∀ r, f1 r ↔ g1 r) (h2 : ∀ r, f2 r ↔ g2 r) : NumOk v g1 g2 L p :=
  ⟨h.nd, h.val, fun r hr => h.c1 r ((h1 r).2 hr), fun r hr => h.c2 r ((h2 r).2 hr), fun g hg hp => (h1 _).1 (h.lo g hg hp), fun g hg hp => ⟨(h2 _).1 (h.hi g hg hp).1, fun hf => (h.hi g hg hp).2 ((h1 _).2 hf)⟩⟩
/-- A reference of the first n lists. -/
def Fr (n : Nat) (m : Nat → Nat) (R : Nat → Nat → Rf) (r : Rf) : Prop := ∃ i, i < n ∧ ∃ j, j < m i ∧ R i j = r
theorem fr_iff {D : DataW Value} {idx : Lit → Nat} {keys : Nat → Lit} {n : Nat} {m : Nat → Nat} {R : Nat → Nat → Rf} (h1 : ∀ kl, Maps.has D kl = true → idx kl < n) (h2 : ∀ i, i < n → Maps.has D (keys i) = true ∧ idx (keys i) = i) (r : Rf) : From D (fun kl => m (idx kl)) (fun kl => R (idx kl)) r ↔ Fr n m R r := by
  constructor
  · rintro ⟨kl, hk, j, hj, e⟩
    exact ⟨idx kl, h1 kl hk, j, hj, e⟩
  · rintro ⟨i, hi, j, hj, e⟩
    obtain ⟨a, b⟩ := h2 i hi
    exact ⟨keys i, a, j, by simpa only [b] using hj, by simpa only [b] using e⟩
/-- What ZZNumber holds behind the call. -/
structure Zn (w w' : World) (E SB ns nl nu : Nat) (now : Int) (nb na : Nat → Int) (keys1 keys2 : Nat → Lit) (m1 m2 : Nat → Nat) (R1 R2 : Nat → Nat → Rf) (L : List Rf) (p : Nat) (ao : Option Addr) (c X1 X2 : Nat) (D1 D2 : DataW Value) : Prop where
  ok : NumOk (fun r => validB (nb r.1.toNat) (na r.1.toNat) now) (Fr nl m1 R1) (Fr nu m2 R2) L p
  len : L.length ≤ 17179869184
  e : w'.heap[E]? = some (.cells #[.pointer none, .slice (some ⟨SB, 0, none⟩) ns ns, .slice ao L.length c, .map none] 102 (0, 0))
  own : w'.ownsRow w.heap.size 118 2 (.slice ao L.length c) L.length (flatR L)
  o1 : w'.ownsMap Try.prog 112 RV X1 nl D1
  e1 : ∀ i, i < nl → Ent w' D1 (keys1 i) (R1 i) (m1 i) L
  o2 : w'.ownsMap Try.prog 9 RV X2 nu D2
  e2 : ∀ i, i < nu → Ent w' D2 (keys2 i) (R2 i) (m2 i) L
  ke : KE E w.heap.size w w'

set_option maxHeartbeats 4000000 in
set_option maxRecDepth 100000 in
theorem z6 (v0 v1 v2 v3 v4 v5 v6 v7 v8 v20 v21 v22 v23 v29 v30 : Value) (E SB ns nl nu F M1 M2 : Nat) (now : Int) (nb na : Nat → Int) (keys1 keys2 : Nat → Lit) (m1 m2 : Nat → Nat) (R1 R2 : Nat → Nat → Rf) (w : World) (Q : Exit → Act → World → Prop) (hns : ns ≤ 65536) (hnl : nl ≤ 65536) (hnu : nu ≤ 65536)
    (he : w.heap[E]? = some (eObj SB ns)) (hr : w.rowIs SB 105 (ns * 5) (setAt nb na ns)) (hf : w.heap[F]? = some (.cells #[.map (some M1), .map (some M2)] 109 (0, 0))) (d1 : DM w 112 keys1 nl M1 m1 R1) (d2 : DM w 9 keys2 nu M2 m2 R2)
    (i1 : ∀ i j, i < nl → j < nl → keys1 i = keys1 j → i = j) (i2 : ∀ i j, i < nu → j < nu → keys2 i = keys2 j → i = j) (l1 : ∀ i, i < nl → m1 i ≤ 65536) (l2 : ∀ i, i < nu → m2 i ≤ 65536) (f1 : ∀ i, i < nl → ∀ j, j < m1 i → wfR (R1 i j)) (f2 : ∀ i, i < nu → ∀ j, j < m2 i → wfR (R2 i j)) (a1 : ∀ i, i < nl → allIn (R1 i) (m1 i) ns) (a2 : ∀ i, i < nu → allIn (R2 i) (m2 i) ns)
    (act : Act) (hI : J29 v0 v1 v2 v3 v4 v5 v6 v7 v8 (.int .i64 now) v20 v21 v22 v23 (.pointer (some ⟨E, 0, none⟩)) (.pointer (some ⟨F, 0, none⟩)) v29 v30 act)
    (hnext : ∀ act' w' L p ao c X1 X2 D1 D2, J29 v0 v1 v2 v3 v4 v5 v6 v7 v8 (.int .i64 now) v20 v21 v22 v23 (.pointer (some ⟨E, 0, none⟩)) (.pointer (some ⟨F, 0, none⟩)) (.map (some X1)) (.map (some X2)) act' → Zn w w' E SB ns nl nu now nb na keys1 keys2 m1 m2 R1 R2 L p ao c X1 X2 D1 D2 → Q .normal act' w') : Code.wp Try.prog (pick [1, 1, 1, 1, 1, 1, 0] b29) Q act w := by
  obtain ⟨g, rfl⟩ := hI
  have HN : Hid _ := hnext
  obtain ⟨D1, bb1, idx1, o1, ls1, x1, y1⟩ := dm_lists d1 i1 l1 f1
  obtain ⟨D2, bb2, idx2, o2, ls2, x2, y2⟩ := dm_lists d2 i2 l2 f2
  have hSE : SB ≠ E := by
    rintro rfl
    obtain ⟨cs, hc, _⟩ := hr
    rw [he] at hc; simp [eObj] at hc
  have C : Hid _ := number_any E SB ns nl nu M1 M2 now nb na (.pointer none) (.map none) D1 D2 bb1 (fun kl => m1 (idx1 kl)) bb2 (fun kl => m2 (idx2 kl)) (fun kl => R1 (idx1 kl)) (fun kl => R2 (idx2 kl)) w he (set_cells hr) hSE hr.lt hns o1 o2 ls1 ls2 hnl hnu (fun kl hk => a1 _ (x1 kl hk)) (fun kl hk => a2 _ (x2 kl hk))
  have c0 : w.cell? ⟨F, 0, none⟩ = some (.map (some M1)) := by simp [World.cell?, hf]
  have c1 : w.cell? ⟨F, 1, none⟩ = some (.map (some M2)) := by simp [World.cell?, hf]
  have HX : Hid _ := And.intro x1 (And.intro x2 (And.intro y1 y2))
  clear hnext o1 o2 ls1 ls2 x1 x2 y1 y2 he hr hf d1 d2 i1 i2 l1 l2 f1 f2 a1 a2 hSE
  conv => arg 2; whnf
  go_wp2_with fail
  refine Calls.mono C.out ?_
  rintro e w' ⟨⟨L, p, ao, c, X1, X2, D1', D2', rfl, q1, q2, q3, q4, q5, q6, q7, q8⟩, q9⟩
  obtain ⟨x1, x2, y1, y2⟩ := HX.out
  have Z : Hid (Zn w w' E SB ns nl nu now nb na keys1 keys2 m1 m2 R1 R2 L p ao c X1 X2 D1' D2') := by
    refine ⟨q1.congr (fr_iff x1 y1) (fr_iff x2 y2), q2, q3, q4, q5, fun i hi => ?_, q7, fun i hi => ?_, q9⟩
    · have := q6 (keys1 i) (y1 i hi).1
      simpa only [(y1 i hi).2] using this
    · have := q8 (keys2 i) (y2 i hi).1
      simpa only [(y2 i hi).2] using this
  clear q1 q2 q3 q4 q5 q6 q7 q8 q9 x1 x2 y1 y2 HX C
  go_wp2
  exact HN.out _ w' L p ao c X1 X2 D1' D2' (J29_mk _ rfl rfl rfl rfl rfl rfl rfl rfl rfl rfl rfl rfl rfl rfl rfl rfl rfl rfl rfl) Z.out

/-! ### The two rows -/
def intsF (f : Rf → Int) (L : List Rf) (k : Nat) : List Value := (List.range k).map fun i => .int .i64 (f (L.getD i (0, 0)))
theorem intsF_len (f : Rf → Int) (L : List Rf) (k : Nat) : (intsF f L k).length = k := by simp [intsF]
theorem intsF_snoc (f : Rf → Int) (L : List Rf) (k : Nat) : intsF f L (k + 1) = intsF f L k ++ [.int .i64 (f (L.getD k (0, 0)))] := by simp [intsF, List.range_succ]
theorem own_other {w w' : World} {base : Nat} {e : TypeId} {size : Nat} {v : Value} {n : Nat} {xs : List Value} {row : Option Nat} (h : w.ownsRow base e size v n xs) (hg : w.grownBy w' row) (hne : ∀ x, v.ownBlock = some x → some x ≠ row) : w'.ownsRow base e size v n xs := by
  obtain ⟨h1, h2⟩ := h
  refine ⟨h1, ?_⟩
  rcases h2 with h2 | ⟨g, cap, cur, rfl, hbg, hg', r⟩
  · exact Or.inl h2
  · exact Or.inr ⟨g, cap, cur, rfl, hbg, (hg.block g (lt_of_block hg') (hne g rfl)).trans hg', r⟩
theorem own_rfs {w : World} {base : Nat} {L : List Rf} {ao : Option Addr} {c : Nat} (h : w.ownsRow base 118 2 (.slice ao L.length c) L.length (flatR L)) : Rfs w ao L.length (fun i => L.getD i (0, 0)) := by
  obtain ⟨h1, h2⟩ := h
  rcases h2 with ⟨hv, h0⟩ | ⟨g, cap, cur, hv, hbg, hg, hc, _, hs, ht⟩
  · exact Or.inl h0
  · simp at hv
    obtain ⟨rfl, rfl⟩ := hv
    refine Or.inr ⟨g, 0, rfl, fun i hi => ?_⟩
    obtain ⟨a, b⟩ := flatR_at L i hi
    have e : L.getD i (0, 0) = L[i] := by simp [List.getD, hi]
    rw [← ht, List.getElem?_take] at a b
    rw [if_pos (by omega)] at a b
    simp only [Nat.zero_add, World.cell?, hg, e]
    exact ⟨by simpa using a, by simpa using b⟩
theorem one_one (a : Int) : ∀ u ∈ [Value.int .i64 a], u.oneCell' = true := by
  intro u hu; simp at hu; subst hu; rfl
def Rows2 (w : World) (base k : Nat) (L : List Rf) (a1 a2 : Option Addr) (c1 c2 : Nat) : Prop :=
  w.ownsRow base 3 1 (.slice a1 k c1) k (intsF (·.1) L k) ∧ w.ownsRow base 3 1 (.slice a2 k c2) k (intsF (·.2) L k) ∧ ∀ x, (Value.slice a1 k c1).ownBlock = some x → (Value.slice a2 k c2).ownBlock ≠ some x
theorem rows2_next {w wa w1 w2 : World} {base k g1 g2 cap1 cap2 c1 c2 : Nat} {L : List Rf} {a1 a2 : Option Addr} (h : Rows2 w base k L a1 a2 c1 c2) (hwa : w.heap.size ≤ wa.heap.size) (hown1 : w1.ownsRow base 3 1 (.slice (some ⟨g1, 0, none⟩) (k + 1) cap1) (k + 1) (intsF (·.1) L k ++ [.int .i64 (L.getD k (0, 0)).1])) (hat1 : (Value.slice a1 k c1).ownBlock = some g1 ∨ g1 = wa.heap.size) (hlt1 : g1 < w1.heap.size)
    {o : Obj} (hown2 : w2.ownsRow base 3 1 (.slice (some ⟨g2, 0, none⟩) (k + 1) cap2) (k + 1) (intsF (·.2) L k ++ [.int .i64 (L.getD k (0, 0)).2])) (hg2 : (w1.alloc o).grownBy w2 (Value.slice a2 k c2).ownBlock) (hat2 : (Value.slice a2 k c2).ownBlock = some g2 ∨ g2 = w1.heap.size + 1) :
    Rows2 w2 base (k + 1) L (some ⟨g1, 0, none⟩) (some ⟨g2, 0, none⟩) cap1 cap2 := by
  obtain ⟨h1, h2, h3⟩ := h
  have hb2 : ∀ x, (Value.slice a2 k c2).ownBlock = some x → x < w.heap.size := fun x hx => by
    rcases h2.2 with ⟨hv, _⟩ | ⟨g, cap, cur, hv, _, hg, _⟩
    · simp at hv; rw [hv.1] at hx; simp [Value.ownBlock] at hx
    · rw [hv] at hx; simp [Value.ownBlock] at hx; subst hx; exact lt_of_block hg
  have hne : (Value.slice a2 k c2).ownBlock ≠ some g1 := by
    rcases hat1 with e | e
    · exact h3 g1 e
    · intro e'; have := hb2 _ e'; omega
  refine ⟨?_, by rw [intsF_snoc]; exact hown2, fun x hx hx2 => ?_⟩
  · rw [intsF_snoc]
    refine own_other (hown1.alloc o) hg2 fun x hx => ?_
    simp [Value.ownBlock] at hx
    subst hx
    exact fun e => hne e.symm
  · simp [Value.ownBlock] at hx hx2
    subst hx
    rcases hat2 with e | e
    · rw [hx2] at e; exact hne e
    · omega

set_option maxHeartbeats 4000000 in
set_option maxRecDepth 100000 in
theorem z7 (v0 v1 v2 v3 v4 v5 v6 v7 v8 v9 v22 v23 v26 v29 v30 : Value) (E SB ns : Nat) (L : List Rf) (ao : Option Addr) (c : Nat) (w : World) (Q : Exit → Act → World → Prop) (hlen : L.length ≤ 17179869184) (he : w.heap[E]? = some (.cells #[.pointer none, .slice (some ⟨SB, 0, none⟩) ns ns, .slice ao L.length c, .map none] 102 (0, 0))) (hR : Rfs w ao L.length (fun i => L.getD i (0, 0)))
    (act : Act) (hI : J29 v0 v1 v2 v3 v4 v5 v6 v7 v8 v9 (.slice none 0 0) (.slice none 0 0) v22 v23 (.pointer (some ⟨E, 0, none⟩)) v26 v29 v30 act)
    (hnext : ∀ act' w' a1 a2 c1 c2, J29 v0 v1 v2 v3 v4 v5 v6 v7 v8 v9 (.slice a1 L.length c1) (.slice a2 L.length c2) v22 v23 (.pointer (some ⟨E, 0, none⟩)) v26 v29 v30 act' → Rows2 w' w.heap.size L.length L a1 a2 c1 c2 → Below w.heap.size w w' → Q .normal act' w') : Code.wp Try.prog (pick [1, 1, 1, 1, 1, 1, 1, 0] b29) Q act w := by
  obtain ⟨g, rfl⟩ := hI
  have HN : Hid _ := hnext
  have HR : Hid (Rfs w ao L.length (fun i => L.getD i (0, 0))) := hR
  have y2 : w.cell? ⟨E, 2, none⟩ = some (.slice ao L.length c) := by simp [World.cell?, he]
  have hElt := lt_of_block he
  obtain ⟨i0, hi, hz0, hz1, hz2⟩ := info_parts info3
  clear hnext hR he
  conv => arg 2; whnf
  go_wp2
  go_loopw [126, 20, 21] (fun i s1 s2 wr => ∃ (k : Nat) (a1 a2 : Option Addr) (c1 c2 : Nat), k ≤ L.length ∧ i = .int .i64 k ∧ s1 = .slice a1 k c1 ∧ s2 = .slice a2 k c2 ∧ Hid (Rows2 wr w.heap.size k L a1 a2 c1 c2) ∧ Hid (Below w.heap.size w wr)) (fun i _ _ _ => L.length - (intOf i).toNat)
  case atStart => exact ⟨0, none, none, 0, 0, Nat.zero_le _, rfl, rfl, rfl, ⟨World.ownsRow_nil _ _ _ _, World.ownsRow_nil _ _ _ _, by simp [Value.ownBlock]⟩, Below.refl _ _⟩
  case round =>
    obtain ⟨k, a1, a2, c1, c2, hk, rfl, rfl, rfl, hrows, hb⟩ := hrel
    by_cases hlt : k < L.length
    · obtain ⟨rb, off, rfl, hrb, x0, x1⟩ := (HR.out.below hb.out).at hlt
      obtain ⟨r, hr⟩ : ∃ r, r = L.getD k (0, 0) := ⟨_, rfl⟩
      rw [← hr] at x0 x1
      have HRr : Hid (r = L.getD k (0, 0)) := hr
      clear hr
      have hbs := hb.out.size
      have O1 : Hid (wr.ownsRow w.heap.size 3 1 (.slice a1 k c1) k (intsF (·.1) L k)) := hrows.out.1
      have O2 : Hid (wr.ownsRow w.heap.size 3 1 (.slice a2 k c2) k (intsF (·.2) L k)) := hrows.out.2.1
      have n1 : Hid (some wr.heap.size ≠ (Value.slice a1 k c1).ownBlock) := by
        intro e
        rcases hrows.out.1.2 with ⟨hv, _⟩ | ⟨g, cap, cur, hv, _, hg, _⟩
        · simp at hv; rw [hv.1] at e; simp [Value.ownBlock] at e
        · rw [hv] at e; simp [Value.ownBlock] at e; have := lt_of_block hg; omega
      go_wp2_with (at_builtin; refine wpList_append_lies _ rfl (.tmp 130) (.tmp 133) 87 rfl w.heap.size 3 i0 (.int .i64 0) 1 8 Try.underlying87 hi hz0 hz1 hz2 rfl (by decide) (.slice a1 k c1) k (intsF (·.1) L k) rfl ((O1.out.alloc _).alloc _) ⟨wr.heap.size + 1, 0, none⟩ 1 1 [.int .i64 r.1] rfl rfl ?c1 (one_one _) (by decide) ?c3 ?c4 ?c5 (wr.heap.size + 1 + 1) ?c6 ?_)
      case c1 => simpa using cell_one_new (wr.alloc (.cells #[.int .i64 r.1, .int .i64 r.2] 118)) (.int .i64 r.1) 3
      case c3 => simp only [maxLen]; omega
      case c4 => omega
      case c5 => simp; omega
      case c6 => simp
      intro g1 cap1 w1 hown1 hgrow1 hat1 hlt1
      have hs1 := hgrow1.size
      simp at hs1
      have z1 : w1.cell? ⟨wr.heap.size, 1, none⟩ = some (.int .i64 r.2) := by
        refine (hgrow1.cell_far ⟨wr.heap.size, 1, none⟩ (by simp; omega) n1.out).trans ?_
        simp
      have O2' : Hid (w1.ownsRow w.heap.size 3 1 (.slice a2 k c2) k (intsF (·.2) L k)) := own_other ((O2.out.alloc _).alloc _) hgrow1 fun x hx e => by
        exact hrows.out.2.2 x e.symm hx
      have HB1 : Hid (Below w.heap.size w w1) := by
        refine ⟨hgrow1.os.trans hb.out.os, hgrow1.tape.trans hb.out.tape, hgrow1.output.trans hb.out.output, by omega, fun j hj => ?_⟩
        rw [hgrow1.block j (by simp; omega) ?_, Below.heap_alloc _ _ _ (by simp; omega), Below.heap_alloc _ _ _ (by omega)]
        · exact hb.out.block j hj
        · intro e; have := (hrows.out.1.lt j e.symm).1; omega
      have HAT1 : Hid _ := And.intro hown1 (And.intro hat1 hlt1)
      have l1 : wr.heap.size < w1.heap.size := by omega
      clear hown1 hgrow1 hat1 x0 x1 O1 O2 n1
      go_wp2_with (at_builtin; refine wpList_append_lies _ rfl (.tmp 135) (.tmp 138) 87 rfl w.heap.size 3 i0 (.int .i64 0) 1 8 Try.underlying87 hi hz0 hz1 hz2 rfl (by decide) (.slice a2 k c2) k (intsF (·.2) L k) rfl (O2'.out.alloc _) ⟨w1.heap.size, 0, none⟩ 1 1 [.int .i64 r.2] rfl rfl ?c1 (one_one _) (by decide) ?c3 ?c4 ?c5 (w1.heap.size + 1) ?c6 ?_)
      case c1 => exact cell_one_new w1 (.int .i64 r.2) 3
      case c3 => simp only [maxLen]; omega
      case c4 => omega
      case c5 => simp; omega
      case c6 => simp
      intro g2 cap2 w2 hown2 hgrow2 hat2 hlt2
      have hs2 := hgrow2.size
      simp at hs2
      have HB2 : Hid (Below w.heap.size w w2) := by
        refine ⟨hgrow2.os.trans HB1.out.os, hgrow2.tape.trans HB1.out.tape, hgrow2.output.trans HB1.out.output, by have := HB1.out.size; omega, fun j hj => ?_⟩
        rw [hgrow2.block j (by simp; omega) ?_, Below.heap_alloc _ _ _ (by omega)]
        · exact HB1.out.block j hj
        · intro e; have := (hrows.out.2.1.lt j e.symm).1; omega
      have HRW : Hid (Rows2 w2 w.heap.size (k + 1) L (some ⟨g1, 0, none⟩) (some ⟨g2, 0, none⟩) cap1 cap2) := by
        obtain ⟨q1, q2, q3⟩ := HAT1.out
        rw [HRr.out] at q1 hown2
        exact rows2_next (wa := (wr.alloc (.cells #[.int .i64 r.1, .int .i64 r.2] 118)).alloc (.cells #[.int .i64 r.1] 3)) hrows.out (by simp; omega) q1 (by simpa using q2) q3 hown2 hgrow2 hat2
      clear hown2 hgrow2 hat2 HAT1 O2'
      go_wp2
      go_roundw
      case rel => exact ⟨k + 1, _, _, _, _, by omega, by go_num, rfl, rfl, HRW, HB2⟩
      case measure => simp [intOf]; omega
    · obtain rfl : k = L.length := by omega
      go_wp2
      exact HN.out _ _ _ _ _ _ (J29_mk _ rfl rfl rfl rfl rfl rfl rfl rfl rfl rfl rfl rfl rfl rfl rfl rfl rfl rfl rfl) hrows.out hb.out
end Go.Proofs.Qxb6612720a
