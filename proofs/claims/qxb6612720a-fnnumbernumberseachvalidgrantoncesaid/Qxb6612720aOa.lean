import Derived.Test.Qxb6612720aNz
namespace Go.Proofs.Qxb6612720a
open Go.RowKit
set_option linter.unusedVariables false

set_option maxHeartbeats 4000000 in
set_option maxRecDepth 100000 in
theorem q13 (v0 v1 v2 v3 v10 v11 v12 : Value) (O n OL OA : Nat) (AL AN : Nat → Bool) (w : World) (Q : Exit → Act → World → Prop) (hn : n ≤ 17179869184) (rl : w.rowIs OL 4 n (fun g => .bool (AL g))) (ra : w.rowIs OA 4 n (fun g => .bool (AN g))) (hA : ∀ g, g < n → AN g = true) (hM : ∀ g, g + 1 < n → AL (g + 1) = true → AL g = true) (act : Act) (hI : J4 v0 v1 v2 v3 (.slice (some ⟨O, 0, none⟩) n n) v10 v11 v12 (.slice (some ⟨OL, 0, none⟩) n n) (.slice (some ⟨OA, 0, none⟩) n n) act)
    (hnext : ∀ act', J4 v0 v1 v2 v3 (.slice (some ⟨O, 0, none⟩) n n) v10 v11 v12 (.slice (some ⟨OL, 0, none⟩) n n) (.slice (some ⟨OA, 0, none⟩) n n) act' → Q .normal act' w) : Code.wp Try.prog (pick [1, 1, 1, 1, 1, 1, 1, 1, 1, 1, 1, 1, 1, 0] b4) Q act w := by
  obtain ⟨g, rfl⟩ := hI
  have HN : Hid _ := hnext
  have RL : Hid (w.rowIs OL 4 n (fun g => .bool (AL g))) := rl
  have RA : Hid (w.rowIs OA 4 n (fun g => .bool (AN g))) := ra
  have HA : Hid (∀ g, g < n → AN g = true) := hA
  have HM : Hid (∀ g, g + 1 < n → AL (g + 1) = true → AL g = true) := hM
  clear hnext rl ra hA hM
  conv => arg 2; whnf
  go_wp2
  go_loop [28] (fun i => ∃ k : Nat, k ≤ n ∧ i = .int .i64 k) (fun i => n - (intOf i).toNat)
  case atStart => exact ⟨0, Nat.zero_le _, rfl⟩
  case round =>
    obtain ⟨k, hk, rfl⟩ := hrel
    by_cases hlt : k < n
    · have c0 := RA.out.cell hlt
      rw [HA.out k hlt] at c0
      have c1 := RL.out.cell hlt
      by_cases h0 : k = 0
      · subst h0
        go_wp2
        go_round
        case rel => exact ⟨0 + 1, by omega, by go_num⟩
        case measure => simp [intOf]; omega
      · obtain ⟨k', rfl⟩ : ∃ k', k = k' + 1 := ⟨k - 1, by omega⟩
        have c2 := RL.out.cell (i := k') (by omega)
        have t1 : (0 : Int) ≤ ((k' + 1 : Nat) : Int) - 1 := by omega
        have t2 : ((k' + 1 : Nat) : Int) - 1 < (n : Int) := by omega
        have t3 : (((k' + 1 : Nat) : Int) - 1).toNat = k' := by omega
        have t4 : (0 : Int) < ((k' + 1 : Nat) : Int) := by omega
        have hm := HM.out k' hlt
        obtain ⟨vb, hvb⟩ : ∃ vb, AL (k' + 1) = vb := ⟨_, rfl⟩
        rw [hvb] at c1 hm
        obtain ⟨kk, hkk⟩ : ∃ kk, kk = k' + 1 := ⟨_, rfl⟩
        rw [← hkk] at c0 c1 t1 t2 t3 t4 hlt hk ⊢
        have HK : Hid (kk = k' + 1) := hkk
        clear hkk hvb h0
        cases vb with
        | false =>
          clear hm
          go_wp2
          go_round
          case rel => exact ⟨kk + 1, by omega, by go_num⟩
          case measure => simp [intOf]; omega
        | true =>
          rw [hm rfl] at c2
          clear hm
          go_wp2
          go_round
          case rel => exact ⟨kk + 1, by omega, by go_num⟩
          case measure => simp [intOf]; omega
    · go_wp2
      exact HN.out _ (J4_mk _ rfl rfl rfl rfl rfl rfl rfl rfl rfl rfl rfl)

set_option maxHeartbeats 4000000 in
set_option maxRecDepth 100000 in
theorem q14 (v0 v1 v2 v3 v9 v10 v11 v12 v22 v23 : Value) (w : World) (Q : Exit → Act → World → Prop) (act : Act) (hI : J4 v0 v1 v2 v3 v9 v10 v11 v12 v22 v23 act) (hret : ∀ fr, fr[8]? = some (.bool true) → Q .ret ⟨fr, []⟩ w) : Code.wp Try.prog (pick [1, 1, 1, 1, 1, 1, 1, 1, 1, 1, 1, 1, 1, 1] b4) Q act w := by
  obtain ⟨g, rfl⟩ := hI
  have HR : Hid _ := hret
  clear hret
  conv => arg 2; whnf
  go_wp2
  exact HR.out _ rfl

theorem fin4 (w0 w : World) (hb : Below w0.heap.size w0 w) (fr : Array Value) (h : fr[8]? = some (.bool true)) : (bodyPost Try.prog Try.f4 (fun e w' => e = .returned (.bool true) ∧ Below w0.heap.size w0 w')) .ret ⟨fr, []⟩ w :=
  bodyPost_ret (v := .bool true) (by simp [results, Try.results4, go_sem, h]) rfl ⟨rfl, hb⟩
theorem zlog_of {ns nl nu : Nat} {P U : Nat → En} (h : NFit ns nl nu P U) (w1 : ∀ i, i < nl → ∀ j, j < (P i).n → wfR ((P i).R j)) (w2 : ∀ i, i < nu → ∀ j, j < (U i).n → wfR ((U i).R j)) : ZLog ns nl nu (fun i => (P i).T) (fun i => (P i).I) (fun i => (U i).T) (fun i => (P i).n) (fun i => (U i).n) (fun i => (P i).R) (fun i => (U i).R) where
  hns := h.hns
  hnl := h.hnl
  hnu := h.hnu
  sT i hi := by have := (h.ep i hi).1; show (P i).T.size ≤ maxLen; unfold maxLen; omega
  sI i hi := by have := (h.ep i hi).2.1; show (P i).I.size ≤ maxLen; unfold maxLen; omega
  sU i hi := by have := (h.eu i hi).1; show (U i).T.size ≤ maxLen; unfold maxLen; omega
  d1 i j hi hj e1 e2 := by
    rcases Nat.lt_trichotomy i j with l | l | l
    · exact absurd ⟨e1.symm, e2.symm⟩ (h.dp j i hj l)
    · exact l
    · exact absurd ⟨e1, e2⟩ (h.dp i j hi l)
  d2 i j hi hj e1 := by
    rcases Nat.lt_trichotomy i j with l | l | l
    · exact absurd e1.symm (h.du j i hj l)
    · exact l
    · exact absurd e1 (h.du i j hi l)
  l1 i hi := (h.ep i hi).2.2.1
  l2 i hi := (h.eu i hi).2.1
  w1 := w1
  w2 := w2
  a1 i hi := (h.ep i hi).2.2.2
  a2 i hi := (h.eu i hi).2.2
theorem getD_at (L : List Rf) {g : Nat} (h : g < L.length) : L.getD g (0, 0) = L[g] := by simp [List.getD, h]
theorem inR_of_mem {L : List Rf} {r : Rf} (h : r ∈ L) : inR (fun g => L.getD g (0, 0)) L.length r = true := by
  obtain ⟨g, hg, e⟩ := List.mem_iff_getElem.1 h
  exact inR_iff.2 ⟨g, hg, (getD_at L hg).trans e⟩
theorem fr_acc {P : Nat → En} {L : List Rf} {n g : Nat} (h : g < L.length) : acc P (fun g => L.getD g (0, 0)) n g = true ↔ Fr n (fun i => (P i).n) (fun i => (P i).R) L[g] := by
  rw [acc_iff]
  show (∃ i, i < n ∧ inR (P i).R (P i).n (L.getD g (0, 0)) = true) ↔ ∃ i, i < n ∧ ∃ j, j < (P i).n ∧ (P i).R j = L[g]
  rw [getD_at L h]
  constructor
  · rintro ⟨i, hi, h⟩; exact ⟨i, hi, inR_iff.1 h⟩
  · rintro ⟨i, hi, h⟩; exact ⟨i, hi, inR_iff.2 h⟩

set_option maxHeartbeats 4000000 in
set_option maxRecDepth 100000 in
theorem chain4 (v9 v10 v11 v12 v22 v23 : Value) (sa la ua : Option Addr) (ns sc nl lc nu uc : Nat) (now : Int) (nb na : Nat → Int) (P U : Nat → En) (w : World) (h1 : ns ≤ maxLen) (h2 : nl ≤ maxLen) (h3 : nu ≤ maxLen) (hW : Wins w sa ns nb na) (hP : Lis w la nl P) (hU : Uns w ua nu U) (f1 : ∀ i, i < nl → ∀ j, j < (P i).n → wfR ((P i).R j)) (f2 : ∀ i, i < nu → ∀ j, j < (U i).n → wfR ((U i).R j)) (act : Act) (hI : J4 (.slice sa ns sc) (.slice la nl lc) (.slice ua nu uc) (.int .i64 now) v9 v10 v11 v12 v22 v23 act) : Code.wp Try.prog b4 (bodyPost Try.prog Try.f4 (fun e w' => e = .returned (.bool true) ∧ Below w.heap.size w w')) act w := by
  refine wp_seq (q0 _ _ _ _ _ _ _ _ _ _ w _ act hI ?_)
  intro act0 hI0
  refine wp_seq (q1 _ _ _ _ _ _ sa la ua ns sc nl lc nu uc now P U w _ h1 h2 h3 hP hU act0 hI0 (fun fr h => fin4 w w (Below.refl _ _) fr h) ?_)
  intro act1 hI1
  refine wp_seq (q2 _ _ _ _ _ _ sa la ua ns sc nl lc nu uc now P U w _ h1 h2 h3 hP hU act1 hI1 (fun fr w' h hb => fin4 w w' hb fr h) ?_)
  intro act2 w2 hI2 fit b2
  have hl := zlog_of fit f1 f2
  refine wp_seq (q3 _ _ _ _ _ _ sa la ua ns sc nl lc nu uc now nb na P U w2 _ (hW.below b2) (hP.below b2) (hU.below b2) hl act2 hI2 ?_)
  intro act3 w3 L p O lO uO hI3 ok hlen hR hbl hbu b3
  have B3 := b2.trans (b3.mono b2.size)
  refine wp_seq (q4 _ _ _ _ _ _ _ _ _ O L.length w3 _ hlen act3 hI3 ?_)
  intro act4 hI4
  have eW : ((L.length : Int) + 63) / 64 = ((Wd L : Nat) : Int) := by unfold Wd; omega
  rw [eW] at hI4
  have rng : ∀ g (h : g < L.length), 0 ≤ (L[g]).1 ∧ (L[g]).1 < ns := fun g h => by
    by_cases hp : g < p
    · obtain ⟨i, hi, j, hj, e⟩ := ok.lo g h hp
      rw [← e]; exact hl.a1 i hi j hj
    · obtain ⟨⟨i, hi, j, hj, e⟩, _⟩ := ok.hi g h (by omega)
      rw [← e]; exact hl.a2 i hi j hj
  refine wp_seq (q5 _ _ _ _ _ _ _ sa ns sc O L.length now nb na (fun g => L.getD g (0, 0)) w3 _ hlen hl.hns (hW.below B3) hR (fun g hg => ?_) (fun g h hh hg e => ?_) act4 hI4 ?_)
  · show 0 ≤ (L.getD g (0, 0)).1 ∧ (L.getD g (0, 0)).1 < ns ∧ validB (nb (L.getD g (0, 0)).1.toNat) (na (L.getD g (0, 0)).1.toNat) now = true
    rw [getD_at L hg]
    exact ⟨(rng g hg).1, (rng g hg).2, ok.val _ (List.getElem_mem hg)⟩
  · have e' : L.getD h (0, 0) = L.getD g (0, 0) := e
    rw [getD_at L hg, getD_at L (by omega : h < L.length)] at e'
    have a := ok.nd.idxOf_getElem h (by omega)
    have b := ok.nd.idxOf_getElem g hg
    rw [e', b] at a
    omega
  intro act5 w5 hI5 b5
  have B5 := B3.trans (b5.mono B3.size)
  refine wp_seq (q6 _ _ _ _ _ _ sa ns sc O L.length la nl lc now nb na P (fun g => L.getD g (0, 0)) w5 _ hlen hl.hns hl.hnl hl.l1 (hW.below B5) (hR.below b5) (hP.below B5) hl.a1 (fun i hi j hj hv => inR_of_mem (ok.c1 _ ⟨i, hi, j, hj, rfl⟩ hv)) act5 hI5 ?_)
  intro act6 w6 hI6 b6
  have B6 := B5.trans (b6.mono B5.size)
  have K6 := b5.trans (b6.mono b5.size)
  refine wp_seq (q7 _ _ _ _ _ _ sa ns sc O L.length ua nu uc now nb na U (fun g => L.getD g (0, 0)) w6 _ hlen hl.hns hl.hnu hl.l2 (hW.below B6) (hR.below K6) (hU.below B6) hl.a2 (fun i hi j hj hv => inR_of_mem (ok.c2 _ ⟨i, hi, j, hj, rfl⟩ hv)) act6 hI6 ?_)
  intro act7 w7 hI7 b7
  have B7 := B6.trans (b7.mono B6.size)
  have K7 := K6.trans (b7.mono K6.size)
  refine wp_seq (q8 _ _ _ _ _ _ la ua nl lc nu uc lO uO w7 _ hl.hnl hl.hnu act7 hI7 ?_)
  intro act8 hI8
  refine wp_seq (q9 _ _ _ _ _ _ _ _ _ O L.length w7 _ hlen act8 hI8 ?_)
  intro act9 w9 hI9 r9 b9 s9
  refine wp_seq (q10 _ _ _ _ _ _ _ _ _ O L.length w9 _ hlen act9 hI9 ?_)
  intro act10 w10 hI10 r10 b10 s10
  have K10 : Below w7.heap.size w7 w10 := b9.trans (b10.mono (by omega))
  refine wp_seq (q11 _ _ _ _ la nl lc lO O L.length w7.heap.size w9.heap.size P L w7 w10 _ _ rfl hlen hl.hnl (hR.below K7) (hP.below B7) (fun i hi => (hbl i hi).below K7) K10 (by omega) (r9.of_block (b10.block _ (by omega))) (Nat.le_refl _) (by omega) r10 act10 hI10 ?_)
  intro act11 w11 hI11 rl11 ra11 b11
  refine wp_seq (q12 _ _ _ _ _ ua nu uc uO O L.length w7.heap.size w9.heap.size U L (fun g => acc P (fun g => L.getD g (0, 0)) nl g) (fun g => acc P (fun g => L.getD g (0, 0)) nl g) w7 w11 _ _ rfl hlen hl.hnu (hR.below K7) (hU.below B7) (fun i hi => (hbu i hi).below K7) b11 (by omega) rl11 (by omega) ra11 act11 hI11 ?_)
  intro act12 w12 hI12 rl12 ra12 b12
  refine wp_seq (q13 _ _ _ _ _ _ _ O L.length w7.heap.size w9.heap.size (fun g => acc P (fun g => L.getD g (0, 0)) nl g) (fun g => acc P (fun g => L.getD g (0, 0)) nl g || acc U (fun g => L.getD g (0, 0)) nu g) w12 _ hlen rl12 ra12 (fun g hg => ?_) (fun g hg h => ?_) act12 hI12 ?_)
  · by_cases hp : g < p
    · have : acc P (fun g => L.getD g (0, 0)) nl g = true := (fr_acc hg).2 (ok.lo g hg hp)
      show (acc P (fun g => L.getD g (0, 0)) nl g || _) = true
      rw [this]; simp
    · have : acc U (fun g => L.getD g (0, 0)) nu g = true := (fr_acc hg).2 (ok.hi g hg (by omega)).1
      show (_ || acc U (fun g => L.getD g (0, 0)) nu g) = true
      rw [this]; simp
  · have hf : Fr nl (fun i => (P i).n) (fun i => (P i).R) L[g + 1] := (fr_acc hg).1 h
    have hp : g + 1 < p := by
      by_cases hp : g + 1 < p
      · exact hp
      · exact absurd hf (ok.hi (g + 1) hg (by omega)).2
    exact (fr_acc (by omega : g < L.length)).2 (ok.lo g (by omega) (by omega))
  intro act13 hI13
  exact q14 _ _ _ _ _ _ _ _ _ _ w12 _ act13 hI13 fun fr h => fin4 w w12 (B7.trans (b12.mono B7.size)) fr h

set_option maxHeartbeats 4000000 in
set_option maxRecDepth 100000 in
theorem law_walk (sa la ua : Option Addr) (ns sc nl lc nu uc : Nat) (now : Int) (nb na : Nat → Int) (P U : Nat → En) (w : World) (h1 : ns ≤ maxLen) (h2 : nl ≤ maxLen) (h3 : nu ≤ maxLen) (hW : Wins w sa ns nb na) (hP : Lis w la nl P) (hU : Uns w ua nu U) (f1 : ∀ i, i < nl → ∀ j, j < (P i).n → wfR ((P i).R j)) (f2 : ∀ i, i < nu → ∀ j, j < (U i).n → wfR ((U i).R j)) :
    Calls Try.prog 4 #[.slice sa ns sc, .slice la nl lc, .slice ua nu uc, .int .i64 now] w fun e w' => e = .returned (.bool true) ∧ Below w.heap.size w w' := by
  have C : Hid (∀ v9 v10 v11 v12 v22 v23 act, J4 (.slice sa ns sc) (.slice la nl lc) (.slice ua nu uc) (.int .i64 now) v9 v10 v11 v12 v22 v23 act → Code.wp Try.prog b4 (bodyPost Try.prog Try.f4 (fun e w' => e = .returned (.bool true) ∧ Below w.heap.size w w')) act w) := fun _ _ _ _ _ _ act hI => chain4 _ _ _ _ _ _ sa la ua ns sc nl lc nu uc now nb na P U w h1 h2 h3 hW hP hU f1 f2 act hI
  clear h1 h2 h3 hW hP hU f1 f2
  go_enter Try.func4, Try.ntmps4
  exact C.out _ _ _ _ _ _ _ (J4_mk _ rfl rfl rfl rfl rfl rfl rfl rfl rfl rfl rfl)
end Go.Proofs.Qxb6612720a
