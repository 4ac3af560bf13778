import Derived.Test.Qxb6612720aNv
namespace Go.Proofs.Qxb6612720a
open Go.RowKit
set_option linter.unusedVariables false

theorem ne_list {a b : ByteArray} (h : ¬ a = b) : (a.toList == b.toList) = false := by
  simp only [beq_eq_false_iff_ne, ne_eq]
  intro e
  rw [ByteArray.toList_eq, ByteArray.toList_eq] at e
  exact h (ByteArray.ext (Array.toList_inj.1 e))

set_option maxHeartbeats 4000000 in
set_option maxRecDepth 100000 in
theorem x6s (v7 : Value) (sa la ua : Option Addr) (ns sc nl lc nu uc : Nat) (P U : Nat → En) (w : World) (Q : Exit → Act → World → Prop) (hn : nl ≤ 65536) (hP : Lis w la nl P) (act : Act) (hI : J12 (.slice sa ns sc) (.slice la nl lc) (.slice ua nu uc) v7 act) (hret : ∀ fr w', fr[6]? = some (.bool false) → Below w.heap.size w w' → Q .ret ⟨fr, []⟩ w')
    (hnext : ∀ act' w', (∀ i j, i < nl → j < i → ¬ ((P i).T = (P j).T ∧ (P i).I = (P j).I)) → Below w.heap.size w w' → J12 (.slice sa ns sc) (.slice la nl lc) (.slice ua nu uc) v7 act' → Q .normal act' w') : Code.wp Try.prog (pick [1, 1, 1, 1, 1, 1, 0] b12) Q act w := by
  obtain ⟨g, rfl⟩ := hI
  have HN : Hid _ := hnext
  have HR : Hid _ := hret
  have HP : Hid (Lis w la nl P) := hP
  clear hnext hret hP
  conv => arg 2; whnf
  go_wp2
  go_loopw [10] (fun i wr => ∃ k : Nat, k ≤ nl ∧ i = .int .i64 k ∧ Hid (Below w.heap.size w wr) ∧ Hid (∀ i j, i < k → j < i → ¬ ((P i).T = (P j).T ∧ (P i).I = (P j).I))) (fun i _ => nl - (intOf i).toNat)
  case atStart => exact ⟨0, Nat.zero_le _, rfl, Below.refl _ _, fun i j hi => by omega⟩
  case round =>
    obtain ⟨k, hk, rfl, hb, hq⟩ := hrel
    obtain ⟨wo, hwo⟩ : ∃ wo, wo = wr := ⟨_, rfl⟩
    subst hwo
    by_cases hlt : k < nl
    · go_wp2
      go_loopw [11] (fun i w2 => ∃ j : Nat, j ≤ k ∧ i = .int .i64 j ∧ Hid (Below w.heap.size w w2) ∧ Hid (∀ i, i < j → ¬ ((P k).T = (P i).T ∧ (P k).I = (P i).I))) (fun i _ => k - (intOf i).toNat)
      case atStart => exact ⟨0, Nat.zero_le _, rfl, hb, fun i hi => by omega⟩
      case round =>
        obtain ⟨j, hj, rfl, hb2, hq2⟩ := hrel
        by_cases hlj : j < k
        · obtain ⟨b, off, ea, hlb, hat⟩ := (HP.out.below hb2.out).at hlt
          obtain ⟨b', off', ea', hlb', hat'⟩ := (HP.out.below hb2.out).at (i := j) (by omega)
          rw [ea] at ea'
          obtain ⟨rfl, rfl⟩ : b = b' ∧ off = off' := by simpa using ea'
          subst ea
          have c0 := hat.c0
          have d0 := hat'.c0
          have c1 := hat.c1
          have d1 := hat'.c1
          clear hat hat' ea' hlb'
          by_cases t1 : (P k).T = (P j).T
          · by_cases t2 : (P k).I = (P j).I
            · rw [t1] at c0
              rw [t2] at c1
              clear t1 t2
              go_wp2
              go_quiet (fail)
              go_wp2
              exact HR.out _ _ rfl (drewBelow hb2.out _)
            · have HQ : Hid (∀ i, i < j + 1 → ¬ ((P k).T = (P i).T ∧ (P k).I = (P i).I)) := fun i hi => by
                by_cases e : i = j
                · subst e; exact fun h => t2 h.2
                · exact hq2.out i (by omega)
              rw [t1] at c0
              have q2 := ne_list t2
              clear t1
              go_wp2
              go_quiet (fail)
              go_wp2
              go_roundw
              case rel => exact ⟨j + 1, by omega, by go_num, drewBelow hb2.out _, HQ⟩
              case measure => simp [intOf]; omega
          · have HQ : Hid (∀ i, i < j + 1 → ¬ ((P k).T = (P i).T ∧ (P k).I = (P i).I)) := fun i hi => by
              by_cases e : i = j
              · subst e; exact fun h => t1 h.1
              · exact hq2.out i (by omega)
            have q1 := ne_list t1
            go_wp2
            go_quiet (fail)
            go_wp2
            go_roundw
            case rel => exact ⟨j + 1, by omega, by go_num, drewBelow hb2.out _, HQ⟩
            case measure => simp [intOf]; omega
        · have HQ : Hid (∀ i j, i < k + 1 → j < i → ¬ ((P i).T = (P j).T ∧ (P i).I = (P j).I)) := fun i i' hi hi' => by
            by_cases e : i = k
            · subst e; exact hq2.out i' (by omega)
            · exact hq.out i i' (by omega) hi'
          go_wp2
          go_roundw
          case rel => exact ⟨k + 1, by omega, by go_num, hb2, HQ⟩
          case measure => simp [intOf]; omega
    · obtain rfl : k = nl := by omega
      go_wp2
      exact HN.out _ _ hq.out hb.out (J12_mk _ rfl rfl rfl rfl rfl)

set_option maxHeartbeats 4000000 in
set_option maxRecDepth 100000 in
theorem x7s (v7 : Value) (sa la ua : Option Addr) (ns sc nl lc nu uc : Nat) (P U : Nat → En) (w : World) (Q : Exit → Act → World → Prop) (hn : nu ≤ 65536) (hP : Uns w ua nu U) (act : Act) (hI : J12 (.slice sa ns sc) (.slice la nl lc) (.slice ua nu uc) v7 act) (hret : ∀ fr w', fr[6]? = some (.bool false) → Below w.heap.size w w' → Q .ret ⟨fr, []⟩ w')
    (hnext : ∀ act' w', (∀ i j, i < nu → j < i → ¬ ((U i).T = (U j).T)) → Below w.heap.size w w' → J12 (.slice sa ns sc) (.slice la nl lc) (.slice ua nu uc) v7 act' → Q .normal act' w') : Code.wp Try.prog (pick [1, 1, 1, 1, 1, 1, 1, 0] b12) Q act w := by
  obtain ⟨g, rfl⟩ := hI
  have HN : Hid _ := hnext
  have HR : Hid _ := hret
  have HP : Hid (Uns w ua nu U) := hP
  clear hnext hret hP
  conv => arg 2; whnf
  go_wp2
  go_loopw [12] (fun i wr => ∃ k : Nat, k ≤ nu ∧ i = .int .i64 k ∧ Hid (Below w.heap.size w wr) ∧ Hid (∀ i j, i < k → j < i → ¬ ((U i).T = (U j).T))) (fun i _ => nu - (intOf i).toNat)
  case atStart => exact ⟨0, Nat.zero_le _, rfl, Below.refl _ _, fun i j hi => by omega⟩
  case round =>
    obtain ⟨k, hk, rfl, hb, hq⟩ := hrel
    obtain ⟨wo, hwo⟩ : ∃ wo, wo = wr := ⟨_, rfl⟩
    subst hwo
    by_cases hlt : k < nu
    · go_wp2
      go_loopw [13] (fun i w2 => ∃ j : Nat, j ≤ k ∧ i = .int .i64 j ∧ Hid (Below w.heap.size w w2) ∧ Hid (∀ i, i < j → ¬ ((U k).T = (U i).T))) (fun i _ => k - (intOf i).toNat)
      case atStart => exact ⟨0, Nat.zero_le _, rfl, hb, fun i hi => by omega⟩
      case round =>
        obtain ⟨j, hj, rfl, hb2, hq2⟩ := hrel
        by_cases hlj : j < k
        · obtain ⟨b, off, ea, hlb, hat⟩ := (HP.out.below hb2.out).at hlt
          obtain ⟨b', off', ea', hlb', hat'⟩ := (HP.out.below hb2.out).at (i := j) (by omega)
          rw [ea] at ea'
          obtain ⟨rfl, rfl⟩ : b = b' ∧ off = off' := by simpa using ea'
          subst ea
          have c0 := hat.c0
          have d0 := hat'.c0
          clear hat hat' ea' hlb'
          by_cases t1 : (U k).T = (U j).T
          · rw [t1] at c0
            clear t1
            go_wp2
            go_quiet (fail)
            go_wp2
            exact HR.out _ _ rfl (drewBelow hb2.out _)
          · have HQ : Hid (∀ i, i < j + 1 → ¬ ((U k).T = (U i).T)) := fun i hi => by
              by_cases e : i = j
              · subst e; exact t1
              · exact hq2.out i (by omega)
            have q1 := ne_list t1
            go_wp2
            go_quiet (fail)
            go_wp2
            go_roundw
            case rel => exact ⟨j + 1, by omega, by go_num, drewBelow hb2.out _, HQ⟩
            case measure => simp [intOf]; omega
        · have HQ : Hid (∀ i j, i < k + 1 → j < i → ¬ ((U i).T = (U j).T)) := fun i i' hi hi' => by
            by_cases e : i = k
            · subst e; exact hq2.out i' (by omega)
            · exact hq.out i i' (by omega) hi'
          go_wp2
          go_roundw
          case rel => exact ⟨k + 1, by omega, by go_num, hb2, HQ⟩
          case measure => simp [intOf]; omega
    · obtain rfl : k = nu := by omega
      go_wp2
      exact HN.out _ _ hq.out hb.out (J12_mk _ rfl rfl rfl rfl rfl)

set_option maxHeartbeats 4000000 in
set_option maxRecDepth 100000 in
theorem x8s (v0 v1 v2 v7 : Value) (w : World) (Q : Exit → Act → World → Prop) (act : Act) (hI : J12 v0 v1 v2 v7 act) (hret : ∀ fr, fr[6]? = some (.bool true) → Q .ret ⟨fr, []⟩ w) : Code.wp Try.prog (pick [1, 1, 1, 1, 1, 1, 1, 1] b12) Q act w := by
  obtain ⟨g, rfl⟩ := hI
  have HR : Hid _ := hret
  clear hret
  conv => arg 2; whnf
  go_wp2
  exact HR.out _ rfl

/-- What numberFits has seen to, where it says yes. -/
structure NFit (ns nl nu : Nat) (P U : Nat → En) : Prop where
  hns : ns ≤ 65536
  hnl : nl ≤ 65536
  hnu : nu ≤ 65536
  ep : ∀ i, i < nl → EnOk (P i) ns
  eu : ∀ i, i < nu → UnOk (U i) ns
  dp : ∀ i j, i < nl → j < i → ¬ ((P i).T = (P j).T ∧ (P i).I = (P j).I)
  du : ∀ i j, i < nu → j < i → ¬ (U i).T = (U j).T
def NFitR (ns nl nu : Nat) (P U : Nat → En) (e : Ending) : Prop := ∃ b : Bool, e = .returned (.bool b) ∧ (b = true → NFit ns nl nu P U)
theorem fin12 {ns nl nu : Nat} {P U : Nat → En} (w0 w : World) (hb : Below w0.heap.size w0 w) (b : Bool) (hq : b = true → NFit ns nl nu P U) (fr : Array Value) (h : fr[6]? = some (.bool b)) : (bodyPost Try.prog Try.f12 (fun e w' => NFitR ns nl nu P U e ∧ Below w0.heap.size w0 w')) .ret ⟨fr, []⟩ w :=
  bodyPost_ret (v := .bool b) (by simp [results, Try.results12, go_sem, h]) rfl ⟨⟨b, rfl, hq⟩, hb⟩

set_option maxHeartbeats 4000000 in
set_option maxRecDepth 100000 in
theorem chain12 (v7 : Value) (sa la ua : Option Addr) (ns sc nl lc nu uc : Nat) (P U : Nat → En) (w : World) (h1 : ns ≤ maxLen) (h2 : nl ≤ maxLen) (h3 : nu ≤ maxLen) (hP : Lis w la nl P) (hU : Uns w ua nu U) (act : Act) (hI : J12 (.slice sa ns sc) (.slice la nl lc) (.slice ua nu uc) v7 act) : Code.wp Try.prog b12 (bodyPost Try.prog Try.f12 (fun e w' => NFitR ns nl nu P U e ∧ Below w.heap.size w w')) act w := by
  have no : ∀ fr w', fr[6]? = some (.bool false) → Below w.heap.size w w' → (bodyPost Try.prog Try.f12 (fun e w' => NFitR ns nl nu P U e ∧ Below w.heap.size w w')) .ret ⟨fr, []⟩ w' := fun fr w' h hb => fin12 w w' hb false (by simp) fr h
  refine wp_seq (x0 _ _ _ _ w _ act hI ?_)
  intro act0 hI0
  refine wp_seq (x1s _ sa la ua ns sc nl lc nu uc P U w _ h1 h2 h3 act0 hI0 no ?_)
  intro act1 k1 k2 k3 hI1
  refine wp_seq (x2s _ sa la ua ns sc nl lc nu uc P U w _ k1 k2 k3 act1 hI1 ?_)
  intro act2 z hz0 hz1 hI2
  refine wp_seq (x3s z sa la ua ns sc nl lc nu uc P U w _ hz0 hz1 act2 hI2 no ?_)
  intro act3 hz2 hI3
  refine wp_seq (x4s z sa la ua ns sc nl lc nu uc P U w _ k1 k2 hz0 hz2 hP act3 hI3 no ?_)
  intro act4 z4 w4 q0 q1 e1 b4 hI4
  have up : ∀ {w1 : World}, Below w.heap.size w w1 → ∀ fr w', fr[6]? = some (.bool false) → Below w1.heap.size w1 w' → (bodyPost Try.prog Try.f12 (fun e w' => NFitR ns nl nu P U e ∧ Below w.heap.size w w')) .ret ⟨fr, []⟩ w' := fun {w1} hb fr w' h h' => no fr w' h (hb.trans (h'.mono hb.size))
  refine wp_seq (x5s z4 sa la ua ns sc nl lc nu uc P U w4 _ k1 k3 q0 q1 (hU.below b4) act4 hI4 (up b4) ?_)
  intro act5 z5 w5 _ _ e2 b5 hI5
  have B5 := b4.trans (b5.mono b4.size)
  refine wp_seq (x6s _ sa la ua ns sc nl lc nu uc P U w5 _ k2 (hP.below B5) act5 hI5 (up B5) ?_)
  intro act6 w6 e3 b6 hI6
  have B6 := B5.trans (b6.mono B5.size)
  refine wp_seq (x7s _ sa la ua ns sc nl lc nu uc P U w6 _ k3 (hU.below B6) act6 hI6 (up B6) ?_)
  intro act7 w7 e4 b7 hI7
  refine x8s _ _ _ _ w7 _ act7 hI7 fun fr h => fin12 w w7 (B6.trans (b7.mono B6.size)) true (fun _ => ⟨k1, k2, k3, e1, e2, e3, e4⟩) fr h

set_option maxHeartbeats 4000000 in
set_option maxRecDepth 100000 in
theorem fits_any (sa la ua : Option Addr) (ns sc nl lc nu uc : Nat) (P U : Nat → En) (w : World) (h1 : ns ≤ maxLen) (h2 : nl ≤ maxLen) (h3 : nu ≤ maxLen) (hP : Lis w la nl P) (hU : Uns w ua nu U) :
    Calls Try.prog 12 #[.slice sa ns sc, .slice la nl lc, .slice ua nu uc] w fun e w' => NFitR ns nl nu P U e ∧ Below w.heap.size w w' := by
  have C : Hid (∀ v7 act, J12 (.slice sa ns sc) (.slice la nl lc) (.slice ua nu uc) v7 act → Code.wp Try.prog b12 (bodyPost Try.prog Try.f12 (fun e w' => NFitR ns nl nu P U e ∧ Below w.heap.size w w')) act w) := fun _ act hI => chain12 _ sa la ua ns sc nl lc nu uc P U w h1 h2 h3 hP hU act hI
  clear h1 h2 h3 hP hU
  go_enter Try.func12, Try.ntmps12
  exact C.out _ _ (J12_mk _ rfl rfl rfl rfl rfl)
end Go.Proofs.Qxb6612720a
