import Derived.Test.Qxb6612720aNu
namespace Go.Proofs.Qxb6612720a
open Go.RowKit
set_option linter.unusedVariables false

noncomputable def b12 : Code := (Try.f12.body).getD .skip
set_option maxRecDepth 100000 in
/-- numberFits' frame at a statement's head. -/
def J12 (v0 v1 v2 v7 : Value) (act : Act) : Prop := ∃ g : Nat → Value, act = ⟨#[v0, v1, v2, g 3, g 4, g 5, g 6, v7, g 8, g 9, g 10, g 11, g 12, g 13, g 14, g 15, g 16, g 17, g 18, g 19, g 20, g 21, g 22, g 23, g 24, g 25, g 26, g 27, g 28, g 29, g 30, g 31, g 32, g 33, g 34, g 35, g 36, g 37, g 38, g 39, g 40, g 41, g 42, g 43, g 44, g 45, g 46, g 47, g 48, g 49, g 50, g 51, g 52, g 53, g 54, g 55, g 56, g 57, g 58, g 59, g 60, g 61, g 62, g 63, g 64, g 65, g 66, g 67, g 68, g 69, g 70, g 71, g 72, g 73, g 74, g 75, g 76, g 77, g 78, g 79, g 80, g 81, g 82, g 83, g 84, g 85, g 86, g 87, g 88, g 89, g 90, g 91, g 92, g 93, g 94, g 95, g 96, g 97, g 98, g 99, g 100, g 101, g 102, g 103, g 104, g 105, g 106, g 107, g 108, g 109, g 110, g 111, g 112, g 113, g 114, g 115, g 116, g 117, g 118, g 119, g 120, g 121, g 122, g 123, g 124, g 125, g 126, g 127, g 128, g 129, g 130, g 131, g 132, g 133, g 134, g 135, g 136, g 137, g 138, g 139, g 140, g 141, g 142, g 143, g 144, g 145, g 146, g 147, g 148, g 149, g 150, g 151, g 152, g 153, g 154, g 155, g 156, g 157, g 158, g 159, g 160, g 161, g 162, g 163, g 164, g 165, g 166, g 167, g 168, g 169, g 170, g 171, g 172, g 173, g 174, g 175, g 176, g 177, g 178, g 179, g 180, g 181, g 182, g 183, g 184, g 185, g 186, g 187, g 188, g 189, g 190, g 191, g 192, g 193, g 194, g 195, g 196, g 197, g 198, g 199, g 200, g 201, g 202, g 203, g 204, g 205, g 206, g 207, g 208, g 209, g 210, g 211, g 212], []⟩
set_option maxRecDepth 100000 in
set_option maxHeartbeats 2000000 in
theorem J12_mk {v0 v1 v2 v7 : Value} (fr : Array Value) (hs : fr.size = 213) (h0 : fr[0]? = some v0) (h1 : fr[1]? = some v1) (h2 : fr[2]? = some v2) (h7 : fr[7]? = some v7) : J12 v0 v1 v2 v7 ⟨fr, []⟩ := by
  refine ⟨fun i => fr[i]!, ?_⟩
  rw [fr_at h0, fr_at h1, fr_at h2, fr_at h7]
  exact congrArg (fun f => Act.mk f []) (fr_list fr 213 hs)

set_option maxHeartbeats 4000000 in
set_option maxRecDepth 100000 in
theorem x0 (v0 v1 v2 v7 : Value) (w : World) (Q : Exit → Act → World → Prop) (act : Act) (hI : J12 v0 v1 v2 v7 act) (hnext : ∀ act', J12 v0 v1 v2 v7 act' → Q .normal act' w) : Code.wp Try.prog (pick [0] b12) Q act w := by
  obtain ⟨g, rfl⟩ := hI
  have HN : Hid _ := hnext
  clear hnext
  conv => arg 2; whnf
  go_wp2
  exact HN.out _ (J12_mk _ rfl rfl rfl rfl rfl)

set_option maxHeartbeats 4000000 in
set_option maxRecDepth 100000 in
theorem x1s (v7 : Value) (sa la ua : Option Addr) (ns sc nl lc nu uc : Nat) (P U : Nat → En) (w : World) (Q : Exit → Act → World → Prop) (h1 : ns ≤ maxLen) (h2 : nl ≤ maxLen) (h3 : nu ≤ maxLen) (act : Act) (hI : J12 (.slice sa ns sc) (.slice la nl lc) (.slice ua nu uc) v7 act) (hret : ∀ fr w', fr[6]? = some (.bool false) → Below w.heap.size w w' → Q .ret ⟨fr, []⟩ w')
    (hnext : ∀ act', ns ≤ 65536 → nl ≤ 65536 → nu ≤ 65536 → J12 (.slice sa ns sc) (.slice la nl lc) (.slice ua nu uc) v7 act' → Q .normal act' w) : Code.wp Try.prog (pick [1, 0] b12) Q act w := by
  obtain ⟨g, rfl⟩ := hI
  have HN : Hid _ := hnext
  have HR : Hid _ := hret
  unfold maxLen at h1 h2 h3
  clear hnext hret
  conv => arg 2; whnf
  by_cases t1 : 65536 < ns
  · go_wp2
    exact HR.out _ _ rfl (Below.refl _ _)
  by_cases t2 : 65536 < nl
  · go_wp2
    exact HR.out _ _ rfl (Below.refl _ _)
  by_cases t3 : 65536 < nu
  · go_wp2
    exact HR.out _ _ rfl (Below.refl _ _)
  go_wp2
  exact HN.out _ (by omega) (by omega) (by omega) (J12_mk _ rfl rfl rfl rfl rfl)

set_option maxHeartbeats 4000000 in
set_option maxRecDepth 100000 in
theorem x2s (v7 : Value) (sa la ua : Option Addr) (ns sc nl lc nu uc : Nat) (P U : Nat → En) (w : World) (Q : Exit → Act → World → Prop) (h1 : ns ≤ 65536) (h2 : nl ≤ 65536) (h3 : nu ≤ 65536) (act : Act) (hI : J12 (.slice sa ns sc) (.slice la nl lc) (.slice ua nu uc) v7 act)
    (hnext : ∀ act' z, 0 ≤ z → z ≤ 4194304 → J12 (.slice sa ns sc) (.slice la nl lc) (.slice ua nu uc) (.int .i64 z) act' → Q .normal act' w) : Code.wp Try.prog (pick [1, 1, 0] b12) Q act w := by
  obtain ⟨g, rfl⟩ := hI
  have HN : Hid _ := hnext
  clear hnext
  conv => arg 2; whnf
  go_wp2
  exact HN.out _ _ (by omega) (by omega) (J12_mk _ rfl rfl rfl rfl rfl)

set_option maxHeartbeats 4000000 in
set_option maxRecDepth 100000 in
theorem x3s (z : Int) (sa la ua : Option Addr) (ns sc nl lc nu uc : Nat) (P U : Nat → En) (w : World) (Q : Exit → Act → World → Prop) (h1 : 0 ≤ z) (h2 : z ≤ 4194304) (act : Act) (hI : J12 (.slice sa ns sc) (.slice la nl lc) (.slice ua nu uc) (.int .i64 z) act) (hret : ∀ fr w', fr[6]? = some (.bool false) → Below w.heap.size w w' → Q .ret ⟨fr, []⟩ w')
    (hnext : ∀ act', z ≤ 1048576 → J12 (.slice sa ns sc) (.slice la nl lc) (.slice ua nu uc) (.int .i64 z) act' → Q .normal act' w) : Code.wp Try.prog (pick [1, 1, 1, 0] b12) Q act w := by
  obtain ⟨g, rfl⟩ := hI
  have HN : Hid _ := hnext
  have HR : Hid _ := hret
  clear hnext hret
  conv => arg 2; whnf
  by_cases t1 : 1048576 < z
  · go_wp2
    exact HR.out _ _ rfl (Below.refl _ _)
  go_wp2
  exact HN.out _ (by omega) (J12_mk _ rfl rfl rfl rfl rfl)
/-- What is seen to of an entry. -/
def EnOk (p : En) (ns : Nat) : Prop := p.T.size ≤ 1048576 ∧ p.I.size ≤ 1048576 ∧ p.n ≤ 65536 ∧ allIn p.R p.n ns
def UnOk (p : En) (ns : Nat) : Prop := p.T.size ≤ 1048576 ∧ p.n ≤ 65536 ∧ allIn p.R p.n ns

set_option maxHeartbeats 4000000 in
set_option maxRecDepth 100000 in
theorem x4s (z0 : Int) (sa la ua : Option Addr) (ns sc nl lc nu uc : Nat) (P U : Nat → En) (w : World) (Q : Exit → Act → World → Prop) (hns : ns ≤ 65536) (hn : nl ≤ 65536) (h1 : 0 ≤ z0) (h2 : z0 ≤ 1048576) (hP : Lis w la nl P) (act : Act) (hI : J12 (.slice sa ns sc) (.slice la nl lc) (.slice ua nu uc) (.int .i64 z0) act) (hret : ∀ fr w', fr[6]? = some (.bool false) → Below w.heap.size w w' → Q .ret ⟨fr, []⟩ w')
    (hnext : ∀ act' z w', 0 ≤ z → z ≤ 1048576 → (∀ i, i < nl → EnOk (P i) ns) → Below w.heap.size w w' → J12 (.slice sa ns sc) (.slice la nl lc) (.slice ua nu uc) (.int .i64 z) act' → Q .normal act' w') : Code.wp Try.prog (pick [1, 1, 1, 1, 0] b12) Q act w := by
  obtain ⟨g, rfl⟩ := hI
  have HN : Hid _ := hnext
  have HR : Hid _ := hret
  have HP : Hid (Lis w la nl P) := hP
  clear hnext hret hP
  conv => arg 2; whnf
  go_wp2
  go_loopw [7, 8] (fun t i wr => ∃ (k : Nat) (z : Int), k ≤ nl ∧ i = .int .i64 k ∧ t = .int .i64 z ∧ 0 ≤ z ∧ z ≤ 1048576 ∧ Hid (Below w.heap.size w wr) ∧ Hid (∀ i, i < k → EnOk (P i) ns)) (fun _ i _ => nl - (intOf i).toNat)
  case atStart => exact ⟨0, _, Nat.zero_le _, rfl, rfl, h1, h2, Below.refl _ _, fun i hi => by omega⟩
  case round =>
    obtain ⟨k, z, hk, rfl, rfl, hz0, hz1, hb, hq⟩ := hrel
    by_cases hlt : k < nl
    · obtain ⟨b, off, rfl, hlb, hat⟩ := (HP.out.below hb.out).at hlt
      have c0 := hat.c0
      have c2 := hat.c2
      have c1 := hat.c1
      have C : Hid (∀ m, Calls Try.prog 26 #[.slice (P k).a (P k).n (P k).c, .int .i64 (ns : Int)] (wr.drewN m) fun e w' => RangeR e (P k).R (P k).n ns ∧ w' = wr.drewN m) := fun m => inrange_any (P k).a (P k).n (P k).c (P k).R ns (wr.drewN m) hat.le (hat.rf.below (drewBelow (Below.refl _ _) m))
      clear hat
      by_cases t1 : 1048576 < (P k).T.size
      · go_wp2
        exact HR.out _ _ rfl hb.out
      by_cases t2 : 1048576 < (P k).I.size
      · go_wp2
        exact HR.out _ _ rfl hb.out
      by_cases t3 : 65536 < (P k).n
      · go_wp2
        exact HR.out _ _ rfl hb.out
      obtain ⟨z', hz'⟩ : ∃ z' : Int, z' = z + (48 + ((P k).T.size : Int) + ((P k).I.size : Int) + 16 * ((P k).n : Int)) := ⟨_, rfl⟩
      by_cases t4 : 1048576 < z + (48 + ((P k).T.size : Int) + ((P k).I.size : Int) + 16 * ((P k).n : Int))
      · go_wp2
        go_quiet (fail)
        go_wp2
        exact HR.out _ _ rfl (drewBelow hb.out _)
      go_wp2
      go_quiet (fail)
      go_wp2_with fail
      refine Calls.mono (C.out _) ?_
      rintro e w1 ⟨⟨bb, rfl, hbb⟩, rfl⟩
      have HBB : Hid (bb = true → allIn (P k).R (P k).n ns) := hbb
      clear hbb
      cases bb with
      | false =>
        go_wp2
        exact HR.out _ _ rfl (drewBelow hb.out _)
      | true =>
        have HQ : Hid (∀ i, i < k + 1 → EnOk (P i) ns) := fun i hi => by
          by_cases e : i = k
          · subst e; exact ⟨by omega, by omega, by omega, HBB.out rfl⟩
          · exact hq.out i (by omega)
        go_wp2
        go_roundw
        case rel => exact ⟨k + 1, _, by omega, by go_num, rfl, by omega, by omega, drewBelow hb.out _, HQ⟩
        case measure => simp [intOf]; omega
    · obtain rfl : k = nl := by omega
      go_wp2
      exact HN.out _ _ _ hz0 hz1 hq.out hb.out (J12_mk _ rfl rfl rfl rfl rfl)

set_option maxHeartbeats 4000000 in
set_option maxRecDepth 100000 in
theorem x5s (z0 : Int) (sa la ua : Option Addr) (ns sc nl lc nu uc : Nat) (P U : Nat → En) (w : World) (Q : Exit → Act → World → Prop) (hns : ns ≤ 65536) (hn : nu ≤ 65536) (h1 : 0 ≤ z0) (h2 : z0 ≤ 1048576) (hP : Uns w ua nu U) (act : Act) (hI : J12 (.slice sa ns sc) (.slice la nl lc) (.slice ua nu uc) (.int .i64 z0) act) (hret : ∀ fr w', fr[6]? = some (.bool false) → Below w.heap.size w w' → Q .ret ⟨fr, []⟩ w')
    (hnext : ∀ act' z w', 0 ≤ z → z ≤ 1048576 → (∀ i, i < nu → UnOk (U i) ns) → Below w.heap.size w w' → J12 (.slice sa ns sc) (.slice la nl lc) (.slice ua nu uc) (.int .i64 z) act' → Q .normal act' w') : Code.wp Try.prog (pick [1, 1, 1, 1, 1, 0] b12) Q act w := by
  obtain ⟨g, rfl⟩ := hI
  have HN : Hid _ := hnext
  have HR : Hid _ := hret
  have HP : Hid (Uns w ua nu U) := hP
  clear hnext hret hP
  conv => arg 2; whnf
  go_wp2
  go_loopw [7, 9] (fun t i wr => ∃ (k : Nat) (z : Int), k ≤ nu ∧ i = .int .i64 k ∧ t = .int .i64 z ∧ 0 ≤ z ∧ z ≤ 1048576 ∧ Hid (Below w.heap.size w wr) ∧ Hid (∀ i, i < k → UnOk (U i) ns)) (fun _ i _ => nu - (intOf i).toNat)
  case atStart => exact ⟨0, _, Nat.zero_le _, rfl, rfl, h1, h2, Below.refl _ _, fun i hi => by omega⟩
  case round =>
    obtain ⟨k, z, hk, rfl, rfl, hz0, hz1, hb, hq⟩ := hrel
    by_cases hlt : k < nu
    · obtain ⟨b, off, rfl, hlb, hat⟩ := (HP.out.below hb.out).at hlt
      have c0 := hat.c0
      have c2 := hat.c2
      have C : Hid (∀ m, Calls Try.prog 26 #[.slice (U k).a (U k).n (U k).c, .int .i64 (ns : Int)] (wr.drewN m) fun e w' => RangeR e (U k).R (U k).n ns ∧ w' = wr.drewN m) := fun m => inrange_any (U k).a (U k).n (U k).c (U k).R ns (wr.drewN m) hat.le (hat.rf.below (drewBelow (Below.refl _ _) m))
      clear hat
      by_cases t1 : 1048576 < (U k).T.size
      · go_wp2
        exact HR.out _ _ rfl hb.out
      by_cases t3 : 65536 < (U k).n
      · go_wp2
        exact HR.out _ _ rfl hb.out
      obtain ⟨z', hz'⟩ : ∃ z' : Int, z' = z + (32 + ((U k).T.size : Int) + 16 * ((U k).n : Int)) := ⟨_, rfl⟩
      by_cases t4 : 1048576 < z + (32 + ((U k).T.size : Int) + 16 * ((U k).n : Int))
      · go_wp2
        go_quiet (fail)
        go_wp2
        exact HR.out _ _ rfl (drewBelow hb.out _)
      go_wp2
      go_quiet (fail)
      go_wp2_with fail
      refine Calls.mono (C.out _) ?_
      rintro e w1 ⟨⟨bb, rfl, hbb⟩, rfl⟩
      have HBB : Hid (bb = true → allIn (U k).R (U k).n ns) := hbb
      clear hbb
      cases bb with
      | false =>
        go_wp2
        exact HR.out _ _ rfl (drewBelow hb.out _)
      | true =>
        have HQ : Hid (∀ i, i < k + 1 → UnOk (U i) ns) := fun i hi => by
          by_cases e : i = k
          · subst e; exact ⟨by omega, by omega, HBB.out rfl⟩
          · exact hq.out i (by omega)
        go_wp2
        go_roundw
        case rel => exact ⟨k + 1, _, by omega, by go_num, rfl, by omega, by omega, drewBelow hb.out _, HQ⟩
        case measure => simp [intOf]; omega
    · obtain rfl : k = nu := by omega
      go_wp2
      exact HN.out _ _ _ hz0 hz1 hq.out hb.out (J12_mk _ rfl rfl rfl rfl rfl)
end Go.Proofs.Qxb6612720a
