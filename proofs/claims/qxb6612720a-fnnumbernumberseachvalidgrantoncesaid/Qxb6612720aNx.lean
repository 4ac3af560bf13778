import Derived.Test.Qxb6612720aNw
namespace Go.Proofs.Qxb6612720a
open Go.RowKit
set_option linter.unusedVariables false

set_option maxHeartbeats 4000000 in
set_option maxRecDepth 100000 in
theorem bytes11 (sa la ua : Option Addr) (ns sc nl lc nu uc : Nat) (now : Int) (P U : Nat → En) (w : World) (h1 : ns ≤ maxLen) (h2 : nl ≤ maxLen) (h3 : nu ≤ maxLen) (hP : Lis w la nl P) (hU : Uns w ua nu U) :
    Calls Try.prog 11 #[.slice sa ns sc, .slice la nl lc, .slice ua nu uc, .int .i64 now] w fun e w' => SomeBool e ∧ w' = w := by
  unfold maxLen at h1 h2 h3
  have HP : Hid (Lis w la nl P) := hP
  have HU : Hid (Uns w ua nu U) := hU
  clear hP hU
  by_cases t1 : 1048576 < ns
  · go_enter Try.func11, Try.ntmps11
    go_wp2
    go_ret
    exact ⟨⟨_, rfl⟩, rfl⟩
  by_cases t2 : 1048576 < nl
  · go_enter Try.func11, Try.ntmps11
    go_wp2
    go_ret
    exact ⟨⟨_, rfl⟩, rfl⟩
  by_cases t3 : 1048576 < (ns : Int) + (nl : Int)
  · go_enter Try.func11, Try.ntmps11
    go_wp2
    go_ret
    exact ⟨⟨_, rfl⟩, rfl⟩
  go_enter Try.func11, Try.ntmps11
  go_wp2
  go_loop [9, 10] (fun t i => ∃ (k : Nat) (z : Int), k ≤ nl ∧ i = .int .i64 k ∧ t = .int .i64 z ∧ 0 ≤ z ∧ z ≤ 1048576) (fun _ i => nl - (intOf i).toNat)
  case atStart => exact ⟨0, _, Nat.zero_le _, rfl, rfl, by omega, by omega⟩
  case round =>
    obtain ⟨k, z, hk, rfl, rfl, hz0, hz1⟩ := hrel
    by_cases hlt : k < nl
    · obtain ⟨b, off, rfl, hlb, hat⟩ := HP.out.at hlt
      have c0 := hat.c0
      have c1 := hat.c1
      have c2 := hat.c2
      have hle := hat.le
      unfold maxLen at hle
      clear hat
      by_cases q1 : 1048576 < (P k).T.size
      · go_wp2
        go_ret
        exact ⟨⟨_, rfl⟩, rfl⟩
      by_cases q2 : 1048576 < z + ((P k).T.size : Int)
      · go_wp2
        go_ret
        exact ⟨⟨_, rfl⟩, rfl⟩
      by_cases q3 : 1048576 < (P k).I.size
      · go_wp2
        go_ret
        exact ⟨⟨_, rfl⟩, rfl⟩
      by_cases q4 : 1048576 < z + ((P k).T.size : Int) + ((P k).I.size : Int)
      · go_wp2
        go_ret
        exact ⟨⟨_, rfl⟩, rfl⟩
      by_cases q5 : 1048576 < (P k).n
      · go_wp2
        go_ret
        exact ⟨⟨_, rfl⟩, rfl⟩
      by_cases q6 : 1048576 < z + ((P k).T.size : Int) + ((P k).I.size : Int) + ((P k).n : Int)
      · go_wp2
        go_ret
        exact ⟨⟨_, rfl⟩, rfl⟩
      go_wp2
      go_round
      case rel => exact ⟨k + 1, _, by omega, by go_num, rfl, by omega, by omega⟩
      case measure => simp [intOf]; omega
    · by_cases q1 : 1048576 < nu
      · go_wp2
        go_ret
        exact ⟨⟨_, rfl⟩, rfl⟩
      by_cases q2 : 1048576 < z + (nu : Int)
      · go_wp2
        go_ret
        exact ⟨⟨_, rfl⟩, rfl⟩
      go_wp2
      go_loop [9, 11] (fun t i => ∃ (k : Nat) (z : Int), k ≤ nu ∧ i = .int .i64 k ∧ t = .int .i64 z ∧ 0 ≤ z ∧ z ≤ 1048576) (fun _ i => nu - (intOf i).toNat)
      case atStart => exact ⟨0, _, Nat.zero_le _, rfl, rfl, by omega, by omega⟩
      case round =>
        obtain ⟨k2, z2, hk2, rfl, rfl, hz20, hz21⟩ := hrel
        by_cases hlt2 : k2 < nu
        · obtain ⟨b, off, rfl, hlb, hat⟩ := HU.out.at hlt2
          have c0 := hat.c0
          have c2 := hat.c2
          have hle := hat.le
          unfold maxLen at hle
          clear hat
          by_cases q1 : 1048576 < (U k2).T.size
          · go_wp2
            go_ret
            exact ⟨⟨_, rfl⟩, rfl⟩
          by_cases q2 : 1048576 < z2 + ((U k2).T.size : Int)
          · go_wp2
            go_ret
            exact ⟨⟨_, rfl⟩, rfl⟩
          by_cases q5 : 1048576 < (U k2).n
          · go_wp2
            go_ret
            exact ⟨⟨_, rfl⟩, rfl⟩
          by_cases q6 : 1048576 < z2 + ((U k2).T.size : Int) + ((U k2).n : Int)
          · go_wp2
            go_ret
            exact ⟨⟨_, rfl⟩, rfl⟩
          go_wp2
          go_round
          case rel => exact ⟨k2 + 1, _, by omega, by go_num, rfl, by omega, by omega⟩
          case measure => simp [intOf]; omega
        · go_wp2
          go_ret
          exact ⟨⟨_, rfl⟩, rfl⟩
end Go.Proofs.Qxb6612720a
