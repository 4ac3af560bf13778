import Derived.Test.Qxb6612468aAr
namespace Go.Proofs.Qxb6612468a
open Go.RowKit
set_option linter.unusedVariables false

def SomeBool (e : Ending) : Prop := ∃ r : Bool, e = .returned (.bool r)
def SomeInt (e : Ending) : Prop := ∃ r : Int, e = .returned (.int .i64 r) ∧ 0 ≤ r ∧ r ≤ 2097152

/-- A slice of strings. -/
def Strs (w : World) (a : Option Addr) (m : Nat) (Ru : Nat → ByteArray) : Prop := m = 0 ∨ ∃ b off, a = some ⟨b, off, none⟩ ∧ ∀ j, j < m → w.cell? ⟨b, off + j, none⟩ = some (.string (Ru j))
theorem Strs.cell {w : World} {a : Option Addr} {m : Nat} {Ru : Nat → ByteArray} (h : Strs w a m Ru) {j : Nat} (hj : j < m) : ∃ b off, a = some ⟨b, off, none⟩ ∧ w.cell? ⟨b, off + j, none⟩ = some (.string (Ru j)) := by
  rcases h with h | ⟨b, off, rfl, hc⟩
  · omega
  · exact ⟨b, off, rfl, hc j hj⟩
theorem Strs.below {w w' : World} {a : Option Addr} {m : Nat} {Ru : Nat → ByteArray} (h : Strs w a m Ru) (hb : Below w.heap.size w w') : Strs w' a m Ru := by
  rcases h with h | ⟨b, off, rfl, hc⟩
  · exact Or.inl h
  · exact Or.inr ⟨b, off, rfl, fun j hj => (hb.cell (p := ⟨b, off + j, none⟩) (World.block_lt_of_cell? w _ (hc j hj))).trans (hc j hj)⟩

theorem add_any (t n : Int) (w : World) (h0 : 0 ≤ t) (h1 : t ≤ 2097152) (h2 : 0 ≤ n) :
    Calls Try.prog 20 #[.int .i64 t, .int .i64 n] w fun e w' => SomeInt e ∧ w' = w := by
  by_cases a : 1048576 < t
  · go_enter Try.func20, Try.ntmps20
    go_wp2
    go_ret
    exact ⟨⟨_, rfl, by omega, by omega⟩, rfl⟩
  · by_cases b : 1048576 < n
    · go_enter Try.func20, Try.ntmps20
      go_wp2
      go_ret
      exact ⟨⟨_, rfl, by omega, by omega⟩, rfl⟩
    · go_enter Try.func20, Try.ntmps20
      go_wp2
      go_ret
      exact ⟨⟨_, rfl, by omega, by omega⟩, rfl⟩

set_option maxHeartbeats 1000000 in
theorem abytes_any (a s : Option Addr) (n c m mc : Nat) (F : Nat → Nat → ByteArray) (name : ByteArray) (Ru : Nat → ByteArray) (w : World) (hn : n ≤ 4096) (hm : m ≤ 4096) (hR : Refs w a n F) (hS : Strs w s m Ru) :
    Calls Try.prog 8 #[.slice a n c, .string name, .slice s m mc] w fun e w' => SomeInt e ∧ w' = w := by
  have HR : Hid (Refs w a n F) := hR
  have HS : Hid (Strs w s m Ru) := hS
  clear hR hS
  go_enter Try.func8, Try.ntmps8
  go_wp2_with (go_at_call 20; refine (add_any _ _ _ (by omega) (by omega) (by omega)).mono ?_; rintro e w' ⟨⟨t, rfl, ht0, ht1⟩, rfl⟩)
  go_loop [7, 8] (fun t i => ∃ (k : Nat) (z : Int), k ≤ n ∧ i = .int .i64 k ∧ t = .int .i64 z ∧ 0 ≤ z ∧ z ≤ 2097152) (fun _ i => n - (intOf i).toNat)
  case atStart => exact ⟨0, _, Nat.zero_le _, rfl, rfl, by omega, by omega⟩
  case round =>
    obtain ⟨k, z, hk, rfl, rfl, hz0, hz1⟩ := hrel
    by_cases hlt : k < n
    · obtain ⟨b, off, rfl, c0, c1, c2, c3⟩ := HR.out.cells hlt
      go_wp2_with (go_at_call 20; refine (add_any _ _ _ (by omega) (by omega) (by omega)).mono ?_; rintro e w' ⟨⟨t, rfl, ht0, ht1⟩, rfl⟩)
      go_round
      case rel => exact ⟨k + 1, _, by omega, by go_num, rfl, by omega, by omega⟩
      case measure => simp [intOf]; omega
    · go_wp2
      go_loop [7, 9] (fun t i => ∃ (k : Nat) (z : Int), k ≤ m ∧ i = .int .i64 k ∧ t = .int .i64 z ∧ 0 ≤ z ∧ z ≤ 2097152) (fun _ i => m - (intOf i).toNat)
      case atStart => exact ⟨0, _, Nat.zero_le _, rfl, rfl, by omega, by omega⟩
      case round =>
        obtain ⟨k2, z2, hk2, rfl, rfl, hz20, hz21⟩ := hrel
        by_cases hlt2 : k2 < m
        · obtain ⟨b, off, rfl, c0⟩ := HS.out.cell hlt2
          go_wp2_with (go_at_call 20; refine (add_any _ _ _ (by omega) (by omega) (by omega)).mono ?_; rintro e w' ⟨⟨t, rfl, ht0, ht1⟩, rfl⟩)
          go_round
          case rel => exact ⟨k2 + 1, _, by omega, by go_num, rfl, by omega, by omega⟩
          case measure => simp [intOf]; omega
        · go_wp2
          go_ret
          exact ⟨⟨_, rfl, by omega, by omega⟩, rfl⟩

set_option maxHeartbeats 1000000 in
set_option maxRecDepth 100000 in
theorem bytes12 (a s : Option Addr) (n c m mc : Nat) (F : Nat → Nat → ByteArray) (name : ByteArray) (Ru : Nat → ByteArray) (w : World) (hn : n ≤ maxLen) (hm : m ≤ maxLen) (hR : Refs w a n F) (hS : Strs w s m Ru) :
    Calls Try.prog 12 #[.slice a n c, .string name, .slice s m mc] w fun e w' => SomeBool e ∧ w' = w := by
  unfold maxLen at hn hm
  have HR : Hid (Refs w a n F) := hR
  have HS : Hid (Strs w s m Ru) := hS
  clear hR hS
  go_enter Try.func12, Try.ntmps12
  go_wp2
  · go_ret
    exact ⟨⟨_, rfl⟩, rfl⟩
  go_loop [7, 8] (fun t i => ∃ (k : Nat) (z : Int), k ≤ n ∧ i = .int .i64 k ∧ t = .int .i64 z ∧ 0 ≤ z ∧ z ≤ 1048576) (fun _ i => n - (intOf i).toNat)
  case atStart => exact ⟨0, _, Nat.zero_le _, rfl, rfl, by omega, by omega⟩
  case round =>
    obtain ⟨k, z, hk, rfl, rfl, hz0, hz1⟩ := hrel
    by_cases hlt : k < n
    · obtain ⟨b, off, rfl, c0, c1, c2, c3⟩ := HR.out.cells hlt
      go_wp2
      case roundEnd =>
        go_round
        case rel => exact ⟨k + 1, _, by omega, by go_num, rfl, by omega, by omega⟩
        case measure => simp [intOf]; omega
      all_goals
        go_ret
        exact ⟨⟨_, rfl⟩, rfl⟩
    · go_wp2
      all_goals first
        | (go_ret; exact ⟨⟨_, rfl⟩, rfl⟩)
        | (go_loop [7, 9] (fun t i => ∃ (k : Nat) (z : Int), k ≤ m ∧ i = .int .i64 k ∧ t = .int .i64 z ∧ 0 ≤ z ∧ z ≤ 1048576) (fun _ i => m - (intOf i).toNat)
           case atStart => exact ⟨0, _, Nat.zero_le _, rfl, rfl, by omega, by omega⟩
           case round =>
             obtain ⟨k2, z2, hk2, rfl, rfl, hz20, hz21⟩ := hrel
             by_cases hlt2 : k2 < m
             · obtain ⟨b, off, rfl, c0⟩ := HS.out.cell hlt2
               go_wp2
               case roundEnd =>
                 go_round
                 case rel => exact ⟨k2 + 1, _, by omega, by go_num, rfl, by omega, by omega⟩
                 case measure => simp [intOf]; omega
               all_goals
                 go_ret
                 exact ⟨⟨_, rfl⟩, rfl⟩
             · go_wp2
               go_ret
               exact ⟨⟨_, rfl⟩, rfl⟩)

set_option maxHeartbeats 1000000 in
set_option maxRecDepth 100000 in
theorem bytes7 (a s : Option Addr) (n c m mc : Nat) (F : Nat → Nat → ByteArray) (name : ByteArray) (Ru : Nat → ByteArray) (w : World) (hn : n ≤ maxLen) (hm : m ≤ maxLen) (hR : Refs w a n F) (hS : Strs w s m Ru) :
    Calls Try.prog 7 #[.slice a n c, .string name, .slice s m mc] w fun e w' => SomeBool e ∧ w' = w := by
  unfold maxLen at hn hm
  have HR : Hid (Refs w a n F) := hR
  have HS : Hid (Strs w s m Ru) := hS
  clear hR hS
  go_enter Try.func7, Try.ntmps7
  go_wp2
  · go_ret
    exact ⟨⟨_, rfl⟩, rfl⟩
  go_loop [7, 8] (fun t i => ∃ (k : Nat) (z : Int), k ≤ n ∧ i = .int .i64 k ∧ t = .int .i64 z ∧ 0 ≤ z ∧ z ≤ 1048576) (fun _ i => n - (intOf i).toNat)
  case atStart => exact ⟨0, _, Nat.zero_le _, rfl, rfl, by omega, by omega⟩
  case round =>
    obtain ⟨k, z, hk, rfl, rfl, hz0, hz1⟩ := hrel
    by_cases hlt : k < n
    · obtain ⟨b, off, rfl, c0, c1, c2, c3⟩ := HR.out.cells hlt
      go_wp2
      case roundEnd =>
        go_round
        case rel => exact ⟨k + 1, _, by omega, by go_num, rfl, by omega, by omega⟩
        case measure => simp [intOf]; omega
      all_goals
        go_ret
        exact ⟨⟨_, rfl⟩, rfl⟩
    · go_wp2
      all_goals first
        | (go_ret; exact ⟨⟨_, rfl⟩, rfl⟩)
        | (go_loop [7, 9] (fun t i => ∃ (k : Nat) (z : Int), k ≤ m ∧ i = .int .i64 k ∧ t = .int .i64 z ∧ 0 ≤ z ∧ z ≤ 1048576) (fun _ i => m - (intOf i).toNat)
           case atStart => exact ⟨0, _, Nat.zero_le _, rfl, rfl, by omega, by omega⟩
           case round =>
             obtain ⟨k2, z2, hk2, rfl, rfl, hz20, hz21⟩ := hrel
             by_cases hlt2 : k2 < m
             · obtain ⟨b, off, rfl, c0⟩ := HS.out.cell hlt2
               go_wp2
               case roundEnd =>
                 go_round
                 case rel => exact ⟨k2 + 1, _, by omega, by go_num, rfl, by omega, by omega⟩
                 case measure => simp [intOf]; omega
               all_goals
                 go_ret
                 exact ⟨⟨_, rfl⟩, rfl⟩
             · go_wp2
               go_ret
               exact ⟨⟨_, rfl⟩, rfl⟩)

end Go.Proofs.Qxb6612468a
