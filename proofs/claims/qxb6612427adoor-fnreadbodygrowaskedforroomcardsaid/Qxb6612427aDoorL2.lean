import Derived.Test.Qxb6612427aDoorZg
import Derived.Test.Qxb6612427aDoorL1
namespace Go.Proofs.Qxb6612427aDoor
open Go.RowKit
set_option linter.unusedVariables false

theorem fits2 (sv : Option Addr) (n c : Nat) (size : Int) (yes : Bool) (w : World) :
    Calls Tryd.prog 16 #[.slice sv n c, .int .i64 size, .bool yes] w fun e w' => e = .returned (.bool (decide (n ≤ 1048576))) ∧ w' = w := by
  by_cases h : n ≤ 1048576
  · go_enter Tryd.func16, Tryd.ntmps16
    go_wp2
    go_ret
    exact ⟨by simp [h], rfl⟩
  · go_enter Tryd.func16, Tryd.ntmps16
    go_wp2
    go_ret
    exact ⟨by simp [h], rfl⟩

theorem lg_big (sv : Option Addr) (n c : Nat) (size : Int) (yes : Bool) (w : World) (h : ¬ n ≤ 1048576) :
    Calls Tryd.prog 6 #[.slice sv n c, .int .i64 size, .bool yes] w fun e w' => e = .returned (.bool true) ∧ Below w.heap.size w w' := by
  have hd : decide (n ≤ 1048576) = false := by simp [h]
  go_enter Tryd.func6, Tryd.ntmps6
  go_wp2_with fail
  refine (fits2 _ _ _ _ _ _).mono ?_
  rintro e w1 ⟨rfl, rfl⟩
  go_wp2
  go_ret
  exact ⟨rfl, Below.refl _ _⟩

theorem lg_size (sv : Option Addr) (n c : Nat) (size : Int) (yes : Bool) (w : World) (h : n ≤ 1048576) (hs : size < 1 ∨ 65536 < size) :
    Calls Tryd.prog 6 #[.slice sv n c, .int .i64 size, .bool yes] w fun e w' => e = .returned (.bool true) ∧ Below w.heap.size w w' := by
  have hd : decide (n ≤ 1048576) = true := by simp [h]
  rcases hs with hs | hs
  · go_enter Tryd.func6, Tryd.ntmps6
    go_wp2_with fail
    refine (fits2 _ _ _ _ _ _).mono ?_
    rintro e w1 ⟨rfl, rfl⟩
    go_wp2
    go_ret
    exact ⟨rfl, Below.refl _ _⟩
  · have : ¬ size < 1 := by omega
    go_enter Tryd.func6, Tryd.ntmps6
    go_wp2_with fail
    refine (fits2 _ _ _ _ _ _).mono ?_
    rintro e w1 ⟨rfl, rfl⟩
    go_wp2
    go_ret
    exact ⟨rfl, Below.refl _ _⟩

set_option maxHeartbeats 400000 in
theorem lg_nil_no (size : Nat) (an : Addr) (w : World) (h1 : 1 ≤ size) (h2 : size ≤ 65536) (hno : w.cell? ⟨0, 0, none⟩ = some (.iface 150 (.pointer (some an)))) :
    Calls Tryd.prog 6 #[.slice none 0 0, .int .i64 size, .bool false] w fun e w' => e = .returned (.bool true) ∧ Below w.heap.size w w' := by
  have hd : decide (0 ≤ 1048576) = true := by decide
  have C : Hid _ := zg_no 0 size none an w (by omega) h1 h2 hno
  clear hno
  by_cases hs : 4096 < size
  · have e1 : ((min size 4096 : Nat) : Int) = 4096 := by omega
    go_enter Tryd.func6, Tryd.ntmps6
    go_wp2_with fail
    refine (fits2 _ _ _ _ _ _).mono ?_
    rintro e w1 ⟨rfl, rfl⟩
    go_wp2_with fail
    refine Calls.mono C.out ?_
    rintro e w2 ⟨a, rfl, hb⟩
    go_wp2
    go_ret
    exact ⟨rfl, hb⟩
  · have e1 : ((min size 4096 : Nat) : Int) = size := by omega
    go_enter Tryd.func6, Tryd.ntmps6
    go_wp2_with fail
    refine (fits2 _ _ _ _ _ _).mono ?_
    rintro e w1 ⟨rfl, rfl⟩
    go_wp2_with fail
    refine Calls.mono C.out ?_
    rintro e w2 ⟨a, rfl, hb⟩
    go_wp2
    go_ret
    exact ⟨rfl, hb⟩

set_option maxHeartbeats 400000 in
theorem lg_nil_yes (size : Nat) (ae au : Addr) (w : World) (h1 : 1 ≤ size) (h2 : size ≤ 65536) (he : w.cell? ⟨5, 0, none⟩ = some (.iface 150 (.pointer (some ae)))) (hu : w.cell? ⟨6, 0, none⟩ = some (.iface 150 (.pointer (some au)))) :
    Calls Tryd.prog 6 #[.slice none 0 0, .int .i64 size, .bool true] w fun e w' => e = .returned (.bool true) ∧ Below w.heap.size w w' := by
  have hd : decide (0 ≤ 1048576) = true := by decide
  have C : Hid _ := zg_yes 0 0 size none [] ae au w rfl (by omega) h1 h2 (fun h => by omega) (fun v hv => by cases hv) he hu
  clear he hu
  by_cases hs : 4096 < size
  · go_enter Tryd.func6, Tryd.ntmps6
    go_wp2_with fail
    refine (fits2 _ _ _ _ _ _).mono ?_
    rintro e w1 ⟨rfl, rfl⟩
    go_wp2_with fail
    refine Calls.mono C.out ?_
    rintro e w2 ⟨hb, ⟨_, a, W, rfl, hw⟩ | ⟨hle, _⟩⟩
    · obtain rfl : W = 4096 := by unfold isWant at hw; omega
      clear hw
      go_wp2
      refine wp_loop_rounds 1 ?_
      rw [rounds_succ]
      go_wp2
      go_ret
      exact ⟨rfl, hb⟩
    · omega
  · go_enter Tryd.func6, Tryd.ntmps6
    go_wp2_with fail
    refine (fits2 _ _ _ _ _ _).mono ?_
    rintro e w1 ⟨rfl, rfl⟩
    go_wp2_with fail
    refine Calls.mono C.out ?_
    rintro e w2 ⟨hb, ⟨_, a, W, rfl, hw⟩ | ⟨hle, _⟩⟩
    · obtain rfl : W = size := by unfold isWant at hw; omega
      clear hw
      go_wp2
      refine wp_loop_rounds 1 ?_
      rw [rounds_succ]
      go_wp2
      go_ret
      exact ⟨rfl, hb⟩
    · omega

set_option maxHeartbeats 400000 in
set_option maxRecDepth 100000 in
theorem lg_no (ad : Addr) (n c size : Nat) (z : Nat → Int) (an : Addr) (w : World) (hn : n ≤ 1048576) (h1 : 1 ≤ size) (h2 : size ≤ 65536) (hz : bytesAt w ad n z)
    (hno : w.cell? ⟨0, 0, none⟩ = some (.iface 150 (.pointer (some an)))) :
    Calls Tryd.prog 6 #[.slice (some ad) n c, .int .i64 size, .bool false] w fun e w' => e = .returned (.bool true) ∧ Below w.heap.size w w' := by
  have hd : decide (n ≤ 1048576) = true := by simp [hn]
  have hmk := make_full n hn
  have HB : Hid (∀ j, j < n → (ad.add j).block < w.heap.size) := fun j hj => World.block_lt_of_cell? w _ (hz j hj)
  have HZ : Hid (bytesAt w ad n z) := hz
  have HE : Hid (w.cell? ⟨0, 0, none⟩ = some (.iface 150 (.pointer (some an)))) := hno
  clear hz hno
  go_enter Tryd.func6, Tryd.ntmps6
  go_wp2_with fail
  refine (fits2 _ _ _ _ _ _).mono ?_
  rintro e w1 ⟨rfl, rfl⟩
  go_wp2_with (refine wpList_copy_splice rfl (.tmp 35) (.tmp 36) 31 31 rfl 5 Tryd.underlying31 size5 _ _ n n n c rfl rfl w1.heap.size 0 (madeCells #[.int .u8 0] n).toList 5 ?g1 (bytes n z) ?g2 ?g3 ?g4 ?g5 w1.heap.size w1 ?g6 (Nat.le_refl _) ?g7)
  case g1 => exact heap_alloc_new w1 _
  case g2 => rw [bytes_len]; exact (Nat.min_self n).symm
  case g3 => exact src_facts HZ HB
  case g4 => simp [bytes_len, size_madeCells]
  case g5 => intro v hv; obtain ⟨x, rfl⟩ := bytes_int n z v hv; rfl
  case g6 => exact (Below.refl _ _).alloc (Nat.le_refl _) _
  case g7 =>
    intro w2 hg hb
    have hz := lt_of_block hg.out
    have C : Hid _ := zg_no n size (some ⟨w1.heap.size, 0, none⟩) an w2 hn h1 h2 ((hb.cell (p := ⟨0, 0, none⟩) (World.block_lt_of_cell? w1 _ HE.out)).trans HE.out)
    clear hg
    by_cases hs : 4096 < size
    · have e1 : ((min size 4096 : Nat) : Int) = 4096 := by omega
      go_wp2_with fail
      refine Calls.mono C.out ?_
      rintro e w3 ⟨a, rfl, hb3⟩
      go_wp2
      go_ret
      exact ⟨rfl, hb.trans (hb3.mono hb.size)⟩
    · have e1 : ((min size 4096 : Nat) : Int) = size := by omega
      go_wp2_with fail
      refine Calls.mono C.out ?_
      rintro e w3 ⟨a, rfl, hb3⟩
      go_wp2
      go_ret
      exact ⟨rfl, hb.trans (hb3.mono hb.size)⟩

/-- The room that the law's own loop comes to. -/
theorem want_exit {n size r : Nat} (hns : n < size) (h2 : size ≤ 65536) (hr : r = 4096 ∨ r = 8192 ∨ r = 16384 ∨ r = 32768 ∨ r = 65536) (hb : (4096 < r → 4096 ≤ n) ∧ (8192 < r → 8192 ≤ n) ∧ (16384 < r → 16384 ≤ n) ∧ (32768 < r → 32768 ≤ n)) :
    (size ≤ r → isWant n size size) ∧ (r < size → n < r → isWant n size r) := by
  unfold isWant; omega
theorem want_next {n size r : Nat} (h2 : size ≤ 65536) (hr : r = 4096 ∨ r = 8192 ∨ r = 16384 ∨ r = 32768 ∨ r = 65536) (hb : (4096 < r → 4096 ≤ n) ∧ (8192 < r → 8192 ≤ n) ∧ (16384 < r → 16384 ≤ n) ∧ (32768 < r → 32768 ≤ n)) (h : r < size) (hn : r ≤ n) :
    (2 * r = 4096 ∨ 2 * r = 8192 ∨ 2 * r = 16384 ∨ 2 * r = 32768 ∨ 2 * r = 65536) ∧ (4096 < 2 * r → 4096 ≤ n) ∧ (8192 < 2 * r → 8192 ≤ n) ∧ (16384 < 2 * r → 16384 ≤ n) ∧ (32768 < 2 * r → 32768 ≤ n) := by
  omega

set_option maxHeartbeats 1000000 in
set_option maxRecDepth 100000 in
theorem lg_yes (ad : Addr) (n c size : Nat) (z : Nat → Int) (ae au : Addr) (w : World) (hn : n ≤ 1048576) (h1 : 1 ≤ size) (h2 : size ≤ 65536) (hz : bytesAt w ad n z)
    (he : w.cell? ⟨5, 0, none⟩ = some (.iface 150 (.pointer (some ae)))) (hu : w.cell? ⟨6, 0, none⟩ = some (.iface 150 (.pointer (some au)))) :
    Calls Tryd.prog 6 #[.slice (some ad) n c, .int .i64 size, .bool true] w fun e w' => e = .returned (.bool true) ∧ Below w.heap.size w w' := by
  have hd : decide (n ≤ 1048576) = true := by simp [hn]
  have hmk := make_full n hn
  have HB : Hid (∀ j, j < n → (ad.add j).block < w.heap.size) := fun j hj => World.block_lt_of_cell? w _ (hz j hj)
  have HZ : Hid (bytesAt w ad n z) := hz
  have HE : Hid (w.cell? ⟨5, 0, none⟩ = some (.iface 150 (.pointer (some ae))) ∧ w.cell? ⟨6, 0, none⟩ = some (.iface 150 (.pointer (some au)))) := ⟨he, hu⟩
  clear hz he hu
  go_enter Tryd.func6, Tryd.ntmps6
  go_wp2_with fail
  refine (fits2 _ _ _ _ _ _).mono ?_
  rintro e w1 ⟨rfl, rfl⟩
  go_wp2_with (refine wpList_copy_splice rfl (.tmp 35) (.tmp 36) 31 31 rfl 5 Tryd.underlying31 size5 _ _ n n n c rfl rfl w1.heap.size 0 (madeCells #[.int .u8 0] n).toList 5 ?g1 (bytes n z) ?g2 ?g3 ?g4 ?g5 w1.heap.size w1 ?g6 (Nat.le_refl _) ?g7)
  case g1 => exact heap_alloc_new w1 _
  case g2 => rw [bytes_len]; exact (Nat.min_self n).symm
  case g3 => exact src_facts HZ HB
  case g4 => simp [bytes_len, size_madeCells]
  case g5 => intro v hv; obtain ⟨x, rfl⟩ := bytes_int n z v hv; rfl
  case g6 => exact (Below.refl _ _).alloc (Nat.le_refl _) _
  case g7 =>
    intro w2 hg hb
    have hz := lt_of_block hg.out
    have C : Hid _ := zg_yes w1.heap.size n size (some ⟨w1.heap.size, 0, none⟩) (bytes n z) ae au w2 (bytes_len n z) hn h1 h2 (fun _ => ⟨rfl, hz, splice_all hg⟩) (bytes_int n z) ((hb.cell (p := ⟨5, 0, none⟩) (World.block_lt_of_cell? w1 _ HE.out.1)).trans HE.out.1) ((hb.cell (p := ⟨6, 0, none⟩) (World.block_lt_of_cell? w1 _ HE.out.2)).trans HE.out.2)
    have HG : Hid (w2.heap[w1.heap.size]? = some (.cells (bytes n z).toArray 5 (0, 0))) := splice_all hg
    clear hg
    go_wp2_with fail
    refine Calls.mono C.out ?_
    rintro e w3 ⟨hb3, ⟨hlt, a, W, rfl, hw⟩ | ⟨hle, B, pa, x, rfl, k1, k2, k3, k4⟩⟩
    · have hb4 := hb.trans (hb3.mono hb.size)
      have HW : Hid (isWant n size W) := hw
      clear hw C HG hb3 hb HZ HB
      by_cases hs : 4096 < size
      all_goals
        go_wp2
        go_loop [14, 15] (fun wa rm => ∃ r : Nat, wa = .int .i64 size ∧ rm = .int .i64 r ∧ Hid (r = 4096 ∨ r = 8192 ∨ r = 16384 ∨ r = 32768 ∨ r = 65536) ∧ r ≤ 65536 ∧ Hid ((4096 < r → 4096 ≤ n) ∧ (8192 < r → 8192 ≤ n) ∧ (16384 < r → 16384 ≤ n) ∧ (32768 < r → 32768 ≤ n))) (fun _ rm => 65536 - (intOf rm).toNat)
        case atStart => exact ⟨4096, rfl, rfl, Or.inl rfl, by omega, by show _ ∧ _; omega⟩
        case round =>
          obtain ⟨r, rfl, rfl, hr, hr6, hq⟩ := hrel
          by_cases hrs : r < size
          · by_cases hrn : n < r
            · obtain rfl : W = r := isWant_one HW.out ((want_exit hlt h2 hr.out hq.out).2 hrs hrn)
              go_wp2
              go_ret
              exact ⟨rfl, hb4⟩
            · have Q := want_next h2 hr.out hq.out hrs (by omega)
              go_wp2
              go_round
              case rel => exact ⟨2 * r, rfl, by go_num, Q.1, by omega, Q.2⟩
              case measure => simp [intOf]; have := hr.out; omega
          · obtain rfl : W = size := isWant_one HW.out ((want_exit hlt h2 hr.out hq.out).1 (by omega))
            go_wp2
            go_ret
            exact ⟨rfl, hb4⟩
    · obtain ⟨_, hx⟩ := bytes_get k1
      simp only [Value.int.injEq, true_and] at hx
      subst hx
      have F : Hid _ := frame_true w1.heap.size B n size pa z w3 hn h1 hle k2 (data_at hz HG hb3) (frame_at hle k4)
      have hb4 := hb.trans (hb3.mono hb.size)
      clear k1 k2 k3 k4 C HG hb3
      have e1 : ((n - size : Nat) : Int) = (n : Int) - size := by omega
      by_cases hs : 4096 < size
      all_goals
        go_wp2_with fail
        refine Calls.mono F.out ?_
        rintro e w4 ⟨rfl, m, rfl⟩
        go_wp2
        go_ret
        exact ⟨rfl, belowDrewN hb4 m⟩
end Go.Proofs.Qxb6612427aDoor
