import Derived.Test.Qxb6612427aDoorZz
import Derived.Test.Qxb6612427aDoorFf
namespace Go.Proofs.Qxb6612427aDoor
open Go.RowKit
set_option linter.unusedVariables false

theorem fits (sv : Option Addr) (n c : Nat) (size : Int) (w : World) :
    Calls Tryd.prog 13 #[.slice sv n c, .int .i64 size] w fun e w' => e = .returned (.bool (decide (n ≤ 1048576))) ∧ w' = w := by
  by_cases h : n ≤ 1048576
  · go_enter Tryd.func13, Tryd.ntmps13
    go_wp2
    go_ret
    exact ⟨by simp [h], rfl⟩
  · go_enter Tryd.func13, Tryd.ntmps13
    go_wp2
    go_ret
    exact ⟨by simp [h], rfl⟩

theorem law_big (sv : Option Addr) (n c : Nat) (size : Int) (w : World) (h : ¬ n ≤ 1048576) :
    Calls Tryd.prog 5 #[.slice sv n c, .int .i64 size] w fun e w' => e = .returned (.bool true) ∧ Below w.heap.size w w' := by
  have hd : decide (n ≤ 1048576) = false := by simp [h]
  go_enter Tryd.func5, Tryd.ntmps5
  go_wp2_with fail
  refine (fits _ _ _ _ _).mono ?_
  rintro e w1 ⟨rfl, rfl⟩
  go_wp2
  go_ret
  exact ⟨rfl, Below.refl _ _⟩

theorem law_size (sv : Option Addr) (n c : Nat) (size : Int) (w : World) (h : n ≤ 1048576) (hs : size < 1 ∨ 65536 < size) :
    Calls Tryd.prog 5 #[.slice sv n c, .int .i64 size] w fun e w' => e = .returned (.bool true) ∧ Below w.heap.size w w' := by
  have hd : decide (n ≤ 1048576) = true := by simp [h]
  rcases hs with hs | hs
  · go_enter Tryd.func5, Tryd.ntmps5
    go_wp2_with fail
    refine (fits _ _ _ _ _).mono ?_
    rintro e w1 ⟨rfl, rfl⟩
    go_wp2
    go_ret
    exact ⟨rfl, Below.refl _ _⟩
  · have : ¬ size < 1 := by omega
    go_enter Tryd.func5, Tryd.ntmps5
    go_wp2_with fail
    refine (fits _ _ _ _ _).mono ?_
    rintro e w1 ⟨rfl, rfl⟩
    go_wp2
    go_ret
    exact ⟨rfl, Below.refl _ _⟩

set_option maxHeartbeats 400000 in
theorem law_nil (size : Nat) (ae au : Addr) (w : World) (h1 : 1 ≤ size) (h2 : size ≤ 65536) (he : w.cell? ⟨5, 0, none⟩ = some (.iface 150 (.pointer (some ae)))) (hu : w.cell? ⟨6, 0, none⟩ = some (.iface 150 (.pointer (some au)))) :
    Calls Tryd.prog 5 #[.slice none 0 0, .int .i64 size] w fun e w' => e = .returned (.bool true) ∧ Below w.heap.size w w' := by
  have hd : decide (0 ≤ 1048576) = true := by decide
  have C : Hid _ := zz_short none 0 0 size [] ae au w rfl (fun h => by omega) (by omega) h1 h2 (by omega) (fun h => by omega) (fun h => by omega) (fun v hv => by cases hv) he hu
  clear he hu
  go_enter Tryd.func5, Tryd.ntmps5
  go_wp2_with fail
  refine (fits _ _ _ _ _).mono ?_
  rintro e w1 ⟨rfl, rfl⟩
  go_wp2_with fail
  refine Calls.mono C.out ?_
  rintro e w2 ⟨a, rfl, hb⟩
  go_wp2
  go_ret
  exact ⟨rfl, hb⟩

theorem make_full (n : Nat) (h2 : n ≤ 1048576) (w : World) : (Instr.makeSlice 31 (.int .i64 n) (.int .i64 n)).run Tryd.prog w = .ok (.slice (some ⟨w.heap.size, 0, none⟩) n n) (w.alloc (.cells (madeCells #[.int .u8 0] n) 5)) :=
  run_make_row' 31 5 (.int .u8 0) 1 Tryd.underlying31 info5 rfl .i64 .i64 n (by omega) (by omega) w

/-- A slice that came in, read as bytes. -/
def bytesAt (w : World) (ad : Addr) (n : Nat) (z : Nat → Int) : Prop := ∀ j, j < n → w.cell? (ad.add j) = some (.int .u8 (z j))
def bytes (n : Nat) (z : Nat → Int) : List Value := (List.range n).map fun j => .int .u8 (z j)
theorem bytes_len (n : Nat) (z : Nat → Int) : (bytes n z).length = n := by simp [bytes]
theorem bytes_get {n : Nat} {z : Nat → Int} {j : Nat} {v : Value} (h : (bytes n z)[j]? = some v) : j < n ∧ v = .int .u8 (z j) := by
  have hj : j < n := by have := (List.getElem?_eq_some_iff.1 h).1; rwa [bytes_len] at this
  refine ⟨hj, ?_⟩
  have e : (bytes n z)[j]? = some (.int .u8 (z j)) := by simp [bytes, hj]
  rw [e] at h
  exact (Option.some.inj h).symm
theorem bytes_int (n : Nat) (z : Nat → Int) : ∀ v ∈ bytes n z, ∃ x : Int, v = .int .u8 x := by
  intro v hv; simp [bytes] at hv; obtain ⟨a, _, rfl⟩ := hv; exact ⟨_, rfl⟩

theorem src_facts {w : World} {ad : Addr} {n : Nat} {z : Nat → Int} {o : Obj} (h : Hid (bytesAt w ad n z)) (hB : Hid (∀ j, j < n → (ad.add j).block < w.heap.size)) :
    0 < (bytes n z).length → ∀ j v, (bytes n z)[j]? = some v → (w.alloc o).cell? (ad.add j) = some v := by
  intro _ j v hv
  obtain ⟨hj, rfl⟩ := bytes_get hv
  rw [World.cell?_alloc_lt _ _ _ (hB.out j hj)]
  exact h.out j hj

theorem splice_all {w : World} {g n : Nat} {z : Nat → Int} (h : Hid (w.heap[g]? = some (.cells (splice (madeCells #[.int .u8 0] n).toList 0 (bytes n z)).toArray 5 (0, 0)))) : w.heap[g]? = some (.cells (bytes n z).toArray 5 (0, 0)) := by
  have e : splice (madeCells #[.int .u8 0] n).toList 0 (bytes n z) = bytes n z := by
    simp only [splice, List.take_zero, List.nil_append, bytes_len, Nat.zero_add]
    rw [List.drop_eq_nil_of_le (by simp [size_madeCells])]; simp
  have := h.out
  rwa [e] at this

set_option maxHeartbeats 400000 in
theorem law_short (ad : Addr) (n c size : Nat) (z : Nat → Int) (ae au : Addr) (w : World) (hn : n ≤ 1048576) (h1 : 1 ≤ size) (h2 : size ≤ 65536) (hs : n < size) (hz : bytesAt w ad n z)
    (he : w.cell? ⟨5, 0, none⟩ = some (.iface 150 (.pointer (some ae)))) (hu : w.cell? ⟨6, 0, none⟩ = some (.iface 150 (.pointer (some au)))) :
    Calls Tryd.prog 5 #[.slice (some ad) n c, .int .i64 size] w fun e w' => e = .returned (.bool true) ∧ Below w.heap.size w w' := by
  have hd : decide (n ≤ 1048576) = true := by simp [hn]
  have hmk := make_full n hn
  have HB : Hid (∀ j, j < n → (ad.add j).block < w.heap.size) := fun j hj => World.block_lt_of_cell? w _ (hz j hj)
  have HZ : Hid (bytesAt w ad n z) := hz
  have HE : Hid (w.cell? ⟨5, 0, none⟩ = some (.iface 150 (.pointer (some ae))) ∧ w.cell? ⟨6, 0, none⟩ = some (.iface 150 (.pointer (some au)))) := ⟨he, hu⟩
  clear hz he hu
  go_enter Tryd.func5, Tryd.ntmps5
  go_wp2_with fail
  refine (fits _ _ _ _ _).mono ?_
  rintro e w1 ⟨rfl, rfl⟩
  go_wp2_with (refine wpList_copy_splice rfl (.tmp 28) (.tmp 29) 31 31 rfl 5 Tryd.underlying31 size5 _ _ n n n c rfl rfl w1.heap.size 0 (madeCells #[.int .u8 0] n).toList 5 ?g1 (bytes n z) ?g2 ?g3 ?g4 ?g5 w1.heap.size w1 ?g6 (Nat.le_refl _) ?g7)
  case g1 => exact heap_alloc_new w1 _
  case g2 => rw [bytes_len]; exact (Nat.min_self n).symm
  case g3 => exact src_facts HZ HB
  case g4 => simp [bytes_len, size_madeCells]
  case g5 => intro v hv; obtain ⟨x, rfl⟩ := bytes_int n z v hv; rfl
  case g6 => exact (Below.refl _ _).alloc (Nat.le_refl _) _
  case g7 =>
    intro w2 hg hb
    have hz := lt_of_block hg.out
    have C : Hid _ := zz_short (some ⟨w1.heap.size, 0, none⟩) w1.heap.size n size (bytes n z) ae au w2 (bytes_len n z) (fun _ => rfl) hn h1 h2 hs (fun _ => hz) (fun _ => splice_all hg) (bytes_int n z) ((hb.cell (p := ⟨5, 0, none⟩) (World.block_lt_of_cell? w1 _ HE.out.1)).trans HE.out.1) ((hb.cell (p := ⟨6, 0, none⟩) (World.block_lt_of_cell? w1 _ HE.out.2)).trans HE.out.2)
    go_wp2_with fail
    refine Calls.mono C.out ?_
    rintro e w3 ⟨a, rfl, hb3⟩
    go_wp2
    go_ret
    exact ⟨rfl, hb.trans (hb3.mono hb.size)⟩

theorem data_at {w2 w3 : World} {D n : Nat} {z : Nat → Int} (hD : D < w2.heap.size) (h : Hid (w2.heap[D]? = some (.cells (bytes n z).toArray 5 (0, 0)))) (hb : Below w2.heap.size w2 w3) : ∀ j, j < n → w3.cell? ⟨D, j, none⟩ = some (.int .u8 (z j)) := by
  intro j hj
  rw [hb.cell (p := ⟨D, j, none⟩) hD]
  simp [World.cell?, h.out, bytes, hj]
theorem frame_at {w3 : World} {B n size : Nat} {z : Nat → Int} (hs : size ≤ n) (h : w3.heap[B]? = some (.cells ((bytes n z).take size).toArray 5 (0, 0))) : ∀ j, j < size → w3.cell? ⟨B, j, none⟩ = some (.int .u8 (z j)) := by
  intro j hj
  have hj2 : j < n := by omega
  simp [World.cell?, h, bytes, hj, hj2]
theorem belowDrewN {B : Nat} {a w : World} (h : Below B a w) (m : Nat) : Below B a (w.drewN m) := ⟨h.os, h.tape, h.output, h.size, h.block⟩

set_option maxHeartbeats 400000 in
theorem law_full (ad : Addr) (n c size : Nat) (z : Nat → Int) (ae au : Addr) (w : World) (hn : n ≤ 1048576) (h1 : 1 ≤ size) (h2 : size ≤ 65536) (hs : size ≤ n) (hz : bytesAt w ad n z)
    (he : w.cell? ⟨5, 0, none⟩ = some (.iface 150 (.pointer (some ae)))) (hu : w.cell? ⟨6, 0, none⟩ = some (.iface 150 (.pointer (some au)))) :
    Calls Tryd.prog 5 #[.slice (some ad) n c, .int .i64 size] w fun e w' => e = .returned (.bool true) ∧ Below w.heap.size w w' := by
  have hd : decide (n ≤ 1048576) = true := by simp [hn]
  have hmk := make_full n hn
  have HB : Hid (∀ j, j < n → (ad.add j).block < w.heap.size) := fun j hj => World.block_lt_of_cell? w _ (hz j hj)
  have HZ : Hid (bytesAt w ad n z) := hz
  have HE : Hid (w.cell? ⟨5, 0, none⟩ = some (.iface 150 (.pointer (some ae))) ∧ w.cell? ⟨6, 0, none⟩ = some (.iface 150 (.pointer (some au)))) := ⟨he, hu⟩
  clear hz he hu
  go_enter Tryd.func5, Tryd.ntmps5
  go_wp2_with fail
  refine (fits _ _ _ _ _).mono ?_
  rintro e w1 ⟨rfl, rfl⟩
  go_wp2_with (refine wpList_copy_splice rfl (.tmp 28) (.tmp 29) 31 31 rfl 5 Tryd.underlying31 size5 _ _ n n n c rfl rfl w1.heap.size 0 (madeCells #[.int .u8 0] n).toList 5 ?g1 (bytes n z) ?g2 ?g3 ?g4 ?g5 w1.heap.size w1 ?g6 (Nat.le_refl _) ?g7)
  case g1 => exact heap_alloc_new w1 _
  case g2 => rw [bytes_len]; exact (Nat.min_self n).symm
  case g3 => exact src_facts HZ HB
  case g4 => simp [bytes_len, size_madeCells]
  case g5 => intro v hv; obtain ⟨x, rfl⟩ := bytes_int n z v hv; rfl
  case g6 => exact (Below.refl _ _).alloc (Nat.le_refl _) _
  case g7 =>
    intro w2 hg hb
    have hz := lt_of_block hg.out
    have C : Hid _ := zz_full w1.heap.size n size (bytes n z) w2 (bytes_len n z) hn h1 h2 hs hz (splice_all hg) (bytes_int n z)
    have HG : Hid (w2.heap[w1.heap.size]? = some (.cells (bytes n z).toArray 5 (0, 0))) := splice_all hg
    clear hg
    go_wp2_with fail
    refine Calls.mono C.out ?_
    rintro e w3 ⟨B, pa, x, rfl, k1, k2, k3, k4, hb3⟩
    obtain ⟨_, hx⟩ := bytes_get k1
    simp only [Value.int.injEq, true_and] at hx
    subst hx
    have F : Hid _ := frame_true w1.heap.size B n size pa z w3 hn h1 hs k2 (data_at hz HG hb3) (frame_at hs k4)
    have hb4 := hb.trans (hb3.mono hb.size)
    clear k1 k2 k3 k4 C HG hb3
    have e1 : ((n - size : Nat) : Int) = (n : Int) - size := by omega
    go_wp2_with fail
    refine Calls.mono F.out ?_
    rintro e w4 ⟨rfl, m, rfl⟩
    go_wp2
    go_ret
    exact ⟨rfl, belowDrewN hb4 m⟩
end Go.Proofs.Qxb6612427aDoor
