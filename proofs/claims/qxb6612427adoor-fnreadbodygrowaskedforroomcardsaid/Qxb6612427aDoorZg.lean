import Derived.Test.Qxb6612427aDoorGr
import Derived.Test.Qxb6612427aDoorZz
namespace Go.Proofs.Qxb6612427aDoor
open Go.RowKit
set_option linter.unusedVariables false

/-- The world at the call of readBody. -/
def atBody (w : World) (yes : Bool) (sv : Value) : World := ((w.alloc (.cells #[.bool yes] 4)).alloc (rdr sv 0 (-1))).alloc (.cells #[.int .i64 (0 : Nat)] 3)

theorem atBody_size (w : World) (yes : Bool) (sv : Value) : (atBody w yes sv).heap.size = w.heap.size + 3 := by simp [atBody]
theorem atBody_heap (w : World) (yes : Bool) (sv : Value) : (atBody w yes sv).heap[w.heap.size]? = some (.cells #[.bool yes] 4 (0, 0)) ∧ (atBody w yes sv).heap[w.heap.size + 1]? = some (rdr sv 0 (-1)) ∧ (atBody w yes sv).heap[w.heap.size + 1 + 1]? = some (.cells #[.int .i64 (0 : Nat)] 3 (0, 0)) ∧
    ∀ k, k < w.heap.size → (atBody w yes sv).heap[k]? = w.heap[k]? := by
  refine ⟨?_, ?_, ?_, fun k hk => ?_⟩
  · show ((((w.heap.push _).push _).push _)[_]?) = _
    rw [Array.getElem?_push, if_neg (by simp; omega), Array.getElem?_push, if_neg (by simp), Array.getElem?_push, if_pos rfl]
  · show ((((w.heap.push _).push _).push _)[_]?) = _
    rw [Array.getElem?_push, if_neg (by simp), Array.getElem?_push, if_pos (by simp)]
  · show ((((w.heap.push _).push _).push _)[_]?) = _
    rw [Array.getElem?_push, if_pos (by simp)]
  · show ((((w.heap.push _).push _).push _)[k]?) = _
    rw [Array.getElem?_push, if_neg (by simp; omega), Array.getElem?_push, if_neg (by simp; omega), Array.getElem?_push, if_neg (by omega)]

/-- Behind readBody: 'asked' can be read, nothing old has turned. -/
theorem behind {w w2 : World} {yes : Bool} {sv : Value} {m : Nat} {o : Obj} (hs : (atBody w yes sv).heap.size ≤ w2.heap.size) (ha : w2.heap[w.heap.size + 1 + 1]? = some (.cells #[.int .i64 (m : Nat)] 3 (0, 0)))
    (h : w2.os = (atBody w yes sv).os ∧ w2.tape = (atBody w yes sv).tape ∧ w2.output = (atBody w yes sv).output ∧ ∀ k, k < w.heap.size → w2.heap[k]? = (atBody w yes sv).heap[k]?) :
    w2.cell? ⟨w.heap.size + 1 + 1, 0, none⟩ = some (.int .i64 m) ∧ w.heap.size + 1 + 1 < w2.heap.size ∧ Hid (∀ q, Below w.heap.size w ((w2.alloc o).drewN q)) := by
  rw [atBody_size] at hs
  refine ⟨cell_of_one ha, by omega, fun q => ⟨h.1, h.2.1, h.2.2.1, ?_, fun k hk => ?_⟩⟩
  · show _ ≤ (w2.alloc o).heap.size
    simp; omega
  · show (w2.alloc o).heap[k]? = _
    rw [Below.heap_alloc _ _ _ (by omega), h.2.2.2 k hk, (atBody_heap w yes sv).2.2.2 k hk]

set_option maxHeartbeats 400000 in
set_option maxRecDepth 100000 in
theorem zg_no (n size : Nat) (sv : Option Addr) (an : Addr) (w : World) (hn : n ≤ 1048576) (h1 : 1 ≤ size) (h2 : size ≤ 65536) (hno : w.cell? ⟨0, 0, none⟩ = some (.iface 150 (.pointer (some an)))) :
    Calls Tryd.prog 17 #[.slice sv n n, .int .i64 size, .bool false] w fun e w' => ∃ a, e = .returned (.tuple #[.int .u8 0, .slice none 0 0, .int .i64 n, .int .i64 (min size 4096 : Nat), .iface 150 (.pointer (some a))]) ∧ Below w.heap.size w w' := by
  have h0 : 0 < w.heap.size := World.block_lt_of_cell? w ⟨0, 0, none⟩ hno
  have C : Hid _ := body_no (w.heap.size + 1) (w.heap.size + 1 + 1) w.heap.size n size sv an (atBody w false (.slice sv n n)) h1 h2 (by rw [atBody_size]; omega) (by rw [atBody_size]; omega) (by rw [atBody_size]; omega) (by omega) (by omega) (by omega) (by omega) (atBody_heap _ _ _).2.1 (atBody_heap _ _ _).2.2.1 (atBody_heap _ _ _).1
    ((World.cell?_of_block ((atBody_heap w false (.slice sv n n)).2.2.2 0 h0)).trans hno)
  clear hno
  go_enter Tryd.func17, Tryd.ntmps17
  go_wp2_with fail
  refine (newReader _ _ _ _).mono ?_
  rintro e w1 ⟨rfl, rfl⟩
  go_wp2_with fail
  refine Calls.mono C.out ?_
  rintro e w2 ⟨a, rfl, K1, K2, K3⟩
  obtain ⟨hc, hz, HB⟩ := behind (o := .cells #[.int .u8 0, .slice none 0 0] 109) K3.size K2 ⟨K3.os, K3.tape, K3.output, fun k hk => K3.block k (by rw [atBody_size]; omega) (by omega)⟩
  have M2 : Hid (w2.heap[w.heap.size + 1]? = some (rdr (.slice sv n n) (0 : Nat) (-1))) := K1
  clear K1 K2 K3 C
  go_wp2_with fail
  go_quiet ((go_at_call 23; exact Calls.quiet_of (len_any (w.heap.size + 1) _ n n 0 (-1) _ hn (by omega) (len_at M2 (by omega)))))
  go_wp2
  refine bodyPost_ret (v := .tuple #[.int .u8 0, .slice none 0 0, .int .i64 n, .int .i64 (min size 4096 : Nat), .iface 150 (.pointer (some a))]) (by simp [results, Tryd.results17, go_sem]) rfl ⟨a, rfl, HB.out _⟩

set_option maxHeartbeats 400000 in
set_option maxRecDepth 100000 in
theorem zg_yes (D n size : Nat) (sv : Option Addr) (ds : List Value) (ae au : Addr) (w : World) (hds : ds.length = n) (hn : n ≤ 1048576) (h1 : 1 ≤ size) (h2 : size ≤ 65536)
    (hsv : 0 < n → sv = some ⟨D, 0, none⟩ ∧ D < w.heap.size ∧ w.heap[D]? = some (.cells ds.toArray 5 (0, 0))) (hint : ∀ v ∈ ds, ∃ x : Int, v = .int .u8 x)
    (he : w.cell? ⟨5, 0, none⟩ = some (.iface 150 (.pointer (some ae)))) (hu : w.cell? ⟨6, 0, none⟩ = some (.iface 150 (.pointer (some au)))) :
    Calls Tryd.prog 17 #[.slice sv n n, .int .i64 size, .bool true] w fun e w' => Below w.heap.size w w' ∧
      ((n < size ∧ ∃ a W, e = .returned (.tuple #[.int .u8 0, .slice none 0 0, .int .i64 0, .int .i64 (W : Nat), .iface 150 (.pointer (some a))]) ∧ isWant n size W) ∨
      (size ≤ n ∧ ∃ B pa, ∃ x : Int, e = .returned (.tuple #[.int .u8 x, .slice (some pa) (size - 1) (size - 1), .int .i64 (n - size : Nat), .int .i64 size, .nilIface]) ∧ ds[0]? = some (.int .u8 x) ∧ (2 ≤ size → pa = ⟨B, 1, none⟩) ∧ w.heap.size ≤ B ∧ w'.heap[B]? = some (.cells (ds.take size).toArray 5 (0, 0)))) := by
  have h6 : 6 < w.heap.size := World.block_lt_of_cell? w ⟨6, 0, none⟩ hu
  have HA := atBody_heap w true (.slice sv n n)
  have C : Hid _ := body_yes (w.heap.size + 1) (w.heap.size + 1 + 1) w.heap.size D n size sv ds ae au (atBody w true (.slice sv n n)) hds hn h1 h2 (by rw [atBody_size]; omega) (by rw [atBody_size]; omega) (by rw [atBody_size]; omega) (by omega) (by omega) (by omega) (by omega) (by omega)
    (fun h => by obtain ⟨a, b, c⟩ := hsv h; exact ⟨a, by rw [atBody_size]; omega, by omega, by omega, (HA.2.2.2 D b).trans c⟩) hint HA.2.1 HA.2.2.1 HA.1
    ((World.cell?_of_block (HA.2.2.2 5 (by omega))).trans he) ((World.cell?_of_block (HA.2.2.2 6 h6)).trans hu)
  clear he hu hint hsv HA
  go_enter Tryd.func17, Tryd.ntmps17
  go_wp2_with fail
  refine (newReader _ _ _ _).mono ?_
  rintro e w1 ⟨rfl, rfl⟩
  go_wp2_with fail
  refine Calls.mono C.out ?_
  rintro e w2 (⟨hlt, a, W, p, rfl, K0, K1, K2, K3, K4⟩ | ⟨hle, B, pa, x, rfl, J1, J2, J3, J4, K1, K2, K3, K4⟩)
  · obtain ⟨hc, hz, HB⟩ := behind (o := .cells #[.int .u8 0, .slice none 0 0] 109) K3 K2 ⟨K4.1, K4.2.1, K4.2.2.1, fun k hk => K4.2.2.2 k (by rw [atBody_size]; omega) (by omega) (by omega)⟩
    have M2 : Hid (w2.heap[w.heap.size + 1]? = some (rdr (.slice sv n n) n p)) := K1
    have HW : Hid (isWant n size W) := K0
    clear K0 K1 K2 K3 K4 C
    go_wp2_with fail
    go_quiet ((go_at_call 23; exact Calls.quiet_of (len_any (w.heap.size + 1) _ n n n p _ hn (by omega) (len_at M2 (by omega)))))
    go_wp2
    refine bodyPost_ret (v := .tuple #[.int .u8 0, .slice none 0 0, .int .i64 0, .int .i64 (W : Nat), .iface 150 (.pointer (some a))]) (by simp [results, Tryd.results17, go_sem]) rfl ⟨HB.out _, Or.inl ⟨hlt, a, W, rfl, HW.out⟩⟩
  · obtain ⟨hc, hz, HB⟩ := behind (o := .cells #[.int .u8 x, .slice (some pa) (size - 1) (size - 1)] 109) K3 K2 ⟨K4.1, K4.2.1, K4.2.2.1, fun k hk => K4.2.2.2 k (by rw [atBody_size]; omega) (by omega) (by omega)⟩
    have M2 : Hid (w2.heap[w.heap.size + 1]? = some (rdr (.slice sv n n) size (-1))) := K1
    have hB2 := lt_of_block J4
    have hB1 : w.heap.size ≤ B := by rw [atBody_size] at J3; omega
    have HW : Hid (ds[0]? = some (.int .u8 x) ∧ (2 ≤ size → pa = ⟨B, 1, none⟩) ∧ w2.heap[B]? = some (.cells (ds.take size).toArray 5 (0, 0))) := ⟨J1, J2, J4⟩
    clear J1 J2 J3 J4 K1 K2 K3 K4 C
    go_wp2_with fail
    go_quiet ((go_at_call 23; exact Calls.quiet_of (len_any (w.heap.size + 1) _ n n size (-1) _ hn (by omega) (len_at M2 (by omega)))))
    go_wp2
    refine bodyPost_ret (v := .tuple #[.int .u8 x, .slice (some pa) (size - 1) (size - 1), .int .i64 (n - size : Nat), .int .i64 size, .nilIface]) (by simp [results, Tryd.results17, go_sem]) rfl ⟨HB.out _, Or.inr ⟨hle, B, pa, x, rfl, HW.out.1, HW.out.2.1, hB1, len_at HW.out.2.2 hB2⟩⟩
end Go.Proofs.Qxb6612427aDoor
