import Derived.Test.Qxb6612427aDoorBd
namespace Go.Proofs.Qxb6612427aDoor
open Go.RowKit
set_option linter.unusedVariables false

theorem len_at {w2 : World} {o u : Obj} {R q : Nat} (M2 : Hid (w2.heap[R]? = some u)) (h : R < w2.heap.size) : ((w2.alloc o).drewN q).heap[R]? = some u := by
  show (w2.alloc o).heap[R]? = _
  rw [Below.heap_alloc _ _ _ h]; exact M2.out

theorem below_zz {w w2 : World} {o u : Obj} {q : Nat} (h : Hid (Beside w.heap.size (w.heap.size + 1) (w.alloc o) w2)) : Below w.heap.size w ((w2.alloc u).drewN q) := by
  have h' := h.out
  have hsz := h'.size
  simp at hsz
  refine ⟨h'.os, h'.tape, h'.output, ?_, fun k hk => ?_⟩
  · show _ ≤ (w2.alloc u).heap.size
    simp; omega
  · show (w2.alloc u).heap[k]? = _
    rw [Below.heap_alloc _ _ _ (by omega), h'.block k (by omega) (by omega), Below.heap_alloc _ _ _ hk]

set_option maxHeartbeats 400000 in
set_option maxRecDepth 100000 in
theorem zz_full (D n size : Nat) (ds : List Value) (w : World) (hds : ds.length = n)
    (hn : n ≤ 1048576) (h1 : 1 ≤ size) (h2 : size ≤ 65536) (hs : size ≤ n) (hDw : D < w.heap.size)
    (hD : w.heap[D]? = some (.cells ds.toArray 5 (0, 0))) (hint : ∀ v ∈ ds, ∃ x : Int, v = .int .u8 x) :
    Calls Tryd.prog 14 #[.slice (some ⟨D, 0, none⟩) n n, .int .i64 size] w fun e w' => ∃ B pa, ∃ x : Int, e = .returned (.tuple #[.int .u8 x, .slice (some pa) (size - 1) (size - 1), .int .i64 (n - size : Nat), .nilIface]) ∧
      ds[0]? = some (.int .u8 x) ∧ (2 ≤ size → pa = ⟨B, 1, none⟩) ∧ w.heap.size ≤ B ∧ w'.heap[B]? = some (.cells (ds.take size).toArray 5 (0, 0)) ∧ Below w.heap.size w w' := by
  have H2 : Hid (w.heap[D]? = some (.cells ds.toArray 5 (0, 0))) := hD
  have HI : Hid (∀ v ∈ ds, ∃ x : Int, v = .int .u8 x) := hint
  clear hD hint
  go_enter Tryd.func14, Tryd.ntmps14
  go_wp2_with fail
  refine (newReader _ _ _ _).mono ?_
  rintro e w1 ⟨rfl, rfl⟩
  go_wp2_with fail
  refine (body_full w.heap.size D n size ds _ hds hn h1 h2 hs (by omega) (by simp) (by simp; omega) (heap_alloc_new w _) ((Below.heap_alloc w _ D hDw).trans H2.out) HI.out).mono ?_
  rintro e w2 ⟨B, pa, x, rfl, K1, K2, K3, K4, K5, K6⟩
  have M1 : Hid (ds[0]? = some (.int .u8 x) ∧ (2 ≤ size → pa = ⟨B, 1, none⟩) ∧ w2.heap[B]? = some (.cells (ds.take size).toArray 5 (0, 0))) := ⟨K1, K2, K4⟩
  have M2 : Hid (w2.heap[w.heap.size]? = some (rdr (.slice (some ⟨D, 0, none⟩) n n) size (-1))) := K5
  have hsz : w.heap.size + 1 ≤ w2.heap.size := by have := K6.size; simpa using this
  have M3 : Hid (Beside w.heap.size (w.heap.size + 1) (w.alloc (rdr (.slice (some ⟨D, 0, none⟩) n n) 0 (-1))) w2) := by show Beside _ _ _ _; simpa using K6
  have M4 : w.heap.size ≤ B := by have : (w.alloc (rdr (.slice (some ⟨D, 0, none⟩) n n) 0 (-1))).heap.size ≤ B := K3; simp at this; omega
  have M5 := lt_of_block K4
  clear K1 K2 K3 K4 K5 K6
  go_wp2_with fail
  go_quiet ((go_at_call 23; exact Calls.quiet_of (len_any w.heap.size _ n n size (-1) _ hn hs (len_at M2 (by omega)))))
  go_wp2
  refine bodyPost_ret (v := .tuple #[.int .u8 x, .slice (some pa) (size - 1) (size - 1), .int .i64 (n - size : Nat), .nilIface]) (by simp [results, Tryd.results14, go_sem]) rfl ⟨B, pa, x, rfl, M1.out.1, M1.out.2.1, M4, len_at M1.out.2.2 M5, below_zz M3⟩

set_option maxHeartbeats 400000 in
set_option maxRecDepth 100000 in
theorem zz_short (sv : Option Addr) (D n size : Nat) (ds : List Value) (ae au : Addr) (w : World) (hds : ds.length = n) (hsv : 0 < n → sv = some ⟨D, 0, none⟩)
    (hn : n ≤ 1048576) (h1 : 1 ≤ size) (h2 : size ≤ 65536) (hs : n < size) (hDw : 0 < n → D < w.heap.size)
    (hD : 0 < n → w.heap[D]? = some (.cells ds.toArray 5 (0, 0))) (hint : ∀ v ∈ ds, ∃ x : Int, v = .int .u8 x)
    (he : w.cell? ⟨5, 0, none⟩ = some (.iface 150 (.pointer (some ae)))) (hu : w.cell? ⟨6, 0, none⟩ = some (.iface 150 (.pointer (some au)))) :
    Calls Tryd.prog 14 #[.slice sv n n, .int .i64 size] w fun e w' => ∃ a, e = .returned (.tuple #[.int .u8 0, .slice none 0 0, .int .i64 0, .iface 150 (.pointer (some a))]) ∧ Below w.heap.size w w' := by
  have C : Hid (Calls Tryd.prog 22 #[.iface 106 (.pointer (some ⟨w.heap.size, 0, none⟩)), .int .i64 size, .nilFunc] (w.alloc (rdr (.slice sv n n) 0 (-1))) fun e w' => ∃ a, e = .returned (.tuple #[.agg #[.int .u8 0, .slice none 0 0], .iface 150 (.pointer (some a))]) ∧
      ∃ p, w'.heap[w.heap.size]? = some (rdr (.slice sv n n) n p) ∧ Beside w.heap.size (w.heap.size + 1) (w.alloc (rdr (.slice sv n n) 0 (-1))) w') := by
    have hb6 : 6 < w.heap.size := World.block_lt_of_cell? w ⟨6, 0, none⟩ hu
    have he' : (w.alloc (rdr (.slice sv n n) 0 (-1))).cell? ⟨5, 0, none⟩ = some (.iface 150 (.pointer (some ae))) := (World.cell?_alloc_lt w _ ⟨5, 0, none⟩ (by show 5 < _; omega)).trans he
    have hu' : (w.alloc (rdr (.slice sv n n) 0 (-1))).cell? ⟨6, 0, none⟩ = some (.iface 150 (.pointer (some au))) := (World.cell?_alloc_lt w _ ⟨6, 0, none⟩ hb6).trans hu
    by_cases h0 : 0 < n
    · obtain rfl := hsv h0
      have := body_short w.heap.size D n size ds ae au _ hds hn h1 h2 hs h0 hb6 (by have := hDw h0; omega) (by simp) (by have := hDw h0; simp; omega) (heap_alloc_new w _) ((Below.heap_alloc w _ D (hDw h0)).trans (hD h0)) hint he' hu'
      exact Calls.mono this fun e w' ⟨a, ha, p, hp, hb⟩ => ⟨a, ha, p, hp, by simpa using hb⟩
    · obtain rfl : n = 0 := by omega
      have := body_none w.heap.size 0 size sv ae _ h1 h2 hb6 (by simp) (heap_alloc_new w _) he'
      exact Calls.mono this fun e w' ⟨a, ha, p, hp, hb⟩ => ⟨a, ha, p, hp, by simpa using hb⟩
  clear he hu hD hint hsv hDw
  go_enter Tryd.func14, Tryd.ntmps14
  go_wp2_with fail
  refine (newReader _ _ _ _).mono ?_
  rintro e w1 ⟨rfl, rfl⟩
  go_wp2_with fail
  refine Calls.mono C.out ?_
  rintro e w2 ⟨a, rfl, p, K5, K6⟩
  have M2 : Hid (w2.heap[w.heap.size]? = some (rdr (.slice sv n n) n p)) := K5
  have hsz : w.heap.size + 1 ≤ w2.heap.size := by have := K6.size; simpa using this
  have M3 : Hid (Beside w.heap.size (w.heap.size + 1) (w.alloc (rdr (.slice sv n n) 0 (-1))) w2) := K6
  clear K5 K6
  go_wp2_with fail
  go_quiet ((go_at_call 23; exact Calls.quiet_of (len_any w.heap.size _ n n n p _ hn (Nat.le_refl _) (len_at M2 (by omega)))))
  go_wp2
  refine bodyPost_ret (v := .tuple #[.int .u8 0, .slice none 0 0, .int .i64 0, .iface 150 (.pointer (some a))]) (by simp [results, Tryd.results14, go_sem]) rfl ⟨a, rfl, below_zz M3⟩
end Go.Proofs.Qxb6612427aDoor
