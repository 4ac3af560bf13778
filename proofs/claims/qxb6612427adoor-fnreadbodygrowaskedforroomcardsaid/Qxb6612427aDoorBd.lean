import Derived.Test.Qxb6612427aDoorRl
import Derived.Deep.OwnRows
namespace Go.Proofs.Qxb6612427aDoor
open Go.RowKit
set_option linter.unusedVariables false

theorem info5 : (Tryd.prog.info? 5).map (fun i => (i.zero, i.size, i.bytes)) = some (some (.int .u8 0), 1, 1) := by kernel_rfl

theorem ret_int {k : IntKind} {a b : Int} (h : a = b) : Ending.returned (.int k a) = .returned (.int k b) := by rw [h]

/-- io.ReadFull -/
theorem full_full (R D n B off bl bc : Nat) (i : Nat) (p : Int) (cur cs : List Value) (w : World)
    (hn : n ≤ 1048576) (hi : i + bl ≤ n) (hb0 : 1 ≤ bl) (hbc : bl ≤ bc) (hRB : R < B) (hDR : D ≠ R)
    (hR : w.heap[R]? = some (rdr (.slice (some ⟨D, 0, none⟩) n n) i p))
    (hB : w.heap[B]? = some (.cells cur.toArray 5 (0, 0))) (hcs : cs.length = bl) (hbl : off + bl ≤ cur.length)
    (hd : ∀ j v, cs[j]? = some v → w.cell? ⟨D, i + j, none⟩ = some v) (hone : ∀ v ∈ cs, v.oneCell' = true) :
    Calls Tryd.prog 32 #[.iface 106 (.pointer (some ⟨R, 0, none⟩)), .slice (some ⟨B, off, none⟩) bl bc] w fun e w' => e = .returned (.tuple #[.int .i64 bl, .nilIface]) ∧
      w'.heap[B]? = some (.cells (splice cur off cs).toArray 5 (0, 0)) ∧ w'.heap[R]? = some (rdr (.slice (some ⟨D, 0, none⟩) n n) (i + bl : Nat) (-1)) ∧ Beside R B w w' := by
  have C : Hid _ := atleast_full R D n B off bl bc i p cur cs w hn hi hb0 hbc hRB hDR hR hB hcs hbl hd hone
  clear hR hB hcs hd hone
  go_enter Tryd.func32, Tryd.ntmps32
  go_wp2_with fail
  refine Calls.mono C.out ?_
  rintro e w' ⟨rfl, hb, hr, hbe⟩
  go_wp2
  go_ret2
  exact ⟨rfl, hb, hr, hbe⟩

theorem full_short (R D n B off bl bc : Nat) (i : Nat) (p : Int) (cur cs : List Value) (ae au : Addr) (w : World)
    (hn : n ≤ 1048576) (hi : i < n) (hi2 : n < i + bl) (hbc : bl ≤ bc) (hbm : bl ≤ 1048576) (hRB : R < B) (hDR : D ≠ R) (h6R : 6 < R)
    (hR : w.heap[R]? = some (rdr (.slice (some ⟨D, 0, none⟩) n n) i p)) (he : w.cell? ⟨5, 0, none⟩ = some (.iface 150 (.pointer (some ae)))) (hu : w.cell? ⟨6, 0, none⟩ = some (.iface 150 (.pointer (some au))))
    (hB : w.heap[B]? = some (.cells cur.toArray 5 (0, 0))) (hcs : cs.length = n - i) (hbl : off + bl ≤ cur.length)
    (hd : ∀ j v, cs[j]? = some v → w.cell? ⟨D, i + j, none⟩ = some v) (hone : ∀ v ∈ cs, v.oneCell' = true) :
    Calls Tryd.prog 32 #[.iface 106 (.pointer (some ⟨R, 0, none⟩)), .slice (some ⟨B, off, none⟩) bl bc] w fun e w' => e = .returned (.tuple #[.int .i64 (n - i : Nat), .iface 150 (.pointer (some au))]) ∧
      w'.heap[R]? = some (rdr (.slice (some ⟨D, 0, none⟩) n n) n (-1)) ∧ Beside R B w w' := by
  have C : Hid _ := atleast_short R D n B off bl bc i p cur cs ae au w hn hi hi2 hbc hbm hRB hDR h6R hR he hu hB hcs hbl hd hone
  clear hR hB hcs hd hone he hu
  go_enter Tryd.func32, Tryd.ntmps32
  go_wp2_with fail
  refine Calls.mono C.out ?_
  rintro e w' ⟨rfl, hr, hbe⟩
  go_wp2
  go_ret2
  exact ⟨rfl, hr, hbe⟩

theorem full_none (R n c B off bl bc : Nat) (sv : Option Addr) (i : Nat) (p : Int) (ae : Addr) (w : World)
    (hn : n ≤ 1048576) (hi : n ≤ i) (hb0 : 1 ≤ bl) (hbc : bl ≤ bc) (hbm : bl ≤ 1048576)
    (hR : w.heap[R]? = some (rdr (.slice sv n c) i p)) (he : w.cell? ⟨5, 0, none⟩ = some (.iface 150 (.pointer (some ae)))) :
    Calls Tryd.prog 32 #[.iface 106 (.pointer (some ⟨R, 0, none⟩)), .slice (some ⟨B, off, none⟩) bl bc] w fun e w' => e = .returned (.tuple #[.int .i64 0, .iface 150 (.pointer (some ae))]) ∧ ∃ m, w' = w.drewN m := by
  have C : Hid _ := atleast_none R n c B off bl bc sv i p ae w hn hi hb0 hbc hbm hR he
  clear hR he
  go_enter Tryd.func32, Tryd.ntmps32
  go_wp2_with fail
  refine Calls.mono C.out ?_
  rintro e w' ⟨rfl, m, rfl⟩
  go_wp2
  go_ret2
  exact ⟨rfl, m, rfl⟩

/-- (*bytes.Reader).Len -/
theorem len_any (R : Nat) (sv : Option Addr) (n c : Nat) (i : Nat) (p : Int) (w : World) (hn : n ≤ 1048576) (hi : i ≤ n)
    (hR : w.heap[R]? = some (rdr (.slice sv n c) i p)) :
    Calls Tryd.prog 23 #[.pointer (some ⟨R, 0, none⟩)] w fun e w' => e = .returned (.int .i64 (n - i : Nat)) ∧ ∃ m, w' = w.drewN m := by
  obtain ⟨h0, h1, h2, hf⟩ := rdr_cells hR
  clear hR
  by_cases h : n ≤ i
  · go_enter Tryd.func23, Tryd.ntmps23
    go_wp2
    go_quiet (fail)
    go_wp2
    go_ret
    exact ⟨by rw [show n - i = 0 from by omega]; rfl, _, rfl⟩
  · go_enter Tryd.func23, Tryd.ntmps23
    go_wp2
    go_quiet (fail)
    go_wp2
    go_quiet (fail)
    go_wp2
    go_ret
    exact ⟨ret_int (by omega), _, World.drewN_drewN _ _ _⟩

theorem newReader (sa : Option Addr) (n c : Nat) (w : World) :
    Calls Tryd.prog 21 #[.slice sa n c] w fun e w' => e = .returned (.pointer (some ⟨w.heap.size, 0, none⟩)) ∧ w' = w.alloc (rdr (.slice sa n c) 0 (-1)) := by
  go_enter Tryd.func21, Tryd.ntmps21
  go_wp2
  go_ret
  exact ⟨rfl, rfl⟩

theorem neq_nil (w : World) : (binOp .neq 113 .nilFunc .nilFunc).run Tryd.prog w = .ok (.bool false) w := by kernel_rfl

theorem make_room (size : Nat) (h2 : size ≤ 65536) (w : World) : (Instr.makeSlice 31 (.int .i64 0) (.int .i64 size)).run Tryd.prog w = .ok (.slice (some ⟨w.heap.size, 0, none⟩) 0 size) (w.alloc (.cells (madeCells #[.int .u8 0] size) 5)) := by
  obtain ⟨i0, hi, hz0, hz1, hz2⟩ := info_parts info5
  have := run_make (P := Tryd.prog) w 31 5 i0 (.int .u8 0) Tryd.underlying31 hi hz0 .i64 .i64 0 size (by omega) (by omega) (by rw [hz2]; omega) (by omega)
  rw [hz1] at this
  simpa [Value.cells] using this

/-- What is owned by a slice of bytes within its capacity: the block. -/
theorem owned_block {w : World} {base g k cap : Nat} {xs : List Value} (h : w.ownsRow base 5 1 (.slice (some ⟨g, 0, none⟩) k cap) k xs) : ∃ cur : List Value, w.heap[g]? = some (.cells cur.toArray 5 (0, 0)) ∧ cur.length = cap ∧ cur.take k = xs ∧ k ≤ cap := by
  rcases h.2 with ⟨hv, _⟩ | ⟨g', cap', cur, hv, _, hh, hle, _, hs, ht⟩
  · simp at hv
  · simp at hv
    obtain ⟨rfl, rfl⟩ := hv
    exact ⟨cur.toList, by simpa using hh, by simpa using hs, by simpa using ht, hle⟩

theorem first_facts {w w1 : World} {R D size : Nat} (ds : List Value) {sv : Value} (hDw : D < w.heap.size) (hRw : R < w.heap.size) (H1 : Hid (w.heap[R]? = some (rdr sv 0 (-1)))) (H2 : Hid (w.heap[D]? = some (.cells ds.toArray 5 (0, 0)))) (hone : ∀ v ∈ ds, v.oneCell' = true)
    (hown1 : w1.ownsRow (w.heap.size + 1) 5 1 (.slice (some ⟨w.heap.size + 1, 0, none⟩) 0 size) 0 [])
    (hgrow1 : ((w.alloc (.cells #[.int .u8 0, .slice none 0 0] 109)).alloc (.cells (madeCells #[.int .u8 0] size) 5)).grownBy w1 (some (w.heap.size + 1))) :
    ∃ cur : List Value, Hid (w1.heap[w.heap.size + 1]? = some (.cells cur.toArray 5 (0, 0))) ∧ cur.length = size ∧ Hid (w1.heap[R]? = some (rdr sv 0 (-1))) ∧ Hid (w1.heap[D]? = some (.cells ds.toArray 5 (0, 0))) ∧ Hid (∀ v ∈ ds, v.oneCell' = true) ∧
      Hid (Below (w.heap.size + 1) (w.alloc (.cells #[.int .u8 0, .slice none 0 0] 109)) w1) := by
  obtain ⟨cur, h1, h2, _, _⟩ := owned_block hown1
  have hb : Below (w.heap.size + 1) (w.alloc (.cells #[.int .u8 0, .slice none 0 0] 109)) w1 :=
    ((Below.refl _ _).alloc (by simp) _).grown hgrow1 (by simp) (by intro k hk; simp at hk; omega)
  refine ⟨cur, h1, h2, ?_, ?_, hone, hb⟩
  · show _ = _
    rw [hb.block R (by omega), Below.heap_alloc _ _ _ hRw]; exact H1.out
  · show _ = _
    rw [hb.block D (by omega), Below.heap_alloc _ _ _ hDw]; exact H2.out

theorem take_cells {w : World} {D : Nat} {ds : List Value} (h : Hid (w.heap[D]? = some (.cells ds.toArray 5 (0, 0)))) (size : Nat) : ∀ j v, (ds.take size)[j]? = some v → w.cell? ⟨D, 0 + j, none⟩ = some v := by
  intro j v hv
  rw [List.getElem?_take] at hv
  split at hv
  · simp [World.cell?, h.out, hv]
  · cases hv

theorem second_facts {w w1 w2 : World} {R size n : Nat} {cur ds : List Value} {hds : ds.length = n} (h1 : 1 ≤ size) (hs : size ≤ n) (hRw : R < w.heap.size) (hint : ∀ v ∈ ds, ∃ x : Int, v = .int .u8 x)
    (K1 : w2.heap[w.heap.size + 1]? = some (.cells (splice cur 0 (ds.take size)).toArray 5 (0, 0))) (K3 : Beside R (w.heap.size + 1) w1 w2) (G2 : cur.length = size)
    (G6 : Hid (Below (w.heap.size + 1) (w.alloc (.cells #[.int .u8 0, .slice none 0 0] 109)) w1)) :
    w2.heap[w.heap.size + 1]? = some (.cells (ds.take size).toArray 5 (0, 0)) ∧ w2.cell? ⟨w.heap.size, 0, none⟩ = some (.int .u8 0) ∧ w2.cell? ⟨w.heap.size, 1, none⟩ = some (.slice none 0 0) ∧ (∀ o, w2.frozen? ⟨w.heap.size, o, none⟩ = false) ∧
      (∃ x : Int, ds[0]? = some (.int .u8 x) ∧ w2.cell? ⟨w.heap.size + 1, 0, none⟩ = some (.int .u8 x)) ∧ Hid (Beside R (w.heap.size + 1) (w.alloc (.cells #[.int .u8 0, .slice none 0 0] 109)) w2) := by
  have e : splice cur 0 (ds.take size) = ds.take size := by
    simp only [splice, List.take_zero, List.nil_append, List.length_take, Nat.zero_add]
    rw [List.drop_eq_nil_of_le (by omega)]; simp
  rw [e] at K1
  have hb : Beside R (w.heap.size + 1) (w.alloc (.cells #[.int .u8 0, .slice none 0 0] 109)) w2 := (Beside.of_below G6.out).trans K3
  refine ⟨K1, ?_, ?_, ?_, ?_, hb⟩
  · rw [hb.cell (by simp) (by show w.heap.size ≠ R; omega)]; simp [go_sem]
  · rw [hb.cell (by simp) (by show w.heap.size ≠ R; omega)]; simp [go_sem]
  · intro o; rw [hb.frozen (by simp) (by show w.heap.size ≠ R; omega)]; simp [go_sem]
  · match ds, hds, hint, K1 with
    | [], hds, _, _ => simp at hds; omega
    | k :: _, _, hint, K1 =>
      obtain ⟨x, rfl⟩ := hint k (by simp)
      exact ⟨x, rfl, by match size, h1 with | m + 1, _ => simp [World.cell?, K1]⟩

theorem heap_set2 (w : World) (F k : Nat) (u v : Value) (h : k ≠ F) : (((w.setCell ⟨F, 0, none⟩ u).setCell ⟨F, 1, none⟩ v).drew).heap[k]? = w.heap[k]? := by
  show ((w.setCell ⟨F, 0, none⟩ u).setCell ⟨F, 1, none⟩ v).heap[k]? = _
  rw [Below.heap_setCell _ _ _ _ h, Below.heap_setCell _ _ _ _ h]
theorem beside_set2 {R : Nat} {w w2 : World} {o : Obj} (h : Hid (Beside R (w.heap.size + 1) (w.alloc o) w2)) (u v : Value) : Beside R w.heap.size w (((w2.setCell ⟨w.heap.size, 0, none⟩ u).setCell ⟨w.heap.size, 1, none⟩ v).drew) := by
  have h' := h.out
  refine ⟨h'.os, h'.tape, h'.output, ?_, fun k hk hn => ?_⟩
  · have := h'.size
    simp at this
    simp [World.setCell, World.drew]
    omega
  · rw [heap_set2 _ _ _ _ _ (by omega), h'.block k (by omega) hn, Below.heap_alloc _ _ _ hk]

set_option maxHeartbeats 400000 in
set_option maxRecDepth 100000 in
theorem body_full (R D n size : Nat) (ds : List Value) (w : World) (hds : ds.length = n)
    (hn : n ≤ 1048576) (h1 : 1 ≤ size) (h2 : size ≤ 65536) (hs : size ≤ n) (hDR : D ≠ R) (hRw : R < w.heap.size) (hDw : D < w.heap.size)
    (hR : w.heap[R]? = some (rdr (.slice (some ⟨D, 0, none⟩) n n) 0 (-1))) (hD : w.heap[D]? = some (.cells ds.toArray 5 (0, 0))) (hint : ∀ v ∈ ds, ∃ x : Int, v = .int .u8 x) :
    Calls Tryd.prog 22 #[.iface 106 (.pointer (some ⟨R, 0, none⟩)), .int .i64 size, .nilFunc] w fun e w' => ∃ B pa, ∃ x : Int, e = .returned (.tuple #[.agg #[.int .u8 x, .slice (some pa) (size - 1) (size - 1)], .nilIface]) ∧
      ds[0]? = some (.int .u8 x) ∧ (2 ≤ size → pa = ⟨B, 1, none⟩) ∧ w.heap.size ≤ B ∧ w'.heap[B]? = some (.cells (ds.take size).toArray 5 (0, 0)) ∧ w'.heap[R]? = some (rdr (.slice (some ⟨D, 0, none⟩) n n) size (-1)) ∧ Beside R w.heap.size w w' := by
  have hone : ∀ v ∈ ds, v.oneCell' = true := fun v hv => by obtain ⟨x, rfl⟩ := hint v hv; rfl
  have HI : Hid (∀ v ∈ ds, ∃ x : Int, v = .int .u8 x) := hint
  clear hint
  have hnn := neq_nil
  have hmk := make_room size h2
  have hs0 : ¬ size = 0 := by omega
  obtain ⟨i0, hi, hz0, hz1, hz2⟩ := info_parts info5
  have hown : Hid (((w.alloc (.cells #[.int .u8 0, .slice none 0 0] 109)).alloc (.cells (madeCells #[.int .u8 0] size) 5)).ownsRow (w.heap.size + 1) 5 1 (.slice (some ⟨w.heap.size + 1, 0, none⟩) 0 size) 0 []) := by
    have := World.ownsRow_made (base := w.heap.size + 1) (e := 5) (size := 1) (w.alloc (.cells #[.int .u8 0, .slice none 0 0] 109)) (madeCells #[.int .u8 0] size) size (by simp) (by simp only [maxLen]; omega) (by rw [size_madeCells]; omega)
    show World.ownsRow _ _ _ _ _ _ _
    simpa using this
  have H1 : Hid (w.heap[R]? = some (rdr (.slice (some ⟨D, 0, none⟩) n n) 0 (-1))) := hR
  have H2 : Hid (w.heap[D]? = some (.cells ds.toArray 5 (0, 0))) := hD
  clear hR hD
  go_enter Tryd.func22, Tryd.ntmps22
  go_wp2
  refine wp_loop_rounds 2 ?_
  rw [rounds_succ]
  go_wp2_with (at_builtin; refine wpList_append_fits_any _ rfl (.tmp 43) (.tmp 44) 31 rfl (w.heap.size + 1) 5 i0 1 Tryd.underlying31 hi hz1 (w.heap.size + 1) 0 size [] rfl hown.out none 0 0 [] rfl rfl (fun _ => ⟨rfl, rfl⟩) (fun _ h => by cases h) (fun _ h => by cases h) (by omega) ?_)
  intro w1 hown1 hgrow1
  have F := first_facts ds hDw hRw H1 H2 hone hown1 hgrow1
  clear hown1 hgrow1 hmk hown hi hz0 hz1 hz2 H1 H2 hone
  obtain ⟨cur, G1, G2, G3, G4, G5, G6⟩ := F
  go_wp2_with fail
  refine (full_full R D n (w.heap.size + 1) 0 size size 0 (-1) cur (ds.take size) w1 hn (by omega) h1 (Nat.le_refl _) (by omega) hDR G3.out G1.out (by simp; omega) (by omega) (take_cells G4 size) (fun v hv => G5.out v (List.mem_of_mem_take hv))).mono ?_
  rintro e w2 ⟨rfl, K1, K2, K3⟩
  have F := second_facts (size := size) (hds := hds) (by omega) (by omega) hRw HI.out K1 K3 G2 G6
  have K1' : Hid (w2.heap[w.heap.size + 1]? = some (.cells (ds.take size).toArray 5 (0, 0))) := F.1
  have K2' : Hid (w2.heap[R]? = some (rdr (.slice (some ⟨D, 0, none⟩) n n) (0 + size : Nat) (-1))) := K2
  obtain ⟨_, c0, c1, f0, ⟨x, hk0, hk⟩, hb⟩ := F
  have HK : Hid (ds[0]? = some (.int .u8 x)) := hk0
  clear K1 K2 K3 G1 G3 G4 G5 G6 hk0
  obtain ⟨pa, hpa, HP⟩ : ∃ pa : Addr, (if size = 1 then some (⟨w.heap.size + 1, 0, none⟩ : Addr) else some ⟨w.heap.size + 1, 1, none⟩) = some pa ∧ Hid (2 ≤ size → pa = ⟨w.heap.size + 1, 1, none⟩) := by
    by_cases h : size = 1
    · exact ⟨⟨w.heap.size + 1, 0, none⟩, by simp [h], fun h2 => by omega⟩
    · exact ⟨⟨w.heap.size + 1, 1, none⟩, by simp [h], fun _ => rfl⟩
  have hz : w.heap.size + 1 < w2.heap.size := lt_of_block K1'.out
  go_wp2
  rw [rounds_succ]
  go_wp2
  go_region
  all_goals go_wp2
  refine bodyPost_ret (v := .tuple #[.agg #[.int .u8 x, .slice (some pa) (size - 1) (size - 1)], .nilIface]) (by simp [results, Tryd.results22, go_sem, c0, c1]) rfl ⟨w.heap.size + 1, pa, x, rfl, HK.out, HP.out, by omega, ?_, ?_, ?_⟩
  · rw [heap_set2 _ _ _ _ _ (by omega)]; exact K1'.out
  · rw [heap_set2 _ _ _ _ _ (by omega)]; simpa using K2'.out
  · exact beside_set2 hb _ _

theorem old_cell {w w1 : World} {o : Obj} {g : Nat} {v : Value} (h : Hid (Below (w.heap.size + 1) (w.alloc o) w1)) (hg : g < w.heap.size) (H : Hid (w.cell? ⟨g, 0, none⟩ = some v)) : w1.cell? ⟨g, 0, none⟩ = some v := by
  rw [h.out.cell (p := ⟨g, 0, none⟩) (by show g < _; omega), World.cell?_alloc_lt _ _ _ hg]; exact H.out
theorem all_cells {w : World} {D : Nat} {ds : List Value} (h : Hid (w.heap[D]? = some (.cells ds.toArray 5 (0, 0)))) : ∀ j v, ds[j]? = some v → w.cell? ⟨D, 0 + j, none⟩ = some v := by
  intro j v hv
  simp [World.cell?, h.out, hv]
theorem third_facts {w w1 w2 : World} {R : Nat} (hRw : R < w.heap.size) (K3 : Beside R (w.heap.size + 1) w1 w2)
    (G6 : Hid (Below (w.heap.size + 1) (w.alloc (.cells #[.int .u8 0, .slice none 0 0] 109)) w1)) :
    w2.cell? ⟨w.heap.size, 0, none⟩ = some (.int .u8 0) ∧ w2.cell? ⟨w.heap.size, 1, none⟩ = some (.slice none 0 0) ∧ (∀ o, w2.frozen? ⟨w.heap.size, o, none⟩ = false) ∧
      Hid (Beside R (w.heap.size + 1) (w.alloc (.cells #[.int .u8 0, .slice none 0 0] 109)) w2) := by
  have hb : Beside R (w.heap.size + 1) (w.alloc (.cells #[.int .u8 0, .slice none 0 0] 109)) w2 := (Beside.of_below G6.out).trans K3
  refine ⟨?_, ?_, ?_, hb⟩
  · rw [hb.cell (by simp) (by show w.heap.size ≠ R; omega)]; simp [go_sem]
  · rw [hb.cell (by simp) (by show w.heap.size ≠ R; omega)]; simp [go_sem]
  · intro o; rw [hb.frozen (by simp) (by show w.heap.size ≠ R; omega)]; simp [go_sem]
theorem Beside.un_drew {R B : Nat} {a w : World} (h : Beside R B a w.drew) : Beside R B a w := ⟨h.os, h.tape, h.output, h.size, h.block⟩

set_option maxHeartbeats 400000 in
set_option maxRecDepth 100000 in
theorem body_short (R D n size : Nat) (ds : List Value) (ae au : Addr) (w : World) (hds : ds.length = n)
    (hn : n ≤ 1048576) (h1 : 1 ≤ size) (h2 : size ≤ 65536) (hs : n < size) (hn0 : 0 < n) (h6R : 6 < R) (hDR : D ≠ R) (hRw : R < w.heap.size) (hDw : D < w.heap.size)
    (hR : w.heap[R]? = some (rdr (.slice (some ⟨D, 0, none⟩) n n) 0 (-1))) (hD : w.heap[D]? = some (.cells ds.toArray 5 (0, 0))) (hint : ∀ v ∈ ds, ∃ x : Int, v = .int .u8 x)
    (he : w.cell? ⟨5, 0, none⟩ = some (.iface 150 (.pointer (some ae)))) (hu : w.cell? ⟨6, 0, none⟩ = some (.iface 150 (.pointer (some au)))) :
    Calls Tryd.prog 22 #[.iface 106 (.pointer (some ⟨R, 0, none⟩)), .int .i64 size, .nilFunc] w fun e w' => ∃ a, e = .returned (.tuple #[.agg #[.int .u8 0, .slice none 0 0], .iface 150 (.pointer (some a))]) ∧
      ∃ p, w'.heap[R]? = some (rdr (.slice (some ⟨D, 0, none⟩) n n) n p) ∧ Beside R w.heap.size w w' := by
  have hone : ∀ v ∈ ds, v.oneCell' = true := fun v hv => by obtain ⟨x, rfl⟩ := hint v hv; rfl
  have HI : Hid (∀ v ∈ ds, ∃ x : Int, v = .int .u8 x) := hint
  clear hint
  have hnn := neq_nil
  have hmk := make_room size h2
  have hs0 : ¬ size = 0 := by omega
  obtain ⟨i0, hi, hz0, hz1, hz2⟩ := info_parts info5
  have hown : Hid (((w.alloc (.cells #[.int .u8 0, .slice none 0 0] 109)).alloc (.cells (madeCells #[.int .u8 0] size) 5)).ownsRow (w.heap.size + 1) 5 1 (.slice (some ⟨w.heap.size + 1, 0, none⟩) 0 size) 0 []) := by
    have := World.ownsRow_made (base := w.heap.size + 1) (e := 5) (size := 1) (w.alloc (.cells #[.int .u8 0, .slice none 0 0] 109)) (madeCells #[.int .u8 0] size) size (by simp) (by simp only [maxLen]; omega) (by rw [size_madeCells]; omega)
    show World.ownsRow _ _ _ _ _ _ _
    simpa using this
  have H1 : Hid (w.heap[R]? = some (rdr (.slice (some ⟨D, 0, none⟩) n n) 0 (-1))) := hR
  have H2 : Hid (w.heap[D]? = some (.cells ds.toArray 5 (0, 0))) := hD
  have H5 : Hid (w.cell? ⟨5, 0, none⟩ = some (.iface 150 (.pointer (some ae)))) := he
  have H6 : Hid (w.cell? ⟨6, 0, none⟩ = some (.iface 150 (.pointer (some au)))) := hu
  clear hR hD he hu
  go_enter Tryd.func22, Tryd.ntmps22
  go_wp2
  refine wp_loop_rounds 2 ?_
  rw [rounds_succ]
  go_wp2_with (at_builtin; refine wpList_append_fits_any _ rfl (.tmp 43) (.tmp 44) 31 rfl (w.heap.size + 1) 5 i0 1 Tryd.underlying31 hi hz1 (w.heap.size + 1) 0 size [] rfl hown.out none 0 0 [] rfl rfl (fun _ => ⟨rfl, rfl⟩) (fun _ h => by cases h) (fun _ h => by cases h) (by omega) ?_)
  intro w1 hown1 hgrow1
  have F := first_facts ds hDw hRw H1 H2 hone hown1 hgrow1
  clear hown1 hgrow1 hmk hown hi hz0 hz1 hz2 H1 H2 hone
  obtain ⟨cur, G1, G2, G3, G4, G5, G6⟩ := F
  go_wp2_with fail
  refine (full_short R D n (w.heap.size + 1) 0 size size 0 (-1) cur ds ae au w1 hn hn0 (by omega) (Nat.le_refl _) (by omega) (by omega) hDR h6R G3.out (old_cell G6 (by omega) H5) (old_cell G6 (by omega) H6) G1.out (by omega) (by omega) (all_cells G4) G5.out).mono ?_
  rintro e w2 ⟨rfl, K2, K3⟩
  have F := third_facts hRw K3 G6
  have K2' : Hid (w2.heap[R]? = some (rdr (.slice (some ⟨D, 0, none⟩) n n) n (-1))) := K2
  obtain ⟨c0, c1, f0, hb⟩ := F
  clear K2 K3 G1 G3 G4 G5 G6
  go_wp2
  refine bodyPost_ret (v := .tuple #[.agg #[.int .u8 0, .slice none 0 0], .iface 150 (.pointer (some au))]) (by simp [results, Tryd.results22, go_sem, c0, c1]) rfl ⟨au, rfl, -1, ?_, ?_⟩
  · show (((w2.setCell _ _).setCell _ _).drew).heap[R]? = _
    rw [heap_set2 _ _ _ _ _ (by omega)]; exact K2'.out
  · exact (beside_set2 hb _ _).un_drew

theorem first_facts0 {w w1 : World} {R size : Nat} {sv : Value} (hRw : R < w.heap.size) (H1 : Hid (w.heap[R]? = some (rdr sv 0 (-1))))
    (hown1 : w1.ownsRow (w.heap.size + 1) 5 1 (.slice (some ⟨w.heap.size + 1, 0, none⟩) 0 size) 0 [])
    (hgrow1 : ((w.alloc (.cells #[.int .u8 0, .slice none 0 0] 109)).alloc (.cells (madeCells #[.int .u8 0] size) 5)).grownBy w1 (some (w.heap.size + 1))) :
    ∃ cur : List Value, Hid (w1.heap[w.heap.size + 1]? = some (.cells cur.toArray 5 (0, 0))) ∧ cur.length = size ∧ Hid (w1.heap[R]? = some (rdr sv 0 (-1))) ∧
      Hid (Below (w.heap.size + 1) (w.alloc (.cells #[.int .u8 0, .slice none 0 0] 109)) w1) := by
  obtain ⟨cur, h1, h2, _, _⟩ := owned_block hown1
  have hb : Below (w.heap.size + 1) (w.alloc (.cells #[.int .u8 0, .slice none 0 0] 109)) w1 :=
    ((Below.refl _ _).alloc (by simp) _).grown hgrow1 (by simp) (by intro k hk; simp at hk; omega)
  refine ⟨cur, h1, h2, ?_, hb⟩
  show _ = _
  rw [hb.block R (by omega), Below.heap_alloc _ _ _ hRw]; exact H1.out

set_option maxHeartbeats 400000 in
set_option maxRecDepth 100000 in
theorem body_none (R c size : Nat) (sv : Option Addr) (ae : Addr) (w : World)
    (h1 : 1 ≤ size) (h2 : size ≤ 65536) (h6R : 6 < R) (hRw : R < w.heap.size)
    (hR : w.heap[R]? = some (rdr (.slice sv 0 c) 0 (-1))) (he : w.cell? ⟨5, 0, none⟩ = some (.iface 150 (.pointer (some ae)))) :
    Calls Tryd.prog 22 #[.iface 106 (.pointer (some ⟨R, 0, none⟩)), .int .i64 size, .nilFunc] w fun e w' => ∃ a, e = .returned (.tuple #[.agg #[.int .u8 0, .slice none 0 0], .iface 150 (.pointer (some a))]) ∧
      ∃ p, w'.heap[R]? = some (rdr (.slice sv 0 c) 0 p) ∧ Beside R w.heap.size w w' := by
  have hnn := neq_nil
  have hmk := make_room size h2
  have hs0 : ¬ size = 0 := by omega
  obtain ⟨i0, hi, hz0, hz1, hz2⟩ := info_parts info5
  have hown : Hid (((w.alloc (.cells #[.int .u8 0, .slice none 0 0] 109)).alloc (.cells (madeCells #[.int .u8 0] size) 5)).ownsRow (w.heap.size + 1) 5 1 (.slice (some ⟨w.heap.size + 1, 0, none⟩) 0 size) 0 []) := by
    have := World.ownsRow_made (base := w.heap.size + 1) (e := 5) (size := 1) (w.alloc (.cells #[.int .u8 0, .slice none 0 0] 109)) (madeCells #[.int .u8 0] size) size (by simp) (by simp only [maxLen]; omega) (by rw [size_madeCells]; omega)
    show World.ownsRow _ _ _ _ _ _ _
    simpa using this
  have H1 : Hid (w.heap[R]? = some (rdr (.slice sv 0 c) 0 (-1))) := hR
  have H5 : Hid (w.cell? ⟨5, 0, none⟩ = some (.iface 150 (.pointer (some ae)))) := he
  clear hR he
  go_enter Tryd.func22, Tryd.ntmps22
  go_wp2
  refine wp_loop_rounds 2 ?_
  rw [rounds_succ]
  go_wp2_with (at_builtin; refine wpList_append_fits_any _ rfl (.tmp 43) (.tmp 44) 31 rfl (w.heap.size + 1) 5 i0 1 Tryd.underlying31 hi hz1 (w.heap.size + 1) 0 size [] rfl hown.out none 0 0 [] rfl rfl (fun _ => ⟨rfl, rfl⟩) (fun _ h => by cases h) (fun _ h => by cases h) (by omega) ?_)
  intro w1 hown1 hgrow1
  have F := first_facts0 hRw H1 hown1 hgrow1
  clear hown1 hgrow1 hmk hown hi hz0 hz1 hz2 H1
  obtain ⟨cur, G1, G2, G3, G6⟩ := F
  go_wp2_with fail
  refine (full_none R 0 c (w.heap.size + 1) 0 size size sv 0 (-1) ae w1 (by omega) (by omega) (by omega) (Nat.le_refl _) (by omega) G3.out (old_cell G6 (by omega) H5)).mono ?_
  rintro e w2 ⟨rfl, m, rfl⟩
  have F := third_facts hRw ((Beside.refl R (w.heap.size + 1) w1).drewN m) G6
  have K2' : Hid ((w1.drewN m).heap[R]? = some (rdr (.slice sv 0 c) 0 (-1))) := G3.out
  obtain ⟨c0, c1, f0, hb⟩ := F
  clear G1 G3 G6
  go_wp2
  refine bodyPost_ret (v := .tuple #[.agg #[.int .u8 0, .slice none 0 0], .iface 150 (.pointer (some ae))]) (by simp [results, Tryd.results22, go_sem, c0, c1]) rfl ⟨ae, rfl, -1, ?_, ?_⟩
  · show ((((w1.drewN m).setCell _ _).setCell _ _).drew).heap[R]? = _
    rw [heap_set2 _ _ _ _ _ (by omega)]; exact K2'.out
  · exact (beside_set2 hb _ _).un_drew

end Go.Proofs.Qxb6612427aDoor
