import Derived.Test.Qxb6612427aDoorRd
import Derived.LaidEql
import Derived.LoopN
namespace Go.Proofs.Qxb6612427aDoor
open Go.RowKit
set_option linter.unusedVariables false

/-- Below block B, but for block R, the world w' is as w was. -/
structure Beside (R B : Nat) (w w' : World) : Prop where
  os : w'.os = w.os
  tape : w'.tape = w.tape
  output : w'.output = w.output
  size : w.heap.size ≤ w'.heap.size
  block : ∀ k, k < B → k ≠ R → w'.heap[k]? = w.heap[k]?

theorem Beside.refl (R B : Nat) (w : World) : Beside R B w w := ⟨rfl, rfl, rfl, Nat.le_refl _, fun _ _ _ => rfl⟩
theorem Beside.trans {R B : Nat} {a b c : World} (h : Beside R B a b) (k : Beside R B b c) : Beside R B a c :=
  ⟨k.os.trans h.os, k.tape.trans h.tape, k.output.trans h.output, Nat.le_trans h.size k.size, fun i hi hn => (k.block i hi hn).trans (h.block i hi hn)⟩
theorem Beside.mono {R B B' : Nat} {w w' : World} (h : Beside R B w w') (hB : B' ≤ B) : Beside R B' w w' := ⟨h.os, h.tape, h.output, h.size, fun k hk => h.block k (Nat.lt_of_lt_of_le hk hB)⟩
theorem Beside.of_below {R B : Nat} {w w' : World} (h : Below B w w') : Beside R B w w' := ⟨h.os, h.tape, h.output, h.size, fun k hk _ => h.block k hk⟩
theorem Beside.below {R B : Nat} {w w' : World} (h : Beside R B w w') (hB : B ≤ R) : Below B w w' := ⟨h.os, h.tape, h.output, h.size, fun k hk => h.block k hk (by omega)⟩
theorem Beside.setCell {R B : Nat} {a w : World} (h : Beside R B a w) (o : Nat) (u : Value) : Beside R B a (w.setCell ⟨R, o, none⟩ u) :=
  h.trans ⟨rfl, rfl, rfl, by simp [World.setCell], fun k _ hn => Below.heap_setCell _ _ _ _ hn⟩
theorem Beside.cell {R B : Nat} {w w' : World} (h : Beside R B w w') {p : Addr} (hp : p.block < B) (hn : p.block ≠ R) : w'.cell? p = w.cell? p := World.cell?_of_block (w := w) (h.block p.block hp hn)
theorem Beside.frozen {R B : Nat} {w w' : World} (h : Beside R B w w') {p : Addr} (hp : p.block < B) (hn : p.block ≠ R) : w'.frozen? p = w.frozen? p := World.frozen?_of_block (w := w) (h.block p.block hp hn)

theorem Beside.of_drew {R B : Nat} {w w' : World} (h : Beside R B w.drew w') : Beside R B w w' := ⟨h.os, h.tape, h.output, h.size, h.block⟩
theorem Beside.drewN {R B : Nat} {a w : World} (h : Beside R B a w) (m : Nat) : Beside R B a (w.drewN m) := ⟨h.os, h.tape, h.output, h.size, h.block⟩

/-- The reader's block: data at sv (n bytes), place i. -/
def rdr (sv : Value) (i p : Int) : Obj := .cells #[sv, .int .i64 i, .int .i64 p] 128 (0, 0)
theorem rdr_cells {w : World} {R : Nat} {sv : Value} {i p : Int} (h : w.heap[R]? = some (rdr sv i p)) :
    w.cell? ⟨R, 0, none⟩ = some sv ∧ w.cell? ⟨R, 1, none⟩ = some (.int .i64 i) ∧ w.cell? ⟨R, 2, none⟩ = some (.int .i64 p) ∧ (∀ o, w.frozen? ⟨R, o, none⟩ = false) := by
  simp [World.cell?, World.frozen?, h, rdr]
theorem rdr_set {w : World} {R : Nat} {sv : Value} {i p : Int} (h : w.heap[R]? = some (rdr sv i p)) (j : Int) :
    (w.setCell ⟨R, 1, none⟩ (.int .i64 j)).heap[R]? = some (rdr sv j p) ∧ (w.setCell ⟨R, 2, none⟩ (.int .i64 j)).heap[R]? = some (rdr sv i j) := by
  simp [World.setCell, Array.getElem?_modify, h, rdr]

theorem read_more (R D n B off bl bc : Nat) (i : Nat) (p : Int) (cur cs : List Value) (w : World)
    (hn : n ≤ 1048576) (hi : i < n) (hRB : R < B) (hDR : D ≠ R)
    (hR : w.heap[R]? = some (rdr (.slice (some ⟨D, 0, none⟩) n n) i p))
    (hB : w.heap[B]? = some (.cells cur.toArray 5 (0, 0))) (hcs : cs.length = Nat.min (n - i) bl) (hbl : off + bl ≤ cur.length) (hbm : bl ≤ 1048576)
    (hd : ∀ j v, cs[j]? = some v → w.cell? ⟨D, i + j, none⟩ = some v) (hone : ∀ v ∈ cs, v.oneCell' = true) :
    Calls Tryd.prog 90 #[.pointer (some ⟨R, 0, none⟩), .slice (some ⟨B, off, none⟩) bl bc] w fun e w' => e = .returned (.tuple #[.int .i64 cs.length, .nilIface]) ∧
      w'.heap[B]? = some (.cells (splice cur off cs).toArray 5 (0, 0)) ∧ w'.heap[R]? = some (rdr (.slice (some ⟨D, 0, none⟩) n n) (i + cs.length : Nat) (-1)) ∧ Beside R B w w' := by
  obtain ⟨h0, h1, h2, hf⟩ := rdr_cells hR
  refine (read_some R D n B off bl bc i p cur cs w hn hi hRB hDR h0 h1 h2 (hf 1) (hf 2) hB hcs hbl hbm hd hone).mono ?_
  rintro e w' ⟨he, hb, w1, hbel, rfl⟩
  refine ⟨he, hb, ?_, ?_⟩
  · exact (rdr_set (p := -1) (by rw [hbel.block R hRB]; exact (rdr_set hR _).2) _).1
  · exact ((Beside.refl R B w).setCell 2 _ |>.trans (Beside.of_below hbel)).setCell 1 _

theorem nil_ahead (a : Addr) (w : World) : (nilAhead 311 106 (.pointer (some a)) "Read").run Tryd.prog w = .ok (some false) w := by kernel_rfl
theorem method_read (a : Addr) (w : World) : (method 311 106 (.pointer (some a)) "Read").run Tryd.prog w = .ok (90, .pointer (some a)) w := by kernel_rfl

set_option maxHeartbeats 400000 in
set_option maxRecDepth 100000 in
theorem atleast_full (R D n B off bl bc : Nat) (i : Nat) (p : Int) (cur cs : List Value) (w : World)
    (hn : n ≤ 1048576) (hi : i + bl ≤ n) (hb0 : 1 ≤ bl) (hbc : bl ≤ bc) (hRB : R < B) (hDR : D ≠ R)
    (hR : w.heap[R]? = some (rdr (.slice (some ⟨D, 0, none⟩) n n) i p))
    (hB : w.heap[B]? = some (.cells cur.toArray 5 (0, 0))) (hcs : cs.length = bl) (hbl : off + bl ≤ cur.length)
    (hd : ∀ j v, cs[j]? = some v → w.cell? ⟨D, i + j, none⟩ = some v) (hone : ∀ v ∈ cs, v.oneCell' = true) :
    Calls Tryd.prog 42 #[.iface 106 (.pointer (some ⟨R, 0, none⟩)), .slice (some ⟨B, off, none⟩) bl bc, .int .i64 bl] w fun e w' => e = .returned (.tuple #[.int .i64 bl, .nilIface]) ∧
      w'.heap[B]? = some (.cells (splice cur off cs).toArray 5 (0, 0)) ∧ w'.heap[R]? = some (rdr (.slice (some ⟨D, 0, none⟩) n n) (i + bl : Nat) (-1)) ∧ Beside R B w w' := by
  have hbc0 : ¬ bc = 0 := by omega
  have hnil := nil_ahead ⟨R, 0, none⟩
  have hmet := method_read ⟨R, 0, none⟩
  have RM : Hid (∀ w, w.heap[R]? = some (rdr (.slice (some ⟨D, 0, none⟩) n n) i p) → w.heap[B]? = some (.cells cur.toArray 5 (0, 0)) → (∀ j v, cs[j]? = some v → w.cell? ⟨D, i + j, none⟩ = some v) →
      Calls Tryd.prog 90 #[.pointer (some ⟨R, 0, none⟩), .slice (some ⟨B, off, none⟩) bl bc] w fun e w' => e = .returned (.tuple #[.int .i64 bl, .nilIface]) ∧
      w'.heap[B]? = some (.cells (splice cur off cs).toArray 5 (0, 0)) ∧ w'.heap[R]? = some (rdr (.slice (some ⟨D, 0, none⟩) n n) (i + bl : Nat) (-1)) ∧ Beside R B w w') := by
    intro w hR hB hd
    have := read_more R D n B off bl bc i p cur cs w hn (by omega) hRB hDR hR hB (by rw [hcs]; exact (Nat.min_eq_right (by omega)).symm) hbl (by omega) hd hone
    rw [hcs] at this
    exact this
  have H1 : Hid (w.heap[R]? = some (rdr (.slice (some ⟨D, 0, none⟩) n n) i p)) := hR
  have H2 : Hid (w.heap[B]? = some (.cells cur.toArray 5 (0, 0))) := hB
  have H3 : Hid (∀ j v, cs[j]? = some v → w.cell? ⟨D, i + j, none⟩ = some v) := hd
  clear hcs hone hd hR hB
  go_enter Tryd.func42, Tryd.ntmps42
  go_wp2
  refine wp_loop_rounds 2 ?_
  rw [rounds_succ]
  go_wp2
  go_region_with (go_at_call 90; refine (RM.out w.drew H1.out H2.out H3.out).mono ?_; rintro e w' ⟨rfl, hb, hr, hbe⟩)
  go_wp2
  rw [rounds_succ]
  go_wp2
  go_ret2
  exact ⟨rfl, hb, hr, hbe.of_drew⟩

theorem info150 : (Tryd.prog.info? 150).map (·.comparable) = some true := by kernel_rfl
theorem info152 : (Tryd.prog.info? 152).map (·.size) = some 1 := by kernel_rfl
theorem eql_same (a : Addr) (w : World) : (binOp .eql 34 (.iface 150 (.pointer (some a))) (.iface 150 (.pointer (some a)))).run Tryd.prog w = .ok (.bool true) w := by
  obtain ⟨i, hi, hc⟩ := Option.map_eq_some_iff.1 info150
  obtain ⟨j, hj, _⟩ := Option.map_eq_some_iff.1 info152
  exact run_eql_iface_ptr_same w a Tryd.underlying34 Tryd.underlying150 hi hc hj

set_option maxHeartbeats 400000 in
set_option maxRecDepth 100000 in
/-- nothing is left: (0, io.EOF) -/
theorem atleast_none (R n c B off bl bc : Nat) (sv : Option Addr) (i : Nat) (p : Int) (ae : Addr) (w : World)
    (hn : n ≤ 1048576) (hi : n ≤ i) (hb0 : 1 ≤ bl) (hbc : bl ≤ bc) (hbm : bl ≤ 1048576)
    (hR : w.heap[R]? = some (rdr (.slice sv n c) i p)) (he : w.cell? ⟨5, 0, none⟩ = some (.iface 150 (.pointer (some ae)))) :
    Calls Tryd.prog 42 #[.iface 106 (.pointer (some ⟨R, 0, none⟩)), .slice (some ⟨B, off, none⟩) bl bc, .int .i64 bl] w fun e w' => e = .returned (.tuple #[.int .i64 0, .iface 150 (.pointer (some ae))]) ∧ ∃ m, w' = w.drewN m := by
  obtain ⟨h0, h1, h2, hf⟩ := rdr_cells hR
  have hbc0 : ¬ bc = 0 := by omega
  have hnil := nil_ahead ⟨R, 0, none⟩
  have hmet := method_read ⟨R, 0, none⟩
  go_enter Tryd.func42, Tryd.ntmps42
  go_wp2
  refine wp_loop_rounds 2 ?_
  rw [rounds_succ]
  go_wp2
  go_region_with (go_at_call 90; refine (read_eof R sv n c i p _ _ w.drew hn (by omega) h0 h1 h2 he).mono ?_; rintro e w' ⟨rfl, m, rfl⟩)
  go_wp2
  rw [rounds_succ]
  go_wp2
  go_ret2
  exact ⟨rfl, _, rfl⟩

set_option maxHeartbeats 400000 in
set_option maxRecDepth 100000 in
/-- fewer bytes than asked for are left: (what was left, io.ErrUnexpectedEOF) -/
theorem atleast_short (R D n B off bl bc : Nat) (i : Nat) (p : Int) (cur cs : List Value) (ae au : Addr) (w : World)
    (hn : n ≤ 1048576) (hi : i < n) (hi2 : n < i + bl) (hbc : bl ≤ bc) (hbm : bl ≤ 1048576) (hRB : R < B) (hDR : D ≠ R) (h6R : 6 < R)
    (hR : w.heap[R]? = some (rdr (.slice (some ⟨D, 0, none⟩) n n) i p)) (he : w.cell? ⟨5, 0, none⟩ = some (.iface 150 (.pointer (some ae)))) (hu : w.cell? ⟨6, 0, none⟩ = some (.iface 150 (.pointer (some au))))
    (hB : w.heap[B]? = some (.cells cur.toArray 5 (0, 0))) (hcs : cs.length = n - i) (hbl : off + bl ≤ cur.length)
    (hd : ∀ j v, cs[j]? = some v → w.cell? ⟨D, i + j, none⟩ = some v) (hone : ∀ v ∈ cs, v.oneCell' = true) :
    Calls Tryd.prog 42 #[.iface 106 (.pointer (some ⟨R, 0, none⟩)), .slice (some ⟨B, off, none⟩) bl bc, .int .i64 bl] w fun e w' => e = .returned (.tuple #[.int .i64 (n - i : Nat), .iface 150 (.pointer (some au))]) ∧
      w'.heap[R]? = some (rdr (.slice (some ⟨D, 0, none⟩) n n) n (-1)) ∧ Beside R B w w' := by
  have hbc0 : ¬ bc = 0 := by omega
  have hbc1 : ¬ bc = n - i := by omega
  have hnil := nil_ahead ⟨R, 0, none⟩
  have hmet := method_read ⟨R, 0, none⟩
  have heq := eql_same ae
  have RM : Hid (∀ w, w.heap[R]? = some (rdr (.slice (some ⟨D, 0, none⟩) n n) i p) → w.heap[B]? = some (.cells cur.toArray 5 (0, 0)) → (∀ j v, cs[j]? = some v → w.cell? ⟨D, i + j, none⟩ = some v) →
      w.cell? ⟨5, 0, none⟩ = some (.iface 150 (.pointer (some ae))) → w.cell? ⟨6, 0, none⟩ = some (.iface 150 (.pointer (some au))) →
      Calls Tryd.prog 90 #[.pointer (some ⟨R, 0, none⟩), .slice (some ⟨B, off, none⟩) bl bc] w fun e w' => e = .returned (.tuple #[.int .i64 (n - i : Nat), .nilIface]) ∧
      w'.heap[R]? = some (rdr (.slice (some ⟨D, 0, none⟩) n n) n (-1)) ∧ Beside R B w w' ∧ w'.cell? ⟨5, 0, none⟩ = some (.iface 150 (.pointer (some ae))) ∧ w'.cell? ⟨6, 0, none⟩ = some (.iface 150 (.pointer (some au)))) := by
    intro w hR hB hd he hu
    have := read_more R D n B off bl bc i p cur cs w hn (by omega) hRB hDR hR hB (by rw [hcs]; exact (Nat.min_eq_left (by omega)).symm) hbl (by omega) hd hone
    rw [hcs, show i + (n - i) = n from by omega] at this
    exact this.mono fun e w' ⟨a, b, c, d⟩ => ⟨a, c, d, (d.cell (p := ⟨5, 0, none⟩) (by show 5 < B; omega) (by show 5 ≠ R; omega)).trans he, (d.cell (p := ⟨6, 0, none⟩) (by show 6 < B; omega) (by show 6 ≠ R; omega)).trans hu⟩
  have H1 : Hid (w.heap[R]? = some (rdr (.slice (some ⟨D, 0, none⟩) n n) i p)) := hR
  have H2 : Hid (w.heap[B]? = some (.cells cur.toArray 5 (0, 0))) := hB
  have H3 : Hid (∀ j v, cs[j]? = some v → w.cell? ⟨D, i + j, none⟩ = some v) := hd
  have H4 : Hid (w.cell? ⟨5, 0, none⟩ = some (.iface 150 (.pointer (some ae)))) := he
  have H5 : Hid (w.cell? ⟨6, 0, none⟩ = some (.iface 150 (.pointer (some au)))) := hu
  clear hcs hone hd hR hB he hu
  go_enter Tryd.func42, Tryd.ntmps42
  go_wp2
  refine wp_loop_rounds 3 ?_
  rw [rounds_succ]
  go_wp2
  go_region_with (go_at_call 90; refine (RM.out w.drew H1.out H2.out H3.out H4.out H5.out).mono ?_; rintro e w1 ⟨rfl, hr, hbe, he1, hu1⟩)
  have hle : n - i ≤ bl := by omega
  obtain ⟨h0, h1, h2, hf⟩ := rdr_cells hr
  have H6 : Hid (w1.heap[R]? = some (rdr (.slice (some ⟨D, 0, none⟩) n n) n (-1))) := hr
  clear hr
  go_wp2
  rw [rounds_succ]
  go_wp2
  go_region_with (go_at_call 90; refine (read_eof R _ n n n (-1) _ _ w1.drew hn (by omega) h0 h1 h2 he1).mono ?_; rintro e w' ⟨rfl, m, rfl⟩)
  go_wp2
  rw [rounds_succ]
  go_wp2
  go_ret2
  exact ⟨rfl, H6.out, hbe.of_drew.drewN _⟩
end Go.Proofs.Qxb6612427aDoor
