import Derived.Test.Qxb6612720aPa
namespace Go.Proofs.Qxb6612720a
open Go.RowKit
set_option linter.unusedVariables false

/-- A policy's target: the five cells, and what lies behind the environment's pointer. -/
structure Tg where
  T : ByteArray
  i : Ls
  j : Ls
  k : Ls
  E : Option Addr
  s : Ls
  d : Ls
structure TgL (w : World) (t : Tg) : Prop where
  l1 : Lst w t.i
  l2 : Lst w t.j
  l3 : Lst w t.k
  l5 : Lst w t.s
  l6 : Lst w t.d
theorem TgL.below {w w' : World} {t : Tg} (h : TgL w t) (hb : Below w.heap.size w w') : TgL w' t := ⟨h.l1.below hb, h.l2.below hb, h.l3.below hb, h.l5.below hb, h.l6.below hb⟩
def EnvAt (w : World) (B : Nat) (t : Tg) : Prop := t.E = none ∨ ∃ b, B < b ∧ b < w.heap.size ∧ t.E = some ⟨b, 0, none⟩ ∧ w.cell? ⟨b, 0, none⟩ = some (.slice t.s.a t.s.n t.s.c) ∧ w.cell? ⟨b, 1, none⟩ = some (.slice t.d.a t.d.n t.d.c)
theorem EnvAt.below {w w' : World} {B : Nat} {t : Tg} (h : EnvAt w B t) (hb : Below w.heap.size w w') : EnvAt w' B t := by
  rcases h with h | ⟨b, h1, h2, h3, h4, h5⟩
  · exact Or.inl h
  · exact Or.inr ⟨b, h1, Nat.lt_of_lt_of_le h2 hb.size, h3, (hb.cell (p := ⟨b, 0, none⟩) h2).trans h4, (hb.cell (p := ⟨b, 1, none⟩) h2).trans h5⟩
theorem EnvAt.mono {w : World} {B B' : Nat} {t : Tg} (h : EnvAt w B t) (hb : B' ≤ B) : EnvAt w B' t := by
  rcases h with h | ⟨b, h1, h2⟩
  · exact Or.inl h
  · exact Or.inr ⟨b, by omega, h2⟩
theorem cell_setOther (w : World) (a : Addr) (v : Value) (b j : Nat) (h : b ≠ a.block) : (w.setCell a v).cell? ⟨b, j, none⟩ = w.cell? ⟨b, j, none⟩ :=
  World.cell?_of_block (Below.heap_setCell _ _ _ _ h)
theorem EnvAt.set {w : World} {B j : Nat} {t : Tg} {v : Value} (h : EnvAt w B t) : EnvAt (w.setCell ⟨B, j, none⟩ v) B t := by
  rcases h with h | ⟨b, h1, h2, h3, h4, h5⟩
  · exact Or.inl h
  · exact Or.inr ⟨b, h1, by simpa [World.setCell] using h2, h3, (cell_setOther _ _ _ _ _ (by show b ≠ B; omega)).trans h4, (cell_setOther _ _ _ _ _ (by show b ≠ B; omega)).trans h5⟩

/-- What toTarget hands back. -/
def TgtR (w0 w w' : World) (e : Ending) : Prop := ∃ t : Tg, e = .returned (.agg #[.string t.T, .slice t.i.a t.i.n t.i.c, .slice t.j.a t.j.n t.j.c, .slice t.k.a t.k.n t.k.c, .pointer t.E]) ∧ TgL w0 t ∧ EnvAt w' w.heap.size t

set_option maxHeartbeats 1000000 in
set_option maxRecDepth 100000 in
theorem target_any (p : Pl) (w0 w : World) (h1 : Lst w0 p.i) (h2 : Lst w0 p.j) (h3 : Lst w0 p.k) (h5 : Lst w0 p.s) (h6 : Lst w0 p.d) :
    Calls Try.prog 22 #[.agg #[.string p.T, .slice p.i.a p.i.n p.i.c, .slice p.j.a p.j.n p.j.c, .slice p.k.a p.k.n p.k.c, .bool p.e, .slice p.s.a p.s.n p.s.c, .slice p.d.a p.d.n p.d.c, .slice p.y.a p.y.n p.y.c]] w fun e w' => TgtR w0 w w' e ∧ Below w.heap.size w w' := by
  cases he : p.e with
  | false =>
    have HT : Hid (TgL w0 ⟨p.T, p.i, p.j, p.k, none, p.s, p.d⟩) := ⟨h1, h2, h3, h5, h6⟩
    clear h1 h2 h3 h5 h6 he
    go_enter Try.func22, Try.ntmps22
    go_wp2
    refine bodyPost_ret (v := .agg #[.string p.T, .slice p.i.a p.i.n p.i.c, .slice p.j.a p.j.n p.j.c, .slice p.k.a p.k.n p.k.c, .pointer none]) (by simp [results, Try.results22, go_sem]) rfl ⟨⟨⟨p.T, p.i, p.j, p.k, none, p.s, p.d⟩, rfl, HT.out, Or.inl rfl⟩, ?_⟩
    repeat' first | exact Below.refl _ _ | (refine Below.setCell ?_ (by simp) _) | (refine Below.alloc ?_ (by simp <;> omega) _)
  | true =>
    have HT : Hid (∀ E, TgL w0 ⟨p.T, p.i, p.j, p.k, E, p.s, p.d⟩) := fun E => ⟨h1, h2, h3, h5, h6⟩
    clear h1 h2 h3 h5 h6 he
    go_enter Try.func22, Try.ntmps22
    go_wp2
    refine bodyPost_ret (v := .agg #[.string p.T, .slice p.i.a p.i.n p.i.c, .slice p.j.a p.j.n p.j.c, .slice p.k.a p.k.n p.k.c, .pointer (some ⟨w.heap.size + 3, 0, none⟩)]) (by simp [results, Try.results22, go_sem]) rfl ⟨⟨⟨p.T, p.i, p.j, p.k, some ⟨w.heap.size + 3, 0, none⟩, p.s, p.d⟩, rfl, HT.out _, Or.inr ⟨w.heap.size + 3, by omega, ?_, rfl, ?_, ?_⟩⟩, ?_⟩
    · simp
    · simp [go_sem]
    · simp [go_sem]
    · repeat' first | exact Below.refl _ _ | (refine Below.setCell ?_ (by simp) _) | (refine Below.alloc ?_ (by simp <;> omega) _)

theorem row_below {w w' : World} {b t n B : Nat} {f : Nat → Value} (h : w.rowIs b t n f) (hb : Below B w w') (hlt : b < B) : w'.rowIs b t n f := h.of_block (hb.block b hlt)
theorem some_row (w : World) (c : Array Value) (t : TypeId) : ∃ f, (w.alloc (.cells c t)).rowIs w.heap.size t c.size f :=
  ⟨fun i => c[i]!, World.rowIs_alloc w c t _ (fun i hi => by simp [hi])⟩
theorem made_at (z : Array Value) (N i : Nat) (hi : i < N) : (madeCells z N)[i]? = some (z[i % z.size]!) := by simp [madeCells, hi]

def em : ByteArray := ⟨#[]⟩
theorem info45 : (Try.prog.info? 45).map (fun i => (i.zero, i.size, i.bytes)) = some (some (.agg #[.string em, .slice none 0 0, .slice none 0 0, .slice none 0 0, .pointer none, .slice none 0 0]), 6, 120) := by kernel_rfl
theorem info49 : (Try.prog.info? 49).map (fun i => (i.zero, i.size, i.bytes)) = some (some (.agg #[.string em, .pointer none]), 2, 24) := by kernel_rfl
def zero45 : Array Value := #[.string em, .slice none 0 0, .slice none 0 0, .slice none 0 0, .pointer none, .slice none 0 0]
def zero49 : Array Value := #[.string em, .pointer none]
theorem make45 (n : Nat) (h : n ≤ 65536) (w : World) : (Instr.makeSlice 27 (.int .i64 n) (.int .i64 n)).run Try.prog w = .ok (.slice (some ⟨w.heap.size, 0, none⟩) n n) (w.alloc (.cells (madeCells zero45 (n * 6)) 45)) := by
  obtain ⟨i0, hi, hz0, hz1, hz2⟩ := info_parts info45
  have := run_make (P := Try.prog) w 27 45 i0 _ Try.underlying27 hi hz0 .i64 .i64 n n (by omega) (by omega) (by rw [hz2]; omega) (by omega)
  rw [hz1] at this
  simpa [Value.cells, zero45] using this
theorem make49 (n : Nat) (h : n ≤ 65537) (w : World) : (Instr.makeSlice 43 (.int .i64 n) (.int .i64 n)).run Try.prog w = .ok (.slice (some ⟨w.heap.size, 0, none⟩) n n) (w.alloc (.cells (madeCells zero49 (n * 2)) 49)) := by
  obtain ⟨i0, hi, hz0, hz1, hz2⟩ := info_parts info49
  have := run_make (P := Try.prog) w 43 49 i0 _ Try.underlying43 hi hz0 .i64 .i64 n n (by omega) (by omega) (by rw [hz2]; omega) (by omega)
  rw [hz1] at this
  simpa [Value.cells, zero49] using this

/-- A policy's cells in a row, at o. -/
structure Cells6 (f : Nat → Value) (o : Nat) (t : Tg) : Prop where
  c0 : f o = .string t.T
  c1 : f (o + 1) = .slice t.i.a t.i.n t.i.c
  c2 : f (o + 2) = .slice t.j.a t.j.n t.j.c
  c3 : f (o + 3) = .slice t.k.a t.k.n t.k.c
  c4 : f (o + 4) = .pointer t.E
  c5 : ∃ ra rn rc, f (o + 5) = .slice ra rn rc
def PolR (w0 w : World) (B k : Nat) (f : Nat → Value) : Prop := ∀ i, i < k → ∃ t, TgL w0 t ∧ EnvAt w B t ∧ Cells6 f (i * 6) t
def put6 (w : World) (B o : Nat) (v0 v1 v2 v3 v4 v5 : Value) : World := (((((w.setCell ⟨B, o, none⟩ v0).setCell ⟨B, o + 1, none⟩ v1).setCell ⟨B, o + 2, none⟩ v2).setCell ⟨B, o + 3, none⟩ v3).setCell ⟨B, o + 4, none⟩ v4).setCell ⟨B, o + 5, none⟩ v5
def upd6 (f : Nat → Value) (o : Nat) (v0 v1 v2 v3 v4 v5 : Value) : Nat → Value := fun j => if j = o + 5 then v5 else if j = o + 4 then v4 else if j = o + 3 then v3 else if j = o + 2 then v2 else if j = o + 1 then v1 else if j = o then v0 else f j
theorem put6_row {w : World} {B N o : Nat} {f : Nat → Value} {v0 v1 v2 v3 v4 v5 : Value} (h : w.rowIs B 45 N f) : (put6 w B o v0 v1 v2 v3 v4 v5).rowIs B 45 N (upd6 f o v0 v1 v2 v3 v4 v5) :=
  (((((h.set o v0).set (o + 1) v1).set (o + 2) v2).set (o + 3) v3).set (o + 4) v4).set (o + 5) v5
theorem upd6_other {f : Nat → Value} {o j : Nat} {v0 v1 v2 v3 v4 v5 : Value} (h : j < o ∨ o + 5 < j) : upd6 f o v0 v1 v2 v3 v4 v5 j = f j := by
  unfold upd6
  rw [if_neg (by omega), if_neg (by omega), if_neg (by omega), if_neg (by omega), if_neg (by omega), if_neg (by omega)]
theorem upd6_0 (f : Nat → Value) (o : Nat) (v0 v1 v2 v3 v4 v5 : Value) : upd6 f o v0 v1 v2 v3 v4 v5 o = v0 := by simp [upd6]
theorem upd6_1 (f : Nat → Value) (o : Nat) (v0 v1 v2 v3 v4 v5 : Value) : upd6 f o v0 v1 v2 v3 v4 v5 (o + 1) = v1 := by simp [upd6]
theorem upd6_2 (f : Nat → Value) (o : Nat) (v0 v1 v2 v3 v4 v5 : Value) : upd6 f o v0 v1 v2 v3 v4 v5 (o + 2) = v2 := by simp [upd6]
theorem upd6_3 (f : Nat → Value) (o : Nat) (v0 v1 v2 v3 v4 v5 : Value) : upd6 f o v0 v1 v2 v3 v4 v5 (o + 3) = v3 := by simp [upd6]
theorem upd6_4 (f : Nat → Value) (o : Nat) (v0 v1 v2 v3 v4 v5 : Value) : upd6 f o v0 v1 v2 v3 v4 v5 (o + 4) = v4 := by simp [upd6]
theorem upd6_5 (f : Nat → Value) (o : Nat) (v0 v1 v2 v3 v4 v5 : Value) : upd6 f o v0 v1 v2 v3 v4 v5 (o + 5) = v5 := by simp [upd6]
theorem put6_env {w : World} {B o : Nat} {t : Tg} {v0 v1 v2 v3 v4 v5 : Value} (h : EnvAt w B t) : EnvAt (put6 w B o v0 v1 v2 v3 v4 v5) B t := h.set.set.set.set.set.set
theorem put6_below {w0 w : World} {B B' o : Nat} {v0 v1 v2 v3 v4 v5 : Value} (h : Below B' w0 w) (hB : B' ≤ B) : Below B' w0 (put6 w B o v0 v1 v2 v3 v4 v5) :=
  (((((h.setCell (p := ⟨B, o, none⟩) hB v0).setCell (p := ⟨B, o + 1, none⟩) hB v1).setCell (p := ⟨B, o + 2, none⟩) hB v2).setCell (p := ⟨B, o + 3, none⟩) hB v3).setCell (p := ⟨B, o + 4, none⟩) hB v4).setCell (p := ⟨B, o + 5, none⟩) hB v5

theorem PolR.step {w0 w : World} {B k : Nat} {f : Nat → Value} {t : Tg} {ra : Option Addr} {rn rc : Nat} (hp : PolR w0 w B k f) (hl : TgL w0 t) (he : EnvAt w B t) :
    PolR w0 (put6 w B (k * 6) (.string t.T) (.slice t.i.a t.i.n t.i.c) (.slice t.j.a t.j.n t.j.c) (.slice t.k.a t.k.n t.k.c) (.pointer t.E) (.slice ra rn rc)) B (k + 1) (upd6 f (k * 6) (.string t.T) (.slice t.i.a t.i.n t.i.c) (.slice t.j.a t.j.n t.j.c) (.slice t.k.a t.k.n t.k.c) (.pointer t.E) (.slice ra rn rc)) := by
  intro i hi
  by_cases e : i = k
  · subst e
    exact ⟨t, hl, put6_env he, upd6_0 .., upd6_1 .., upd6_2 .., upd6_3 .., upd6_4 .., _, _, _, upd6_5 ..⟩
  · obtain ⟨t', h1, h2, h3⟩ := hp i (by omega)
    refine ⟨t', h1, put6_env h2, ?_, ?_, ?_, ?_, ?_, ?_⟩
    · rw [upd6_other (by omega)]; exact h3.c0
    · rw [upd6_other (by omega)]; exact h3.c1
    · rw [upd6_other (by omega)]; exact h3.c2
    · rw [upd6_other (by omega)]; exact h3.c3
    · rw [upd6_other (by omega)]; exact h3.c4
    · rw [upd6_other (by omega)]; exact h3.c5
theorem PolR.below {w0 w w' : World} {B k : Nat} {f : Nat → Value} (hp : PolR w0 w B k f) (hb : Below w.heap.size w w') : PolR w0 w' B k f := by
  intro i hi
  obtain ⟨t', h1, h2, h3⟩ := hp i hi
  exact ⟨t', h1, h2.below hb, h3⟩
theorem row_six {w : World} {O t N k : Nat} {f : Nat → Value} (h : w.rowIs O t N f) (hk : k * 6 + 5 < N) : (∃ v, w.cell? ⟨O, k * 6, none⟩ = some v) ∧ (∃ v, w.cell? ⟨O, k * 6 + 1, none⟩ = some v) ∧ (∃ v, w.cell? ⟨O, k * 6 + 2, none⟩ = some v) ∧ (∃ v, w.cell? ⟨O, k * 6 + 3, none⟩ = some v) ∧ (∃ v, w.cell? ⟨O, k * 6 + 4, none⟩ = some v) ∧ (∃ v, w.cell? ⟨O, k * 6 + 5, none⟩ = some v) ∧ ∀ j, w.frozen? ⟨O, j, none⟩ = false :=
  ⟨⟨_, h.cell (by omega)⟩, ⟨_, h.cell (by omega)⟩, ⟨_, h.cell (by omega)⟩, ⟨_, h.cell (by omega)⟩, ⟨_, h.cell (by omega)⟩, ⟨_, h.cell hk⟩, fun j => h.frozen j⟩

/-- What toPolicies hands back. -/
def PolsR (w w' : World) (n : Nat) (e : Ending) : Prop := e = .returned (.slice (some ⟨w.heap.size, 0, none⟩) n n) ∧ ∃ f, w'.rowIs w.heap.size 45 (n * 6) f ∧ PolR w w' w.heap.size n f

set_option maxHeartbeats 2000000 in
set_option maxRecDepth 100000 in
theorem policies_any (a : Option Addr) (n c : Nat) (P : Nat → Pl) (w : World) (hn : n ≤ 65536) (hP : Pols w a n P) (hy : ∀ j, j < n → (P j).y.n ≤ 65536) :
    Calls Try.prog 8 #[.slice a n c] w fun e w' => PolsR w w' n e ∧ Below w.heap.size w w' := by
  have HP : Hid (Pols w a n P) := hP
  have HY : Hid (∀ j, j < n → (P j).y.n ≤ 65536) := hy
  clear hP hy
  have hmk1 := make45 n hn
  obtain ⟨f0, hf0⟩ := some_row w (madeCells zero45 (n * 6)) 45
  rw [size_madeCells] at hf0
  have HF : Hid _ := hf0
  clear hf0
  go_enter Try.func8, Try.ntmps8
  go_wp2
  clear hmk1
  go_loopw [4] (fun i wr => ∃ k : Nat, k ≤ n ∧ i = .int .i64 k ∧ (∃ f, Hid (wr.rowIs w.heap.size 45 (n * 6) f) ∧ Hid (PolR w wr w.heap.size k f)) ∧ Hid (Below w.heap.size w wr)) (fun i _ => n - (intOf i).toNat)
  case atStart => exact ⟨0, Nat.zero_le _, rfl, ⟨f0, HF, fun i hi => by omega⟩, (Below.refl _ _).alloc (Nat.le_refl _) _⟩
  case round =>
    obtain ⟨k, hk, rfl, ⟨f, hr, hpr⟩, hb⟩ := hrel
    obtain ⟨wo, hwo⟩ : ∃ wo, wo = wr := ⟨_, rfl⟩
    subst hwo
    by_cases hlt : k < n
    · obtain ⟨b, off, rfl, hp0⟩ := HP.out.at hlt
      have hyk := HY.out k hlt
      have HA0 : Hid (PolAt w b (off + k * 8) (P k)) := hp0
      have hp := hp0.below hb.out
      have HA : Hid (PolAt wo b (off + k * 8) (P k)) := hp
      clear hp0
      have c7 := hp.c7
      have hbo : b < wo.heap.size := World.block_lt_of_cell? wo _ c7
      clear hp
      have hmk2 := make49 (1 + (P k).y.n) (by omega)
      have e1 : ((1 + (P k).y.n : Nat) : Int) = 1 + ((P k).y.n : Int) := by omega
      rw [e1] at hmk2
      have m0 : (madeCells zero49 ((1 + (P k).y.n) * 2))[0]? = some (.string em) := made_at zero49 _ 0 (by omega)
      have m1 : (madeCells zero49 ((1 + (P k).y.n) * 2))[1]? = some (.pointer none) := made_at zero49 _ 1 (by omega)
      go_wp2
      go_loopw [6] (fun i w2 => ∃ q : Nat, q ≤ (P k).y.n ∧ i = .int .i64 q ∧ Hid (∃ f2, w2.rowIs wo.heap.size 49 ((1 + (P k).y.n) * 2) f2) ∧ Hid (Below wo.heap.size wo w2)) (fun i _ => (P k).y.n - (intOf i).toNat)
      case atStart =>
        have := some_row wo (((madeCells zero49 ((1 + (P k).y.n) * 2)).setIfInBounds 0 (Value.string { data := #[80, 101, 114, 109, 105, 116] })).setIfInBounds 1 (Value.pointer none)) 49
        rw [Array.size_setIfInBounds, Array.size_setIfInBounds, size_madeCells] at this
        exact ⟨0, Nat.zero_le _, rfl, this, (Below.refl _ _).alloc (Nat.le_refl _) _⟩
      case round =>
        obtain ⟨q, hq, rfl, hrow, hb2⟩ := hrel
        have HA2 : Hid (PolAt wr b (off + k * 8) (P k)) := HA.out.below hb2.out
        have hsz := hb2.out.size
        by_cases hlt2 : q < (P k).y.n
        · obtain ⟨b7, off7, ea7, g7⟩ := HA2.out.l7.st.cell hlt2
          have h7 := HA2.out.c7
          rw [ea7] at h7
          obtain ⟨f3, hr3⟩ := hrow.out
          have d0 := hr3.cell (i := (q + 1) * 2) (by omega)
          have d1 := hr3.cell (i := (q + 1) * 2 + 1) (by omega)
          have df := hr3.frozen
          have HR3 : Hid (wr.rowIs wo.heap.size 49 ((1 + (P k).y.n) * 2) f3) := hr3
          have hb7 : b7 < wr.heap.size := World.block_lt_of_cell? wr _ g7
          have hbo2 : b < wr.heap.size := World.block_lt_of_cell? wr _ h7
          have hR2 := hr3.lt
          clear hr3 c7 hmk2 m0 m1
          go_wp2
          go_roundw
          case rel => exact ⟨q + 1, by omega, by go_num, ⟨_, ((HR3.out.set _ _).set _ _).alloc _⟩, ((hb2.out.setCell (p := ⟨wo.heap.size, _, none⟩) (Nat.le_refl _) _).setCell (p := ⟨wo.heap.size, _, none⟩) (Nat.le_refl _) _).alloc (by simp [World.setCell]; omega) _⟩
          case measure => simp [intOf]; omega
        · obtain rfl : q = (P k).y.n := by omega
          have e0 := HA2.out.c0
          have e1 := HA2.out.c1
          have e2 := HA2.out.c2
          have e3 := HA2.out.c3
          have e4 := HA2.out.c4
          have e5 := HA2.out.c5
          have e6 := HA2.out.c6
          have e7 := HA2.out.c7
          have C : Hid _ := target_any (P k) w wr HA0.out.l1 HA0.out.l2 HA0.out.l3 HA0.out.l5 HA0.out.l6
          clear c7 hmk2 m0 m1
          go_wp2_with fail
          refine Calls.mono C.out ?_
          rintro e w4 ⟨⟨t, rfl, ht, he⟩, hb4⟩
          have hOlt : w.heap.size < wo.heap.size := hr.out.lt
          have hb5 : Below wo.heap.size wo w4 := hb2.out.trans (hb4.mono hsz)
          have hr4 := row_below hr.out hb5 hOlt
          have hpr4 := hpr.out.below hb5
          have ht0 : TgL w t := ht
          have he0 : EnvAt w4 w.heap.size t := he.mono (by omega)
          obtain ⟨⟨v0, d0⟩, ⟨v1, d1⟩, ⟨v2, d2⟩, ⟨v3, d3⟩, ⟨v4, d4⟩, ⟨v5, d5⟩, df⟩ := row_six hr4 (k := k) (by omega)
          have RH : Hid _ := hr4
          have PH : Hid (PolR w (put6 w4 w.heap.size (k * 6) (.string t.T) (.slice t.i.a t.i.n t.i.c) (.slice t.j.a t.j.n t.j.c) (.slice t.k.a t.k.n t.k.c) (.pointer t.E) (.slice (some ⟨wo.heap.size, 0, none⟩) (1 + (P k).y.n) (1 + (P k).y.n))) _ _ _) := hpr4.step ht0 he0
          have BH : Hid (Below w.heap.size w w4) := hb.out.trans (hb5.mono hb.out.size)
          clear hr4 hpr4 ht0 he0 hb4 hb5 ht he C e0 e1 e2 e3 e4 e5 e6 e7
          go_wp2
          go_roundw
          case rel => exact ⟨k + 1, by omega, by go_num, ⟨_, put6_row RH.out, PH⟩, put6_below BH.out (Nat.le_refl _)⟩
          case measure => simp [intOf]; omega
    · obtain rfl : k = n := by omega
      go_wp2
      go_ret
      exact ⟨⟨rfl, f, hr.out, hpr.out⟩, hb.out⟩
end Go.Proofs.Qxb6612720a
