import Derived.Test.Qxb6612720aNl
import Derived.Test.Qxb6612720aPg
import Derived.Deep.RegionHeld3
namespace Go.Proofs.Qxb6612720a
open Go.RowKit
open Go.Maps (Keyed)
set_option linter.unusedVariables false

noncomputable def b29 : Code := (Try.f29.body).getD .skip
set_option maxRecDepth 100000 in
/-- ZZNumber's frame at a statement's head: the slots that matter, whatever else. -/
def J29 (v0 v1 v2 v3 v4 v5 v6 v7 v8 v9 v20 v21 v22 v23 v24 v26 v29 v30 : Value) (act : Act) : Prop := ∃ g : Nat → Value, act = ⟨#[v0, v1, v2, v3, v4, v5, v6, v7, v8, v9, g 10, g 11, g 12, g 13, g 14, g 15, g 16, g 17, g 18, g 19, v20, v21, v22, v23, v24, g 25, v26, g 27, g 28, v29, v30, g 31, g 32, g 33, g 34, g 35, g 36, g 37, g 38, g 39, g 40, g 41, g 42, g 43, g 44, g 45, g 46, g 47, g 48, g 49, g 50, g 51, g 52, g 53, g 54, g 55, g 56, g 57, g 58, g 59, g 60, g 61, g 62, g 63, g 64, g 65, g 66, g 67, g 68, g 69, g 70, g 71, g 72, g 73, g 74, g 75, g 76, g 77, g 78, g 79, g 80, g 81, g 82, g 83, g 84, g 85, g 86, g 87, g 88, g 89, g 90, g 91, g 92, g 93, g 94, g 95, g 96, g 97, g 98, g 99, g 100, g 101, g 102, g 103, g 104, g 105, g 106, g 107, g 108, g 109, g 110, g 111, g 112, g 113, g 114, g 115, g 116, g 117, g 118, g 119, g 120, g 121, g 122, g 123, g 124, g 125, g 126, g 127, g 128, g 129, g 130, g 131, g 132, g 133, g 134, g 135, g 136, g 137, g 138, g 139, g 140, g 141, g 142, g 143, g 144, g 145, g 146, g 147, g 148, g 149, g 150, g 151, g 152, g 153, g 154, g 155, g 156, g 157, g 158, g 159, g 160, g 161, g 162, g 163, g 164, g 165, g 166, g 167, g 168, g 169, g 170, g 171, g 172, g 173, g 174, g 175, g 176, g 177, g 178, g 179, g 180, g 181, g 182, g 183, g 184, g 185], []⟩
set_option maxRecDepth 100000 in
set_option maxHeartbeats 2000000 in
theorem J29_mk {v0 v1 v2 v3 v4 v5 v6 v7 v8 v9 v20 v21 v22 v23 v24 v26 v29 v30 : Value} (fr : Array Value) (hs : fr.size = 186) (h0 : fr[0]? = some v0) (h1 : fr[1]? = some v1) (h2 : fr[2]? = some v2) (h3 : fr[3]? = some v3) (h4 : fr[4]? = some v4) (h5 : fr[5]? = some v5) (h6 : fr[6]? = some v6) (h7 : fr[7]? = some v7) (h8 : fr[8]? = some v8) (h9 : fr[9]? = some v9) (h20 : fr[20]? = some v20) (h21 : fr[21]? = some v21) (h22 : fr[22]? = some v22) (h23 : fr[23]? = some v23) (h24 : fr[24]? = some v24) (h26 : fr[26]? = some v26) (h29 : fr[29]? = some v29) (h30 : fr[30]? = some v30) : J29 v0 v1 v2 v3 v4 v5 v6 v7 v8 v9 v20 v21 v22 v23 v24 v26 v29 v30 ⟨fr, []⟩ := by
  refine ⟨fun i => fr[i]!, ?_⟩
  rw [fr_at h0, fr_at h1, fr_at h2, fr_at h3, fr_at h4, fr_at h5, fr_at h6, fr_at h7, fr_at h8, fr_at h9, fr_at h20, fr_at h21, fr_at h22, fr_at h23, fr_at h24, fr_at h26, fr_at h29, fr_at h30]
  exact congrArg (fun f => Act.mk f []) (fr_list fr 186 hs)

set_option maxHeartbeats 4000000 in
set_option maxRecDepth 100000 in
theorem z0 (v0 v1 v2 v3 v4 v5 v6 v7 v8 v9 v20 v21 v22 v23 v24 v26 v29 v30 : Value) (w : World) (Q : Exit → Act → World → Prop) (act : Act) (hI : J29 v0 v1 v2 v3 v4 v5 v6 v7 v8 v9 v20 v21 v22 v23 v24 v26 v29 v30 act)
    (hnext : ∀ act', J29 v0 v1 v2 v3 v4 v5 v6 v7 v8 v9 (.slice none 0 0) (.slice none 0 0) (.slice none 0 0) (.slice none 0 0) v24 v26 v29 v30 act' → Q .normal act' w) : Code.wp Try.prog (pick [0] b29) Q act w := by
  obtain ⟨g, rfl⟩ := hI
  have HN : Hid _ := hnext
  clear hnext
  conv => arg 2; whnf
  go_wp2
  exact HN.out _ (J29_mk _ rfl rfl rfl rfl rfl rfl rfl rfl rfl rfl rfl rfl rfl rfl rfl rfl rfl rfl rfl)

set_option maxHeartbeats 4000000 in
set_option maxRecDepth 100000 in
theorem z1 (v1 v2 v3 v4 v5 v6 v7 v8 v9 v20 v21 v22 v23 v26 v29 v30 v24 : Value) (b0 ns : Nat) (nb na : Nat → Int) (w : World) (Q : Exit → Act → World → Prop) (hns : ns ≤ 65536) (act : Act) (hI : J29 (.slice (some ⟨b0, 0, none⟩) ns ns) v1 v2 v3 v4 v5 v6 v7 v8 v9 v20 v21 v22 v23 v24 v26 v29 v30 act)
    (hnext : ∀ act' w', J29 (.slice (some ⟨b0, 0, none⟩) ns ns) v1 v2 v3 v4 v5 v6 v7 v8 v9 v20 v21 v22 v23 (.pointer (some ⟨w.heap.size + 1, 0, none⟩)) v26 v29 v30 act' → w'.rowIs w.heap.size 105 (ns * 5) (setAt nb na 0) → w'.heap[w.heap.size + 1]? = some (.cells #[.pointer none, .slice (some ⟨w.heap.size, 0, none⟩) ns ns, .slice none 0 0, .map none] 102 (0, 0)) → Below w.heap.size w w' → w'.heap.size = w.heap.size + 2 → Q .normal act' w') : Code.wp Try.prog (pick [1, 0] b29) Q act w := by
  obtain ⟨g, rfl⟩ := hI
  have HN : Hid _ := hnext
  have hmk := make105 ns hns
  clear hnext
  conv => arg 2; whnf
  go_wp2
  refine HN.out _ _ (J29_mk _ rfl rfl rfl rfl rfl rfl rfl rfl rfl rfl rfl rfl rfl rfl rfl rfl rfl rfl rfl) ((made105 w ns nb na).alloc _) ?_ ?_ (by simp)
  · have := (MapKept.heap_alloc (w.alloc (.cells (madeCells #[.int .i64 0, .int .i64 0, .int .i64 0, .slice none 0 0, .slice none 0 0] (ns * 5)) 105)) (.cells #[.pointer none, .slice (some ⟨w.heap.size, 0, none⟩) ns ns, .slice none 0 0, .map none] 102)).1
    simpa using this
  · exact ((Below.refl _ _).alloc (Nat.le_refl _) _).alloc (by simp) _

theorem set5_heap {w : World} {O a b c d e q : Nat} {x1 x2 x3 x4 x5 : Value} (h : q ≠ O) : (((((w.setCell ⟨O, a, none⟩ x1).setCell ⟨O, b, none⟩ x2).setCell ⟨O, c, none⟩ x3).setCell ⟨O, d, none⟩ x4).setCell ⟨O, e, none⟩ x5).heap[q]? = w.heap[q]? := by
  have h1 : ∀ (W : World) (a : Nat) (x : Value), (W.setCell ⟨O, a, none⟩ x).heap[q]? = W.heap[q]? := fun W a x => Below.heap_setCell _ _ _ _ h
  rw [h1, h1, h1, h1, h1]
theorem set5_cell {w : World} {O a b c d e q o : Nat} {x1 x2 x3 x4 x5 : Value} (h : q ≠ O) : (((((w.setCell ⟨O, a, none⟩ x1).setCell ⟨O, b, none⟩ x2).setCell ⟨O, c, none⟩ x3).setCell ⟨O, d, none⟩ x4).setCell ⟨O, e, none⟩ x5).drew.cell? ⟨q, o, none⟩ = w.cell? ⟨q, o, none⟩ := by
  have h5 := set5_heap (w := w) (a := a) (b := b) (c := c) (d := d) (e := e) (x1 := x1) (x2 := x2) (x3 := x3) (x4 := x4) (x5 := x5) h
  rw [World.cell?_drew]
  simp only [World.cell?, h5]
/-- What the evaluation's block holds. -/
def eObj (SB ns : Nat) : Obj := .cells #[.pointer none, .slice (some ⟨SB, 0, none⟩) ns ns, .slice none 0 0, .map none] 102 (0, 0)
set_option maxHeartbeats 4000000 in
set_option maxRecDepth 100000 in
theorem z2 (v2 v3 v4 v5 v6 v7 v8 v9 v20 v21 v22 v23 v26 v29 v30 : Value) (b0 b1 ns E SB : Nat) (nb na : Nat → Int) (w : World) (N : Act → World → Prop) (Q : Exit → Act → World → Prop) (hns : ns ≤ 65536) (r0 : w.rowIs b0 2 ns (fun i => .int .i64 (nb i))) (r1 : w.rowIs b1 2 ns (fun i => .int .i64 (na i))) (hr : w.rowIs SB 105 (ns * 5) (setAt nb na 0)) (he : w.heap[E]? = some (eObj SB ns)) (h0 : b0 < SB) (h1 : b1 < SB) (hES : SB < E) (act : Act) (hI : J29 (.slice (some ⟨b0, 0, none⟩) ns ns) (.slice (some ⟨b1, 0, none⟩) ns ns) v2 v3 v4 v5 v6 v7 v8 v9 v20 v21 v22 v23 (.pointer (some ⟨E, 0, none⟩)) v26 v29 v30 act)
    (hnext : ∀ act' w', J29 (.slice (some ⟨b0, 0, none⟩) ns ns) (.slice (some ⟨b1, 0, none⟩) ns ns) v2 v3 v4 v5 v6 v7 v8 v9 v20 v21 v22 v23 (.pointer (some ⟨E, 0, none⟩)) v26 v29 v30 act' → w'.rowIs SB 105 (ns * 5) (setAt nb na ns) → w'.heap[E]? = some (eObj SB ns) → Below SB w w' → w'.heap.size = w.heap.size → N act' w') : Code.wp Try.prog (pick [1, 1, 0] b29) (Exit.then N Q) act w := by
  obtain ⟨g, rfl⟩ := hI
  have HN : Hid _ := hnext
  have R0 : Hid (w.rowIs b0 2 ns (fun i => .int .i64 (nb i))) := r0
  have R1 : Hid (w.rowIs b1 2 ns (fun i => .int .i64 (na i))) := r1
  have HR : Hid (w.rowIs SB 105 (ns * 5) (setAt nb na 0)) := hr
  have HE : Hid (w.heap[E]? = some (eObj SB ns)) := he
  have c1 : w.cell? ⟨E, 1, none⟩ = some (.slice (some ⟨SB, 0, none⟩) ns ns) := by simp [World.cell?, he, eObj]
  clear hnext r0 r1 hr he
  conv => arg 2; whnf
  go_wp2
  clear c1
  go_loopw [45] (fun i wr => ∃ k : Nat, k ≤ ns ∧ i = .int .i64 k ∧ Hid (wr.rowIs SB 105 (ns * 5) (setAt nb na k)) ∧ Hid (wr.heap[E]? = some (eObj SB ns)) ∧ Hid (Below SB w wr) ∧ wr.heap.size = w.heap.size) (fun i _ => ns - (intOf i).toNat)
  case atStart => exact ⟨0, Nat.zero_le _, rfl, HR, HE, Below.refl _ _, rfl⟩
  case round =>
    obtain ⟨k, hk, rfl, hr, he, hb, hsz⟩ := hrel
    by_cases hlt : k < ns
    · have y0 : wr.cell? ⟨b0, k, none⟩ = some (.int .i64 (nb k)) := (hb.out.cell (p := ⟨b0, k, none⟩) h0).trans (R0.out.cell hlt)
      have y1 : wr.cell? ⟨b1, k, none⟩ = some (.int .i64 (na k)) := (hb.out.cell (p := ⟨b1, k, none⟩) h1).trans (R1.out.cell hlt)
      have c1 : wr.cell? ⟨E, 1, none⟩ = some (.slice (some ⟨SB, 0, none⟩) ns ns) := by simp [World.cell?, he.out, eObj]
      have d0 := hr.out.cell (i := k * 5) (by omega)
      have d1 := hr.out.cell (i := k * 5 + 1) (by omega)
      have d2 := hr.out.cell (i := k * 5 + 2) (by omega)
      have d3 := hr.out.cell (i := k * 5 + 3) (by omega)
      have d4 := hr.out.cell (i := k * 5 + 4) (by omega)
      have df := hr.out.frozen
      have HS : Hid (wr.heap.size = w.heap.size) := hsz
      have RH : Hid _ := set_step hr.out
      have n1 : E ≠ SB := by omega
      clear hsz hr
      have p0 : b0 ≠ SB := by omega
      have p1 : b1 ≠ SB := by omega
      have KS : Hid _ := And.intro ((set5_cell (w := wr) (a := k * 5) (b := k * 5 + 1) (c := k * 5 + 2) (d := k * 5 + 3) (e := k * 5 + 4) (x1 := .int .i64 (nb k)) (x2 := .int .i64 (na k)) (x3 := .int .i64 0) (x4 := .slice none 0 0) (x5 := .slice none 0 0) n1).trans c1) (And.intro ((set5_cell (w := wr) (a := k * 5) (b := k * 5 + 1) (c := k * 5 + 2) (d := k * 5 + 3) (e := k * 5 + 4) (x1 := .int .i64 (nb k)) (x2 := .int .i64 (na k)) (x3 := .int .i64 0) (x4 := .slice none 0 0) (x5 := .slice none 0 0) p0).trans y0) ((set5_cell (w := wr) (a := k * 5) (b := k * 5 + 1) (c := k * 5 + 2) (d := k * 5 + 3) (e := k * 5 + 4) (x1 := .int .i64 (nb k)) (x2 := .int .i64 (na k)) (x3 := .int .i64 0) (x4 := .slice none 0 0) (x5 := .slice none 0 0) p1).trans y1))
      go_wp2
      go_region_held3 (fun w' => w'.cell? ⟨E, 1, none⟩ = some (.slice (some ⟨SB, 0, none⟩) ns ns) ∧ w'.cell? ⟨b0, k, none⟩ = some (.int .i64 (nb k)) ∧ w'.cell? ⟨b1, k, none⟩ = some (.int .i64 (na k))) (first | (go_keep; done) | exact KS.out) (fail)
      go_wp2
      go_roundw
      case rel =>
        refine ⟨k + 1, by omega, by go_num, RH.out, ?_, (((((hb.out.setCell (by simp) _).setCell (by simp) _).setCell (by simp) _).setCell (by simp) _).setCell (by simp) _).drew, by have := HS.out; simpa [World.setCell] using this⟩
        exact (set5_heap n1).trans he.out
      case measure => simp [intOf]; omega
    · obtain rfl : k = ns := by omega
      go_wp2
      exact HN.out _ _ (J29_mk _ rfl rfl rfl rfl rfl rfl rfl rfl rfl rfl rfl rfl rfl rfl rfl rfl rfl rfl rfl) hr.out he.out hb.out hsz

set_option maxHeartbeats 4000000 in
set_option maxRecDepth 100000 in
theorem z3 (v0 v1 v2 v3 v4 v5 v6 v7 v8 v9 v20 v21 v22 v23 v24 v29 v30 v26 : Value) (keys1 keys2 : Nat → Lit) (m1 m2 : Nat → Nat) (R1 R2 : Nat → Nat → Rf) (w : World) (Q : Exit → Act → World → Prop) (act : Act) (hI : J29 v0 v1 v2 v3 v4 v5 v6 v7 v8 v9 v20 v21 v22 v23 v24 v26 v29 v30 act)
    (hnext : ∀ act' w', J29 v0 v1 v2 v3 v4 v5 v6 v7 v8 v9 v20 v21 v22 v23 v24 (.pointer (some ⟨w.heap.size + 1 + 1, 0, none⟩)) v29 v30 act' → DM w' 112 keys1 0 w.heap.size m1 R1 → DM w' 9 keys2 0 (w.heap.size + 1) m2 R2 → w'.heap[w.heap.size + 1 + 1]? = some (.cells #[.map (some w.heap.size), .map (some (w.heap.size + 1))] 109 (0, 0)) → Below w.heap.size w w' → w'.heap.size = w.heap.size + 3 → Q .normal act' w') : Code.wp Try.prog (pick [1, 1, 1, 0] b29) Q act w := by
  obtain ⟨g, rfl⟩ := hI
  have HN : Hid _ := hnext
  have hmk : ∀ (t : TypeId) (W : World), (Instr.makeMap t none).run Try.prog W = .ok (.map (some W.heap.size)) (W.alloc (.map #[] 0)) := fun t W => run_makeMap t W
  clear hnext
  conv => arg 2; whnf
  go_wp2
  have b1 : Below w.heap.size w (w.alloc (.map #[] 0)) := (Below.refl _ _).alloc (Nat.le_refl _) _
  have b2 : Below (w.heap.size + 1) (w.alloc (.map #[] 0)) ((w.alloc (.map #[] 0)).alloc (.map #[] 0)) := (Below.refl _ _).alloc (by simp) _
  have b3 : Below (w.heap.size + 1 + 1) ((w.alloc (.map #[] 0)).alloc (.map #[] 0)) (((w.alloc (.map #[] 0)).alloc (.map #[] 0)).alloc (.cells #[.map (some w.heap.size), .map (some (w.heap.size + 1))] 109)) := (Below.refl _ _).alloc (by simp) _
  refine HN.out _ _ (J29_mk _ rfl rfl rfl rfl rfl rfl rfl rfl rfl rfl rfl rfl rfl rfl rfl rfl rfl rfl rfl) (((dm_made w 112 keys1 m1 R1).below (by simpa using b2)).below (by simpa using b3)) ?_ ?_ ?_ (by simp)
  · have := dm_made (w.alloc (.map #[] 0)) 9 keys2 m2 R2
    have := this.below (w' := ((w.alloc (.map #[] 0)).alloc (.map #[] 0)).alloc (.cells #[.map (some w.heap.size), .map (some (w.heap.size + 1))] 109)) (by simpa using b3)
    simpa using this
  · have := (MapKept.heap_alloc ((w.alloc (.map #[] 0)).alloc (.map #[] 0)) (.cells #[.map (some w.heap.size), .map (some (w.heap.size + 1))] 109)).1
    simpa using this
  · exact (b1.trans (b2.mono (by omega))).trans (b3.mono (by omega))
end Go.Proofs.Qxb6612720a
