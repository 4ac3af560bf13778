import Derived.Test.Qxb6612720aNr
namespace Go.Proofs.Qxb6612720a
open Go.RowKit
open Go.Maps (Keyed)
set_option linter.unusedVariables false

theorem info2 : (Try.prog.info? 2).map (fun i => (i.zero, i.size, i.bytes)) = some (some (.int .i64 0), 1, 8) := by kernel_rfl
theorem info9c : (Try.prog.info? 9).map (fun i => (i.zero, i.size, i.bytes)) = some (some (.string ⟨#[]⟩), 1, 16) := by kernel_rfl
theorem info87 : (Try.prog.info? 87).map (fun i => (i.zero, i.size, i.bytes)) = some (some (.slice none 0 0), 1, 24) := by kernel_rfl
theorem info60 : (Try.prog.info? 60).map (fun i => (i.zero, i.size, i.bytes)) = some (some (.agg #[.int .i64 0, .int .i64 0]), 2, 16) := by kernel_rfl
theorem make60 (n : Nat) (h : n ≤ 17179869184) (w : World) : (Instr.makeSlice 55 (.int .i64 n) (.int .i64 n)).run Try.prog w = .ok (.slice (some ⟨w.heap.size, 0, none⟩) n n) (w.alloc (.cells (madeCells #[.int .i64 0, .int .i64 0] (n * 2)) 60)) := by
  obtain ⟨i0, hi, hz0, hz1, hz2⟩ := info_parts info60
  have := run_make (P := Try.prog) w 55 60 i0 _ Try.underlying55 hi hz0 .i64 .i64 n n (by omega) (by omega) (by rw [hz2]; omega) (by omega)
  rw [hz1] at this
  simpa [Value.cells] using this
theorem made60 (w : World) (n : Nat) (R : Nat → Rf) : (w.alloc (.cells (madeCells #[.int .i64 0, .int .i64 0] (n * 2)) 60)).rowIs w.heap.size 60 (n * 2) (refAt R 0) := by
  have := World.rowIs_alloc w (madeCells #[.int .i64 0, .int .i64 0] (n * 2)) 60 (refAt R 0) (fun i hi => by
    rw [size_madeCells] at hi
    have : i % 2 = 0 ∨ i % 2 = 1 := by omega
    rcases this with e | e <;> simp [madeCells, hi, refAt, e])
  rwa [size_madeCells] at this
theorem ref_step60 {w : World} {O N k : Nat} {R : Nat → Rf} (h : w.rowIs O 60 N (refAt R k)) : ((w.setCell ⟨O, k * 2, none⟩ (.int .i64 (R k).1)).setCell ⟨O, k * 2 + 1, none⟩ (.int .i64 (R k).2)).rowIs O 60 N (refAt R (k + 1)) := by
  refine ((h.set _ _).set _ _).congr fun j _ => ?_
  unfold refAt
  by_cases e : j / 2 = k
  · have hj : j / 2 < k + 1 := by omega
    have : j % 2 = 0 ∨ j % 2 = 1 := by omega
    rcases this with q | q
    · have : j = k * 2 := by omega
      subst this; simp [q, e]
    · have : j = k * 2 + 1 := by omega
      subst this; simp [q, e]
  · rw [if_neg (by omega), if_neg (by omega)]
    have : (j / 2 < k + 1) = (j / 2 < k) := by rw [eq_iff_iff]; omega
    simp only [this]
theorem set2_cell {w : World} {O a b q o : Nat} {x y : Value} (h : q ≠ O) : ((w.setCell ⟨O, a, none⟩ x).setCell ⟨O, b, none⟩ y).drew.cell? ⟨q, o, none⟩ = w.cell? ⟨q, o, none⟩ := by
  have h1 : ∀ (W : World) (a : Nat) (x : Value), (W.setCell ⟨O, a, none⟩ x).heap[q]? = W.heap[q]? := fun W a x => Below.heap_setCell _ _ _ _ h
  rw [World.cell?_drew]
  simp only [World.cell?, h1]
noncomputable def b13 : Code := (Try.f13.body).getD .skip
set_option maxRecDepth 100000 in
/-- callNumber's frame at a statement's head: the slots that matter, whatever else. -/
def J13 (v0 v1 v2 v3 v11 v12 v14 v15 v16 v17 v19 v20 v21 v23 v24 v25 v26 v27 : Value) (act : Act) : Prop := ∃ g : Nat → Value, act = ⟨#[v0, v1, v2, v3, g 4, g 5, g 6, g 7, g 8, g 9, g 10, v11, v12, g 13, v14, v15, v16, v17, g 18, v19, v20, v21, g 22, v23, v24, v25, v26, v27, g 28, g 29, g 30, g 31, g 32, g 33, g 34, g 35, g 36, g 37, g 38, g 39, g 40, g 41, g 42, g 43, g 44, g 45, g 46, g 47, g 48, g 49, g 50, g 51, g 52, g 53, g 54, g 55, g 56, g 57, g 58, g 59, g 60, g 61, g 62, g 63, g 64, g 65, g 66, g 67, g 68, g 69, g 70, g 71, g 72, g 73, g 74, g 75, g 76, g 77, g 78, g 79, g 80, g 81, g 82, g 83, g 84, g 85, g 86, g 87, g 88, g 89, g 90, g 91, g 92, g 93, g 94, g 95, g 96, g 97, g 98, g 99, g 100, g 101, g 102, g 103, g 104, g 105, g 106, g 107, g 108, g 109, g 110, g 111, g 112, g 113, g 114, g 115, g 116, g 117, g 118, g 119, g 120, g 121, g 122, g 123, g 124, g 125, g 126, g 127, g 128, g 129, g 130, g 131, g 132, g 133, g 134, g 135, g 136, g 137, g 138, g 139, g 140, g 141, g 142, g 143, g 144, g 145, g 146, g 147, g 148, g 149, g 150, g 151, g 152, g 153, g 154, g 155, g 156, g 157, g 158, g 159, g 160, g 161, g 162, g 163, g 164, g 165, g 166, g 167, g 168, g 169, g 170, g 171, g 172, g 173, g 174, g 175, g 176, g 177, g 178, g 179, g 180, g 181, g 182, g 183, g 184, g 185, g 186, g 187, g 188, g 189, g 190, g 191, g 192, g 193, g 194, g 195], []⟩
set_option maxRecDepth 100000 in
set_option maxHeartbeats 2000000 in
theorem J13_mk {v0 v1 v2 v3 v11 v12 v14 v15 v16 v17 v19 v20 v21 v23 v24 v25 v26 v27 : Value} (fr : Array Value) (hs : fr.size = 196) (h0 : fr[0]? = some v0) (h1 : fr[1]? = some v1) (h2 : fr[2]? = some v2) (h3 : fr[3]? = some v3) (h11 : fr[11]? = some v11) (h12 : fr[12]? = some v12) (h14 : fr[14]? = some v14) (h15 : fr[15]? = some v15) (h16 : fr[16]? = some v16) (h17 : fr[17]? = some v17) (h19 : fr[19]? = some v19) (h20 : fr[20]? = some v20) (h21 : fr[21]? = some v21) (h23 : fr[23]? = some v23) (h24 : fr[24]? = some v24) (h25 : fr[25]? = some v25) (h26 : fr[26]? = some v26) (h27 : fr[27]? = some v27) : J13 v0 v1 v2 v3 v11 v12 v14 v15 v16 v17 v19 v20 v21 v23 v24 v25 v26 v27 ⟨fr, []⟩ := by
  refine ⟨fun i => fr[i]!, ?_⟩
  rw [fr_at h0, fr_at h1, fr_at h2, fr_at h3, fr_at h11, fr_at h12, fr_at h14, fr_at h15, fr_at h16, fr_at h17, fr_at h19, fr_at h20, fr_at h21, fr_at h23, fr_at h24, fr_at h25, fr_at h26, fr_at h27]
  exact congrArg (fun f => Act.mk f []) (fr_list fr 196 hs)

set_option maxHeartbeats 4000000 in
set_option maxRecDepth 100000 in
theorem y0 (v0 v1 v2 v3 v11 v12 v14 v15 v16 v17 v19 v20 v21 v23 v24 v25 v26 v27 : Value) (w : World) (Q : Exit → Act → World → Prop) (act : Act) (hI : J13 v0 v1 v2 v3 v11 v12 v14 v15 v16 v17 v19 v20 v21 v23 v24 v25 v26 v27 act)
    (hnext : ∀ act', J13 v0 v1 v2 v3 v11 v12 v14 v15 v16 v17 v19 v20 v21 v23 v24 v25 v26 v27 act' → Q .normal act' w) : Code.wp Try.prog (pick [0] b13) Q act w := by
  obtain ⟨g, rfl⟩ := hI
  have HN : Hid _ := hnext
  clear hnext
  conv => arg 2; whnf
  go_wp2
  exact HN.out _ (J13_mk _ rfl rfl rfl rfl rfl rfl rfl rfl rfl rfl rfl rfl rfl rfl rfl rfl rfl rfl rfl)

set_option maxHeartbeats 4000000 in
set_option maxRecDepth 100000 in
theorem y1 (v1 v2 v3 v12 v14 v15 v16 v17 v19 v20 v21 v23 v24 v25 v26 v27 v11 : Value) (sa : Option Addr) (n sc : Nat) (w : World) (Q : Exit → Act → World → Prop) (hn : n ≤ 65536) (act : Act) (hI : J13 (.slice sa n sc) v1 v2 v3 v11 v12 v14 v15 v16 v17 v19 v20 v21 v23 v24 v25 v26 v27 act)
    (hnext : ∀ act' w', J13 (.slice sa n sc) v1 v2 v3 (.slice (some ⟨w.heap.size, 0, none⟩) n n) v12 v14 v15 v16 v17 v19 v20 v21 v23 v24 v25 v26 v27 act' → w'.rowIs w.heap.size 2 n (fun _ => .int .i64 0) → Below w.heap.size w w' → w'.heap.size = w.heap.size + 1 → Q .normal act' w') : Code.wp Try.prog (pick [1, 0] b13) Q act w := by
  obtain ⟨g, rfl⟩ := hI
  have HN : Hid _ := hnext
  have hmk := run_make_row' (P := Try.prog) 85 2 (.int .i64 0) 8 Try.underlying85 info2 rfl .i64 .i64 n (by omega) (by omega)
  clear hnext
  conv => arg 2; whnf
  go_wp2
  exact HN.out _ _ (J13_mk _ rfl rfl rfl rfl rfl rfl rfl rfl rfl rfl rfl rfl rfl rfl rfl rfl rfl rfl rfl) (World.rowIs_made w (.int .i64 0) n 2) ((Below.refl _ _).alloc (Nat.le_refl _) _) (by simp)

set_option maxHeartbeats 4000000 in
set_option maxRecDepth 100000 in
theorem y2 (v1 v2 v3 v11 v14 v15 v16 v17 v19 v20 v21 v23 v24 v25 v26 v27 v12 : Value) (sa : Option Addr) (n sc : Nat) (w : World) (Q : Exit → Act → World → Prop) (hn : n ≤ 65536) (act : Act) (hI : J13 (.slice sa n sc) v1 v2 v3 v11 v12 v14 v15 v16 v17 v19 v20 v21 v23 v24 v25 v26 v27 act)
    (hnext : ∀ act' w', J13 (.slice sa n sc) v1 v2 v3 v11 (.slice (some ⟨w.heap.size, 0, none⟩) n n) v14 v15 v16 v17 v19 v20 v21 v23 v24 v25 v26 v27 act' → w'.rowIs w.heap.size 2 n (fun _ => .int .i64 0) → Below w.heap.size w w' → w'.heap.size = w.heap.size + 1 → Q .normal act' w') : Code.wp Try.prog (pick [1, 1, 0] b13) Q act w := by
  obtain ⟨g, rfl⟩ := hI
  have HN : Hid _ := hnext
  have hmk := run_make_row' (P := Try.prog) 85 2 (.int .i64 0) 8 Try.underlying85 info2 rfl .i64 .i64 n (by omega) (by omega)
  clear hnext
  conv => arg 2; whnf
  go_wp2
  exact HN.out _ _ (J13_mk _ rfl rfl rfl rfl rfl rfl rfl rfl rfl rfl rfl rfl rfl rfl rfl rfl rfl rfl rfl) (World.rowIs_made w (.int .i64 0) n 2) ((Below.refl _ _).alloc (Nat.le_refl _) _) (by simp)

set_option maxHeartbeats 4000000 in
set_option maxRecDepth 100000 in
theorem y4 (v0 v2 v3 v11 v12 v15 v16 v17 v19 v20 v21 v23 v24 v25 v26 v27 v14 : Value) (sa : Option Addr) (n sc : Nat) (w : World) (Q : Exit → Act → World → Prop) (hn : n ≤ 65536) (act : Act) (hI : J13 v0 (.slice sa n sc) v2 v3 v11 v12 v14 v15 v16 v17 v19 v20 v21 v23 v24 v25 v26 v27 act)
    (hnext : ∀ act' w', J13 v0 (.slice sa n sc) v2 v3 v11 v12 (.slice (some ⟨w.heap.size, 0, none⟩) n n) v15 v16 v17 v19 v20 v21 v23 v24 v25 v26 v27 act' → w'.rowIs w.heap.size 9 n (fun _ => .string ⟨#[]⟩) → Below w.heap.size w w' → w'.heap.size = w.heap.size + 1 → Q .normal act' w') : Code.wp Try.prog (pick [1, 1, 1, 1, 0] b13) Q act w := by
  obtain ⟨g, rfl⟩ := hI
  have HN : Hid _ := hnext
  have hmk := run_make_row' (P := Try.prog) 23 9 (.string ⟨#[]⟩) 16 Try.underlying23 info9c rfl .i64 .i64 n (by omega) (by omega)
  clear hnext
  conv => arg 2; whnf
  go_wp2
  exact HN.out _ _ (J13_mk _ rfl rfl rfl rfl rfl rfl rfl rfl rfl rfl rfl rfl rfl rfl rfl rfl rfl rfl rfl) (World.rowIs_made w (.string ⟨#[]⟩) n 9) ((Below.refl _ _).alloc (Nat.le_refl _) _) (by simp)

set_option maxHeartbeats 4000000 in
set_option maxRecDepth 100000 in
theorem y5 (v0 v2 v3 v11 v12 v14 v16 v17 v19 v20 v21 v23 v24 v25 v26 v27 v15 : Value) (sa : Option Addr) (n sc : Nat) (w : World) (Q : Exit → Act → World → Prop) (hn : n ≤ 65536) (act : Act) (hI : J13 v0 (.slice sa n sc) v2 v3 v11 v12 v14 v15 v16 v17 v19 v20 v21 v23 v24 v25 v26 v27 act)
    (hnext : ∀ act' w', J13 v0 (.slice sa n sc) v2 v3 v11 v12 v14 (.slice (some ⟨w.heap.size, 0, none⟩) n n) v16 v17 v19 v20 v21 v23 v24 v25 v26 v27 act' → w'.rowIs w.heap.size 9 n (fun _ => .string ⟨#[]⟩) → Below w.heap.size w w' → w'.heap.size = w.heap.size + 1 → Q .normal act' w') : Code.wp Try.prog (pick [1, 1, 1, 1, 1, 0] b13) Q act w := by
  obtain ⟨g, rfl⟩ := hI
  have HN : Hid _ := hnext
  have hmk := run_make_row' (P := Try.prog) 23 9 (.string ⟨#[]⟩) 16 Try.underlying23 info9c rfl .i64 .i64 n (by omega) (by omega)
  clear hnext
  conv => arg 2; whnf
  go_wp2
  exact HN.out _ _ (J13_mk _ rfl rfl rfl rfl rfl rfl rfl rfl rfl rfl rfl rfl rfl rfl rfl rfl rfl rfl rfl) (World.rowIs_made w (.string ⟨#[]⟩) n 9) ((Below.refl _ _).alloc (Nat.le_refl _) _) (by simp)

set_option maxHeartbeats 4000000 in
set_option maxRecDepth 100000 in
theorem y6 (v0 v2 v3 v11 v12 v14 v15 v17 v19 v20 v21 v23 v24 v25 v26 v27 v16 : Value) (sa : Option Addr) (n sc : Nat) (w : World) (Q : Exit → Act → World → Prop) (hn : n ≤ 65536) (act : Act) (hI : J13 v0 (.slice sa n sc) v2 v3 v11 v12 v14 v15 v16 v17 v19 v20 v21 v23 v24 v25 v26 v27 act)
    (hnext : ∀ act' w', J13 v0 (.slice sa n sc) v2 v3 v11 v12 v14 v15 (.slice (some ⟨w.heap.size, 0, none⟩) n n) v17 v19 v20 v21 v23 v24 v25 v26 v27 act' → w'.rowIs w.heap.size 87 n (fun _ => .slice none 0 0) → Below w.heap.size w w' → w'.heap.size = w.heap.size + 1 → Q .normal act' w') : Code.wp Try.prog (pick [1, 1, 1, 1, 1, 1, 0] b13) Q act w := by
  obtain ⟨g, rfl⟩ := hI
  have HN : Hid _ := hnext
  have hmk := run_make_row' (P := Try.prog) 86 87 (.slice none 0 0) 24 Try.underlying86 info87 rfl .i64 .i64 n (by omega) (by omega)
  clear hnext
  conv => arg 2; whnf
  go_wp2
  exact HN.out _ _ (J13_mk _ rfl rfl rfl rfl rfl rfl rfl rfl rfl rfl rfl rfl rfl rfl rfl rfl rfl rfl rfl) (World.rowIs_made w (.slice none 0 0) n 87) ((Below.refl _ _).alloc (Nat.le_refl _) _) (by simp)

set_option maxHeartbeats 4000000 in
set_option maxRecDepth 100000 in
theorem y7 (v0 v2 v3 v11 v12 v14 v15 v16 v19 v20 v21 v23 v24 v25 v26 v27 v17 : Value) (sa : Option Addr) (n sc : Nat) (w : World) (Q : Exit → Act → World → Prop) (hn : n ≤ 65536) (act : Act) (hI : J13 v0 (.slice sa n sc) v2 v3 v11 v12 v14 v15 v16 v17 v19 v20 v21 v23 v24 v25 v26 v27 act)
    (hnext : ∀ act' w', J13 v0 (.slice sa n sc) v2 v3 v11 v12 v14 v15 v16 (.slice (some ⟨w.heap.size, 0, none⟩) n n) v19 v20 v21 v23 v24 v25 v26 v27 act' → w'.rowIs w.heap.size 87 n (fun _ => .slice none 0 0) → Below w.heap.size w w' → w'.heap.size = w.heap.size + 1 → Q .normal act' w') : Code.wp Try.prog (pick [1, 1, 1, 1, 1, 1, 1, 0] b13) Q act w := by
  obtain ⟨g, rfl⟩ := hI
  have HN : Hid _ := hnext
  have hmk := run_make_row' (P := Try.prog) 86 87 (.slice none 0 0) 24 Try.underlying86 info87 rfl .i64 .i64 n (by omega) (by omega)
  clear hnext
  conv => arg 2; whnf
  go_wp2
  exact HN.out _ _ (J13_mk _ rfl rfl rfl rfl rfl rfl rfl rfl rfl rfl rfl rfl rfl rfl rfl rfl rfl rfl rfl) (World.rowIs_made w (.slice none 0 0) n 87) ((Below.refl _ _).alloc (Nat.le_refl _) _) (by simp)

set_option maxHeartbeats 4000000 in
set_option maxRecDepth 100000 in
theorem y9 (v0 v1 v3 v11 v12 v14 v15 v16 v17 v20 v21 v23 v24 v25 v26 v27 v19 : Value) (sa : Option Addr) (n sc : Nat) (w : World) (Q : Exit → Act → World → Prop) (hn : n ≤ 65536) (act : Act) (hI : J13 v0 v1 (.slice sa n sc) v3 v11 v12 v14 v15 v16 v17 v19 v20 v21 v23 v24 v25 v26 v27 act)
    (hnext : ∀ act' w', J13 v0 v1 (.slice sa n sc) v3 v11 v12 v14 v15 v16 v17 (.slice (some ⟨w.heap.size, 0, none⟩) n n) v20 v21 v23 v24 v25 v26 v27 act' → w'.rowIs w.heap.size 9 n (fun _ => .string ⟨#[]⟩) → Below w.heap.size w w' → w'.heap.size = w.heap.size + 1 → Q .normal act' w') : Code.wp Try.prog (pick [1, 1, 1, 1, 1, 1, 1, 1, 1, 0] b13) Q act w := by
  obtain ⟨g, rfl⟩ := hI
  have HN : Hid _ := hnext
  have hmk := run_make_row' (P := Try.prog) 23 9 (.string ⟨#[]⟩) 16 Try.underlying23 info9c rfl .i64 .i64 n (by omega) (by omega)
  clear hnext
  conv => arg 2; whnf
  go_wp2
  exact HN.out _ _ (J13_mk _ rfl rfl rfl rfl rfl rfl rfl rfl rfl rfl rfl rfl rfl rfl rfl rfl rfl rfl rfl) (World.rowIs_made w (.string ⟨#[]⟩) n 9) ((Below.refl _ _).alloc (Nat.le_refl _) _) (by simp)

set_option maxHeartbeats 4000000 in
set_option maxRecDepth 100000 in
theorem y10 (v0 v1 v3 v11 v12 v14 v15 v16 v17 v19 v21 v23 v24 v25 v26 v27 v20 : Value) (sa : Option Addr) (n sc : Nat) (w : World) (Q : Exit → Act → World → Prop) (hn : n ≤ 65536) (act : Act) (hI : J13 v0 v1 (.slice sa n sc) v3 v11 v12 v14 v15 v16 v17 v19 v20 v21 v23 v24 v25 v26 v27 act)
    (hnext : ∀ act' w', J13 v0 v1 (.slice sa n sc) v3 v11 v12 v14 v15 v16 v17 v19 (.slice (some ⟨w.heap.size, 0, none⟩) n n) v21 v23 v24 v25 v26 v27 act' → w'.rowIs w.heap.size 87 n (fun _ => .slice none 0 0) → Below w.heap.size w w' → w'.heap.size = w.heap.size + 1 → Q .normal act' w') : Code.wp Try.prog (pick [1, 1, 1, 1, 1, 1, 1, 1, 1, 1, 0] b13) Q act w := by
  obtain ⟨g, rfl⟩ := hI
  have HN : Hid _ := hnext
  have hmk := run_make_row' (P := Try.prog) 86 87 (.slice none 0 0) 24 Try.underlying86 info87 rfl .i64 .i64 n (by omega) (by omega)
  clear hnext
  conv => arg 2; whnf
  go_wp2
  exact HN.out _ _ (J13_mk _ rfl rfl rfl rfl rfl rfl rfl rfl rfl rfl rfl rfl rfl rfl rfl rfl rfl rfl rfl) (World.rowIs_made w (.slice none 0 0) n 87) ((Below.refl _ _).alloc (Nat.le_refl _) _) (by simp)

set_option maxHeartbeats 4000000 in
set_option maxRecDepth 100000 in
theorem y11 (v0 v1 v3 v11 v12 v14 v15 v16 v17 v19 v20 v23 v24 v25 v26 v27 v21 : Value) (sa : Option Addr) (n sc : Nat) (w : World) (Q : Exit → Act → World → Prop) (hn : n ≤ 65536) (act : Act) (hI : J13 v0 v1 (.slice sa n sc) v3 v11 v12 v14 v15 v16 v17 v19 v20 v21 v23 v24 v25 v26 v27 act)
    (hnext : ∀ act' w', J13 v0 v1 (.slice sa n sc) v3 v11 v12 v14 v15 v16 v17 v19 v20 (.slice (some ⟨w.heap.size, 0, none⟩) n n) v23 v24 v25 v26 v27 act' → w'.rowIs w.heap.size 87 n (fun _ => .slice none 0 0) → Below w.heap.size w w' → w'.heap.size = w.heap.size + 1 → Q .normal act' w') : Code.wp Try.prog (pick [1, 1, 1, 1, 1, 1, 1, 1, 1, 1, 1, 0] b13) Q act w := by
  obtain ⟨g, rfl⟩ := hI
  have HN : Hid _ := hnext
  have hmk := run_make_row' (P := Try.prog) 86 87 (.slice none 0 0) 24 Try.underlying86 info87 rfl .i64 .i64 n (by omega) (by omega)
  clear hnext
  conv => arg 2; whnf
  go_wp2
  exact HN.out _ _ (J13_mk _ rfl rfl rfl rfl rfl rfl rfl rfl rfl rfl rfl rfl rfl rfl rfl rfl rfl rfl rfl) (World.rowIs_made w (.slice none 0 0) n 87) ((Below.refl _ _).alloc (Nat.le_refl _) _) (by simp)

set_option maxHeartbeats 4000000 in
set_option maxRecDepth 100000 in
theorem y3 (v1 v2 v3 v14 v15 v16 v17 v19 v20 v21 v23 v24 v25 v26 v27 : Value) (sa : Option Addr) (n sc O1 O2 : Nat) (nb na : Nat → Int) (w0 w : World) (Q : Exit → Act → World → Prop) (hn : n ≤ 65536) (hW : Wins w0 sa n nb na) (hb0 : Below w0.heap.size w0 w) (h1 : w0.heap.size ≤ O1) (h2 : O1 < O2) (r1 : w.rowIs O1 2 n (fun _ => .int .i64 0)) (r2 : w.rowIs O2 2 n (fun _ => .int .i64 0)) (act : Act) (hI : J13 (.slice sa n sc) v1 v2 v3 (.slice (some ⟨O1, 0, none⟩) n n) (.slice (some ⟨O2, 0, none⟩) n n) v14 v15 v16 v17 v19 v20 v21 v23 v24 v25 v26 v27 act)
    (hnext : ∀ act' w', J13 (.slice sa n sc) v1 v2 v3 (.slice (some ⟨O1, 0, none⟩) n n) (.slice (some ⟨O2, 0, none⟩) n n) v14 v15 v16 v17 v19 v20 v21 v23 v24 v25 v26 v27 act' → w'.rowIs O1 2 n (upto nb n) → w'.rowIs O2 2 n (upto na n) → Below O1 w w' → w'.heap.size = w.heap.size → Q .normal act' w') : Code.wp Try.prog (pick [1, 1, 1, 0] b13) Q act w := by
  obtain ⟨g, rfl⟩ := hI
  have HN : Hid _ := hnext
  have HW : Hid (Wins w0 sa n nb na) := hW
  have HB0 : Hid (Below w0.heap.size w0 w) := hb0
  have R1 : Hid (w.rowIs O1 2 n (upto nb 0)) := r1.congr fun j _ => by simp [upto]
  have R2 : Hid (w.rowIs O2 2 n (upto na 0)) := r2.congr fun j _ => by simp [upto]
  clear hnext hW hb0 r1 r2
  conv => arg 2; whnf
  go_wp2
  go_loopw [13] (fun i wr => ∃ k : Nat, k ≤ n ∧ i = .int .i64 k ∧ Hid (wr.rowIs O1 2 n (upto nb k)) ∧ Hid (wr.rowIs O2 2 n (upto na k)) ∧ Hid (Below O1 w wr) ∧ Hid (wr.heap.size = w.heap.size)) (fun i _ => n - (intOf i).toNat)
  case atStart => exact ⟨0, Nat.zero_le _, rfl, R1, R2, Below.refl _ _, rfl⟩
  case round =>
    obtain ⟨k, hk, rfl, hr1, hr2, hb, hsz⟩ := hrel
    by_cases hlt : k < n
    · obtain ⟨b, off, rfl, hlb, c0, c1⟩ := (HW.out.below (HB0.out.trans (hb.out.mono h1))).at hlt
      have hlb2 : b < w0.heap.size := by
        obtain ⟨b', off', e, hl, _⟩ := HW.out.at hlt
        simp at e; omega
      have d1 := hr1.out.cell (i := k) hlt
      have f1 := hr1.out.frozen k
      have d2 := hr2.out.cell (i := k) hlt
      have f2 := hr2.out.frozen k
      have RH1 : Hid _ := (int_step hr1.out).setOther (a := ⟨O2, k, none⟩) (by show O1 ≠ O2; omega) (.int .i64 (na k))
      have RH2 : Hid _ := int_step (hr2.out.setOther (a := ⟨O1, k, none⟩) (by show O2 ≠ O1; omega) (.int .i64 (nb k)))
      have n1 : O1 ≠ O2 := by omega
      have n2 : O2 ≠ O1 := by omega
      have n3 : b ≠ O1 := by omega
      have n4 : b ≠ O2 := by omega
      clear hr1 hr2
      go_wp2
      go_roundw
      case rel => exact ⟨k + 1, by omega, by go_num, RH1, RH2, (hb.out.setCell (Nat.le_refl _) _).setCell (by simp; omega) _, by have := hsz.out; show _ = _; simpa [World.setCell] using this⟩
      case measure => simp [intOf]; omega
    · obtain rfl : k = n := by omega
      go_wp2
      exact HN.out _ _ (J13_mk _ rfl rfl rfl rfl rfl rfl rfl rfl rfl rfl rfl rfl rfl rfl rfl rfl rfl rfl rfl) hr1.out hr2.out hb.out hsz.out
end Go.Proofs.Qxb6612720a
