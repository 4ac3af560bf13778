import Derived.Test.Qxb6612720aPe
import Derived.Test.Qxb6612720aPh
import Derived.Laws.CopyOwn
namespace Go.Proofs.Qxb6612720a
open Go.RowKit
set_option linter.unusedVariables false

noncomputable def b3 : Code := (Try.f3.body).getD .skip
set_option maxRecDepth 100000 in
/-- The law's frame at a statement's head: the slots that matter, whatever else. -/
def J3 (v0 v1 v2 v3 v4 v13 v14 v15 v16 v17 v20 : Value) (act : Act) : Prop := ∃ g : Nat → Value, act = ⟨#[v0, v1, v2, v3, v4, g 5, g 6, g 7, g 8, g 9, g 10, g 11, g 12, v13, v14, v15, v16, v17, g 18, g 19, v20, g 21, g 22, g 23, g 24, g 25, g 26, g 27, g 28, g 29, g 30, g 31, g 32, g 33, g 34, g 35, g 36, g 37, g 38, g 39, g 40, g 41, g 42, g 43, g 44, g 45, g 46, g 47, g 48, g 49, g 50, g 51, g 52, g 53, g 54, g 55, g 56, g 57, g 58, g 59, g 60, g 61, g 62, g 63, g 64, g 65, g 66, g 67, g 68, g 69, g 70, g 71, g 72, g 73, g 74, g 75, g 76, g 77, g 78, g 79, g 80, g 81, g 82, g 83, g 84, g 85, g 86, g 87, g 88, g 89, g 90, g 91, g 92, g 93, g 94, g 95, g 96, g 97, g 98, g 99, g 100, g 101, g 102, g 103, g 104, g 105, g 106, g 107, g 108, g 109, g 110, g 111, g 112, g 113, g 114, g 115, g 116, g 117, g 118, g 119, g 120, g 121, g 122, g 123, g 124, g 125, g 126, g 127, g 128, g 129, g 130, g 131, g 132, g 133, g 134, g 135, g 136, g 137, g 138, g 139, g 140, g 141, g 142, g 143, g 144, g 145, g 146, g 147, g 148, g 149, g 150, g 151, g 152, g 153, g 154, g 155, g 156, g 157, g 158, g 159, g 160, g 161, g 162, g 163, g 164, g 165, g 166, g 167, g 168, g 169, g 170, g 171, g 172, g 173, g 174, g 175, g 176, g 177, g 178, g 179, g 180, g 181, g 182, g 183, g 184, g 185, g 186, g 187, g 188, g 189, g 190, g 191, g 192, g 193, g 194, g 195, g 196, g 197, g 198, g 199, g 200, g 201, g 202, g 203, g 204], []⟩
set_option maxRecDepth 100000 in
set_option maxHeartbeats 2000000 in
theorem J3_mk {v0 v1 v2 v3 v4 v13 v14 v15 v16 v17 v20 : Value} (fr : Array Value) (hs : fr.size = 205) (h0 : fr[0]? = some v0) (h1 : fr[1]? = some v1) (h2 : fr[2]? = some v2) (h3 : fr[3]? = some v3) (h4 : fr[4]? = some v4) (h13 : fr[13]? = some v13) (h14 : fr[14]? = some v14) (h15 : fr[15]? = some v15) (h16 : fr[16]? = some v16) (h17 : fr[17]? = some v17) (h20 : fr[20]? = some v20) : J3 v0 v1 v2 v3 v4 v13 v14 v15 v16 v17 v20 ⟨fr, []⟩ := by
  refine ⟨fun i => fr[i]!, ?_⟩
  rw [fr_at h0, fr_at h1, fr_at h2, fr_at h3, fr_at h4, fr_at h13, fr_at h14, fr_at h15, fr_at h16, fr_at h17, fr_at h20]
  exact congrArg (fun f => Act.mk f []) (fr_list fr 205 hs)

/-- A row of one-cell values. -/
def Vals (w : World) (a : Option Addr) (n : Nat) (F : Nat → Value) : Prop := n = 0 ∨ ∃ b off, a = some ⟨b, off, none⟩ ∧ ∀ j, j < n → w.cell? ⟨b, off + j, none⟩ = some (F j)
def vals (n : Nat) (F : Nat → Value) : List Value := (List.range n).map F
theorem vals_len (n : Nat) (F : Nat → Value) : (vals n F).length = n := by simp [vals]
theorem vals_get {n : Nat} {F : Nat → Value} {j : Nat} {v : Value} (h : (vals n F)[j]? = some v) : j < n ∧ v = F j := by
  have hj : j < n := by have := (List.getElem?_eq_some_iff.1 h).1; rwa [vals_len] at this
  refine ⟨hj, ?_⟩
  have e : (vals n F)[j]? = some (F j) := by simp [vals, hj]
  rw [e] at h
  exact (Option.some.inj h).symm
theorem vals_src {w : World} {ad : Addr} {n : Nat} {F : Nat → Value} (h : Hid (Vals w (some ad) n F)) (o : Obj) : 0 < (vals n F).length → ∀ j v, (vals n F)[j]? = some v → (w.alloc o).cell? (ad.add j) = some v := by
  intro hp
  rw [vals_len] at hp
  rcases h.out with h | ⟨b, off, e, hc⟩
  · omega
  · obtain rfl := Option.some.inj e
    intro j v hv
    obtain ⟨hj, rfl⟩ := vals_get hv
    rw [Addr.add_lit, World.cell?_alloc_lt _ _ _ (World.block_lt_of_cell? w _ (hc j hj))]
    exact hc j hj
theorem vals_all {w : World} {g n t : Nat} {z : Value} {F : Nat → Value} (h : Hid (w.heap[g]? = some (.cells (splice (madeCells #[z] n).toList 0 (vals n F)).toArray t (0, 0)))) : Vals w (some ⟨g, 0, none⟩) n F := by
  have e : splice (madeCells #[z] n).toList 0 (vals n F) = vals n F := by
    simp only [splice, List.take_zero, List.nil_append, vals_len, Nat.zero_add]
    rw [List.drop_eq_nil_of_le (by simp [size_madeCells])]; simp
  have h' := h.out
  rw [e] at h'
  exact Or.inr ⟨g, 0, rfl, fun j hj => by simp [World.cell?, h', vals, hj]⟩
theorem info9 : (Try.prog.info? 9).map (fun i => (i.zero, i.size, i.bytes)) = some (some (.string ⟨#[]⟩), 1, 16) := by kernel_rfl
theorem info4 : (Try.prog.info? 4).map (fun i => (i.zero, i.size, i.bytes)) = some (some (.bool false), 1, 1) := by kernel_rfl
theorem size9 : (Try.prog.info? 9).map (·.size) = some 1 := by kernel_rfl
theorem size4 : (Try.prog.info? 4).map (·.size) = some 1 := by kernel_rfl

set_option maxHeartbeats 2000000 in
set_option maxRecDepth 100000 in
theorem st4 (v0 v1 v3 v4 v13 v14 v15 v16 v17 v20 : Value) (a : Option Addr) (n c : Nat) (F : Nat → ByteArray) (w : World) (Q : Exit → Act → World → Prop) (hn : n ≤ 65536) (hS : Vals w a n (fun j => .string (F j))) (act : Act) (hI : J3 v0 v1 (.slice a n c) v3 v4 v13 v14 v15 v16 v17 v20 act)
    (hnext : ∀ a' c' act' w', J3 v0 v1 (.slice a' n c') v3 v4 v13 v14 v15 v16 v17 v20 act' → Below w.heap.size w w' → Vals w' a' n (fun j => .string (F j)) → Q .normal act' w') : Code.wp Try.prog (pick [1, 1, 1, 1, 0] b3) Q act w := by
  obtain ⟨g, rfl⟩ := hI
  have HS : Hid (Vals w a n (fun j => .string (F j))) := hS
  have HN : Hid (∀ a' c' act' w', J3 v0 v1 (.slice a' n c') v3 v4 v13 v14 v15 v16 v17 v20 act' → Below w.heap.size w w' → Vals w' a' n (fun j => .string (F j)) → Q .normal act' w') := hnext
  clear hS hnext
  have q23 : ∀ w : World, (binOp .neq 23 (.slice a n c) (.slice none 0 0)).run Try.prog w = .ok (.bool (!a.isNone)) w := fun w => run_neq_slice_nil_any w _ _ _ _ _ _ _ Try.underlying23
  cases a with
  | none =>
    conv => arg 2; whnf
    go_wp2
    exact HN.out _ _ _ _ (J3_mk _ rfl rfl rfl rfl rfl rfl rfl rfl rfl rfl rfl rfl) (Below.refl _ _) HS.out
  | some ad =>
    have hmk := run_make_row' (P := Try.prog) 23 9 (.string ⟨#[]⟩) 16 Try.underlying23 info9 rfl .i64 .i64 n (by omega) (by omega)
    conv => arg 2; whnf
    go_wp2_with (refine wpList_copy_splice rfl (.tmp 49) (.tmp 50) 23 23 rfl 9 Try.underlying23 size9 _ _ n n n c rfl rfl w.heap.size 0 (madeCells #[(.string ⟨#[]⟩)] n).toList 9 ?g1 (vals n (fun j => .string (F j))) ?g2 ?g3 ?g4 ?g5 w.heap.size w ?g6 (Nat.le_refl _) ?g7)
    case g1 => exact heap_alloc_new w _
    case g2 => rw [vals_len]; exact (Nat.min_self n).symm
    case g3 => exact vals_src HS _
    case g4 => simp [vals_len, size_madeCells]
    case g5 => intro v hv; simp [vals] at hv; obtain ⟨x, _, rfl⟩ := hv; rfl
    case g6 => exact (Below.refl _ _).alloc (Nat.le_refl _) _
    case g7 =>
      intro w2 hg hb
      have HB : Hid (Below w.heap.size w w2) := hb
      clear hb
      go_wp2
      exact HN.out _ _ _ _ (J3_mk _ rfl rfl rfl rfl rfl rfl rfl rfl rfl rfl rfl rfl) HB.out (vals_all hg)

set_option maxHeartbeats 2000000 in
set_option maxRecDepth 100000 in
theorem st5 (v0 v1 v2 v4 v13 v14 v15 v16 v17 v20 : Value) (a : Option Addr) (n c : Nat) (F : Nat → Bool) (w : World) (Q : Exit → Act → World → Prop) (hn : n ≤ 1048576) (hS : Vals w a n (fun j => .bool (F j))) (act : Act) (hI : J3 v0 v1 v2 (.slice a n c) v4 v13 v14 v15 v16 v17 v20 act)
    (hnext : ∀ a' c' act' w', J3 v0 v1 v2 (.slice a' n c') v4 v13 v14 v15 v16 v17 v20 act' → Below w.heap.size w w' → Vals w' a' n (fun j => .bool (F j)) → Q .normal act' w') : Code.wp Try.prog (pick [1, 1, 1, 1, 1, 0] b3) Q act w := by
  obtain ⟨g, rfl⟩ := hI
  have HS : Hid (Vals w a n (fun j => .bool (F j))) := hS
  have HN : Hid (∀ a' c' act' w', J3 v0 v1 v2 (.slice a' n c') v4 v13 v14 v15 v16 v17 v20 act' → Below w.heap.size w w' → Vals w' a' n (fun j => .bool (F j)) → Q .normal act' w') := hnext
  clear hS hnext
  have q23 : ∀ w : World, (binOp .neq 24 (.slice a n c) (.slice none 0 0)).run Try.prog w = .ok (.bool (!a.isNone)) w := fun w => run_neq_slice_nil_any w _ _ _ _ _ _ _ Try.underlying24
  cases a with
  | none =>
    conv => arg 2; whnf
    go_wp2
    exact HN.out _ _ _ _ (J3_mk _ rfl rfl rfl rfl rfl rfl rfl rfl rfl rfl rfl rfl) (Below.refl _ _) HS.out
  | some ad =>
    have hmk := run_make_row' (P := Try.prog) 24 4 (.bool false) 1 Try.underlying24 info4 rfl .i64 .i64 n (by omega) (by omega)
    conv => arg 2; whnf
    go_wp2_with (refine wpList_copy_splice rfl (.tmp 58) (.tmp 59) 24 24 rfl 4 Try.underlying24 size4 _ _ n n n c rfl rfl w.heap.size 0 (madeCells #[(.bool false)] n).toList 4 ?g1 (vals n (fun j => .bool (F j))) ?g2 ?g3 ?g4 ?g5 w.heap.size w ?g6 (Nat.le_refl _) ?g7)
    case g1 => exact heap_alloc_new w _
    case g2 => rw [vals_len]; exact (Nat.min_self n).symm
    case g3 => exact vals_src HS _
    case g4 => simp [vals_len, size_madeCells]
    case g5 => intro v hv; simp [vals] at hv; obtain ⟨x, _, rfl⟩ := hv; rfl
    case g6 => exact (Below.refl _ _).alloc (Nat.le_refl _) _
    case g7 =>
      intro w2 hg hb
      have HB : Hid (Below w.heap.size w w2) := hb
      clear hb
      go_wp2
      exact HN.out _ _ _ _ (J3_mk _ rfl rfl rfl rfl rfl rfl rfl rfl rfl rfl rfl rfl) HB.out (vals_all hg)

/-- The policies that toPolicies made, as they stand in memory. -/
def PolsW (w : World) (O n : Nat) (T : Nat → Tg) : Prop := ∀ i, i < n → TgL w (T i) ∧ EnvAt w O (T i) ∧ ∃ ra rn rc, PCells w O (i * 6) (T i) ra rn rc
theorem PolsW.below {w w' : World} {O n : Nat} {T : Nat → Tg} (h : PolsW w O n T) (hb : Below w.heap.size w w') : PolsW w' O n T := by
  intro i hi
  obtain ⟨h1, h2, ra, rn, rc, h3⟩ := h i hi
  exact ⟨h1.below hb, h2.below hb, ra, rn, rc, h3.below hb⟩
def noTg : Tg := ⟨em, ⟨none, 0, 0, fun _ => em⟩, ⟨none, 0, 0, fun _ => em⟩, ⟨none, 0, 0, fun _ => em⟩, none, ⟨none, 0, 0, fun _ => em⟩, ⟨none, 0, 0, fun _ => em⟩⟩
theorem pols_of {w w' : World} {n : Nat} {f : Nat → Value} (hb : Below w.heap.size w w') (hr : w'.rowIs w.heap.size 45 (n * 6) f) (hp : PolR w w' w.heap.size n f) : ∃ T, PolsW w' w.heap.size n T := by
  have : ∀ i, ∃ t, i < n → TgL w t ∧ EnvAt w' w.heap.size t ∧ Cells6 f (i * 6) t := fun i => by
    by_cases h : i < n
    · obtain ⟨t, ht⟩ := hp i h
      exact ⟨t, fun _ => ht⟩
    · exact ⟨noTg, fun h' => absurd h' h⟩
  obtain ⟨T, hT⟩ := Classical.skolem.1 this
  refine ⟨T, fun i hi => ?_⟩
  obtain ⟨h1, h2, h3⟩ := hT i hi
  obtain ⟨ra, rn, rc, h5⟩ := h3.c5
  refine ⟨h1.below hb, h2, ra, rn, rc, ?_, ?_, ?_, ?_, ?_, ?_⟩
  · rw [hr.cell (by omega), h3.c0]
  · rw [hr.cell (by omega), h3.c1]
  · rw [hr.cell (by omega), h3.c2]
  · rw [hr.cell (by omega), h3.c3]
  · rw [hr.cell (by omega), h3.c4]
  · rw [hr.cell (by omega), h5]

/-- An answered policy set behind a pointer. -/
def Ans (w : World) (bp n : Nat) (T : Nat → Tg) (ef : Nat → ByteArray) : Prop := ∃ O, w.cell? ⟨bp, 2, none⟩ = some (.slice (some ⟨O, 0, none⟩) n n) ∧ ∀ i, i < n → ∃ rb, PCells w O (i * 6) (T i) (some ⟨rb, 0, none⟩) 1 1 ∧ w.cell? ⟨rb, 0, none⟩ = some (.string (ef i)) ∧ w.cell? ⟨rb, 1, none⟩ = some (.pointer none)
theorem Ans.below {w w' : World} {bp n : Nat} {T : Nat → Tg} {ef : Nat → ByteArray} (h : Ans w bp n T ef) (hb : Below w.heap.size w w') : Ans w' bp n T ef := by
  obtain ⟨O, h1, h2⟩ := h
  refine ⟨O, (hb.cell (p := ⟨bp, 2, none⟩) (World.block_lt_of_cell? w _ h1)).trans h1, fun i hi => ?_⟩
  obtain ⟨rb, p, q, r⟩ := h2 i hi
  exact ⟨rb, p.below hb, (hb.cell (p := ⟨rb, 0, none⟩) (World.block_lt_of_cell? w _ q)).trans q, (hb.cell (p := ⟨rb, 1, none⟩) (World.block_lt_of_cell? w _ r)).trans r⟩
theorem ans_of {w W : World} {O n : Nat} {f : Nat → Value} {T : Nat → Tg} {ef : Nat → ByteArray} (hr : w.rowIs O 45 (n * 6) f) (ho : OutK w O n f T ef) (hb : Below w.heap.size w W) (hc : W.cell? ⟨w.heap.size, 2, none⟩ = some (.slice (some ⟨O, 0, none⟩) n n)) : Ans W w.heap.size n T ef := by
  refine ⟨O, hc, fun i hi => ?_⟩
  obtain ⟨rb, _, h2, h3, h4, h5⟩ := ho i hi
  have hp : PCells w O (i * 6) (T i) (some ⟨rb, 0, none⟩) 1 1 := by
    refine ⟨?_, ?_, ?_, ?_, ?_, ?_⟩
    · rw [hr.cell (by omega), h3.c0]
    · rw [hr.cell (by omega), h3.c1]
    · rw [hr.cell (by omega), h3.c2]
    · rw [hr.cell (by omega), h3.c3]
    · rw [hr.cell (by omega), h3.c4]
    · rw [hr.cell (by omega), h3.c5]
  exact ⟨rb, hp.below hb, (hb.cell (p := ⟨rb, 0, none⟩) h2).trans h4, (hb.cell (p := ⟨rb, 1, none⟩) h2).trans h5⟩

set_option maxHeartbeats 2000000 in
set_option maxRecDepth 100000 in
theorem st6 (v1 v2 v3 v4 v13 v14 v15 v16 v17 v20 : Value) (a : Option Addr) (n c : Nat) (P : Nat → Pl) (w : World) (Q : Exit → Act → World → Prop) (hn : n ≤ 65536) (hP : Pols w a n P) (hy : ∀ j, j < n → (P j).y.n ≤ 65536) (act : Act) (hI : J3 (.slice a n c) v1 v2 v3 v4 v13 v14 v15 v16 v17 v20 act)
    (hnext : ∀ O T act' w', J3 (.slice a n c) v1 v2 v3 v4 (.slice (some ⟨O, 0, none⟩) n n) v14 v15 v16 v17 v20 act' → Below w.heap.size w w' → PolsW w' O n T → Q .normal act' w') : Code.wp Try.prog (pick [1, 1, 1, 1, 1, 1, 0] b3) Q act w := by
  obtain ⟨g, rfl⟩ := hI
  have HN : Hid (∀ O T act' w', J3 (.slice a n c) v1 v2 v3 v4 (.slice (some ⟨O, 0, none⟩) n n) v14 v15 v16 v17 v20 act' → Below w.heap.size w w' → PolsW w' O n T → Q .normal act' w') := hnext
  have C : Hid _ := policies_any a n c P w hn hP hy
  clear hnext hP hy
  conv => arg 2; whnf
  go_wp2_with fail
  refine Calls.mono C.out ?_
  rintro e w1 ⟨⟨rfl, f, hr, hp⟩, hb⟩
  obtain ⟨T, hT⟩ := pols_of hb hr hp
  have HT : Hid (PolsW w1 w.heap.size n T) := hT
  have HB : Hid (Below w.heap.size w w1) := hb
  clear hb hr hp hT C
  go_wp2
  exact HN.out _ T _ _ (J3_mk _ rfl rfl rfl rfl rfl rfl rfl rfl rfl rfl rfl rfl) HB.out HT.out

set_option maxHeartbeats 2000000 in
set_option maxRecDepth 100000 in
theorem st7 (v0 v1 v2 v3 v4 v13 v14 v15 v16 v17 v20 : Value) (w : World) (Q : Exit → Act → World → Prop) (act : Act) (hI : J3 v0 v1 v2 v3 v4 v13 v14 v15 v16 v17 v20 act)
    (hnext : ∀ act', J3 v0 v1 v2 v3 v4 v13 v4 v15 v16 v17 v20 act' → Q .normal act' w) : Code.wp Try.prog (pick [1, 1, 1, 1, 1, 1, 1, 0] b3) Q act w := by
  obtain ⟨g, rfl⟩ := hI
  have HN : Hid (∀ act', J3 v0 v1 v2 v3 v4 v13 v4 v15 v16 v17 v20 act' → Q .normal act' w) := hnext
  clear hnext
  conv => arg 2; whnf
  go_wp2
  exact HN.out _ (J3_mk _ rfl rfl rfl rfl rfl rfl rfl rfl rfl rfl rfl rfl)

set_option maxHeartbeats 2000000 in
set_option maxRecDepth 100000 in
theorem st8 (v0 v1 v2 v4 v13 v15 v16 v17 v20 : Value) (q : Option Addr) (m mc cut : Nat) (w : World) (Q : Exit → Act → World → Prop) (act : Act) (hI : J3 v0 v1 v2 (.slice q m mc) v4 v13 (.int .i64 cut) v15 v16 v17 v20 act)
    (hnext : ∀ act', J3 v0 v1 v2 (.slice q m mc) v4 v13 (.int .i64 (Nat.min cut m : Nat)) v15 v16 v17 v20 act' → Q .normal act' w) : Code.wp Try.prog (pick [1, 1, 1, 1, 1, 1, 1, 1, 0] b3) Q act w := by
  obtain ⟨g, rfl⟩ := hI
  by_cases h : m < cut
  · have e : Nat.min cut m = m := Nat.min_eq_right (by omega)
    rw [e] at hnext
    have HN : Hid (∀ act', J3 v0 v1 v2 (.slice q m mc) v4 v13 (.int .i64 m) v15 v16 v17 v20 act' → Q .normal act' w) := hnext
    clear hnext e
    conv => arg 2; whnf
    go_wp2
    exact HN.out _ (J3_mk _ rfl rfl rfl rfl rfl rfl rfl rfl rfl rfl rfl rfl)
  · have e : Nat.min cut m = cut := Nat.min_eq_left (by omega)
    rw [e] at hnext
    have HN : Hid (∀ act', J3 v0 v1 v2 (.slice q m mc) v4 v13 (.int .i64 cut) v15 v16 v17 v20 act' → Q .normal act' w) := hnext
    clear hnext e
    conv => arg 2; whnf
    go_wp2
    exact HN.out _ (J3_mk _ rfl rfl rfl rfl rfl rfl rfl rfl rfl rfl rfl rfl)

set_option maxHeartbeats 2000000 in
set_option maxRecDepth 100000 in
theorem st9 (v0 v4 v14 v15 v16 v17 v20 : Value) (depth : Int) (la q : Option Addr) (O n ln lc m mc : Nat) (T : Nat → Tg) (B : Nat → Bool) (w : World) (Q : Exit → Act → World → Prop) (hn : n ≤ 65536) (hm : m ≤ maxLen) (hP : PolsW w O n T) (hB : Bls w q m B) (act : Act)
    (hI : J3 v0 (.int .i64 depth) (.slice la ln lc) (.slice q m mc) v4 (.slice (some ⟨O, 0, none⟩) n n) v14 v15 v16 v17 v20 act)
    (hnext : ∀ bp act' w', J3 v0 (.int .i64 depth) (.slice la ln lc) (.slice q m mc) v4 (.slice (some ⟨O, 0, none⟩) n n) v14 (.pointer (some ⟨bp, 0, none⟩)) v16 v17 v20 act' → Below w.heap.size w w' → Ans w' bp n T (fun i => effB (hasB m B i)) → Q .normal act' w') : Code.wp Try.prog (pick [1, 1, 1, 1, 1, 1, 1, 1, 1, 0] b3) Q act w := by
  obtain ⟨g, rfl⟩ := hI
  have HN : Hid (∀ bp act' w', J3 v0 (.int .i64 depth) (.slice la ln lc) (.slice q m mc) v4 (.slice (some ⟨O, 0, none⟩) n n) v14 (.pointer (some ⟨bp, 0, none⟩)) v16 v17 v20 act' → Below w.heap.size w w' → Ans w' bp n T (fun i => effB (hasB m B i)) → Q .normal act' w') := hnext
  have C : Hid _ := zanswer_any (some ⟨O, 0, none⟩) la q n n ln lc m mc depth T B w hn hm (Or.inr ⟨O, 0, rfl, fun i hi => by rw [Nat.zero_add]; exact (hP i hi).2.2⟩) hB
  clear hnext hP hB hm
  conv => arg 2; whnf
  go_wp2_with fail
  refine Calls.mono C.out ?_
  rintro e w1 ⟨⟨O1, f, rfl, hO, hr, ho⟩, hb⟩
  have HR : Hid (w1.rowIs O1 45 (n * 6) f) := hr
  have HO : Hid (OutK w1 O1 n f T (fun i => effB (hasB m B i))) := ho
  have HB : Hid (Below w.heap.size w w1) := hb
  clear hb hr ho C
  go_wp2
  have hb2 : Below w1.heap.size w1 (w1.alloc (.cells #[.int .i64 depth, .slice la ln lc, .slice (some ⟨O1, 0, none⟩) n n] 34)) := (Below.refl _ _).alloc (Nat.le_refl _) _
  exact HN.out w1.heap.size _ _ (J3_mk _ rfl rfl rfl rfl rfl rfl rfl rfl rfl rfl rfl rfl) (HB.out.trans (hb2.mono HB.out.size)) (ans_of HR.out HO.out hb2 (by simp [go_sem]))
end Go.Proofs.Qxb6612720a
