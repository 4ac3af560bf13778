import Derived.Test.Qxb6612720aPf
namespace Go.Proofs.Qxb6612720a
open Go.RowKit
set_option linter.unusedVariables false

set_option maxHeartbeats 2000000 in
set_option maxRecDepth 100000 in
theorem st0 (v0 v1 v2 v3 v4 v13 v14 v15 v16 v17 v20 : Value) (w : World) (Q : Exit → Act → World → Prop) (act : Act) (hI : J3 v0 v1 v2 v3 v4 v13 v14 v15 v16 v17 v20 act)
    (hnext : ∀ act', J3 v0 v1 v2 v3 v4 v13 v14 v15 v16 v17 v20 act' → Q .normal act' w) : Code.wp Try.prog (pick [0] b3) Q act w := by
  obtain ⟨g, rfl⟩ := hI
  have HN : Hid (∀ act', J3 v0 v1 v2 v3 v4 v13 v14 v15 v16 v17 v20 act' → Q .normal act' w) := hnext
  clear hnext
  conv => arg 2; whnf
  go_wp2
  exact HN.out _ (J3_mk _ rfl rfl rfl rfl rfl rfl rfl rfl rfl rfl rfl rfl)

set_option maxHeartbeats 2000000 in
set_option maxRecDepth 100000 in
theorem st1 (v13 v14 v15 v16 v17 v20 : Value) (a s q : Option Addr) (n c sn sc m mc : Nat) (x y : Int) (P : Nat → Pl) (Ru : Nat → ByteArray) (w : World) (Q : Exit → Act → World → Prop) (hn : n ≤ maxLen) (hsn : sn ≤ maxLen) (hm : m ≤ maxLen) (hP : Pols w a n P) (hS : Strs w s sn Ru) (act : Act)
    (hI : J3 (.slice a n c) (.int .i64 x) (.slice s sn sc) (.slice q m mc) (.int .i64 y) v13 v14 v15 v16 v17 v20 act) (hret : ∀ fr, fr[10]? = some (.bool true) → Q .ret ⟨fr, []⟩ w) (hnext : ∀ act', J3 (.slice a n c) (.int .i64 x) (.slice s sn sc) (.slice q m mc) (.int .i64 y) v13 v14 v15 v16 v17 v20 act' → Q .normal act' w) : Code.wp Try.prog (pick [1, 0] b3) Q act w := by
  obtain ⟨g, rfl⟩ := hI
  have HN : Hid (∀ act', J3 (.slice a n c) (.int .i64 x) (.slice s sn sc) (.slice q m mc) (.int .i64 y) v13 v14 v15 v16 v17 v20 act' → Q .normal act' w) := hnext
  have HR : Hid (∀ fr, fr[10]? = some (.bool true) → Q .ret ⟨fr, []⟩ w) := hret
  have C : Hid _ := bytes6 a s q n c sn sc m mc x y P Ru w hn hsn hm hP hS
  clear hnext hret hn hsn hm hP hS
  conv => arg 2; whnf
  go_wp2_with fail
  refine Calls.mono C.out ?_
  rintro e w1 ⟨⟨r, rfl⟩, rfl⟩
  cases r with
  | false =>
    go_wp2
    exact HR.out _ rfl
  | true =>
    go_wp2
    exact HN.out _ (J3_mk _ rfl rfl rfl rfl rfl rfl rfl rfl rfl rfl rfl rfl)

set_option maxHeartbeats 2000000 in
set_option maxRecDepth 100000 in
theorem st2 (v13 v14 v15 v16 v17 v20 : Value) (a s q : Option Addr) (n c sn sc m mc : Nat) (x y : Int) (P : Nat → Pl) (Ru : Nat → ByteArray) (w : World) (Q : Exit → Act → World → Prop) (hn : n ≤ maxLen) (hsn : sn ≤ maxLen) (hm : m ≤ maxLen) (hP : Pols w a n P) (hS : Strs w s sn Ru) (act : Act)
    (hI : J3 (.slice a n c) (.int .i64 x) (.slice s sn sc) (.slice q m mc) (.int .i64 y) v13 v14 v15 v16 v17 v20 act) (hret : ∀ fr, fr[10]? = some (.bool true) → Q .ret ⟨fr, []⟩ w) (hnext : n ≤ 65536 → sn ≤ 65536 → m ≤ 1048576 → (∀ j, j < n → (P j).y.n ≤ 65536) → ∀ act', J3 (.slice a n c) (.int .i64 x) (.slice s sn sc) (.slice q m mc) (.int .i64 y) v13 v14 v15 v16 v17 v20 act' → Q .normal act' w) : Code.wp Try.prog (pick [1, 1, 0] b3) Q act w := by
  obtain ⟨g, rfl⟩ := hI
  have HN : Hid (n ≤ 65536 → sn ≤ 65536 → m ≤ 1048576 → (∀ j, j < n → (P j).y.n ≤ 65536) → ∀ act', J3 (.slice a n c) (.int .i64 x) (.slice s sn sc) (.slice q m mc) (.int .i64 y) v13 v14 v15 v16 v17 v20 act' → Q .normal act' w) := hnext
  have HR : Hid (∀ fr, fr[10]? = some (.bool true) → Q .ret ⟨fr, []⟩ w) := hret
  have C : Hid _ := fit_any a s q n c sn sc m mc P Ru w hn hsn hm hP hS
  clear hnext hret hn hsn hm hP hS
  conv => arg 2; whnf
  go_wp2_with fail
  refine Calls.mono C.out ?_
  rintro e w1 ⟨⟨r, rfl, hr⟩, rfl⟩
  cases r with
  | false =>
    clear hr
    go_wp2
    exact HR.out _ rfl
  | true =>
    have HF : Hid (n ≤ 65536 ∧ sn ≤ 65536 ∧ m ≤ 1048576 ∧ ∀ j, j < n → (P j).y.n ≤ 65536) := hr rfl
    clear hr
    go_wp2
    obtain ⟨k1, k2, k3, k4⟩ := HF.out
    exact HN.out k1 k2 k3 k4 _ (J3_mk _ rfl rfl rfl rfl rfl rfl rfl rfl rfl rfl rfl rfl)

set_option maxHeartbeats 2000000 in
set_option maxRecDepth 100000 in
theorem st3 (v1 v2 v3 v13 v14 v15 v16 v17 v20 : Value) (a : Option Addr) (n c : Nat) (y : Int) (w : World) (Q : Exit → Act → World → Prop) (hn : n ≤ 65536) (act : Act)
    (hI : J3 (.slice a n c) v1 v2 v3 (.int .i64 y) v13 v14 v15 v16 v17 v20 act) (hret : ∀ fr, fr[10]? = some (.bool true) → Q .ret ⟨fr, []⟩ w) (hnext : 0 ≤ y → y ≤ n → ∀ act', J3 (.slice a n c) v1 v2 v3 (.int .i64 y) v13 v14 v15 v16 v17 v20 act' → Q .normal act' w) : Code.wp Try.prog (pick [1, 1, 1, 0] b3) Q act w := by
  obtain ⟨g, rfl⟩ := hI
  have HN : Hid (0 ≤ y → y ≤ n → ∀ act', J3 (.slice a n c) v1 v2 v3 (.int .i64 y) v13 v14 v15 v16 v17 v20 act' → Q .normal act' w) := hnext
  have HR : Hid (∀ fr, fr[10]? = some (.bool true) → Q .ret ⟨fr, []⟩ w) := hret
  clear hnext hret
  by_cases h1 : y < 0
  · conv => arg 2; whnf
    go_wp2
    exact HR.out _ rfl
  by_cases h2 : (n : Int) < y
  · conv => arg 2; whnf
    go_wp2
    exact HR.out _ rfl
  conv => arg 2; whnf
  go_wp2
  exact HN.out (by omega) (by omega) _ (J3_mk _ rfl rfl rfl rfl rfl rfl rfl rfl rfl rfl rfl rfl)

set_option maxHeartbeats 2000000 in
set_option maxRecDepth 100000 in
theorem st5s (v0 v1 v2 v4 v13 v14 v15 v16 v17 v20 : Value) (ad : Addr) (n c : Nat) (F : Nat → Bool) (w : World) (Q : Exit → Act → World → Prop) (hn : n ≤ 1048576) (hS : Vals w (some ad) n (fun j => .bool (F j))) (act : Act) (hI : J3 v0 v1 v2 (.slice (some ad) n c) v4 v13 v14 v15 v16 v17 v20 act)
    (hnext : ∀ b act' w', J3 v0 v1 v2 (.slice (some ⟨b, 0, none⟩) n n) v4 v13 v14 v15 v16 v17 v20 act' → Below w.heap.size w w' → Vals w' (some ⟨b, 0, none⟩) n (fun j => .bool (F j)) → Q .normal act' w') : Code.wp Try.prog (pick [1, 1, 1, 1, 1, 0] b3) Q act w := by
  obtain ⟨g, rfl⟩ := hI
  have HS : Hid (Vals w (some ad) n (fun j => .bool (F j))) := hS
  have HN : Hid (∀ b act' w', J3 v0 v1 v2 (.slice (some ⟨b, 0, none⟩) n n) v4 v13 v14 v15 v16 v17 v20 act' → Below w.heap.size w w' → Vals w' (some ⟨b, 0, none⟩) n (fun j => .bool (F j)) → Q .normal act' w') := hnext
  clear hS hnext
  have q23 : ∀ w : World, (binOp .neq 24 (.slice (some ad) n c) (.slice none 0 0)).run Try.prog w = .ok (.bool (!(some ad).isNone)) w := fun w => run_neq_slice_nil_any w _ _ _ _ _ _ _ Try.underlying24
  have hmk := run_make_row' (P := Try.prog) 24 4 (.bool false) 1 Try.underlying24 info4 rfl .i64 .i64 n (by omega) (by omega)
  conv => arg 2; whnf
  go_wp2_with (refine wpList_copy_splice rfl (.tmp 58) (.tmp 59) 24 24 rfl 4 Try.underlying24 size4 _ _ n n n c rfl rfl w.heap.size 0 (madeCells #[.bool false] n).toList 4 ?g1 (vals n (fun j => .bool (F j))) ?g2 ?g3 ?g4 ?g5 w.heap.size w ?g6 (Nat.le_refl _) ?g7)
  case g1 => exact heap_alloc_new w _
  case g2 => rw [vals_len]; exact (Nat.min_self n).symm
  case g3 => exact vals_src HS _
  case g4 => simp [vals_len, size_madeCells]
  case g5 => intro v hv; simp [vals] at hv; obtain ⟨x, _, rfl⟩ := hv; rfl
  case g6 => exact (Below.refl _ _).alloc (Nat.le_refl _) _
  case g7 =>
    intro w2 hg hb
    have HB : Hid (Below w.heap.size w w2) := hb
    clear hb
    go_wp2
    exact HN.out _ _ _ (J3_mk _ rfl rfl rfl rfl rfl rfl rfl rfl rfl rfl rfl rfl) HB.out (vals_all hg)

set_option maxHeartbeats 2000000 in
set_option maxRecDepth 100000 in
theorem st5n (v0 v1 v2 v4 v13 v14 v15 v16 v17 v20 : Value) (w : World) (Q : Exit → Act → World → Prop) (act : Act) (hI : J3 v0 v1 v2 (.slice none 0 0) v4 v13 v14 v15 v16 v17 v20 act)
    (hnext : ∀ act', J3 v0 v1 v2 (.slice none 0 0) v4 v13 v14 v15 v16 v17 v20 act' → Q .normal act' w) : Code.wp Try.prog (pick [1, 1, 1, 1, 1, 0] b3) Q act w := by
  obtain ⟨g, rfl⟩ := hI
  have HN : Hid (∀ act', J3 v0 v1 v2 (.slice none 0 0) v4 v13 v14 v15 v16 v17 v20 act' → Q .normal act' w) := hnext
  clear hnext
  have q23 : ∀ w : World, (binOp .neq 24 (.slice none 0 0) (.slice none 0 0)).run Try.prog w = .ok (.bool false) w := fun w => run_neq_slice_nil_any w _ _ none _ _ _ _ Try.underlying24
  conv => arg 2; whnf
  go_wp2
  exact HN.out _ (J3_mk _ rfl rfl rfl rfl rfl rfl rfl rfl rfl rfl rfl rfl)
end Go.Proofs.Qxb6612720a
