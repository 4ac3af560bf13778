import Derived.Test.Qxb6612427aDoorBd
namespace Go.Proofs.Qxb6612427aDoor
open Go.RowKit
set_option linter.unusedVariables false

/-- The first room of 4096, 8192, .. (at most size) that exceeds n. -/
def isWant (n size W : Nat) : Prop :=
  (W = size ∨ W < size ∧ (W = 4096 ∨ W = 8192 ∨ W = 16384 ∨ W = 32768)) ∧ n < W ∧ (4096 < W → 4096 ≤ n) ∧ (8192 < W → 8192 ≤ n) ∧ (16384 < W → 16384 ≤ n) ∧ (32768 < W → 32768 ≤ n)

theorem isWant_one {n size W V : Nat} (h : isWant n size W) (k : isWant n size V) : W = V := by
  unfold isWant at h k; omega

/-- What readBody's loop holds at its head. -/
structure Inv (w wr : World) (sv : Option Addr) (R A n L : Nat) : Prop where
  os : wr.os = w.os
  tape : wr.tape = w.tape
  output : wr.output = w.output
  size : w.heap.size < wr.heap.size
  old : ∀ k, k < w.heap.size → k ≠ R → k ≠ A → wr.heap[k]? = w.heap[k]?
  rd : wr.heap[R]? = some (rdr (.slice sv n n) L (-1))
  ak : wr.heap[A]? = some (.cells #[.int .i64 L] 3 (0, 0))
  fr : wr.heap[w.heap.size]? = some (.cells #[.int .u8 0, .slice none 0 0] 109 (0, 0))

/-- The bytes gathered so far. -/
structure Got (w wr : World) (ds : List Value) (ao : Option Addr) (L : Nat) : Prop where
  none : ao = none → L = 0
  zero : L = 0 → ao = Option.none
  at' : ∀ ad, ao = some ad → ∃ g, ad = ⟨g, 0, Option.none⟩ ∧ w.heap.size < g ∧ wr.heap[g]? = some (.cells (ds.take L).toArray 5 (0, 0))

/-- The closure that counts what it is asked for. -/
theorem grow_call (A Y : Nat) (k m : Nat) (yes : Bool) (w : World) (hk : k + m ≤ 1048576) (hAY : A ≠ Y)
    (hA : w.heap[A]? = some (.cells #[.int .i64 k] 3 (0, 0))) (hY : w.heap[Y]? = some (.cells #[.bool yes] 4 (0, 0))) :
    Calls Tryd.prog 24 #[.int .i64 m, .pointer (some ⟨A, 0, none⟩), .pointer (some ⟨Y, 0, none⟩)] w fun e w' => e = .returned (.bool yes) ∧ w'.heap[A]? = some (.cells #[.int .i64 (k + m : Nat)] 3 (0, 0)) ∧
      w'.heap.size = w.heap.size ∧ w'.os = w.os ∧ w'.tape = w.tape ∧ w'.output = w.output ∧ ∀ j, j ≠ A → w'.heap[j]? = w.heap[j]? := by
  have c1 := cell_of_one hA
  have c2 := free_of_one hA
  have c3 := cell_of_one hY
  have H : Hid (w.heap[A]? = some (.cells #[.int .i64 k] 3 (0, 0))) := hA
  clear hA hY
  go_enter Tryd.func24, Tryd.ntmps24
  go_wp2
  go_ret
  refine ⟨rfl, ?_, by simp [World.setCell], rfl, rfl, rfl, fun j hj => Below.heap_setCell _ _ _ _ hj⟩
  have := one_setCell (u := .int .i64 (k + m : Nat)) H.out
  simpa using this

theorem neq_fun (c : Array Value) (w : World) : (binOp .neq 113 (.func (.func 24) #[] c) .nilFunc).run Tryd.prog w = .ok (.bool true) w := by kernel_rfl


theorem no_facts {w w1 : World} {R A Y n st : Nat} {sv : Option Addr} {an : Addr} (hA : A < w.heap.size) (hR : R < w.heap.size) (h0A : 0 < A) (hRA : R ≠ A)
    (H1 : Hid (w.heap[R]? = some (rdr (.slice sv n n) 0 (-1)) ∧ w.heap[A]? = some (.cells #[.int .i64 (0 : Nat)] 3 (0, 0)) ∧ w.heap[Y]? = some (.cells #[.bool false] 4 (0, 0)) ∧ w.cell? ⟨0, 0, none⟩ = some (.iface 150 (.pointer (some an)))))
    (k1 : w1.heap[A]? = some (.cells #[.int .i64 (0 + st : Nat)] 3 (0, 0))) (k2 : w1.heap.size = (w.alloc (.cells #[.int .u8 0, .slice none 0 0] 109)).heap.size) (k3 : w1.os = (w.alloc (.cells #[.int .u8 0, .slice none 0 0] 109)).os) (k4 : w1.tape = (w.alloc (.cells #[.int .u8 0, .slice none 0 0] 109)).tape) (k5 : w1.output = (w.alloc (.cells #[.int .u8 0, .slice none 0 0] 109)).output)
    (k6 : ∀ j, j ≠ A → w1.heap[j]? = (w.alloc (.cells #[.int .u8 0, .slice none 0 0] 109)).heap[j]?) :
    w1.cell? ⟨w.heap.size, 0, none⟩ = some (.int .u8 0) ∧ w1.cell? ⟨w.heap.size, 1, none⟩ = some (.slice none 0 0) ∧ (∀ o, w1.frozen? ⟨w.heap.size, o, none⟩ = false) ∧ w1.cell? ⟨0, 0, none⟩ = some (.iface 150 (.pointer (some an))) ∧
      Hid (w1.heap[R]? = some (rdr (.slice sv n n) 0 (-1)) ∧ w1.heap[A]? = some (.cells #[.int .i64 (st : Nat)] 3 (0, 0)) ∧ Beside A (w.heap.size + 1) (w.alloc (.cells #[.int .u8 0, .slice none 0 0] 109)) w1) := by
  have e : ∀ o, w1.cell? ⟨w.heap.size, o, none⟩ = (w.alloc (.cells #[.int .u8 0, .slice none 0 0] 109)).cell? ⟨w.heap.size, o, none⟩ := fun o => World.cell?_of_block (k6 _ (by show w.heap.size ≠ A; omega))
  have e' : ∀ o, w1.frozen? ⟨w.heap.size, o, none⟩ = (w.alloc (.cells #[.int .u8 0, .slice none 0 0] 109)).frozen? ⟨w.heap.size, o, none⟩ := fun o => World.frozen?_of_block (k6 _ (by show w.heap.size ≠ A; omega))
  refine ⟨by rw [e]; simp [go_sem], by rw [e]; simp [go_sem], fun o => by rw [e']; simp [go_sem], ?_, ?_, ?_, ?_⟩
  · rw [World.cell?_of_block (k6 0 (by omega)), World.cell?_alloc_lt _ _ _ (by show 0 < _; omega)]; exact H1.out.2.2.2
  · rw [k6 R hRA, Below.heap_alloc _ _ _ hR]; exact H1.out.1
  · simpa using k1
  · exact ⟨k3, k4, k5, by omega, fun k _ hn => k6 k hn⟩

set_option maxHeartbeats 400000 in
set_option maxRecDepth 100000 in
/-- grow refuses: one question, nothing read -/
theorem body_no (R A Y n size : Nat) (sv : Option Addr) (an : Addr) (w : World) (h1 : 1 ≤ size) (h2 : size ≤ 65536) (hA : A < w.heap.size) (hR : R < w.heap.size) (hY : Y < w.heap.size) (hAY : A ≠ Y) (hRA : R ≠ A) (h0A : 0 < A) (h0R : 0 < R)
    (hr : w.heap[R]? = some (rdr (.slice sv n n) 0 (-1))) (ha : w.heap[A]? = some (.cells #[.int .i64 (0 : Nat)] 3 (0, 0))) (hy : w.heap[Y]? = some (.cells #[.bool false] 4 (0, 0)))
    (hno : w.cell? ⟨0, 0, none⟩ = some (.iface 150 (.pointer (some an)))) :
    Calls Tryd.prog 22 #[.iface 106 (.pointer (some ⟨R, 0, none⟩)), .int .i64 size, .func (.func 24) #[] #[.pointer (some ⟨A, 0, none⟩), .pointer (some ⟨Y, 0, none⟩)]] w fun e w' =>
      ∃ a, e = .returned (.tuple #[.agg #[.int .u8 0, .slice none 0 0], .iface 150 (.pointer (some a))]) ∧ w'.heap[R]? = some (rdr (.slice sv n n) 0 (-1)) ∧ w'.heap[A]? = some (.cells #[.int .i64 (min size 4096 : Nat)] 3 (0, 0)) ∧ Beside A w.heap.size w w' := by
  have hnf := neq_fun #[.pointer (some ⟨A, 0, none⟩), .pointer (some ⟨Y, 0, none⟩)]
  have H1 : Hid (w.heap[R]? = some (rdr (.slice sv n n) 0 (-1)) ∧ w.heap[A]? = some (.cells #[.int .i64 (0 : Nat)] 3 (0, 0)) ∧ w.heap[Y]? = some (.cells #[.bool false] 4 (0, 0)) ∧ w.cell? ⟨0, 0, none⟩ = some (.iface 150 (.pointer (some an)))) := ⟨hr, ha, hy, hno⟩
  clear hr ha hy hno
  obtain ⟨st, hst, HST⟩ : ∃ st : Nat, (if (4096 : Int) < (size : Int) then (4096 : Int) else (size : Int)) = (st : Int) ∧ Hid (st = min size 4096) := by
    by_cases h : 4096 < size
    · exact ⟨4096, by rw [if_pos (by omega)]; rfl, by show 4096 = _; omega⟩
    · exact ⟨size, by rw [if_neg (by omega)], by show size = _; omega⟩
  have b1 : 1 ≤ st := by have := HST.out; omega
  have b2 : st ≤ size := by have := HST.out; omega
  have b3 : (if st < size then (st : Int) else (size : Int)) = (st : Int) := by
    by_cases h : st < size
    · rw [if_pos h]
    · rw [if_neg h]; omega
  go_enter Tryd.func22, Tryd.ntmps22
  go_wp2
  refine wp_loop_rounds 1 ?_
  rw [rounds_succ]
  go_wp2_with fail
  refine (grow_call A Y 0 st false _ (by omega) hAY ?a1 ?a2).mono ?_
  case a1 => exact (Below.heap_alloc _ _ _ hA).trans H1.out.2.1
  case a2 => exact (Below.heap_alloc _ _ _ hY).trans H1.out.2.2.1
  rintro e w1 ⟨rfl, k1, k2, k3, k4, k5, k6⟩
  have F := no_facts hA hR h0A hRA H1 k1 k2 k3 k4 k5 k6
  clear k1 k2 k3 k4 k5 k6
  obtain ⟨c0, c1, f0, hn0, M⟩ := F
  go_wp2
  go_region
  all_goals go_wp2
  refine bodyPost_ret (v := .tuple #[.agg #[.int .u8 0, .slice none 0 0], .iface 150 (.pointer (some an))]) (by simp [results, Tryd.results22, go_sem, c0, c1]) rfl ⟨an, rfl, ?_, ?_, ?_⟩
  · rw [heap_set2 _ _ _ _ _ (by omega)]; exact M.out.1
  · rw [heap_set2 _ _ _ _ _ (by omega), ← HST.out]; exact M.out.2.1
  · exact beside_set2 M.out.2.2 _ _

def lenOf : Value → Nat
  | .slice _ n _ => n
  | _ => 0
/-- The room of the next round. -/
def roomOf (size L : Nat) : Nat := min size (max (2 * L) (min size 4096))
/-- The lengths that the loop's head can see. -/
def okLen (size L : Nat) : Prop := L = 0 ∨ L = size ∨ L < size ∧ (L = 4096 ∨ L = 8192 ∨ L = 16384 ∨ L = 32768)
theorem roomOf_ok {size L : Nat} (h2 : size ≤ 65536) (hL : okLen size L) (h : L < size) : okLen size (roomOf size L) ∧ L < roomOf size L ∧ roomOf size L ≤ size := by
  unfold okLen roomOf at *; omega
theorem roomOf_want {size L n : Nat} (h2 : size ≤ 65536) (hL : okLen size L) (h : L < size) (hn : L ≤ n) (hr : n < roomOf size L) : isWant n size (roomOf size L) := by
  unfold okLen at hL; unfold roomOf at *; unfold isWant; omega

/-- The memory in the middle of a round: the reader stands at L, 'asked' holds 'room'. -/
structure St (w w1 : World) (sv : Value) (R A : Nat) (L p : Int) (room : Nat) : Prop where
  os : w1.os = w.os
  tape : w1.tape = w.tape
  output : w1.output = w.output
  size : w.heap.size < w1.heap.size
  old : ∀ k, k < w.heap.size → k ≠ R → k ≠ A → w1.heap[k]? = w.heap[k]?
  rd : w1.heap[R]? = some (rdr sv L p)
  ak : w1.heap[A]? = some (.cells #[.int .i64 room] 3 (0, 0))
  fr : w1.heap[w.heap.size]? = some (.cells #[.int .u8 0, .slice none 0 0] 109 (0, 0))

theorem Inv.st {w wr w1 : World} {sv : Option Addr} {R A n L m room : Nat} (h : Inv w wr sv R A n L) (hRA : R ≠ A) (hA : A < w.heap.size) (hm : L + m = room) (k1 : w1.heap[A]? = some (.cells #[.int .i64 (L + m : Nat)] 3 (0, 0)))
    (k2 : w1.heap.size = wr.heap.size) (k3 : w1.os = wr.os) (k4 : w1.tape = wr.tape) (k5 : w1.output = wr.output) (k6 : ∀ j, j ≠ A → w1.heap[j]? = wr.heap[j]?) : St w w1 (.slice sv n n) R A L (-1) room :=
  ⟨k3.trans h.os, k4.trans h.tape, k5.trans h.output, by rw [k2]; exact h.size, fun k hk hR hA => (k6 k hA).trans (h.old k hk hR hA), (k6 R hRA).trans h.rd, by rw [← hm]; exact k1, (k6 _ (by omega)).trans h.fr⟩

/-- Only blocks from w1's end on have turned. -/
theorem St.above {w w1 w2 : World} {sv : Value} {R A room : Nat} {L p : Int} (h : St w w1 sv R A L p room) (hR : R < w.heap.size) (hA : A < w.heap.size) (hb : Below w1.heap.size w1 w2) : St w w2 sv R A L p room := by
  have hs := h.size
  exact ⟨hb.os.trans h.os, hb.tape.trans h.tape, hb.output.trans h.output, Nat.lt_of_lt_of_le hs hb.size, fun k hk a b => (hb.block k (by omega)).trans (h.old k hk a b), (hb.block R (by omega)).trans h.rd, (hb.block A (by omega)).trans h.ak, (hb.block _ (by omega)).trans h.fr⟩

/-- The reader has moved on. -/
theorem St.read {w w2 w3 : World} {sv : Value} {R A B room : Nat} {L p L' p' : Int} (h : St w w2 sv R A L p room) (hR : R < w.heap.size) (hA : A < w.heap.size) (hRA : R ≠ A) (hB : w.heap.size < B) (hr : w3.heap[R]? = some (rdr sv L' p')) (hb : Beside R B w2 w3) : St w w3 sv R A L' p' room := by
  have hs := h.size
  exact ⟨hb.os.trans h.os, hb.tape.trans h.tape, hb.output.trans h.output, Nat.lt_of_lt_of_le hs hb.size, fun k hk a b => (hb.block k (by omega) a).trans (h.old k hk a b), hr, (hb.block A (by omega) (by omega)).trans h.ak, (hb.block _ (by omega) (by omega)).trans h.fr⟩

theorem St.cells {w w3 : World} {sv : Value} {R A room : Nat} {L p : Int} (h : St w w3 sv R A L p room) :
    w3.cell? ⟨w.heap.size, 0, none⟩ = some (.int .u8 0) ∧ w3.cell? ⟨w.heap.size, 1, none⟩ = some (.slice none 0 0) ∧ (∀ o, w3.frozen? ⟨w.heap.size, o, none⟩ = false) := by
  simp [World.cell?, World.frozen?, h.fr]

/-- Behind the two stores into the result. -/
theorem St.stored {w w3 : World} {sv : Value} {R A room : Nat} {L p : Int} (h : St w w3 sv R A L p room) (hR : R < w.heap.size) (hA : A < w.heap.size) (u v : Value) :
    let w' := (w3.setCell ⟨w.heap.size, 0, none⟩ u).setCell ⟨w.heap.size, 1, none⟩ v
    w'.heap[R]? = some (rdr sv L p) ∧ w'.heap[A]? = some (.cells #[.int .i64 room] 3 (0, 0)) ∧ w.heap.size ≤ w'.heap.size ∧ (w'.os = w.os ∧ w'.tape = w.tape ∧ w'.output = w.output ∧ ∀ k, k < w.heap.size → k ≠ R → k ≠ A → w'.heap[k]? = w.heap[k]?) := by
  have e : ∀ k, k ≠ w.heap.size → ((w3.setCell ⟨w.heap.size, 0, none⟩ u).setCell ⟨w.heap.size, 1, none⟩ v).heap[k]? = w3.heap[k]? := fun k hk => heap_set2 w3 w.heap.size k u v hk
  have hs := h.size
  refine ⟨(e R (by omega)).trans h.rd, (e A (by omega)).trans h.ak, ?_, h.os, h.tape, h.output, fun k hk a b => (e k (by omega)).trans (h.old k hk a b)⟩
  simp [World.setCell]; omega

/-- Behind the append: the bytes gathered lie at the head of the new room. -/
theorem after_append {w w1 w2 : World} {ds : List Value} {L room : Nat} {z : Array Value}
    (hown : w2.ownsRow (w.heap.size + 1) 5 1 (.slice (some ⟨w1.heap.size, 0, none⟩) L room) L (ds.take L)) (hgrow : (w1.alloc (.cells z 5)).grownBy w2 (some w1.heap.size)) :
    (∃ cur : List Value, Hid (w2.heap[w1.heap.size]? = some (.cells cur.toArray 5 (0, 0)) ∧ cur.take L = ds.take L) ∧ cur.length = room) ∧ Below w1.heap.size w1 w2 := by
  obtain ⟨cur, a, b, c, d⟩ := owned_block hown
  exact ⟨⟨cur, ⟨a, c⟩, b⟩, ((Below.refl _ _).alloc (Nat.le_refl _) _).grown hgrow (by simp) (by intro k hk; simp at hk; omega)⟩

theorem Got.cells {w wr w1 : World} {ds : List Value} {ao : Option Addr} {L A : Nat} {o : Obj} (h : Got w wr ds ao L) (hA : A < w.heap.size) (hs : w1.heap.size = wr.heap.size) (k6 : ∀ j, j ≠ A → w1.heap[j]? = wr.heap[j]?) :
    ∀ ad, ao = some ad → ∀ j u, (ds.take L)[j]? = some u → (w1.alloc o).cell? (ad.add j) = some u := by
  intro ad hao j u hu
  obtain ⟨g, rfl, hg, hh⟩ := h.at' ad hao
  have hlt := lt_of_block hh
  rw [Addr.add_lit, World.cell?_alloc_lt _ _ _ (by show g < _; omega)]
  simp only [World.cell?, k6 g (by omega), hh]
  simpa using hu

theorem splice_next {ds cur : List Value} {L room : Nat} (hL : L ≤ room) (hr : room ≤ ds.length) (hc : cur.length = room) (ht : cur.take L = ds.take L) : splice cur L ((ds.take room).drop L) = ds.take room := by
  have hlen : ((ds.take room).drop L).length = room - L := by simp; omega
  unfold splice
  have e : cur.drop (L + (room - L)) = [] := List.drop_eq_nil_of_le (by omega)
  rw [ht, hlen, e, List.append_nil]
  have : ds.take L = (ds.take room).take L := by rw [List.take_take]; congr 1; omega
  rw [this, List.take_append_drop]

theorem next_cells {w : World} {D : Nat} {ds : List Value} (h : w.heap[D]? = some (.cells ds.toArray 5 (0, 0))) (L room : Nat) : ∀ j v, ((ds.take room).drop L)[j]? = some v → w.cell? ⟨D, L + j, none⟩ = some v := by
  intro j v hv
  rw [List.getElem?_drop, List.getElem?_take] at hv
  split at hv
  · simp [World.cell?, h, hv]
  · cases hv

theorem drop_cells {w : World} {D : Nat} {ds : List Value} (h : w.heap[D]? = some (.cells ds.toArray 5 (0, 0))) (L : Nat) : ∀ j v, (ds.drop L)[j]? = some v → w.cell? ⟨D, L + j, none⟩ = some v := by
  intro j v hv
  rw [List.getElem?_drop] at hv
  simp [World.cell?, h, hv]
theorem old_glob {w w2 : World} {sv : Value} {R A room g : Nat} {L p : Int} {v : Value} (h : Hid (St w w2 sv R A L p room)) (hg : g < w.heap.size) (hR : g ≠ R) (hA : g ≠ A) (hv : w.cell? ⟨g, 0, none⟩ = some v) : w2.cell? ⟨g, 0, none⟩ = some v :=
  (World.cell?_of_block (h.out.old g hg hR hA)).trans hv
theorem first_byte {w : World} {g L : Nat} {ds : List Value} (hint : ∀ v ∈ ds, ∃ x : Int, v = .int .u8 x) (hL : L ≤ ds.length) (h1 : 1 ≤ L) (h : w.heap[g]? = some (.cells (ds.take L).toArray 5 (0, 0))) : ∃ x : Int, ds[0]? = some (.int .u8 x) ∧ w.cell? ⟨g, 0, none⟩ = some (.int .u8 x) := by
  match ds, hint, hL, h with
  | [], _, hL, _ => simp at hL; omega
  | k :: _, hint, _, h =>
    obtain ⟨x, rfl⟩ := hint k (by simp)
    exact ⟨x, rfl, by match L, h1 with | m + 1, _ => simp [World.cell?, h]⟩

set_option maxHeartbeats 1000000 in
set_option maxRecDepth 100000 in
/-- grow says yes -/
theorem body_yes (R A Y D n size : Nat) (sv : Option Addr) (ds : List Value) (ae au : Addr) (w : World) (hds : ds.length = n) (hn : n ≤ 1048576) (h1 : 1 ≤ size) (h2 : size ≤ 65536) (hA : A < w.heap.size) (hR : R < w.heap.size) (hY : Y < w.heap.size) (hAY : A ≠ Y) (hRA : R ≠ A) (hRY : R ≠ Y) (h6R : 6 < R) (h6A : 6 < A)
    (hsv : 0 < n → sv = some ⟨D, 0, none⟩ ∧ D < w.heap.size ∧ D ≠ R ∧ D ≠ A ∧ w.heap[D]? = some (.cells ds.toArray 5 (0, 0))) (hint : ∀ v ∈ ds, ∃ x : Int, v = .int .u8 x)
    (hr : w.heap[R]? = some (rdr (.slice sv n n) 0 (-1))) (ha : w.heap[A]? = some (.cells #[.int .i64 (0 : Nat)] 3 (0, 0))) (hy : w.heap[Y]? = some (.cells #[.bool true] 4 (0, 0)))
    (he : w.cell? ⟨5, 0, none⟩ = some (.iface 150 (.pointer (some ae)))) (hu : w.cell? ⟨6, 0, none⟩ = some (.iface 150 (.pointer (some au)))) :
    Calls Tryd.prog 22 #[.iface 106 (.pointer (some ⟨R, 0, none⟩)), .int .i64 size, .func (.func 24) #[] #[.pointer (some ⟨A, 0, none⟩), .pointer (some ⟨Y, 0, none⟩)]] w fun e w' =>
      (n < size ∧ ∃ a W p, e = .returned (.tuple #[.agg #[.int .u8 0, .slice none 0 0], .iface 150 (.pointer (some a))]) ∧ isWant n size W ∧ w'.heap[R]? = some (rdr (.slice sv n n) n p) ∧ w'.heap[A]? = some (.cells #[.int .i64 (W : Nat)] 3 (0, 0)) ∧ w.heap.size ≤ w'.heap.size ∧
        (w'.os = w.os ∧ w'.tape = w.tape ∧ w'.output = w.output ∧ ∀ k, k < w.heap.size → k ≠ R → k ≠ A → w'.heap[k]? = w.heap[k]?)) ∨
      (size ≤ n ∧ ∃ B pa, ∃ x : Int, e = .returned (.tuple #[.agg #[.int .u8 x, .slice (some pa) (size - 1) (size - 1)], .nilIface]) ∧ ds[0]? = some (.int .u8 x) ∧ (2 ≤ size → pa = ⟨B, 1, none⟩) ∧ w.heap.size ≤ B ∧ w'.heap[B]? = some (.cells (ds.take size).toArray 5 (0, 0)) ∧
        w'.heap[R]? = some (rdr (.slice sv n n) size (-1)) ∧ w'.heap[A]? = some (.cells #[.int .i64 (size : Nat)] 3 (0, 0)) ∧ w.heap.size ≤ w'.heap.size ∧
        (w'.os = w.os ∧ w'.tape = w.tape ∧ w'.output = w.output ∧ ∀ k, k < w.heap.size → k ≠ R → k ≠ A → w'.heap[k]? = w.heap[k]?)) := by
  have hnf := neq_fun #[.pointer (some ⟨A, 0, none⟩), .pointer (some ⟨Y, 0, none⟩)]
  have HH : Hid (w.heap[R]? = some (rdr (.slice sv n n) 0 (-1)) ∧ w.heap[A]? = some (.cells #[.int .i64 (0 : Nat)] 3 (0, 0)) ∧ w.heap[Y]? = some (.cells #[.bool true] 4 (0, 0)) ∧ w.cell? ⟨5, 0, none⟩ = some (.iface 150 (.pointer (some ae))) ∧ w.cell? ⟨6, 0, none⟩ = some (.iface 150 (.pointer (some au))) ∧ (∀ v ∈ ds, ∃ x : Int, v = .int .u8 x) ∧
    (0 < n → sv = some ⟨D, 0, none⟩ ∧ D < w.heap.size ∧ D ≠ R ∧ D ≠ A ∧ w.heap[D]? = some (.cells ds.toArray 5 (0, 0)))) := ⟨hr, ha, hy, he, hu, hint, hsv⟩
  clear hr ha hy he hu hint hsv
  obtain ⟨st, hst, HST⟩ : ∃ st : Nat, (if (4096 : Int) < (size : Int) then (4096 : Int) else (size : Int)) = (st : Int) ∧ Hid (st = min size 4096) := by
    by_cases h : 4096 < size
    · exact ⟨4096, by rw [if_pos (by omega)]; rfl, by show 4096 = _; omega⟩
    · exact ⟨size, by rw [if_neg (by omega)], by show size = _; omega⟩
  have b1 : 1 ≤ st := by have := HST.out; omega
  have b2 : st ≤ size := by have := HST.out; omega
  go_enter Tryd.func22, Tryd.ntmps22
  go_wp2
  go_loopw [9] (fun b wr => ∃ L ao, b = .slice ao L L ∧ okLen size L ∧ L ≤ n ∧ Inv w wr sv R A n L ∧ Got w wr ds ao L) (fun b _ => size - lenOf b)
  case atStart =>
    have hb : ∀ k, k < w.heap.size → (w.alloc (.cells #[.int .u8 0, .slice none 0 0] 109)).heap[k]? = w.heap[k]? := fun k hk => Below.heap_alloc _ _ _ hk
    exact ⟨0, none, rfl, Or.inl rfl, by omega, ⟨rfl, rfl, rfl, by simp, fun k hk _ _ => hb k hk, (hb R hR).trans HH.out.1, (hb A hA).trans HH.out.2.1, heap_alloc_new w _⟩, ⟨fun _ => rfl, fun _ => rfl, fun ad h => by cases h⟩⟩
  case round =>
    obtain ⟨L, ao, rfl, hok, hLn, hI, hG⟩ := hrel
    have hLs : L ≤ size := by unfold okLen at hok; omega
    by_cases hlt : L < size
    · obtain ⟨mx, mxr, HM⟩ : ∃ mx : Nat, (if 2 * (L : Int) < (st : Int) then (st : Int) else 2 * (L : Int)) = (mx : Int) ∧ Hid (mx = max (2 * L) (min size 4096)) := by
        have := HST.out
        by_cases h : 2 * L < st
        · exact ⟨st, by rw [if_pos (by omega)], by show st = _; omega⟩
        · exact ⟨2 * L, by rw [if_neg (by omega)]; omega, by show 2 * L = _; omega⟩
      obtain ⟨room, mnr, HR⟩ : ∃ room : Nat, (if mx < size then (mx : Int) else (size : Int)) = (room : Int) ∧ Hid (room = roomOf size L) := by
        have := HM.out
        by_cases h : mx < size
        · exact ⟨mx, by rw [if_pos h], by show mx = _; unfold roomOf; omega⟩
        · exact ⟨size, by rw [if_neg h], by show size = _; unfold roomOf; omega⟩
      have Q := roomOf_ok h2 hok hlt
      rw [← HR.out] at Q
      obtain ⟨q1, q2, q3⟩ := Q
      have e0 : (room : Int) - (L : Int) = ((room - L : Nat) : Int) := by omega
      go_wp2_with fail
      refine (grow_call A Y L (room - L) true wr (by omega) hAY hI.ak ?a1).mono ?_
      case a1 => rw [hI.old Y hY (by omega) (by omega)]; exact HH.out.2.2.1
      rintro e w1 ⟨rfl, k1, k2, k3, k4, k5, k6⟩
      have S1 : Hid (St w w1 (.slice sv n n) R A L (-1) room) := hI.st hRA hA (by omega) k1 k2 k3 k4 k5 k6
      have hws : w.heap.size < w1.heap.size := S1.out.size
      have G1 : Hid (∀ ad, ao = some ad → ∀ j u, (ds.take L)[j]? = some u → (w1.alloc (.cells (madeCells #[.int .u8 0] room) 5)).cell? (ad.add j) = some u) := hG.cells hA k2 k6
      have G2 : Hid (ao = none → L = 0 ∧ L = 0) := fun h => ⟨hG.none h, hG.none h⟩
      have O1 : Hid ((w1.alloc (.cells (madeCells #[.int .u8 0] room) 5)).ownsRow (w.heap.size + 1) 5 1 (.slice (some ⟨w1.heap.size, 0, none⟩) 0 room) 0 []) :=
        World.ownsRow_made (base := w.heap.size + 1) (e := 5) (size := 1) w1 (madeCells #[.int .u8 0] room) room (by omega) (by simp only [maxLen]; omega) (by rw [size_madeCells]; omega)
      have G3 : Hid (∀ u ∈ ds.take L, u.oneCell' = true) := fun u hu => by obtain ⟨x, rfl⟩ := HH.out.2.2.2.2.2.1 u (List.mem_of_mem_take hu); rfl
      have G4 : Hid ((ds.take L).length = L * 1) := by show _ = _; simp; omega
      have hmk := make_room room (by omega)
      obtain ⟨i0, hi, hz0, hz1, hz2⟩ := info_parts info5
      have hne : ¬ room = L := by omega
      clear k1 k2 k3 k4 k5 k6 hI hG mxr mnr e0
      go_wp2_with (at_builtin; refine wpList_append_fits_any _ rfl (.tmp 43) (.tmp 44) 31 rfl (w.heap.size + 1) 5 i0 1 Tryd.underlying31 hi hz1 w1.heap.size 0 room [] rfl O1.out ao L L (ds.take L) rfl G4.out G2.out G1.out G3.out (by omega) ?_)
      intro w2 hown2 hgrow2
      obtain ⟨⟨cur, C1, C2⟩, hb2⟩ := after_append hown2 hgrow2
      have S2 : Hid (St w w2 (.slice sv n n) R A L (-1) room) := S1.out.above hR hA hb2
      clear hown2 hgrow2 hb2 hmk O1 G1 G3 G4 S1 hi hz0 hz1 hz2
      by_cases hfull : room ≤ n
      · have hn0 : 0 < n := by omega
        obtain ⟨rfl, d1, d2, d3, d4⟩ := HH.out.2.2.2.2.2.2 hn0
        have C : Hid _ := full_full R D n w1.heap.size L (room - L) (room - L) L (-1) cur ((ds.take room).drop L) w2 hn (by omega) (by omega) (Nat.le_refl _) (by omega) d2 S2.out.rd C1.out.1 (by simp; omega) (by omega) (next_cells ((S2.out.old D d1 d2 d3).trans d4) L room) (fun v hv => by obtain ⟨x, rfl⟩ := HH.out.2.2.2.2.2.1 v (List.mem_of_mem_take (List.mem_of_mem_drop hv)); rfl)
        go_wp2_with fail
        refine Calls.mono C.out ?_
        rintro e w3 ⟨rfl, K1, K2, K3⟩
        rw [splice_next (by omega) (by omega) C2 C1.out.2] at K1
        rw [show L + (room - L) = room from by omega] at K2
        have S3 : Hid (St w w3 (.slice (some ⟨D, 0, none⟩) n n) R A room (-1) room) := S2.out.read hR hA hRA hws K2 K3
        have HG : Hid (w3.heap[w1.heap.size]? = some (.cells (ds.take room).toArray 5 (0, 0))) := K1
        clear K1 K2 K3 C C1 S2
        go_wp2
        go_roundw
        case rel => exact ⟨room, _, rfl, q1, hfull, ⟨S3.out.os, S3.out.tape, S3.out.output, S3.out.size, S3.out.old, S3.out.rd, S3.out.ak, S3.out.fr⟩, ⟨(fun h => by cases h), (fun h => by omega), (fun ad h => ⟨w1.heap.size, (Option.some.inj h).symm, hws, HG.out⟩)⟩⟩
        case measure => simp [lenOf]; omega
      · have HW : Hid (isWant n size room) := by rw [HR.out]; exact roomOf_want h2 hok hlt hLn (by have := HR.out; omega)
        have hns : n < size := by omega
        by_cases hL : L < n
        · have hn0 : 0 < n := by omega
          obtain ⟨rfl, d1, d2, d3, d4⟩ := HH.out.2.2.2.2.2.2 hn0
          have C : Hid _ := full_short R D n w1.heap.size L (room - L) (room - L) L (-1) cur (ds.drop L) ae au w2 hn hL (by omega) (Nat.le_refl _) (by omega) (by omega) d2 h6R S2.out.rd (old_glob S2 (by omega) (by omega) (by omega) HH.out.2.2.2.1) (old_glob S2 (by omega) (by omega) (by omega) HH.out.2.2.2.2.1) C1.out.1 (by simp; omega) (by omega) (drop_cells ((S2.out.old D d1 d2 d3).trans d4) L) (fun v hv => by obtain ⟨x, rfl⟩ := HH.out.2.2.2.2.2.1 v (List.mem_of_mem_drop hv); rfl)
          go_wp2_with fail
          refine Calls.mono C.out ?_
          rintro e w3 ⟨rfl, K2, K3⟩
          have S3 : Hid (St w w3 (.slice (some ⟨D, 0, none⟩) n n) R A n (-1) room) := S2.out.read hR hA hRA hws K2 K3
          obtain ⟨c0, c1, f0⟩ := S3.out.cells
          clear K2 K3 C C1 S2
          go_wp2
          refine bodyPost_ret (v := .tuple #[.agg #[.int .u8 0, .slice none 0 0], .iface 150 (.pointer (some au))]) (by simp [results, Tryd.results22, go_sem, c0, c1]) rfl (Or.inl ⟨hns, au, room, -1, rfl, HW.out, S3.out.stored hR hA _ _⟩)
        · obtain rfl : L = n := by omega
          have C : Hid _ := full_none R L L w1.heap.size L (room - L) (room - L) sv L (-1) ae w2 hn (Nat.le_refl _) (by omega) (Nat.le_refl _) (by omega) S2.out.rd (old_glob S2 (by omega) (by omega) (by omega) HH.out.2.2.2.1)
          go_wp2_with fail
          refine Calls.mono C.out ?_
          rintro e w3 ⟨rfl, m, rfl⟩
          have S3 : Hid (St w (w2.drewN m) (.slice sv L L) R A L (-1) room) := S2.out.read hR hA hRA hws S2.out.rd ((Beside.refl R w1.heap.size w2).drewN m)
          obtain ⟨c0, c1, f0⟩ := S3.out.cells
          clear C C1 S2
          go_wp2
          refine bodyPost_ret (v := .tuple #[.agg #[.int .u8 0, .slice none 0 0], .iface 150 (.pointer (some ae))]) (by simp [results, Tryd.results22, go_sem, c0, c1]) rfl (Or.inl ⟨hns, ae, room, -1, rfl, HW.out, S3.out.stored hR hA _ _⟩)
    · obtain rfl : L = size := by omega
      obtain ⟨ad, rfl⟩ : ∃ ad, ao = some ad := by
        cases ao with
        | none => have := hG.none rfl; omega
        | some ad => exact ⟨ad, rfl⟩
      obtain ⟨g, rfl, hg1, hg2⟩ := hG.at' ad rfl
      have S3 : Hid (St w wr (.slice sv n n) R A L (-1) L) := ⟨hI.os, hI.tape, hI.output, hI.size, hI.old, hI.rd, hI.ak, hI.fr⟩
      obtain ⟨c0, c1, f0⟩ := S3.out.cells
      have HG : Hid (wr.heap[g]? = some (.cells (ds.take L).toArray 5 (0, 0))) := hg2
      obtain ⟨x, hx1, hx2⟩ := first_byte HH.out.2.2.2.2.2.1 (by omega) h1 hg2
      have HX : Hid (ds[0]? = some (.int .u8 x)) := hx1
      obtain ⟨pa, hpa, HP⟩ : ∃ pa : Addr, (if L = 1 then some (⟨g, 0, none⟩ : Addr) else some ⟨g, 1, none⟩) = some pa ∧ Hid (2 ≤ L → pa = ⟨g, 1, none⟩) := by
        by_cases h : L = 1
        · exact ⟨⟨g, 0, none⟩, by simp [h], fun h2 => by omega⟩
        · exact ⟨⟨g, 1, none⟩, by simp [h], fun _ => rfl⟩
      have hz := lt_of_block hg2
      have hL0 : 0 < L := by omega
      clear hg2 hx1 hG hI
      go_wp2
      go_region
      all_goals go_wp2
      refine bodyPost_ret (v := .tuple #[.agg #[.int .u8 x, .slice (some pa) (L - 1) (L - 1)], .nilIface]) (by simp [results, Tryd.results22, go_sem, c0, c1]) rfl (Or.inr ⟨hLn, g, pa, x, rfl, HX.out, HP.out, by omega, ?_, S3.out.stored hR hA _ _⟩)
      rw [heap_set2 _ _ _ _ _ (by omega)]; exact HG.out
end Go.Proofs.Qxb6612427aDoor
