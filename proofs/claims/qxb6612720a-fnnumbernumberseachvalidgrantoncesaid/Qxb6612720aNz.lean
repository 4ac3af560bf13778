import Derived.Test.Qxb6612720aNy
namespace Go.Proofs.Qxb6612720a
open Go.RowKit
set_option linter.unusedVariables false

theorem info4b : (Try.prog.info? 4).map (fun i => (i.zero, i.size, i.bytes)) = some (some (.bool false), 1, 1) := by kernel_rfl
set_option maxHeartbeats 4000000 in
set_option maxRecDepth 100000 in
theorem q8 (v0 v3 v9 v12 v22 v23 : Value) (la ua : Option Addr) (nl lc nu uc lO uO : Nat) (w : World) (Q : Exit → Act → World → Prop) (h1 : nl ≤ 65536) (h2 : nu ≤ 65536) (act : Act) (hI : J4 v0 (.slice la nl lc) (.slice ua nu uc) v3 v9 (.slice (some ⟨lO, 0, none⟩) nl nl) (.slice (some ⟨uO, 0, none⟩) nu nu) v12 v22 v23 act)
    (hnext : ∀ act', J4 v0 (.slice la nl lc) (.slice ua nu uc) v3 v9 (.slice (some ⟨lO, 0, none⟩) nl nl) (.slice (some ⟨uO, 0, none⟩) nu nu) v12 v22 v23 act' → Q .normal act' w) : Code.wp Try.prog (pick [1, 1, 1, 1, 1, 1, 1, 1, 0] b4) Q act w := by
  obtain ⟨g, rfl⟩ := hI
  have HN : Hid _ := hnext
  clear hnext
  conv => arg 2; whnf
  go_wp2
  exact HN.out _ (J4_mk _ rfl rfl rfl rfl rfl rfl rfl rfl rfl rfl rfl)

set_option maxHeartbeats 4000000 in
set_option maxRecDepth 100000 in
theorem q9 (v0 v1 v2 v3 v10 v11 v12 v23 v22 : Value) (O n : Nat) (w : World) (Q : Exit → Act → World → Prop) (hn : n ≤ 17179869184) (act : Act) (hI : J4 v0 v1 v2 v3 (.slice (some ⟨O, 0, none⟩) n n) v10 v11 v12 v22 v23 act)
    (hnext : ∀ act' w', J4 v0 v1 v2 v3 (.slice (some ⟨O, 0, none⟩) n n) v10 v11 v12 (.slice (some ⟨w.heap.size, 0, none⟩) n n) v23 act' → w'.rowIs w.heap.size 4 n (fun _ => .bool false) → Below w.heap.size w w' → w'.heap.size = w.heap.size + 1 → Q .normal act' w') : Code.wp Try.prog (pick [1, 1, 1, 1, 1, 1, 1, 1, 1, 0] b4) Q act w := by
  obtain ⟨g, rfl⟩ := hI
  have HN : Hid _ := hnext
  have hmk := run_make_row' (P := Try.prog) 24 4 (.bool false) 1 Try.underlying24 info4b rfl .i64 .i64 n (by omega) (by omega)
  clear hnext
  conv => arg 2; whnf
  go_wp2
  exact HN.out _ _ (J4_mk _ rfl rfl rfl rfl rfl rfl rfl rfl rfl rfl rfl) (World.rowIs_made w (.bool false) n 4) ((Below.refl _ _).alloc (Nat.le_refl _) _) (by simp)

set_option maxHeartbeats 4000000 in
set_option maxRecDepth 100000 in
theorem q10 (v0 v1 v2 v3 v10 v11 v12 v22 v23 : Value) (O n : Nat) (w : World) (Q : Exit → Act → World → Prop) (hn : n ≤ 17179869184) (act : Act) (hI : J4 v0 v1 v2 v3 (.slice (some ⟨O, 0, none⟩) n n) v10 v11 v12 v22 v23 act)
    (hnext : ∀ act' w', J4 v0 v1 v2 v3 (.slice (some ⟨O, 0, none⟩) n n) v10 v11 v12 v22 (.slice (some ⟨w.heap.size, 0, none⟩) n n) act' → w'.rowIs w.heap.size 4 n (fun _ => .bool false) → Below w.heap.size w w' → w'.heap.size = w.heap.size + 1 → Q .normal act' w') : Code.wp Try.prog (pick [1, 1, 1, 1, 1, 1, 1, 1, 1, 1, 0] b4) Q act w := by
  obtain ⟨g, rfl⟩ := hI
  have HN : Hid _ := hnext
  have hmk := run_make_row' (P := Try.prog) 24 4 (.bool false) 1 Try.underlying24 info4b rfl .i64 .i64 n (by omega) (by omega)
  clear hnext
  conv => arg 2; whnf
  go_wp2
  exact HN.out _ _ (J4_mk _ rfl rfl rfl rfl rfl rfl rfl rfl rfl rfl rfl) (World.rowIs_made w (.bool false) n 4) ((Below.refl _ _).alloc (Nat.le_refl _) _) (by simp)

/-- Is the reference numbered g in one of the first k lists? -/
def acc (P : Nat → En) (G : Nat → Rf) (k g : Nat) : Bool := (List.range k).any fun i => inR (P i).R (P i).n (G g)
theorem acc_succ (P : Nat → En) (G : Nat → Rf) (k g : Nat) : acc P G (k + 1) g = (acc P G k g || inR (P k).R (P k).n (G g)) := by simp [acc, List.range_succ]
theorem acc_iff {P : Nat → En} {G : Nat → Rf} {k g : Nat} : acc P G k g = true ↔ ∃ i, i < k ∧ inR (P i).R (P i).n (G g) = true := by simp [acc]
/-- The row of bools while list k is worked in: j of them done. -/
def rowB (B C : Nat → Bool) (j g : Nat) : Value := .bool (if g < j then B g else C g)
theorem rowB_all {w : World} {O n : Nat} {B C : Nat → Bool} (h : w.rowIs O 4 n (rowB B C n)) (D : Nat → Bool) : w.rowIs O 4 n (rowB D B 0) := h.congr fun j hj => by simp [rowB, hj]
theorem rowB_set {w : World} {O n k : Nat} {B C : Nat → Bool} (h : w.rowIs O 4 n (rowB B C k)) (hb : B k = true) : (w.setCell ⟨O, k, none⟩ (.bool true)).rowIs O 4 n (rowB B C (k + 1)) := (h.set _ _).congr fun j _ => by
  unfold rowB
  by_cases e : j = k
  · subst e; simp [hb]
  · rw [if_neg e]
    have : (j < k + 1) = (j < k) := by rw [eq_iff_iff]; omega
    simp only [this]
theorem rowB_same {w : World} {O n k : Nat} {B C : Nat → Bool} (h : w.rowIs O 4 n (rowB B C k)) (hb : B k = C k) : w.rowIs O 4 n (rowB B C (k + 1)) := h.congr fun j _ => by
  unfold rowB
  by_cases e : j = k
  · subst e; simp [hb]
  · have : (j < k + 1) = (j < k) := by rw [eq_iff_iff]; omega
    simp only [this]

set_option maxHeartbeats 4000000 in
set_option maxRecDepth 100000 in
theorem q11 (v0 v2 v3 v11 : Value) (la : Option Addr) (nl lc lO : Nat) (O n OL OA : Nat) (P : Nat → En) (L : List Rf) (w0 w : World) (N : Act → World → Prop) (Q : Ending → World → Prop) (hn : n = L.length) (hlen : L.length ≤ 17179869184) (hnl : nl ≤ 65536) (hG : Rfs w0 (some ⟨O, 0, none⟩) n (fun g => L.getD g (0, 0))) (hP : Lis w0 la nl P) (hB : ∀ i, i < nl → BitRow w0 lO i L (P i).R (P i).n) (hb0 : Below w0.heap.size w0 w) (hOA : w0.heap.size ≤ OA) (rl : w.rowIs OL 4 n (fun _ => .bool false)) (hOL : w0.heap.size ≤ OL) (hne : OL ≠ OA) (ra : w.rowIs OA 4 n (fun _ => .bool false)) (act : Act) (hI : J4 v0 (.slice la nl lc) v2 v3 (.slice (some ⟨O, 0, none⟩) n n) (.slice (some ⟨lO, 0, none⟩) nl nl) v11 (.int .i64 (Wd L : Nat)) (.slice (some ⟨OL, 0, none⟩) n n) (.slice (some ⟨OA, 0, none⟩) n n) act)
    (hnext : ∀ act' w', J4 v0 (.slice la nl lc) v2 v3 (.slice (some ⟨O, 0, none⟩) n n) (.slice (some ⟨lO, 0, none⟩) nl nl) v11 (.int .i64 (Wd L : Nat)) (.slice (some ⟨OL, 0, none⟩) n n) (.slice (some ⟨OA, 0, none⟩) n n) act' → w'.rowIs OL 4 n (fun g => .bool (acc P (fun g => L.getD g (0, 0)) nl g)) → w'.rowIs OA 4 n (fun g => .bool (acc P (fun g => L.getD g (0, 0)) nl g)) → Below w0.heap.size w0 w' → N act' w') : Code.wp Try.prog (pick [1, 1, 1, 1, 1, 1, 1, 1, 1, 1, 1, 0] b4) (Exit.then N (bodyPost Try.prog Try.f4 Q)) act w := by
  obtain ⟨g, rfl⟩ := hI
  have HN : Hid _ := hnext
  have HG : Hid (Rfs w0 (some ⟨O, 0, none⟩) n (fun g => L.getD g (0, 0))) := hG
  have HP : Hid (Lis w0 la nl P) := hP
  have HB : Hid (∀ i, i < nl → BitRow w0 lO i L (P i).R (P i).n) := hB
  have HNL : Hid (n = L.length) := hn
  have hn2 : n ≤ 17179869184 := by omega
  have B0 : Hid (Below w0.heap.size w0 w) := hb0
  have RL : Hid (w.rowIs OL 4 n (rowB (fun _ => false) (fun g => acc P (fun g => L.getD g (0, 0)) 0 g) 0)) := rl.congr fun j _ => by simp [rowB, acc]
  have RA : Hid (w.rowIs OA 4 n (rowB (fun _ => false) (fun g => acc P (fun g => L.getD g (0, 0)) 0 g) 0)) := ra.congr fun j _ => by simp [rowB, acc]
  clear hnext hG hP hB hb0 ra hn hlen rl
  conv => arg 2; whnf
  go_wp2
  go_loopw [24] (fun i wr => ∃ k : Nat, k ≤ nl ∧ i = .int .i64 k ∧ Hid (Below w0.heap.size w0 wr) ∧ Hid (wr.rowIs OL 4 n (rowB (fun _ => false) (fun g => acc P (fun g => L.getD g (0, 0)) k g) 0)) ∧ Hid (wr.rowIs OA 4 n (rowB (fun _ => false) (fun g => acc P (fun g => L.getD g (0, 0)) k g) 0))) (fun i _ => nl - (intOf i).toNat)
  case atStart => exact ⟨0, Nat.zero_le _, rfl, B0, RL, RA⟩
  case round =>
    obtain ⟨k, hk, rfl, hb, hrl, hra⟩ := hrel
    obtain ⟨wo, hwo⟩ : ∃ wo, wo = wr := ⟨_, rfl⟩
    subst hwo
    by_cases hlt : k < nl
    · obtain ⟨lb, loff, ela, hlb, hat0⟩ := HP.out.at hlt
      subst ela
      have c2 := (hat0.below hb.out).c2
      obtain ⟨xb, X, x1, x2, x3, x4⟩ := HB.out k hlt
      have d0 := (hb.out.cell (p := ⟨lO, k, none⟩) (World.block_lt_of_cell? w0 _ x1)).trans x1
      have X1 : Hid _ := x1
      have X2 : Hid (∀ q, q < Wd L → w0.cell? ⟨xb, q, none⟩ = some (.int .u64 (X q))) := x2
      have X3 : Hid (∀ q, X q < 2 ^ 64) := x3
      have X4 : Hid (∀ g, bitOf X g = (decide (g < L.length) && inR (P k).R (P k).n (L.getD g (0, 0)))) := x4
      have xl : ∀ W, Below w0.heap.size w0 W → ∀ q, q < Wd L → W.cell? ⟨xb, q, none⟩ = some (.int .u64 (X q)) := fun W hW q hq => (hW.cell (p := ⟨xb, q, none⟩) (World.block_lt_of_cell? w0 _ (x2 q hq))).trans (x2 q hq)
      have XL : Hid (∀ W, Below w0.heap.size w0 W → ∀ q, q < Wd L → W.cell? ⟨xb, q, none⟩ = some (.int .u64 (X q))) := xl
      have hWd : Wd L ≤ 536870912 := by unfold Wd; have := HNL.out; omega
      have hbd : Below w0.heap.size w0 wo.drew := hb.out.drew
      have C : Hid _ := bitsare_any none (some ⟨O, 0, none⟩) (P k).a xb (Wd L) (Wd L) n n (P k).n (P k).c X (fun g => L.getD g (0, 0)) (P k).R wo.drew hWd hn2 hat0.le x3 (xl _ hbd) (HG.out.below hbd) (hat0.below hbd).rf (fun g _ => by rw [x4 g, HNL.out])
      have KC : Hid (∀ W, Below wo.heap.size wo W → W.cell? ⟨lO, k, none⟩ = some (.slice (some ⟨xb, 0, none⟩) (Wd L) (Wd L)) ∧ W.cell? ⟨lb, loff + k * 3 + 2, none⟩ = some (.slice (P k).a (P k).n (P k).c)) := fun W hW => ⟨(hW.cell (p := ⟨lO, k, none⟩) (World.block_lt_of_cell? wo _ d0)).trans d0, (hW.cell (p := ⟨lb, loff + k * 3 + 2, none⟩) (World.block_lt_of_cell? wo _ c2)).trans c2⟩
      clear x1 x2 x3 x4 xl hbd hat0
      go_wp2
      go_region_held3 (fun W => W.cell? ⟨lO, k, none⟩ = some (.slice (some ⟨xb, 0, none⟩) (Wd L) (Wd L)) ∧ W.cell? ⟨lb, loff + k * 3 + 2, none⟩ = some (.slice (P k).a (P k).n (P k).c)) (first | (go_keep; done) | exact ⟨by assumption, by assumption⟩)
        ((go_at_call 16; refine Calls.mono C.out ?_; rintro e w1 ⟨rfl, hb1⟩; have hbw : Below wo.heap.size wo w1 := (Below.refl wo.heap.size wo).drew.trans hb1; obtain ⟨m0, m1⟩ := KC.out w1 hbw; have HB1 : Hid (Below wo.heap.size wo w1) := hbw; clear hb1 hbw))
      have B1 : Hid (Below w0.heap.size w0 w1) := hb.out.trans (HB1.out.mono hb.out.size)
      have R1L : Hid (w1.rowIs OL 4 n (rowB (fun g => acc P (fun g => L.getD g (0, 0)) (k + 1) g) (fun g => acc P (fun g => L.getD g (0, 0)) k g) 0)) := (hrl.out.of_block (HB1.out.block _ hrl.out.lt)).congr fun j _ => by simp [rowB]
      have R1A : Hid (w1.rowIs OA 4 n (rowB (fun g => acc P (fun g => L.getD g (0, 0)) (k + 1) g) (fun g => acc P (fun g => L.getD g (0, 0)) k g) 0)) := (hra.out.of_block (HB1.out.block _ hra.out.lt)).congr fun j _ => by simp [rowB]
      clear C KC m0 m1 d0 c2
      go_wp2
      go_loopw [25] (fun i w2 => ∃ j : Nat, j ≤ n ∧ i = .int .i64 j ∧ Hid (Below w0.heap.size w0 w2) ∧ Hid (w2.rowIs OL 4 n (rowB (fun g => acc P (fun g => L.getD g (0, 0)) (k + 1) g) (fun g => acc P (fun g => L.getD g (0, 0)) k g) j)) ∧ Hid (w2.rowIs OA 4 n (rowB (fun g => acc P (fun g => L.getD g (0, 0)) (k + 1) g) (fun g => acc P (fun g => L.getD g (0, 0)) k g) j))) (fun i _ => n - (intOf i).toNat)
      case atStart => exact ⟨0, Nat.zero_le _, rfl, B1, R1L, R1A⟩
      case round =>
        obtain ⟨j, hj, rfl, hb2, hl2, ha2⟩ := hrel
        by_cases hlj : j < n
        · have d0 := (hb2.out.cell (p := ⟨lO, k, none⟩) (World.block_lt_of_cell? w0 _ X1.out)).trans X1.out
          have hjl : j < L.length := by have := HNL.out; omega
          have C2 : Hid _ := bitat_any xb (Wd L) (Wd L) j X wr (by unfold Wd; omega) hWd X3.out (XL.out wr hb2.out)
          have hbit : bitOf X j = inR (P k).R (P k).n (L.getD j (0, 0)) := by rw [X4.out j]; simp [hjl]
          have HAC : Hid (acc P (fun g => L.getD g (0, 0)) (k + 1) j = (acc P (fun g => L.getD g (0, 0)) k j || bitOf X j)) := by rw [hbit]; exact acc_succ P _ k j
          obtain ⟨vb, hvb⟩ : ∃ vb, bitOf X j = vb := ⟨_, rfl⟩
          rw [hvb] at C2 HAC
          have e1 := hl2.out.cell hlj
          have f1 := hl2.out.frozen j
          have e2 := ha2.out.cell hlj
          have f2 := ha2.out.frozen j
          clear hbit hvb
          go_wp2_with fail
          refine Calls.mono C2.out ?_
          rintro e w2 ⟨rfl, rfl⟩
          clear C2
          cases vb with
          | false =>
            have hAC : acc P (fun g => L.getD g (0, 0)) (k + 1) j = acc P (fun g => L.getD g (0, 0)) k j := by rw [HAC.out]; simp
            have NL_ : Hid (w2.rowIs OL 4 n (rowB (fun g => acc P (fun g => L.getD g (0, 0)) (k + 1) g) (fun g => acc P (fun g => L.getD g (0, 0)) k g) (j + 1))) := rowB_same hl2.out hAC
            have NA_ : Hid (w2.rowIs OA 4 n (rowB (fun g => acc P (fun g => L.getD g (0, 0)) (k + 1) g) (fun g => acc P (fun g => L.getD g (0, 0)) k g) (j + 1))) := rowB_same ha2.out hAC
            clear hAC e2 f2 e1 f1
            go_wp2
            go_roundw
            case rel => exact ⟨j + 1, by omega, by go_num, hb2, NL_, NA_⟩
            case measure => simp [intOf]; omega
          | true =>
            have hAC : acc P (fun g => L.getD g (0, 0)) (k + 1) j = true := by rw [HAC.out]; simp
            have NL_ : Hid (((w2.setCell ⟨OL, j, none⟩ (.bool true)).setCell ⟨OA, j, none⟩ (.bool true)).rowIs OL 4 n (rowB (fun g => acc P (fun g => L.getD g (0, 0)) (k + 1) g) (fun g => acc P (fun g => L.getD g (0, 0)) k g) (j + 1))) := (rowB_set hl2.out hAC).setOther (a := ⟨OA, j, none⟩) hne _
            have NA_ : Hid (((w2.setCell ⟨OL, j, none⟩ (.bool true)).setCell ⟨OA, j, none⟩ (.bool true)).rowIs OA 4 n (rowB (fun g => acc P (fun g => L.getD g (0, 0)) (k + 1) g) (fun g => acc P (fun g => L.getD g (0, 0)) k g) (j + 1))) := rowB_set (ha2.out.setOther (a := ⟨OL, j, none⟩) hne.symm _) hAC
            have NB_ : Hid (Below w0.heap.size w0 ((w2.setCell ⟨OL, j, none⟩ (.bool true)).setCell ⟨OA, j, none⟩ (.bool true))) := (hb2.out.setCell hOL _).setCell hOA _
            have hne2 := hne.symm
            clear hAC
            go_wp2
            go_roundw
            case rel => exact ⟨j + 1, by omega, by go_num, NB_, NL_, NA_⟩
            case measure => simp [intOf]; omega
        · obtain rfl : j = n := by omega
          go_wp2
          go_roundw
          case rel => exact ⟨k + 1, by omega, by go_num, hb2, rowB_all hl2.out _, rowB_all ha2.out _⟩
          case measure => simp [intOf]; omega
    · obtain rfl : k = nl := by omega
      go_wp2
      exact HN.out _ _ (J4_mk _ rfl rfl rfl rfl rfl rfl rfl rfl rfl rfl rfl) (hrl.out.congr fun j _ => by simp [rowB]) (hra.out.congr fun j _ => by simp [rowB]) hb.out

set_option maxHeartbeats 4000000 in
set_option maxRecDepth 100000 in
theorem q12 (v0 v1 v3 v10 v22 : Value) (ua : Option Addr) (nu uc uO : Nat) (O n OL OA : Nat) (P : Nat → En) (L : List Rf) (E0 fX : Nat → Bool) (w0 w : World) (N : Act → World → Prop) (Q : Ending → World → Prop) (hn : n = L.length) (hlen : L.length ≤ 17179869184) (hnl : nu ≤ 65536) (hG : Rfs w0 (some ⟨O, 0, none⟩) n (fun g => L.getD g (0, 0))) (hP : Uns w0 ua nu P) (hB : ∀ i, i < nu → BitRow w0 uO i L (P i).R (P i).n) (hb0 : Below w0.heap.size w0 w) (hOA : w0.heap.size ≤ OA) (rl : w.rowIs OL 4 n (fun g => .bool (fX g))) (hne : OL ≠ OA) (ra : w.rowIs OA 4 n (fun g => .bool (E0 g))) (act : Act) (hI : J4 v0 v1 (.slice ua nu uc) v3 (.slice (some ⟨O, 0, none⟩) n n) v10 (.slice (some ⟨uO, 0, none⟩) nu nu) (.int .i64 (Wd L : Nat)) v22 (.slice (some ⟨OA, 0, none⟩) n n) act)
    (hnext : ∀ act' w', J4 v0 v1 (.slice ua nu uc) v3 (.slice (some ⟨O, 0, none⟩) n n) v10 (.slice (some ⟨uO, 0, none⟩) nu nu) (.int .i64 (Wd L : Nat)) v22 (.slice (some ⟨OA, 0, none⟩) n n) act' → w'.rowIs OL 4 n (fun g => .bool (fX g)) → w'.rowIs OA 4 n (fun g => .bool (E0 g || acc P (fun g => L.getD g (0, 0)) nu g)) → Below w0.heap.size w0 w' → N act' w') : Code.wp Try.prog (pick [1, 1, 1, 1, 1, 1, 1, 1, 1, 1, 1, 1, 0] b4) (Exit.then N (bodyPost Try.prog Try.f4 Q)) act w := by
  obtain ⟨g, rfl⟩ := hI
  have HN : Hid _ := hnext
  have HG : Hid (Rfs w0 (some ⟨O, 0, none⟩) n (fun g => L.getD g (0, 0))) := hG
  have HP : Hid (Uns w0 ua nu P) := hP
  have HB : Hid (∀ i, i < nu → BitRow w0 uO i L (P i).R (P i).n) := hB
  have HNL : Hid (n = L.length) := hn
  have hn2 : n ≤ 17179869184 := by omega
  have B0 : Hid (Below w0.heap.size w0 w) := hb0
  have RL : Hid (w.rowIs OL 4 n (fun g => .bool (fX g))) := rl
  have RA : Hid (w.rowIs OA 4 n (rowB (fun _ => false) (fun g => E0 g || acc P (fun g => L.getD g (0, 0)) 0 g) 0)) := ra.congr fun j _ => by simp [rowB, acc]
  clear hnext hG hP hB hb0 ra hn hlen rl
  conv => arg 2; whnf
  go_wp2
  go_loopw [26] (fun i wr => ∃ k : Nat, k ≤ nu ∧ i = .int .i64 k ∧ Hid (Below w0.heap.size w0 wr) ∧ Hid (wr.rowIs OL 4 n (fun g => .bool (fX g))) ∧ Hid (wr.rowIs OA 4 n (rowB (fun _ => false) (fun g => E0 g || acc P (fun g => L.getD g (0, 0)) k g) 0))) (fun i _ => nu - (intOf i).toNat)
  case atStart => exact ⟨0, Nat.zero_le _, rfl, B0, RL, RA⟩
  case round =>
    obtain ⟨k, hk, rfl, hb, hrl, hra⟩ := hrel
    obtain ⟨wo, hwo⟩ : ∃ wo, wo = wr := ⟨_, rfl⟩
    subst hwo
    by_cases hlt : k < nu
    · obtain ⟨lb, loff, ela, hlb, hat0⟩ := HP.out.at hlt
      subst ela
      have c2 := (hat0.below hb.out).c2
      obtain ⟨xb, X, x1, x2, x3, x4⟩ := HB.out k hlt
      have d0 := (hb.out.cell (p := ⟨uO, k, none⟩) (World.block_lt_of_cell? w0 _ x1)).trans x1
      have X1 : Hid _ := x1
      have X2 : Hid (∀ q, q < Wd L → w0.cell? ⟨xb, q, none⟩ = some (.int .u64 (X q))) := x2
      have X3 : Hid (∀ q, X q < 2 ^ 64) := x3
      have X4 : Hid (∀ g, bitOf X g = (decide (g < L.length) && inR (P k).R (P k).n (L.getD g (0, 0)))) := x4
      have xl : ∀ W, Below w0.heap.size w0 W → ∀ q, q < Wd L → W.cell? ⟨xb, q, none⟩ = some (.int .u64 (X q)) := fun W hW q hq => (hW.cell (p := ⟨xb, q, none⟩) (World.block_lt_of_cell? w0 _ (x2 q hq))).trans (x2 q hq)
      have XL : Hid (∀ W, Below w0.heap.size w0 W → ∀ q, q < Wd L → W.cell? ⟨xb, q, none⟩ = some (.int .u64 (X q))) := xl
      have hWd : Wd L ≤ 536870912 := by unfold Wd; have := HNL.out; omega
      have hbd : Below w0.heap.size w0 wo.drew := hb.out.drew
      have C : Hid _ := bitsare_any none (some ⟨O, 0, none⟩) (P k).a xb (Wd L) (Wd L) n n (P k).n (P k).c X (fun g => L.getD g (0, 0)) (P k).R wo.drew hWd hn2 hat0.le x3 (xl _ hbd) (HG.out.below hbd) (hat0.below hbd).rf (fun g _ => by rw [x4 g, HNL.out])
      have KC : Hid (∀ W, Below wo.heap.size wo W → W.cell? ⟨uO, k, none⟩ = some (.slice (some ⟨xb, 0, none⟩) (Wd L) (Wd L)) ∧ W.cell? ⟨lb, loff + k * 2 + 1, none⟩ = some (.slice (P k).a (P k).n (P k).c)) := fun W hW => ⟨(hW.cell (p := ⟨uO, k, none⟩) (World.block_lt_of_cell? wo _ d0)).trans d0, (hW.cell (p := ⟨lb, loff + k * 2 + 1, none⟩) (World.block_lt_of_cell? wo _ c2)).trans c2⟩
      clear x1 x2 x3 x4 xl hbd hat0
      go_wp2
      go_region_held3 (fun W => W.cell? ⟨uO, k, none⟩ = some (.slice (some ⟨xb, 0, none⟩) (Wd L) (Wd L)) ∧ W.cell? ⟨lb, loff + k * 2 + 1, none⟩ = some (.slice (P k).a (P k).n (P k).c)) (first | (go_keep; done) | exact ⟨by assumption, by assumption⟩)
        ((go_at_call 16; refine Calls.mono C.out ?_; rintro e w1 ⟨rfl, hb1⟩; have hbw : Below wo.heap.size wo w1 := (Below.refl wo.heap.size wo).drew.trans hb1; obtain ⟨m0, m1⟩ := KC.out w1 hbw; have HB1 : Hid (Below wo.heap.size wo w1) := hbw; clear hb1 hbw))
      have B1 : Hid (Below w0.heap.size w0 w1) := hb.out.trans (HB1.out.mono hb.out.size)
      have R1L : Hid (w1.rowIs OL 4 n (fun g => .bool (fX g))) := hrl.out.of_block (HB1.out.block _ hrl.out.lt)
      have R1A : Hid (w1.rowIs OA 4 n (rowB (fun g => E0 g || acc P (fun g => L.getD g (0, 0)) (k + 1) g) (fun g => E0 g || acc P (fun g => L.getD g (0, 0)) k g) 0)) := (hra.out.of_block (HB1.out.block _ hra.out.lt)).congr fun j _ => by simp [rowB]
      clear C KC m0 m1 d0 c2
      go_wp2
      go_loopw [27] (fun i w2 => ∃ j : Nat, j ≤ n ∧ i = .int .i64 j ∧ Hid (Below w0.heap.size w0 w2) ∧ Hid (w2.rowIs OL 4 n (fun g => .bool (fX g))) ∧ Hid (w2.rowIs OA 4 n (rowB (fun g => E0 g || acc P (fun g => L.getD g (0, 0)) (k + 1) g) (fun g => E0 g || acc P (fun g => L.getD g (0, 0)) k g) j))) (fun i _ => n - (intOf i).toNat)
      case atStart => exact ⟨0, Nat.zero_le _, rfl, B1, R1L, R1A⟩
      case round =>
        obtain ⟨j, hj, rfl, hb2, hl2, ha2⟩ := hrel
        by_cases hlj : j < n
        · have d0 := (hb2.out.cell (p := ⟨uO, k, none⟩) (World.block_lt_of_cell? w0 _ X1.out)).trans X1.out
          have hjl : j < L.length := by have := HNL.out; omega
          have C2 : Hid _ := bitat_any xb (Wd L) (Wd L) j X wr (by unfold Wd; omega) hWd X3.out (XL.out wr hb2.out)
          have hbit : bitOf X j = inR (P k).R (P k).n (L.getD j (0, 0)) := by rw [X4.out j]; simp [hjl]
          have HAC : Hid (acc P (fun g => L.getD g (0, 0)) (k + 1) j = (acc P (fun g => L.getD g (0, 0)) k j || bitOf X j)) := by rw [hbit]; exact acc_succ P _ k j
          obtain ⟨vb, hvb⟩ : ∃ vb, bitOf X j = vb := ⟨_, rfl⟩
          rw [hvb] at C2 HAC
          have e2 := ha2.out.cell hlj
          have f2 := ha2.out.frozen j
          clear hbit hvb
          go_wp2_with fail
          refine Calls.mono C2.out ?_
          rintro e w2 ⟨rfl, rfl⟩
          clear C2
          cases vb with
          | false =>
            have hAC : acc P (fun g => L.getD g (0, 0)) (k + 1) j = acc P (fun g => L.getD g (0, 0)) k j := by rw [HAC.out]; simp
            have NA_ : Hid (w2.rowIs OA 4 n (rowB (fun g => E0 g || acc P (fun g => L.getD g (0, 0)) (k + 1) g) (fun g => E0 g || acc P (fun g => L.getD g (0, 0)) k g) (j + 1))) := rowB_same ha2.out (by show (E0 j || _) = (E0 j || _); rw [hAC])
            clear hAC e2 f2
            go_wp2
            go_roundw
            case rel => exact ⟨j + 1, by omega, by go_num, hb2, hl2, NA_⟩
            case measure => simp [intOf]; omega
          | true =>
            have hAC : acc P (fun g => L.getD g (0, 0)) (k + 1) j = true := by rw [HAC.out]; simp
            have NA_ : Hid ((w2.setCell ⟨OA, j, none⟩ (.bool true)).rowIs OA 4 n (rowB (fun g => E0 g || acc P (fun g => L.getD g (0, 0)) (k + 1) g) (fun g => E0 g || acc P (fun g => L.getD g (0, 0)) k g) (j + 1))) := rowB_set ha2.out (by show (E0 j || _) = true; rw [hAC]; simp)
            have NB_ : Hid (Below w0.heap.size w0 (w2.setCell ⟨OA, j, none⟩ (.bool true))) := hb2.out.setCell hOA _
            have NL_ : Hid ((w2.setCell ⟨OA, j, none⟩ (.bool true)).rowIs OL 4 n (fun g => .bool (fX g))) := hl2.out.setOther (a := ⟨OA, j, none⟩) hne _
            clear hAC
            go_wp2
            go_roundw
            case rel => exact ⟨j + 1, by omega, by go_num, NB_, NL_, NA_⟩
            case measure => simp [intOf]; omega
        · obtain rfl : j = n := by omega
          go_wp2
          go_roundw
          case rel => exact ⟨k + 1, by omega, by go_num, hb2, hl2, rowB_all ha2.out _⟩
          case measure => simp [intOf]; omega
    · obtain rfl : k = nu := by omega
      go_wp2
      exact HN.out _ _ (J4_mk _ rfl rfl rfl rfl rfl rfl rfl rfl rfl rfl rfl) hrl.out (hra.out.congr fun j _ => by simp [rowB]) hb.out
end Go.Proofs.Qxb6612720a
