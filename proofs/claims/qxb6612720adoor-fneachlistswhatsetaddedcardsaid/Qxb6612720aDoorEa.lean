import Derived.Test.Qxb6612720aDoorWk
import Derived.Shelf.Spec.TrailingZeros
namespace Go.Proofs.Qxb6612720aDoor
open Go.RowKit
set_option linter.unusedVariables false

set_option maxHeartbeats 1000000 in
theorem tz_core (x k idx : Nat) (w : World) (hx0 : ((x : Int) == 0) = false)
    (key : IntKind.u64.wrap (bits BinOp.and IntKind.u64 (x : Int) (IntKind.u64.wrap (-(x : Int))) * 285870213051353865) / 288230376151711744 = (idx : Int))
    (hi : idx < 64) (hk : k < 64) (hcell : w.cell? ⟨0, idx, none⟩ = some (.int .u8 k)) :
    Calls Tryd.prog 16 #[.int .u64 x] w fun e w' => e = .returned (.int .i64 k) ∧ w' = w := by
  go_enter Tryd.func16, Tryd.ntmps16
  go_wp2_with (simp only [key])
  go_ret
  exact ⟨rfl, rfl⟩

/-- The library's table in its variable. -/
def Tab (w : World) : Prop := ∀ j, j < 64 → w.cell? ⟨0, j, none⟩ = some (.int .u8 (Lib.deBruijn64tab.getD j 0))
theorem tz_any (x : Nat) (w : World) (h0 : x ≠ 0) (hx : x < 18446744073709551616) (hT : Tab w) :
    Calls Tryd.prog 16 #[.int .u64 x] w fun e w' => e = .returned (.int .i64 (Lib.ctz 64 x)) ∧ w' = w := by
  obtain ⟨hlow, hk⟩ := Lib.lowest_bit 64 x h0 hx
  obtain ⟨hi, htab⟩ := Lib.deBruijn64_at _ hk
  have hc := hT _ hi
  rw [htab] at hc
  exact tz_core x _ _ w (by simp; omega) (tz64_key x _ hx h0 hlow) hi hk hc

theorem info3 : (Tryd.prog.info? 3).map (fun i => (i.zero, i.size, i.bytes)) = some (some (.int .i64 0), 1, 8) := by kernel_rfl
def ints (l : List Nat) : List Value := l.map fun i : Nat => .int .i64 (i : Int)
theorem ints_len (l : List Nat) : (ints l).length = l.length := by simp [ints]
/-- The captured variable V holds a slice that owns the numbers l. -/
def OutIs (w : World) (V base : Nat) (l : List Nat) : Prop :=
  ∃ ao c, w.heap[V]? = some (.cells #[.slice ao l.length c] 22 (0, 0)) ∧ w.ownsRow base 3 1 (.slice ao l.length c) l.length (ints l)

theorem emit_end {w w1 : World} {V base n g cap : Nat} {l : List Nat} {ao : Option Addr} {c : Nat} (hV : w.heap[V]? = some (.cells #[.slice ao l.length c] 22 (0, 0))) (hbV : base ≤ V) (hbw : base ≤ w.heap.size) (hown : w.ownsRow base 3 1 (.slice ao l.length c) l.length (ints l))
    (hown' : w1.ownsRow base 3 1 (.slice (some ⟨g, 0, none⟩) (l.length + 1) cap) (l.length + 1) (ints l ++ [.int .i64 (n : Int)])) (hgrow : (w.alloc (.cells #[.int .i64 (n : Int)] 3)).grownBy w1 (Value.slice ao l.length c).ownBlock) :
    w1.heap[V]? = some (.cells #[.slice ao l.length c] 22 (0, 0)) ∧ OutIs (w1.setCell ⟨V, 0, none⟩ (.slice (some ⟨g, 0, none⟩) (l.length + 1) cap)) V base (l ++ [n]) ∧ Below base w (w1.setCell ⟨V, 0, none⟩ (.slice (some ⟨g, 0, none⟩) (l.length + 1) cap)) := by
  have hVlt := lt_of_block hV
  have hne : some V ≠ (Value.slice ao l.length c).ownBlock := by
    intro e
    rcases hown.2 with ⟨hv, _⟩ | ⟨g', cap', cur, hv, _, hh, _⟩
    · simp at hv; rw [hv.1] at e; simp [Value.ownBlock] at e
    · simp at hv
      obtain ⟨rfl, _⟩ := hv
      simp [Value.ownBlock] at e
      subst e
      rw [hV] at hh; simp at hh
  have hV1 : w1.heap[V]? = some (.cells #[.slice ao l.length c] 22 (0, 0)) := by
    rw [hgrow.block V (by simp; omega) hne, Below.heap_alloc _ _ _ hVlt]; exact hV
  refine ⟨hV1, ⟨some ⟨g, 0, none⟩, cap, ?_, ?_⟩, ?_⟩
  · have := one_setCell (u := .slice (some ⟨g, 0, none⟩) (l.length + 1) cap) hV1
    simpa using this
  · have hne2 : (Value.slice (some ⟨g, 0, none⟩) (l.length + 1) cap).ownBlock ≠ some V := by
      intro e
      simp [Value.ownBlock] at e
      subst e
      rcases hown'.2 with ⟨hv, _⟩ | ⟨g', cap', cur, hv, _, hh, _⟩
      · simp at hv
      · simp at hv
        obtain ⟨rfl, rfl⟩ := hv
        rw [hV1] at hh; simp at hh
    have := ownsRow_setCell_other (a := ⟨V, 0, none⟩) hown' hne2 (.slice (some ⟨g, 0, none⟩) (l.length + 1) cap)
    simpa [ints] using this
  · refine (((Below.refl base w).alloc hbw _).grown hgrow (by simp; omega) ?_).setCell hbV _
    intro k hk
    exact (hown.lt k hk).1

set_option maxHeartbeats 400000 in
theorem emit_any (V base n : Nat) (l : List Nat) (w : World) (h : OutIs w V base l) (hbV : base ≤ V) (hl : l.length ≤ 1048576) :
    Calls Tryd.prog 15 #[.int .i64 n, .pointer (some ⟨V, 0, none⟩)] w fun e w' => e = .returned (.tuple #[]) ∧ OutIs w' V base (l ++ [n]) ∧ Below base w w' := by
  obtain ⟨ao, c, hV, hown⟩ := h
  have hVlt := lt_of_block hV
  have hbw : base ≤ w.heap.size := by omega
  have c1 := cell_of_one hV
  have f1 := free_of_one hV
  have HV : Hid (w.heap[V]? = some (.cells #[.slice ao l.length c] 22 (0, 0))) := hV
  have HO : Hid (w.ownsRow base 3 1 (.slice ao l.length c) l.length (ints l)) := hown
  clear hV hown
  obtain ⟨i0, hi, hz0, hz1, hz2⟩ := info_parts info3
  go_enter Tryd.func15, Tryd.ntmps15
  go_wp2_with (at_builtin; refine wpList_append_own _ rfl (.tmp 3) (.tmp 5) 22 rfl base 3 i0 (.int .i64 0) 1 8 Tryd.underlying22 hi hz0 hz1 hz2 rfl (by decide) _ _ _ rfl (HO.out.alloc _) ⟨w.heap.size, 0, none⟩ 1 1 [.int .i64 (n : Int)] rfl rfl (cell_one_new _ _ _) ?c2 ?c3 ?c4 ?c5 ?_)
  case c2 => intro u hu; simp at hu; subst hu; rfl
  case c3 => simp only [maxLen]; omega
  case c4 => omega
  case c5 => simp; omega
  intro v' w1 hown' hgrow _
  obtain ⟨g, cap, rfl⟩ : ∃ g cap, v' = .slice (some ⟨g, 0, none⟩) (l.length + 1) cap := by
    rcases hown'.2 with ⟨_, h⟩ | ⟨g, cap, cur, hv, _⟩
    · omega
    · exact ⟨g, cap, hv⟩
  obtain ⟨hV1, E1, E2⟩ := emit_end HV.out hbV hbw HO.out hown' hgrow
  have c2 := cell_of_one hV1
  have f2 := free_of_one hV1
  have HE : Hid _ := And.intro E1 E2
  clear hown' hgrow hV1 E1 E2 HV HO c1 f1
  go_wp2
  go_end0
  exact ⟨rfl, HE.out.1, HE.out.2⟩

theorem or6 (k c : Nat) (hk : k ≤ 1048576) (hc : c < 64) : bits .or .i64 ((k : Int) * 64) (c : Int) = ((64 * k + c : Nat) : Int) := by
  have := bits_join .i64 63 (by decide) wraps_i64 6 ((k : Int) * 64) (c : Int) (by omega) (by omega) (by omega) (by omega) (by omega) (by omega)
  rw [this]; omega

/-- Where the inner loop stands in word k: all bits below t are done. -/
def Done (X : Nat → Nat) (k t cur : Nat) : Prop := cur < 18446744073709551616 ∧ ∀ j, j < 64 → cur.testBit j = ((X k).testBit j && decide (t ≤ j))
theorem done_start (X : Nat → Nat) (k : Nat) (h : X k < 2 ^ 64) : Done X k 0 (X k) := ⟨by omega, fun j _ => by simp⟩
theorem bit_at (X : Nat → Nat) (k j : Nat) (h : j < 64) : bitOf X (64 * k + j) = (X k).testBit j := by
  unfold bitOf
  rw [show (64 * k + j) / 64 = k from by omega, show (64 * k + j) % 64 = j from by omega]
theorem done_end {X : Nat → Nat} {k t : Nat} (ht : t ≤ 64) (h : Done X k t 0) : upTo (bitOf X) (64 * (k + 1)) = upTo (bitOf X) (64 * k + t) := by
  refine upTo_same (by omega) fun i a b => ?_
  obtain ⟨j, rfl⟩ : ∃ j, i = 64 * k + j := ⟨i - 64 * k, by omega⟩
  rw [bit_at X k j (by omega)]
  have := h.2 j (by omega)
  have ht2 : t ≤ j := by omega
  simpa [ht2] using this.symm
theorem done_step {X : Nat → Nat} {k t cur : Nat} (h : Done X k t cur) (h0 : cur ≠ 0) :
    t ≤ Lib.ctz 64 cur ∧ Lib.ctz 64 cur < 64 ∧ Done X k (Lib.ctz 64 cur + 1) (cur &&& (cur - 1)) ∧ upTo (bitOf X) (64 * k + Lib.ctz 64 cur + 1) = upTo (bitOf X) (64 * k + t) ++ [64 * k + Lib.ctz 64 cur] := by
  obtain ⟨hc, h1, h2, h3⟩ := low_facts cur h0 h.1
  generalize Lib.ctz 64 cur = c at hc h1 h2 h3
  have hb := h.2 c hc
  rw [h1] at hb
  have htc : t ≤ c := by
    have := hb.symm
    simp at this
    exact this.2
  have hXc : (X k).testBit c = true := by
    have := hb.symm
    simp at this
    exact this.1
  refine ⟨htc, hc, ⟨Nat.lt_of_le_of_lt Nat.and_le_left h.1, fun j hj => ?_⟩, ?_⟩
  · rw [h3 j, h.2 j hj]
    by_cases e : j = c
    · subst e; simp
    · by_cases e2 : c + 1 ≤ j
      · have a1 : t ≤ j := by omega
        simp [e, e2, a1]
      · have a1 : j < c := by omega
        have := h2 j a1
        rw [h.2 j hj] at this
        simp [this, e2]
  · refine upTo_next (by omega) (fun i a b => ?_) (by rw [bit_at X k c hc]; exact hXc)
    obtain ⟨j, rfl⟩ : ∃ j, i = 64 * k + j := ⟨i - 64 * k, by omega⟩
    have hj : j < c := by omega
    rw [bit_at X k j (by omega)]
    have := h2 j hj
    rw [h.2 j (by omega)] at this
    have a1 : t ≤ j := by omega
    simpa [a1] using this

theorem and_pred (x : Nat) (hx : x < 18446744073709551616) (h0 : x ≠ 0) : bits .and .u64 (x : Int) ((x : Int) - 1) = ((x &&& (x - 1) : Nat) : Int) := by
  rw [show ((x : Int) - 1) = ((x - 1 : Nat) : Int) from by omega]
  exact bits_and_u64_nat x (x - 1) hx (by omega)
theorem Tab.below {w w' : World} {B : Nat} (h : Tab w) (hb : Below B w w') (h0 : 0 < B) : Tab w' := fun j hj => (hb.cell (p := ⟨0, j, none⟩) h0).trans (h j hj)

set_option maxHeartbeats 1000000 in
set_option maxRecDepth 100000 in
theorem each_any (bb W wc V base : Nat) (X : Nat → Nat) (w : World) (hX : ∀ q, X q < 2 ^ 64) (hc : ∀ q, q < W → w.cell? ⟨bb, q, none⟩ = some (.int .u64 (X q))) (hbb : bb < base) (hW : W ≤ 1024) (hT : Tab w) (h0 : 0 < base) (hO : OutIs w V base []) (hbV : base ≤ V) :
    Calls Tryd.prog 14 #[.slice (some ⟨bb, 0, none⟩) W wc, .func (.func 15) #[] #[.pointer (some ⟨V, 0, none⟩)]] w fun e w' => e = .returned (.tuple #[]) ∧ OutIs w' V base (upTo (bitOf X) (64 * W)) ∧ Below base w w' := by
  have HC : Hid (∀ q, q < W → w.cell? ⟨bb, q, none⟩ = some (.int .u64 (X q))) := hc
  have HT : Hid (Tab w) := hT
  have HO : Hid (OutIs w V base []) := hO
  have HX : Hid (∀ q, X q < 2 ^ 64) := hX
  clear hc hT hO hX
  go_enter Tryd.func14, Tryd.ntmps14
  go_wp2
  go_loopw [8] (fun i wr => ∃ k : Nat, k ≤ W ∧ i = .int .i64 k ∧ Hid (OutIs wr V base (upTo (bitOf X) (64 * k))) ∧ Hid (Below base w wr)) (fun i _ => W - (intOf i).toNat)
  case atStart => exact ⟨0, Nat.zero_le _, rfl, HO, Below.refl _ _⟩
  case round =>
    obtain ⟨k, hk, rfl, ho, hb⟩ := hrel
    by_cases hlt : k < W
    · have c0 := (hb.out.cell (p := ⟨bb, k, none⟩) hbb).trans (HC.out k hlt)
      go_wp2
      go_loopg [5] 64 (fun gn wd w2 => ∃ t cur : Nat, gn = 64 - t ∧ t ≤ 64 ∧ wd = .int .u64 cur ∧ Hid (Done X k t cur) ∧ Hid (OutIs w2 V base (upTo (bitOf X) (64 * k + t))) ∧ Hid (Below base w w2))
      case atStart => exact ⟨0, X k, rfl, by omega, rfl, done_start X k (HX.out k), ho, hb⟩
      case round =>
        obtain ⟨t, cur, hg, ht, rfl, hd, ho2, hb2⟩ := hrel
        by_cases hz : cur = 0
        · subst hz
          have R : Hid (OutIs wr V base (upTo (bitOf X) (64 * (k + 1)))) := by
            show OutIs _ _ _ _
            rw [done_end ht hd.out]; exact ho2.out
          clear hd ho2 ho hb c0
          go_wp2
          go_roundw
          case rel => exact ⟨k + 1, by omega, by go_num, R, hb2⟩
          case measure => simp [intOf]; omega
        · have hne : ((cur : Int) != 0) = true := by simp; omega
          have hc1 : (1 : Int) ≤ (cur : Int) := by omega
          have hlt64 : cur < 18446744073709551616 := hd.out.1
          obtain ⟨s1, s2, s3, s4⟩ := done_step hd.out hz
          have hand := and_pred cur hlt64 hz
          have C1 : Hid _ := tz_any cur wr hz hlt64 (HT.out.below hb2.out h0)
          obtain ⟨cz, hcz⟩ : ∃ cz, cz = Lib.ctz 64 cur := ⟨_, rfl⟩
          rw [← hcz] at s1 s2 s3 s4 C1
          have hor := or6 k cz (by omega) s2
          have hll := upTo_len (bitOf X) (64 * k + t)
          have C2 : Hid _ := emit_any V base (64 * k + cz) _ wr ho2.out hbV (by omega)
          rw [← s4] at C2
          rw [show ((64 * k + cz : Nat) : Int) = 64 * (k : Int) + (cz : Int) from by omega] at C2
          have S3 : Hid _ := s3
          clear hz hd ho2 ho hb c0 hcz s3 s4
          go_wp2_with fail
          refine Calls.mono C1.out ?_
          rintro e w3 ⟨rfl, rfl⟩
          go_wp2_with fail
          refine Calls.mono C2.out ?_
          rintro e w4 ⟨rfl, E1, E2⟩
          have HE1 : Hid _ := E1
          have HE2 : Hid (Below base w w4) := hb2.out.trans E2
          clear E1 E2 C1 C2
          go_wp2
          go_roundg (64 - (cz + 1))
          case rel => exact ⟨cz + 1, cur &&& (cur - 1), rfl, by omega, rfl, S3, HE1, HE2⟩
          case measure => omega
    · obtain rfl : k = W := by omega
      go_wp2
      go_end0
      exact ⟨rfl, ho.out, hb.out⟩
end Go.Proofs.Qxb6612720aDoor
