import Derived.Test.Qxb6612720aPi
namespace Go.Proofs.Qxb6612720a
open Go.RowKit
set_option linter.unusedVariables false

theorem Ans.ptr {w : World} {bp n : Nat} {T : Nat → Tg} {ef : Nat → ByteArray} (h : Ans w bp n T ef) : ∃ O, w.cell? ⟨bp, 2, none⟩ = some (.slice (some ⟨O, 0, none⟩) n n) := let ⟨O, h, _⟩ := h; ⟨O, h⟩

set_option maxHeartbeats 2000000 in
set_option maxRecDepth 100000 in
theorem st12 (v1 v2 v3 v4 v13 v14 v20 : Value) (a : Option Addr) (n c cut p15 p16 p17 : Nat) (T T2 T3 : Nat → Tg) (e1 e2 e3 : Nat → ByteArray) (w : World) (Q : Exit → Act → World → Prop) (hn : n ≤ 65536) (hcut : cut ≤ n) (A1 : Ans w p15 n T e1) (A2 : Ans w p16 cut T2 e2) (A3 : Ans w p17 (n - cut) T3 e3) (act : Act)
    (hI : J3 (.slice a n c) v1 v2 v3 v4 v13 v14 (.pointer (some ⟨p15, 0, none⟩)) (.pointer (some ⟨p16, 0, none⟩)) (.pointer (some ⟨p17, 0, none⟩)) v20 act)
    (hnext : ∀ act', J3 (.slice a n c) v1 v2 v3 v4 v13 v14 (.pointer (some ⟨p15, 0, none⟩)) (.pointer (some ⟨p16, 0, none⟩)) (.pointer (some ⟨p17, 0, none⟩)) v20 act' → Q .normal act' w) : Code.wp Try.prog (pick [1, 1, 1, 1, 1, 1, 1, 1, 1, 1, 1, 1, 0] b3) Q act w := by
  obtain ⟨g, rfl⟩ := hI
  have HN : Hid (∀ act', J3 (.slice a n c) v1 v2 v3 v4 v13 v14 (.pointer (some ⟨p15, 0, none⟩)) (.pointer (some ⟨p16, 0, none⟩)) (.pointer (some ⟨p17, 0, none⟩)) v20 act' → Q .normal act' w) := hnext
  obtain ⟨O1, c1⟩ := A1.ptr
  obtain ⟨O2, c2⟩ := A2.ptr
  obtain ⟨O3, c3⟩ := A3.ptr
  clear hnext A1 A2 A3
  obtain ⟨d, rfl⟩ : ∃ d, n = cut + d := ⟨n - cut, by omega⟩
  rw [Nat.add_sub_cancel_left] at c3
  conv => arg 2; whnf
  go_wp2
  exact HN.out _ (J3_mk _ rfl rfl rfl rfl rfl rfl rfl rfl rfl rfl rfl rfl)

set_option maxHeartbeats 4000000 in
set_option maxRecDepth 100000 in
theorem st13 (v0 v1 v2 v3 v4 v13 v14 v20 : Value) (O n cut p15 p16 p17 : Nat) (T : Nat → Tg) (e1 e2 : Nat → ByteArray) (w w0 : World) (N : Act → World → Prop) (hn : n ≤ 65536) (hcut : cut ≤ n) (hP : PolsW w O n T) (A1 : Ans w p15 n T e1) (A2 : Ans w p16 cut T e2) (he : ∀ i, i < cut → e1 i = e2 i) (act : Act)
    (hI : J3 v0 v1 v2 v3 v4 v13 v14 (.pointer (some ⟨p15, 0, none⟩)) (.pointer (some ⟨p16, 0, none⟩)) (.pointer (some ⟨p17, 0, none⟩)) v20 act)
    (hnext : ∀ act' w', J3 v0 v1 v2 v3 v4 v13 v14 (.pointer (some ⟨p15, 0, none⟩)) (.pointer (some ⟨p16, 0, none⟩)) (.pointer (some ⟨p17, 0, none⟩)) v20 act' → Below w.heap.size w w' → N act' w') : Code.wp Try.prog (pick [1, 1, 1, 1, 1, 1, 1, 1, 1, 1, 1, 1, 1, 0] b3) (Exit.then N (bodyPost Try.prog Try.f3 (fun e w' => e = .returned (.bool true) ∧ Below w0.heap.size w0 w'))) act w := by
  obtain ⟨g, rfl⟩ := hI
  have HN : Hid (∀ act' w', J3 v0 v1 v2 v3 v4 v13 v14 (.pointer (some ⟨p15, 0, none⟩)) (.pointer (some ⟨p16, 0, none⟩)) (.pointer (some ⟨p17, 0, none⟩)) v20 act' → Below w.heap.size w w' → N act' w') := hnext
  have HA1 : Hid (Ans w p15 n T e1) := A1
  have HA2 : Hid (Ans w p16 cut T e2) := A2
  have HP : Hid (PolsW w O n T) := hP
  have HE : Hid (∀ i, i < cut → e1 i = e2 i) := he
  clear hnext A1 A2 hP he
  conv => arg 2; whnf
  go_wp2
  go_loopw [18] (fun i wr => ∃ k : Nat, k ≤ cut ∧ i = .int .i64 k ∧ Hid (Below w.heap.size w wr)) (fun i _ => cut - (intOf i).toNat)
  case atStart => exact ⟨0, Nat.zero_le _, rfl, Below.refl _ _⟩
  case round =>
    obtain ⟨k, hk, rfl, hb⟩ := hrel
    obtain ⟨O1, c1, r1⟩ := HA1.out.below hb.out
    obtain ⟨O2, c2, r2⟩ := HA2.out.below hb.out
    by_cases hlt : k < cut
    · obtain ⟨rb1, q1, x1, y1⟩ := r1 k (by omega)
      obtain ⟨rb2, q2, x2, y2⟩ := r2 k hlt
      obtain ⟨h1, h2, _⟩ := (HP.out.below hb.out) k (by omega)
      have hdr : Below wr.heap.size wr wr.drew := (Below.refl _ _).drew
      have C : Hid _ := policy_same (T k) O rb1 rb2 (e1 k) wr.drew (h1.below hdr) (h2.below hdr) x1 y1 (by rw [HE.out k hlt]; exact x2) y2
      have a0 := q1.c0
      have a1 := q1.c1
      have a2 := q1.c2
      have a3 := q1.c3
      have a4 := q1.c4
      have a5 := q1.c5
      have b0 := q2.c0
      have b1 := q2.c1
      have b2 := q2.c2
      have b3' := q2.c3
      have b4 := q2.c4
      have b5 := q2.c5
      have t1 : (k : Int) < (n : Int) := by omega
      have t2 : (k : Int) < (cut : Int) := by omega
      clear r1 r2 q1 q2 x1 y1 x2 y2 h1 h2 hdr
      go_wp2_with fail
      go_region_with (go_at_call 10; refine Calls.mono C.out ?_; rintro e w1 ⟨rfl, hb1⟩)
      all_goals
        have HB1 : Hid (Below w.heap.size w w1) := hb.out.trans (((Below.refl wr.heap.size wr).drew.trans hb1).mono hb.out.size)
        clear hb1
        go_wp2
        go_roundw
        case rel => exact ⟨k + 1, by omega, by go_num, HB1⟩
        case measure => simp [intOf]; omega
    · clear r1 r2
      go_wp2
      exact HN.out _ _ (J3_mk _ rfl rfl rfl rfl rfl rfl rfl rfl rfl rfl rfl rfl) hb.out
end Go.Proofs.Qxb6612720a
