import Derived.Test.Qxb6612720aNm
namespace Go.Proofs.Qxb6612720a
open Go.RowKit
open Go.Maps (Keyed)
set_option linter.unusedVariables false

theorem row_grown {w w' : World} {b : Nat} {t : TypeId} {n X : Nat} {f : Nat → Value} (h : w.rowIs b t n f) (hg : w.grownBy w' (some X)) (hX : ∀ cs t fz, w.heap[X]? ≠ some (.cells cs t fz)) : w'.rowIs b t n f := by
  refine h.of_block (hg.block b h.lt ?_)
  rintro e
  simp at e
  subst e
  obtain ⟨cs, hc, _⟩ := h
  exact hX _ _ _ hc
theorem grown_below {w w' : World} (X : Nat) (h : Below w.heap.size w w') : w.grownBy w' (some X) := ⟨h.os, h.tape, h.output, h.size, fun i hi _ => h.block i hi⟩
theorem grown_trans {a b c : World} {X : Nat} (h : a.grownBy b (some X)) (k : b.grownBy c (some X)) : a.grownBy c (some X) := h.andThen k (fun j e => Or.inr e)
theorem grown_refl (w : World) (X : Nat) : w.grownBy w (some X) := ⟨rfl, rfl, rfl, Nat.le_refl _, fun _ _ _ => rfl⟩
/-- The lists' halves, as callNumber lays them. -/
structure Half (w : World) (bs bg n : Nat) (sb gb m : Nat → Nat) (R : Nat → Nat → Rf) : Prop where
  s : w.rowIs bs 87 n (fun i => .slice (some ⟨sb i, 0, none⟩) (m i) (m i))
  g : w.rowIs bg 87 n (fun i => .slice (some ⟨gb i, 0, none⟩) (m i) (m i))
  le : ∀ i, i < n → m i ≤ 65536
  rs : ∀ i, i < n → w.rowIs (sb i) 3 (m i) (upto (fun j => (R i j).1) (m i))
  rg : ∀ i, i < n → w.rowIs (gb i) 3 (m i) (upto (fun j => (R i j).2) (m i))
theorem Half.below {w w' : World} {bs bg n : Nat} {sb gb m : Nat → Nat} {R : Nat → Nat → Rf} (h : Half w bs bg n sb gb m R) (hb : Below w.heap.size w w') : Half w' bs bg n sb gb m R :=
  ⟨h.s.of_block (hb.block _ h.s.lt), h.g.of_block (hb.block _ h.g.lt), h.le, fun i hi => (h.rs i hi).of_block (hb.block _ (h.rs i hi).lt), fun i hi => (h.rg i hi).of_block (hb.block _ (h.rg i hi).lt)⟩
theorem Half.grown {w w' : World} {bs bg n X : Nat} {sb gb m : Nat → Nat} {R : Nat → Nat → Rf} (h : Half w bs bg n sb gb m R) (hg : w.grownBy w' (some X)) (hX : ∀ cs t fz, w.heap[X]? ≠ some (.cells cs t fz)) : Half w' bs bg n sb gb m R :=
  ⟨row_grown h.s hg hX, row_grown h.g hg hX, h.le, fun i hi => row_grown (h.rs i hi) hg hX, fun i hi => row_grown (h.rg i hi) hg hX⟩


set_option maxHeartbeats 4000000 in
set_option maxRecDepth 100000 in
theorem z4 (v0 v1 v6 v7 v8 v9 v20 v21 v22 v23 v24 v29 v30 : Value) (b2 b3 b4 b5 nl F M1 M2 : Nat) (T I : Nat → ByteArray) (keys : Nat → Lit) (sb gb m : Nat → Nat) (R : Nat → Nat → Rf) (w : World) (N : Act → World → Prop) (Q : Ending → World → Prop) (hnl : nl ≤ 65536) (r2 : w.rowIs b2 9 nl (fun i => .string (T i))) (r3 : w.rowIs b3 9 nl (fun i => .string (I i))) (hh : Half w b4 b5 nl sb gb m R)
    (hf : w.heap[F]? = some (.cells #[.map (some M1), .map (some M2)] 109 (0, 0))) (hdm : DM w 112 keys 0 M1 m R) (hkey : ∀ i, i < nl → keyOf Try.prog 112 (.agg #[.string (T i), .string (I i)]) = some (keys i)) (hdis : ∀ i j, i < nl → j < nl → keys i = keys j → i = j) (act : Act) (hI : J29 v0 v1 (.slice (some ⟨b2, 0, none⟩) nl nl) (.slice (some ⟨b3, 0, none⟩) nl nl) (.slice (some ⟨b4, 0, none⟩) nl nl) (.slice (some ⟨b5, 0, none⟩) nl nl) v6 v7 v8 v9 v20 v21 v22 v23 v24 (.pointer (some ⟨F, 0, none⟩)) v29 v30 act)
    (hnext : ∀ act' w', J29 v0 v1 (.slice (some ⟨b2, 0, none⟩) nl nl) (.slice (some ⟨b3, 0, none⟩) nl nl) (.slice (some ⟨b4, 0, none⟩) nl nl) (.slice (some ⟨b5, 0, none⟩) nl nl) v6 v7 v8 v9 v20 v21 v22 v23 v24 (.pointer (some ⟨F, 0, none⟩)) v29 v30 act' → DM w' 112 keys nl M1 m R → w.grownBy w' (some M1) → N act' w') : Code.wp Try.prog (pick [1, 1, 1, 1, 0] b29) (Exit.then N (bodyPost Try.prog Try.f29 Q)) act w := by
  obtain ⟨g, rfl⟩ := hI
  have HN : Hid _ := hnext
  have R2 : Hid (w.rowIs b2 9 nl (fun i => .string (T i))) := r2
  have R3 : Hid (w.rowIs b3 9 nl (fun i => .string (I i))) := r3
  have HH : Hid (Half w b4 b5 nl sb gb m R) := hh
  have HF : Hid (w.heap[F]? = some (.cells #[.map (some M1), .map (some M2)] 109 (0, 0))) := hf
  have HX : Hid (∀ cs t fz, w.heap[M1]? ≠ some (.cells cs t fz)) := hdm.not
  have HD : Hid (DM w 112 keys 0 M1 m R) := hdm
  have HK : Hid (∀ i, i < nl → keyOf Try.prog 112 (.agg #[.string (T i), .string (I i)]) = some (keys i)) := hkey
  have HI : Hid (∀ i j, i < nl → j < nl → keys i = keys j → i = j) := hdis
  clear hnext r2 hh hf hdm hkey hdis r3
  conv => arg 2; whnf
  go_wp2
  go_loopw [69] (fun i wr => ∃ k : Nat, k ≤ nl ∧ i = .int .i64 k ∧ Hid (DM wr 112 keys k M1 m R) ∧ Hid (w.grownBy wr (some M1))) (fun i _ => nl - (intOf i).toNat)
  case atStart => exact ⟨0, Nat.zero_le _, rfl, HD, grown_refl w M1⟩
  case round =>
    obtain ⟨k, hk, rfl, hd, hg⟩ := hrel
    by_cases hlt : k < nl
    · have hf : ∀ W, wr.grownBy W (some M1) → W.heap[F]? = some (.cells #[.map (some M1), .map (some M2)] 109 (0, 0)) := fun W hW => ((grown_trans hg.out hW).block F (lt_of_block HF.out) (by
        simp; rintro rfl; exact HX.out _ _ _ HF.out)).trans HF.out
      have HSW : Hid (∀ W, wr.grownBy W (some M1) → W.cell? ⟨F, 0, none⟩ = some (.map (some M1)) ∧ W.cell? ⟨b2, k, none⟩ = some (.string (T k)) ∧ W.cell? ⟨b3, k, none⟩ = some (.string (I k)) ∧ W.cell? ⟨b4, k, none⟩ = some (.slice (some ⟨sb k, 0, none⟩) (m k) (m k)) ∧ W.cell? ⟨b5, k, none⟩ = some (.slice (some ⟨gb k, 0, none⟩) (m k) (m k))) := fun W hW => ⟨by simp [World.cell?, hf W hW], (row_grown R2.out (grown_trans hg.out hW) HX.out).cell hlt, (row_grown R3.out (grown_trans hg.out hW) HX.out).cell hlt, (row_grown HH.out.s (grown_trans hg.out hW) HX.out).cell hlt, (row_grown HH.out.g (grown_trans hg.out hW) HX.out).cell hlt⟩
      obtain ⟨c0, c1, c2, c3, c4⟩ := HSW.out wr (grown_refl wr M1)
      have C : Hid _ := zrefs_any (sb k) (gb k) (m k) (R k) wr.drew (HH.out.le k hlt) (row_grown (HH.out.rs k hlt) hg.out HX.out).drew (row_grown (HH.out.rg k hlt) hg.out HX.out).drew
      have ST : Hid (∀ wx, Below wr.heap.size wr wx → wx.rowIs wr.heap.size 118 (m k * 2) (refAt (R k) (m k)) → ∃ w3, (Instr.mapUpdate 106 (.map (some M1)) (.agg #[.string (T k), .string (I k)]) (.slice (some ⟨wr.heap.size, 0, none⟩) (m k) (m k))).run Try.prog wx = .ok () w3 ∧ DM w3 112 keys (k + 1) M1 m R ∧ wx.mapTurned w3 M1) := fun wx hb hrow =>
        dm_step law112 Try.underlying106 hd.out (by omega) hb (HK.out k hlt) (fun i hi e => by have := HI.out i k (by omega) hlt e; omega) hrow
      clear hf
      go_wp2
      go_region_held3 (fun W => W.cell? ⟨F, 0, none⟩ = some (.map (some M1)) ∧ W.cell? ⟨b2, k, none⟩ = some (.string (T k)) ∧ W.cell? ⟨b3, k, none⟩ = some (.string (I k)) ∧ W.cell? ⟨b4, k, none⟩ = some (.slice (some ⟨sb k, 0, none⟩) (m k) (m k)) ∧ W.cell? ⟨b5, k, none⟩ = some (.slice (some ⟨gb k, 0, none⟩) (m k) (m k))) (first | (go_keep; done) | exact ⟨by assumption, by assumption, by assumption, by assumption, by assumption⟩)
        ((go_at_call 31; refine Calls.mono C.out ?_; rintro e wx ⟨rfl, hrow, hb, hs⟩; have hbx : Below wr.heap.size wr wx := (Below.refl wr.heap.size wr).drew.trans hb; obtain ⟨w3, hupd, hdm3, htn⟩ := ST.out wx hbx hrow; obtain ⟨p0, p1, p2, p3, p4⟩ := HSW.out wx (grown_below M1 hbx); obtain ⟨q0, q1, q2, q3, q4⟩ := HSW.out w3 (grown_trans (grown_below M1 hbx) htn.grown); have HD3 : Hid (DM w3 112 keys (k + 1) M1 m R) := hdm3; have HG3 : Hid (w.grownBy w3 (some M1)) := grown_trans hg.out (grown_trans (grown_below M1 hbx) htn.grown); clear hrow hb hs hbx hdm3 htn))
      go_wp2
      go_roundw
      case rel => exact ⟨k + 1, by omega, by go_num, HD3, HG3⟩
      case measure => simp [intOf]; omega
    · obtain rfl : k = nl := by omega
      go_wp2
      exact HN.out _ _ (J29_mk _ rfl rfl rfl rfl rfl rfl rfl rfl rfl rfl rfl rfl rfl rfl rfl rfl rfl rfl rfl) hd.out hg.out

set_option maxHeartbeats 4000000 in
set_option maxRecDepth 100000 in
theorem z5 (v0 v1 v2 v3 v4 v5 v9 v20 v21 v22 v23 v24 v29 v30 : Value) (b2 b3 b4 b5 nl F M1 M2 : Nat) (T : Nat → ByteArray) (keys : Nat → Lit) (sb gb m : Nat → Nat) (R : Nat → Nat → Rf) (w : World) (N : Act → World → Prop) (Q : Ending → World → Prop) (hnl : nl ≤ 65536) (r2 : w.rowIs b2 9 nl (fun i => .string (T i))) (hh : Half w b4 b5 nl sb gb m R)
    (hf : w.heap[F]? = some (.cells #[.map (some M1), .map (some M2)] 109 (0, 0))) (hdm : DM w 9 keys 0 M2 m R) (hkey : ∀ i, i < nl → keyOf Try.prog 9 (.string (T i)) = some (keys i)) (hdis : ∀ i j, i < nl → j < nl → keys i = keys j → i = j) (act : Act) (hI : J29 v0 v1 v2 v3 v4 v5 (.slice (some ⟨b2, 0, none⟩) nl nl) (.slice (some ⟨b4, 0, none⟩) nl nl) (.slice (some ⟨b5, 0, none⟩) nl nl) v9 v20 v21 v22 v23 v24 (.pointer (some ⟨F, 0, none⟩)) v29 v30 act)
    (hnext : ∀ act' w', J29 v0 v1 v2 v3 v4 v5 (.slice (some ⟨b2, 0, none⟩) nl nl) (.slice (some ⟨b4, 0, none⟩) nl nl) (.slice (some ⟨b5, 0, none⟩) nl nl) v9 v20 v21 v22 v23 v24 (.pointer (some ⟨F, 0, none⟩)) v29 v30 act' → DM w' 9 keys nl M2 m R → w.grownBy w' (some M2) → N act' w') : Code.wp Try.prog (pick [1, 1, 1, 1, 1, 0] b29) (Exit.then N (bodyPost Try.prog Try.f29 Q)) act w := by
  obtain ⟨g, rfl⟩ := hI
  have HN : Hid _ := hnext
  have R2 : Hid (w.rowIs b2 9 nl (fun i => .string (T i))) := r2
  have HH : Hid (Half w b4 b5 nl sb gb m R) := hh
  have HF : Hid (w.heap[F]? = some (.cells #[.map (some M1), .map (some M2)] 109 (0, 0))) := hf
  have HX : Hid (∀ cs t fz, w.heap[M2]? ≠ some (.cells cs t fz)) := hdm.not
  have HD : Hid (DM w 9 keys 0 M2 m R) := hdm
  have HK : Hid (∀ i, i < nl → keyOf Try.prog 9 (.string (T i)) = some (keys i)) := hkey
  have HI : Hid (∀ i j, i < nl → j < nl → keys i = keys j → i = j) := hdis
  clear hnext r2 hh hf hdm hkey hdis
  conv => arg 2; whnf
  go_wp2
  go_loopw [95] (fun i wr => ∃ k : Nat, k ≤ nl ∧ i = .int .i64 k ∧ Hid (DM wr 9 keys k M2 m R) ∧ Hid (w.grownBy wr (some M2))) (fun i _ => nl - (intOf i).toNat)
  case atStart => exact ⟨0, Nat.zero_le _, rfl, HD, grown_refl w M2⟩
  case round =>
    obtain ⟨k, hk, rfl, hd, hg⟩ := hrel
    by_cases hlt : k < nl
    · have hf : ∀ W, wr.grownBy W (some M2) → W.heap[F]? = some (.cells #[.map (some M1), .map (some M2)] 109 (0, 0)) := fun W hW => ((grown_trans hg.out hW).block F (lt_of_block HF.out) (by
        simp; rintro rfl; exact HX.out _ _ _ HF.out)).trans HF.out
      have HSW : Hid (∀ W, wr.grownBy W (some M2) → W.cell? ⟨F, 1, none⟩ = some (.map (some M2)) ∧ W.cell? ⟨b2, k, none⟩ = some (.string (T k)) ∧ W.cell? ⟨b4, k, none⟩ = some (.slice (some ⟨sb k, 0, none⟩) (m k) (m k)) ∧ W.cell? ⟨b5, k, none⟩ = some (.slice (some ⟨gb k, 0, none⟩) (m k) (m k))) := fun W hW => ⟨by simp [World.cell?, hf W hW], (row_grown R2.out (grown_trans hg.out hW) HX.out).cell hlt, (row_grown HH.out.s (grown_trans hg.out hW) HX.out).cell hlt, (row_grown HH.out.g (grown_trans hg.out hW) HX.out).cell hlt⟩
      obtain ⟨c0, c1, c2, c3⟩ := HSW.out wr (grown_refl wr M2)
      have C : Hid _ := zrefs_any (sb k) (gb k) (m k) (R k) wr.drew (HH.out.le k hlt) (row_grown (HH.out.rs k hlt) hg.out HX.out).drew (row_grown (HH.out.rg k hlt) hg.out HX.out).drew
      have ST : Hid (∀ wx, Below wr.heap.size wr wx → wx.rowIs wr.heap.size 118 (m k * 2) (refAt (R k) (m k)) → ∃ w3, (Instr.mapUpdate 107 (.map (some M2)) (.string (T k)) (.slice (some ⟨wr.heap.size, 0, none⟩) (m k) (m k))).run Try.prog wx = .ok () w3 ∧ DM w3 9 keys (k + 1) M2 m R ∧ wx.mapTurned w3 M2) := fun wx hb hrow =>
        dm_step law9 Try.underlying107 hd.out (by omega) hb (HK.out k hlt) (fun i hi e => by have := HI.out i k (by omega) hlt e; omega) hrow
      clear hf
      go_wp2
      go_region_held3 (fun W => W.cell? ⟨F, 1, none⟩ = some (.map (some M2)) ∧ W.cell? ⟨b2, k, none⟩ = some (.string (T k)) ∧ W.cell? ⟨b4, k, none⟩ = some (.slice (some ⟨sb k, 0, none⟩) (m k) (m k)) ∧ W.cell? ⟨b5, k, none⟩ = some (.slice (some ⟨gb k, 0, none⟩) (m k) (m k))) (first | (go_keep; done) | exact ⟨by assumption, by assumption, by assumption, by assumption⟩)
        ((go_at_call 31; refine Calls.mono C.out ?_; rintro e wx ⟨rfl, hrow, hb, hs⟩; have hbx : Below wr.heap.size wr wx := (Below.refl wr.heap.size wr).drew.trans hb; obtain ⟨w3, hupd, hdm3, htn⟩ := ST.out wx hbx hrow; obtain ⟨p0, p1, p2, p3⟩ := HSW.out wx (grown_below M2 hbx); obtain ⟨q0, q1, q2, q3⟩ := HSW.out w3 (grown_trans (grown_below M2 hbx) htn.grown); have HD3 : Hid (DM w3 9 keys (k + 1) M2 m R) := hdm3; have HG3 : Hid (w.grownBy w3 (some M2)) := grown_trans hg.out (grown_trans (grown_below M2 hbx) htn.grown); clear hrow hb hs hbx hdm3 htn))
      go_wp2
      go_roundw
      case rel => exact ⟨k + 1, by omega, by go_num, HD3, HG3⟩
      case measure => simp [intOf]; omega
    · obtain rfl : k = nl := by omega
      go_wp2
      exact HN.out _ _ (J29_mk _ rfl rfl rfl rfl rfl rfl rfl rfl rfl rfl rfl rfl rfl rfl rfl rfl rfl rfl rfl) hd.out hg.out
end Go.Proofs.Qxb6612720a
