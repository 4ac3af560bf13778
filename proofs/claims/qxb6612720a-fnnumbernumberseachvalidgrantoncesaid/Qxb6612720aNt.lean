import Derived.Test.Qxb6612720aNs
namespace Go.Proofs.Qxb6612720a
open Go.RowKit
open Go.Maps (Keyed)
set_option linter.unusedVariables false

set_option maxHeartbeats 4000000 in
set_option maxRecDepth 100000 in
theorem y8 (v0 v2 v3 v11 v12 v19 v20 v21 v23 v24 v25 v26 v27 : Value) (sa : Option Addr) (n sc O14 O15 O16 O17 : Nat) (P : Nat → En) (w0 w : World) (Q : Exit → Act → World → Prop) (hn : n ≤ 65536) (hm : ∀ i, i < n → (P i).n ≤ 65536) (hL : Lis w0 sa n P) (hb0 : Below w0.heap.size w0 w) (h1 : w0.heap.size ≤ O14) (h2 : O14 < O15) (h3 : O15 < O16) (h4 : O16 < O17) (h5 : O17 < w.heap.size) (r14 : w.rowIs O14 9 n (fun _ => .string ⟨#[]⟩)) (r15 : w.rowIs O15 9 n (fun _ => .string ⟨#[]⟩)) (r16 : w.rowIs O16 87 n (fun _ => .slice none 0 0)) (r17 : w.rowIs O17 87 n (fun _ => .slice none 0 0)) (act : Act) (hI : J13 v0 (.slice sa n sc) v2 v3 v11 v12 (.slice (some ⟨O14, 0, none⟩) n n) (.slice (some ⟨O15, 0, none⟩) n n) (.slice (some ⟨O16, 0, none⟩) n n) (.slice (some ⟨O17, 0, none⟩) n n) v19 v20 v21 v23 v24 v25 v26 v27 act)
    (hnext : ∀ act' w' sb gb, J13 v0 (.slice sa n sc) v2 v3 v11 v12 (.slice (some ⟨O14, 0, none⟩) n n) (.slice (some ⟨O15, 0, none⟩) n n) (.slice (some ⟨O16, 0, none⟩) n n) (.slice (some ⟨O17, 0, none⟩) n n) v19 v20 v21 v23 v24 v25 v26 v27 act' → w'.rowIs O14 9 n (strAt (fun i => (P i).T) n) → w'.rowIs O15 9 n (strAt (fun i => (P i).I) n) → HBc w' O16 O17 n n w.heap.size sb gb (fun i => (P i).n) (fun i => (P i).R) → Below O14 w w' → Q .normal act' w') : Code.wp Try.prog (pick [1, 1, 1, 1, 1, 1, 1, 1, 0] b13) Q act w := by
  obtain ⟨g, rfl⟩ := hI
  have HN : Hid _ := hnext
  have HL : Hid (Lis w0 sa n P) := hL
  have HM : Hid (∀ i, i < n → (P i).n ≤ 65536) := hm
  have HB0 : Hid (Below w0.heap.size w0 w) := hb0
  have R14 : Hid (w.rowIs O14 9 n (strAt (fun i => (P i).T) 0)) := r14.congr fun j _ => by simp [strAt]
  have R15 : Hid (w.rowIs O15 9 n (strAt (fun i => (P i).I) 0)) := r15.congr fun j _ => by simp [strAt]
  have RC : Hid (HBc w O16 O17 n 0 w.heap.size (fun _ => 0) (fun _ => 0) (fun i => (P i).n) (fun i => (P i).R)) := ⟨r16.congr fun j _ => by simp [slAt], r17.congr fun j _ => by simp [slAt], fun j hj => by omega, fun j hj => by omega⟩
  clear hnext hL hb0 r14 r16 r17 hm r15
  conv => arg 2; whnf
  go_wp2
  go_loopw [18] (fun i wr => ∃ (k : Nat) (sb gb : Nat → Nat), k ≤ n ∧ i = .int .i64 k ∧ Hid (wr.rowIs O14 9 n (strAt (fun i => (P i).T) k)) ∧ Hid (wr.rowIs O15 9 n (strAt (fun i => (P i).I) k)) ∧ Hid (HBc wr O16 O17 n k w.heap.size sb gb (fun i => (P i).n) (fun i => (P i).R)) ∧ Hid (Below O14 w wr)) (fun i _ => n - (intOf i).toNat)
  case atStart => exact ⟨0, _, _, Nat.zero_le _, rfl, R14, R15, RC, Below.refl _ _⟩
  case round =>
    obtain ⟨k, sb, gb, hk, rfl, hr14, hr15, hrc, hb⟩ := hrel
    by_cases hlt : k < n
    · have hall := HB0.out.trans (hb.out.mono h1)
      obtain ⟨b, off, ea, hlb, hat⟩ := HL.out.at hlt
      subst ea
      have hat0 := hat.below hall
      have c0 := hat0.c0
      have c2 := hat0.c2
      have c1 := hat0.c1
      have hsz := hb.out.size
      have hmk := HM.out k hlt
      have d14 := hr14.out.cell (i := k) hlt
      have f14 := hr14.out.frozen k
      have d15 := hr15.out.cell (i := k) hlt
      have f15 := hr15.out.frozen k
      have n1 : b ≠ O14 := by omega
      have n2 : b ≠ O15 := by omega
      have n3 : O14 ≠ O15 := by omega
      have n4 : O15 ≠ O14 := by omega
      obtain ⟨wA, hwA⟩ : ∃ wA, wA = (wr.setCell ⟨O14, k, none⟩ (.string (P k).T)).setCell ⟨O15, k, none⟩ (.string (P k).I) := ⟨_, rfl⟩
      have hsA : wA.heap.size = wr.heap.size := by subst hwA; simp [World.setCell]
      have bA : Below O14 w wA := by subst hwA; exact (hb.out.setCell (Nat.le_refl _) _).setCell (by simp; omega) _
      have A14 : Hid (wA.rowIs O14 9 n (strAt (fun i => (P i).T) (k + 1))) := by subst hwA; exact (str_step (T := fun i => (P i).T) hr14.out).setOther (a := ⟨O15, k, none⟩) n3 _
      have A15 : Hid (wA.rowIs O15 9 n (strAt (fun i => (P i).I) (k + 1))) := by subst hwA; exact str_step (T := fun i => (P i).I) (hr15.out.setOther (a := ⟨O14, k, none⟩) n4 _)
      have AC : HBc wA O16 O17 n k w.heap.size sb gb (fun i => (P i).n) (fun i => (P i).R) := by subst hwA; exact (hrc.out.set _ (by omega) (by omega) (by omega)).set _ (by omega) (by omega) (by omega)
      have C1 : Hid _ := sets_any (P k).a (P k).n (P k).c (P k).R wA hmk (hat.below (HB0.out.trans (bA.mono h1))).rf
      have HAC : Hid _ := AC
      have HBA : Hid (Below O14 w wA) := bA
      have HSA : Hid (wA.heap.size = wr.heap.size) := hsA
      have HAT : Hid _ := hat
      clear hrc hr14 AC bA hsA hat hat0 hall hr15
      go_wp2_with fail
      rw [← hwA]
      refine Calls.mono C1.out ?_
      rintro e wB ⟨rfl, hrB, hbB, hsB⟩
      have hsA := HSA.out
      have bB : Below O14 w wB := HBA.out.trans (hbB.mono (by omega))
      have atB := HAT.out.below (HB0.out.trans (bB.mono h1))
      have e2 := atB.c2
      have CB := HAC.out.below hbB
      have d16 := CB.r16.cell (i := k) hlt
      have f16 := CB.r16.frozen k
      have n5 : b ≠ O16 := by omega
      obtain ⟨wC, hwC⟩ : ∃ wC, wC = wB.setCell ⟨O16, k, none⟩ (.slice (some ⟨wA.heap.size, 0, none⟩) (P k).n (P k).n) := ⟨_, rfl⟩
      have hsC : wC.heap.size = wB.heap.size := by subst hwC; simp [World.setCell]
      have bC : Below O14 w wC := by subst hwC; exact bB.setCell (by simp; omega) _
      have C2 : Hid _ := grants_any (P k).a (P k).n (P k).c (P k).R wC hmk (HAT.out.below (HB0.out.trans (bC.mono h1))).rf
      have HB1 : Hid _ := And.intro hrB (And.intro hbB hsB)
      have HBC : Hid (Below O14 w wC) := bC
      have HSC : Hid (wC.heap.size = wB.heap.size) := hsC
      have HSB : Hid (wB.heap.size = wA.heap.size + 1) := hsB
      clear c0 c2 d14 f14 hwA hrB hbB hsB bB atB CB C1 hsA bC hsC c1 d15 f15
      go_wp2_with fail
      rw [← hwC]
      refine Calls.mono C2.out ?_
      rintro e wD ⟨rfl, hrD, hbD, hsD⟩
      have hsA := HSA.out
      have hsB := HSB.out
      have hsC := HSC.out
      have bD : Below O14 w wD := HBC.out.trans (hbD.mono (by omega))
      have hbC : Hid (HBc wB O16 O17 n k w.heap.size sb gb (fun i => (P i).n) (fun i => (P i).R)) := HAC.out.below HB1.out.2.1
      have d17 : wD.cell? ⟨O17, k, none⟩ = some _ := (hbD.cell (p := ⟨O17, k, none⟩) (by simp; omega)).trans (((by subst hwC; exact (hbC.out.r17.setOther (a := ⟨O16, k, none⟩) (by show O17 ≠ O16; omega) _)) : wC.rowIs O17 87 n (slAt gb (fun i => (P i).n) k)).cell hlt)
      have f17 : wD.frozen? ⟨O17, k, none⟩ = false := (((by subst hwC; exact (hbC.out.r17.setOther (a := ⟨O16, k, none⟩) (by show O17 ≠ O16; omega) _)) : wC.rowIs O17 87 n (slAt gb (fun i => (P i).n) k)).of_block (hbD.block O17 (by omega))).frozen k
      have FC : Hid (HBc (wD.setCell ⟨O17, k, none⟩ (.slice (some ⟨wC.heap.size, 0, none⟩) (P k).n (P k).n)) O16 O17 n (k + 1) w.heap.size (fun j => if j = k then wA.heap.size else sb j) (fun j => if j = k then wC.heap.size else gb j) (fun i => (P i).n) (fun i => (P i).R)) := by
        rw [hsC] at hrD hbD ⊢
        subst hwC
        exact hbc_step HAC.out (by omega) (by omega) (by omega) (by omega) HB1.out.2.1 HB1.out.1 hsB hbD hrD
      have F14 : Hid ((wD.setCell ⟨O17, k, none⟩ (.slice (some ⟨wC.heap.size, 0, none⟩) (P k).n (P k).n)).rowIs O14 9 n (strAt (fun i => (P i).T) (k + 1))) := by
        have q1 := A14.out.of_block (HB1.out.2.1.block O14 (by omega))
        have q2 : wC.rowIs O14 9 n (strAt (fun i => (P i).T) (k + 1)) := by subst hwC; exact q1.setOther (a := ⟨O16, k, none⟩) (by show O14 ≠ O16; omega) _
        exact (q2.of_block (hbD.block O14 (by omega))).setOther (a := ⟨O17, k, none⟩) (by show O14 ≠ O17; omega) _
      have F15 : Hid ((wD.setCell ⟨O17, k, none⟩ (.slice (some ⟨wC.heap.size, 0, none⟩) (P k).n (P k).n)).rowIs O15 9 n (strAt (fun i => (P i).I) (k + 1))) := by
        have q1 := A15.out.of_block (HB1.out.2.1.block O15 (by omega))
        have q2 : wC.rowIs O15 9 n (strAt (fun i => (P i).I) (k + 1)) := by subst hwC; exact q1.setOther (a := ⟨O16, k, none⟩) (by show O15 ≠ O16; omega) _
        exact (q2.of_block (hbD.block O15 (by omega))).setOther (a := ⟨O17, k, none⟩) (by show O15 ≠ O17; omega) _
      have FB : Hid (Below O14 w (wD.setCell ⟨O17, k, none⟩ (.slice (some ⟨wC.heap.size, 0, none⟩) (P k).n (P k).n))) := bD.setCell (by simp; omega) _
      clear hrD hbD hsD bD hsA hsB hsC hwC d16 f16 e2 C2
      go_wp2
      go_roundw
      case rel => exact ⟨k + 1, _, _, by omega, by go_num, F14, F15, FC, FB⟩
      case measure => simp [intOf]; omega
    · obtain rfl : k = n := by omega
      go_wp2
      exact HN.out _ _ sb gb (J13_mk _ rfl rfl rfl rfl rfl rfl rfl rfl rfl rfl rfl rfl rfl rfl rfl rfl rfl rfl rfl) hr14.out hr15.out hrc.out hb.out

set_option maxHeartbeats 4000000 in
set_option maxRecDepth 100000 in
theorem y12 (v0 v1 v3 v11 v12 v14 v15 v16 v17 v23 v24 v25 v26 v27 : Value) (sa : Option Addr) (n sc O14 O16 O17 : Nat) (P : Nat → En) (w0 w : World) (Q : Exit → Act → World → Prop) (hn : n ≤ 65536) (hm : ∀ i, i < n → (P i).n ≤ 65536) (hL : Uns w0 sa n P) (hb0 : Below w0.heap.size w0 w) (h1 : w0.heap.size ≤ O14) (h2 : O14 < O16) (h4 : O16 < O17) (h5 : O17 < w.heap.size) (r14 : w.rowIs O14 9 n (fun _ => .string ⟨#[]⟩)) (r16 : w.rowIs O16 87 n (fun _ => .slice none 0 0)) (r17 : w.rowIs O17 87 n (fun _ => .slice none 0 0)) (act : Act) (hI : J13 v0 v1 (.slice sa n sc) v3 v11 v12 v14 v15 v16 v17 (.slice (some ⟨O14, 0, none⟩) n n) (.slice (some ⟨O16, 0, none⟩) n n) (.slice (some ⟨O17, 0, none⟩) n n) v23 v24 v25 v26 v27 act)
    (hnext : ∀ act' w' sb gb, J13 v0 v1 (.slice sa n sc) v3 v11 v12 v14 v15 v16 v17 (.slice (some ⟨O14, 0, none⟩) n n) (.slice (some ⟨O16, 0, none⟩) n n) (.slice (some ⟨O17, 0, none⟩) n n) v23 v24 v25 v26 v27 act' → w'.rowIs O14 9 n (strAt (fun i => (P i).T) n) → HBc w' O16 O17 n n w.heap.size sb gb (fun i => (P i).n) (fun i => (P i).R) → Below O14 w w' → Q .normal act' w') : Code.wp Try.prog (pick [1, 1, 1, 1, 1, 1, 1, 1, 1, 1, 1, 1, 0] b13) Q act w := by
  obtain ⟨g, rfl⟩ := hI
  have HN : Hid _ := hnext
  have HL : Hid (Uns w0 sa n P) := hL
  have HM : Hid (∀ i, i < n → (P i).n ≤ 65536) := hm
  have HB0 : Hid (Below w0.heap.size w0 w) := hb0
  have R14 : Hid (w.rowIs O14 9 n (strAt (fun i => (P i).T) 0)) := r14.congr fun j _ => by simp [strAt]
  have RC : Hid (HBc w O16 O17 n 0 w.heap.size (fun _ => 0) (fun _ => 0) (fun i => (P i).n) (fun i => (P i).R)) := ⟨r16.congr fun j _ => by simp [slAt], r17.congr fun j _ => by simp [slAt], fun j hj => by omega, fun j hj => by omega⟩
  clear hnext hL hb0 r14 r16 r17 hm
  conv => arg 2; whnf
  go_wp2
  go_loopw [22] (fun i wr => ∃ (k : Nat) (sb gb : Nat → Nat), k ≤ n ∧ i = .int .i64 k ∧ Hid (wr.rowIs O14 9 n (strAt (fun i => (P i).T) k)) ∧ Hid (HBc wr O16 O17 n k w.heap.size sb gb (fun i => (P i).n) (fun i => (P i).R)) ∧ Hid (Below O14 w wr)) (fun i _ => n - (intOf i).toNat)
  case atStart => exact ⟨0, _, _, Nat.zero_le _, rfl, R14, RC, Below.refl _ _⟩
  case round =>
    obtain ⟨k, sb, gb, hk, rfl, hr14, hrc, hb⟩ := hrel
    by_cases hlt : k < n
    · have hall := HB0.out.trans (hb.out.mono h1)
      obtain ⟨b, off, ea, hlb, hat⟩ := HL.out.at hlt
      subst ea
      have hat0 := hat.below hall
      have c0 := hat0.c0
      have c2 := hat0.c2
      have hsz := hb.out.size
      have hmk := HM.out k hlt
      have d14 := hr14.out.cell (i := k) hlt
      have f14 := hr14.out.frozen k
      have n1 : b ≠ O14 := by omega
      obtain ⟨wA, hwA⟩ : ∃ wA, wA = wr.setCell ⟨O14, k, none⟩ (.string (P k).T) := ⟨_, rfl⟩
      have hsA : wA.heap.size = wr.heap.size := by subst hwA; simp [World.setCell]
      have bA : Below O14 w wA := by subst hwA; exact hb.out.setCell (Nat.le_refl _) _
      have A14 : Hid (wA.rowIs O14 9 n (strAt (fun i => (P i).T) (k + 1))) := by subst hwA; exact str_step (T := fun i => (P i).T) hr14.out
      have AC : HBc wA O16 O17 n k w.heap.size sb gb (fun i => (P i).n) (fun i => (P i).R) := by subst hwA; exact hrc.out.set _ (by omega) (by omega) (by omega)
      have C1 : Hid _ := sets_any (P k).a (P k).n (P k).c (P k).R wA hmk (hat.below (HB0.out.trans (bA.mono h1))).rf
      have HAC : Hid _ := AC
      have HBA : Hid (Below O14 w wA) := bA
      have HSA : Hid (wA.heap.size = wr.heap.size) := hsA
      have HAT : Hid _ := hat
      clear hrc hr14 AC bA hsA hat hat0 hall
      go_wp2_with fail
      rw [← hwA]
      refine Calls.mono C1.out ?_
      rintro e wB ⟨rfl, hrB, hbB, hsB⟩
      have hsA := HSA.out
      have bB : Below O14 w wB := HBA.out.trans (hbB.mono (by omega))
      have atB := HAT.out.below (HB0.out.trans (bB.mono h1))
      have e2 := atB.c2
      have CB := HAC.out.below hbB
      have d16 := CB.r16.cell (i := k) hlt
      have f16 := CB.r16.frozen k
      have n5 : b ≠ O16 := by omega
      obtain ⟨wC, hwC⟩ : ∃ wC, wC = wB.setCell ⟨O16, k, none⟩ (.slice (some ⟨wA.heap.size, 0, none⟩) (P k).n (P k).n) := ⟨_, rfl⟩
      have hsC : wC.heap.size = wB.heap.size := by subst hwC; simp [World.setCell]
      have bC : Below O14 w wC := by subst hwC; exact bB.setCell (by simp; omega) _
      have C2 : Hid _ := grants_any (P k).a (P k).n (P k).c (P k).R wC hmk (HAT.out.below (HB0.out.trans (bC.mono h1))).rf
      have HB1 : Hid _ := And.intro hrB (And.intro hbB hsB)
      have HBC : Hid (Below O14 w wC) := bC
      have HSC : Hid (wC.heap.size = wB.heap.size) := hsC
      have HSB : Hid (wB.heap.size = wA.heap.size + 1) := hsB
      clear c0 c2 d14 f14 hwA hrB hbB hsB bB atB CB C1 hsA bC hsC
      go_wp2_with fail
      rw [← hwC]
      refine Calls.mono C2.out ?_
      rintro e wD ⟨rfl, hrD, hbD, hsD⟩
      have hsA := HSA.out
      have hsB := HSB.out
      have hsC := HSC.out
      have bD : Below O14 w wD := HBC.out.trans (hbD.mono (by omega))
      have hbC : Hid (HBc wB O16 O17 n k w.heap.size sb gb (fun i => (P i).n) (fun i => (P i).R)) := HAC.out.below HB1.out.2.1
      have d17 : wD.cell? ⟨O17, k, none⟩ = some _ := (hbD.cell (p := ⟨O17, k, none⟩) (by simp; omega)).trans (((by subst hwC; exact (hbC.out.r17.setOther (a := ⟨O16, k, none⟩) (by show O17 ≠ O16; omega) _)) : wC.rowIs O17 87 n (slAt gb (fun i => (P i).n) k)).cell hlt)
      have f17 : wD.frozen? ⟨O17, k, none⟩ = false := (((by subst hwC; exact (hbC.out.r17.setOther (a := ⟨O16, k, none⟩) (by show O17 ≠ O16; omega) _)) : wC.rowIs O17 87 n (slAt gb (fun i => (P i).n) k)).of_block (hbD.block O17 (by omega))).frozen k
      have FC : Hid (HBc (wD.setCell ⟨O17, k, none⟩ (.slice (some ⟨wC.heap.size, 0, none⟩) (P k).n (P k).n)) O16 O17 n (k + 1) w.heap.size (fun j => if j = k then wA.heap.size else sb j) (fun j => if j = k then wC.heap.size else gb j) (fun i => (P i).n) (fun i => (P i).R)) := by
        rw [hsC] at hrD hbD ⊢
        subst hwC
        exact hbc_step HAC.out (by omega) (by omega) (by omega) (by omega) HB1.out.2.1 HB1.out.1 hsB hbD hrD
      have F14 : Hid ((wD.setCell ⟨O17, k, none⟩ (.slice (some ⟨wC.heap.size, 0, none⟩) (P k).n (P k).n)).rowIs O14 9 n (strAt (fun i => (P i).T) (k + 1))) := by
        have q1 := A14.out.of_block (HB1.out.2.1.block O14 (by omega))
        have q2 : wC.rowIs O14 9 n (strAt (fun i => (P i).T) (k + 1)) := by subst hwC; exact q1.setOther (a := ⟨O16, k, none⟩) (by show O14 ≠ O16; omega) _
        exact (q2.of_block (hbD.block O14 (by omega))).setOther (a := ⟨O17, k, none⟩) (by show O14 ≠ O17; omega) _
      have FB : Hid (Below O14 w (wD.setCell ⟨O17, k, none⟩ (.slice (some ⟨wC.heap.size, 0, none⟩) (P k).n (P k).n))) := bD.setCell (by simp; omega) _
      clear hrD hbD hsD bD hsA hsB hsC hwC d16 f16 e2 C2
      go_wp2
      go_roundw
      case rel => exact ⟨k + 1, _, _, by omega, by go_num, F14, FC, FB⟩
      case measure => simp [intOf]; omega
    · obtain rfl : k = n := by omega
      go_wp2
      exact HN.out _ _ sb gb (J13_mk _ rfl rfl rfl rfl rfl rfl rfl rfl rfl rfl rfl rfl rfl rfl rfl rfl rfl rfl rfl) hr14.out hrc.out hb.out
end Go.Proofs.Qxb6612720a
