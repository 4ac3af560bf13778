import Derived.Test.Qxb6612720aNh
namespace Go.Proofs.Qxb6612720a
open Go.RowKit
open Go.Maps (Keyed)
set_option linter.unusedVariables false

theorem mkmap_hint {t k e : TypeId} (h : Try.prog.underlying t = some (.map k e)) (q : IntKind) (n : Int) (w : World) : (Instr.makeMap t (some (.int q n))).run Try.prog w = .ok (.map (some w.heap.size)) (w.alloc (.map #[] 0)) := by
  simp [Instr.makeMap, run_underlying h, asInt, asIntOf]
/-- What the lists map says under its keys. -/
def Lists (w : World) (D : DataW Value) (bb mm : Lit → Nat) (R : Lit → Nat → Rf) : Prop :=
  ∀ kl, Maps.has D kl = true → (∀ z, D.atKey kl z = .held (.slice (some ⟨bb kl, 0, none⟩) (mm kl) (mm kl))) ∧ w.rowIs (bb kl) 118 (mm kl * 2) (refAt (R kl) (mm kl)) ∧ mm kl ≤ 65536 ∧ ∀ i, i < mm kl → wfR (R kl i)
theorem ref_cells {w : World} {b m j : Nat} {R : Nat → Rf} (h : w.rowIs b 118 (m * 2) (refAt R m)) (hj : j < m) : w.cell? ⟨b, j * 2, none⟩ = some (.int .i64 (R j).1) ∧ w.cell? ⟨b, j * 2 + 1, none⟩ = some (.int .i64 (R j).2) := by
  have h0 := h.cell (i := j * 2) (by omega)
  have h1 := h.cell (i := j * 2 + 1) (by omega)
  have e1 : (j * 2 + 1) / 2 = j := by omega
  exact ⟨h0.trans (by simp [refAt, hj]), h1.trans (by simp [refAt, hj, e1])⟩
theorem row_zero (w : World) (n : Nat) : (w.alloc (.cells (madeCells #[.int .u64 0] n) 91)).rowIs w.heap.size 91 n (fun q => .int .u64 (word [] q)) := (World.rowIs_made w (.int .u64 0) n 91).congr fun j _ => rfl
theorem row_bit {w : World} {b W : Nat} {l : List Nat} {v : Nat} (h : w.rowIs b 91 W (fun q => .int .u64 (word l q))) : ((w.setCell ⟨b, v / 64, none⟩ (.int .u64 (word l (v / 64) ||| 2 ^ (v % 64) : Nat))).drew).rowIs b 91 W (fun q => .int .u64 (word (l ++ [v]) q)) := by
  refine (h.set _ _).congr fun j _ => ?_
  rw [word_snoc]
  unfold orIn
  by_cases e : j = v / 64
  · subst e; simp
  · rw [if_neg e, if_neg (fun h => e h.symm)]
def NumR (kt : TypeId) (D : DataW Value) (mm : Lit → Nat) (R : Lit → Nat → Rf) (L : List Rf) (nB : Nat) (e : Ending) (w' : World) : Prop :=
  ∃ M2 D2, e = .returned (.map (some M2)) ∧ w'.ownsMap Try.prog kt RV M2 nB D2 ∧ ∀ kl, Maps.has D kl = true → Ent w' D2 kl (R kl) (mm kl) L

set_option maxHeartbeats 4000000 in
set_option maxRecDepth 100000 in
theorem numbered34 (B M nB : Nat) (D : DataW Value) (bb mm : Lit → Nat) (R : Lit → Nat → Rf) (L : List Rf) (w : World) (hnB : nB ≤ 65536) (hL : L.length ≤ 17179869184) (hnd : L.Nodup)
    (hD : w.ownsMap Try.prog 112 RV B nB D) (hM : NumMap w M L) (hl : Lists w D bb mm R) :
    Calls Try.prog 34 #[.map (some B), .map (some M)] w fun e w' => NumR 112 D mm R L nB e w' ∧ Below w.heap.size w w' := by
  have HM : Hid (NumMap w M L) := hM
  have HL : Hid (Lists w D bb mm R) := hl
  have HN : Hid L.Nodup := hnd
  have hBlt := hD.lt
  have hMlt := hM.lt
  have hlen := hD.len Try.underlying106
  have hmk := mkmap_hint Try.underlying113
  obtain ⟨w0, hrange, hrg0, hgr0, hsz0⟩ := (hD.alloc (.map #[] 0)).range law112 Try.underlying106
  have hszle := hD.size_le
  have H0 : Hid (NO 112 D mm R L B nB (w.heap.size + 1) w.heap.size w w0 (Maps.has D) (Maps.size D)) := by
    refine ⟨by simpa using hrg0, ?_, fun kl h => h, ⟨.map [], 0, ?_, by omega, fun kl h1 h2 => by rw [h1] at h2; cases h2⟩⟩
    · refine ⟨hgr0.os, hgr0.tape, hgr0.output, by simp at hsz0; omega, fun k hk => ?_⟩
      rw [hgr0.block k (by simp; omega) (by simp), Below.heap_alloc _ _ _ hk]
    · exact (World.ownsMap_made w Try.prog 112 RV).kept hgr0 (by simp)
  clear hM hl hnd hrg0 hgr0
  go_enter Try.func34, Try.ntmps34
  go_wp2
  clear hlen hmk hrange hsz0 hD
  go_loopw [18] (fun _ wr => ∃ (left : Lit → Bool) (cnt : Nat), Hid (NO 112 D mm R L B nB (w.heap.size + 1) w.heap.size w wr left cnt)) (fun _ wr => wr.rangeLeft B (w.heap.size + 1))
  case atStart => exact ⟨_, _, H0⟩
  case round =>
    obtain ⟨left, cnt, hno⟩ := hrel
    obtain ⟨wo, hwo⟩ : ∃ wo, wo = wr := ⟨_, rfl⟩
    subst hwo
    rcases hno.out.rg.next law112 0 with ⟨h0, hall, hrun⟩ | ⟨key, v, kl, y, w1, cnt', hkey, hlk, hv, hat, hrun, hrg, hcnt, hgr, hsz1, hen⟩
    · go_wp2
      go_ret
      obtain ⟨D2, n2, h1, h2, h3⟩ := hno.out.ex
      exact ⟨⟨_, D2, rfl, h1.mono (by omega), fun kl hk => h3 kl hk (hall kl)⟩, hno.out.bl⟩
    · obtain ⟨s, t, rfl⟩ := inv112 hkey
      obtain rfl : y = (.held v, []) := by simpa [RV] using hv.symm
      have hhas : Maps.has D kl = true := hno.out.lf kl hlk
      obtain ⟨hat2, hrow, hm, hwf⟩ := HL.out kl hhas
      obtain rfl : v = .slice (some ⟨bb kl, 0, none⟩) (mm kl) (mm kl) := by
        have := (hat (.lit (.bool true))).symm.trans (hat2 _)
        simpa using this
      have hbl1 : Below w.heap.size w w1 := by
        have := hno.out.bl
        exact ⟨hgr.os.trans this.os, hgr.tape.trans this.tape, hgr.output.trans this.output, Nat.le_trans this.size hgr.size, fun k hk => (hgr.block k (Nat.lt_of_lt_of_le hk this.size) (by simp; omega)).trans (this.block k hk)⟩
      have hw1 := hbl1.size
      have hblen := (HM.out.same ((((Below.refl w1.heap.size w1).alloc (Nat.le_refl _) (.cells #[.string s, .string t] 112)).block M (by omega)).trans (hbl1.block M hMlt))).len
      have HROW : Hid (w.rowIs (bb kl) 118 (mm kl * 2) (refAt (R kl) (mm kl))) := hrow
      have HWF : Hid _ := hwf
      have HB1 : Hid _ := hbl1
      have HNX : Hid _ := And.intro hkey (And.intro hrg (And.intro hcnt hgr))
      have C : Hid _ := newbit_any L.length (w1.alloc (.cells #[.string s, .string t] 112)) hL
      clear hkey hlk hv hat hrg hcnt hgr hhas hat2 hrow hwf hbl1 hsz1
      obtain ⟨wb, hwb⟩ : ∃ wb, wb = w1.alloc (.cells #[.string s, .string t] 112) := ⟨_, rfl⟩
      have hk0 : wb.cell? ⟨w1.heap.size, 0, none⟩ = some (.string s) := by subst hwb; simp
      have hk1 : wb.cell? ⟨w1.heap.size, 1, none⟩ = some (.string t) := by subst hwb; simp
      have hwbs : w1.heap.size < wb.heap.size := by subst hwb; simp
      have HWB : Hid (Below w1.heap.size w1 wb) := by subst hwb; exact (Below.refl _ _).alloc (Nat.le_refl _) _
      go_wp2_with fail
      rw [← hwb] at C ⊢
      refine Calls.mono C.out ?_
      rintro e wx ⟨rfl, rfl⟩
      have R0 : Hid ((wb.alloc (.cells (madeCells #[.int .u64 0] ((L.length + 63) / 64)) 91)).rowIs wb.heap.size 91 (Wd L) (fun q => .int .u64 (word (nums L (R kl) 0) q))) := row_zero wb _
      have B0 : Hid (Below wb.heap.size wb (wb.alloc (.cells (madeCells #[.int .u64 0] ((L.length + 63) / 64)) 91))) := (Below.refl _ _).alloc (Nat.le_refl _) _
      obtain ⟨wc, hwc⟩ : ∃ wc, wc = wb.alloc (.cells (madeCells #[.int .u64 0] ((L.length + 63) / 64)) 91) := ⟨_, rfl⟩
      rw [← hwc] at R0 B0 ⊢
      obtain ⟨Ws, hWs⟩ : ∃ Ws, Ws = (L.length + 63) / 64 := ⟨_, rfl⟩
      have hWd : Wd L = Ws := by rw [hWs]; rfl
      rw [← hWs]
      clear hwb hwc hblen C hWs
      go_wp2
      go_loopw [28] (fun i w2 => ∃ j : Nat, j ≤ mm kl ∧ i = .int .i64 j ∧ Hid (w2.rowIs wb.heap.size 91 (Wd L) (fun q => .int .u64 (word (nums L (R kl) j) q))) ∧ Hid (Below wb.heap.size wb w2)) (fun i _ => mm kl - (intOf i).toNat)
      case atStart => exact ⟨0, Nat.zero_le _, rfl, R0, B0⟩
      case round =>
        obtain ⟨j, hj, rfl, hr2, hb2⟩ := hrel
        have hsz2 := hb2.out.size
        by_cases hlt : j < mm kl
        · have hall : Below w.heap.size w wr := HB1.out.trans ((HWB.out.mono (by omega)).trans (hb2.out.mono (by omega)))
          have hlb := HROW.out.lt
          obtain ⟨c0, c1⟩ := ref_cells (HROW.out.of_block (hall.block _ hlb)) hlt
          have hwf := HWF.out j hlt
          obtain ⟨r, hr⟩ : ∃ r, r = R kl j := ⟨_, rfl⟩
          rw [← hr] at c0 c1 hwf
          have hMb : Below wr.heap.size wr (wr.alloc (.cells #[.int .i64 r.1, .int .i64 r.2] 118)) := (Below.refl _ _).alloc (Nat.le_refl _) _
          have hMa : NumMap (wr.alloc (.cells #[.int .i64 r.1, .int .i64 r.2] 118)) M L := HM.out.same ((hMb.block M (by have := hall.size; omega)).trans (hall.block M hMlt))
          obtain ⟨cv, hlook, hidx⟩ := hMa.look r hwf
          have hx : wb.heap.size < wr.heap.size := hr2.out.lt
          have hlb2 : bb kl < wr.heap.size := by have := hall.size; omega
          have RA : wr.rowIs wb.heap.size 91 (Wd L) (fun q => .int .u64 (word (nums L (R kl) j) q)) := hr2.out
          have HRA := RA.alloc (.cells #[.int .i64 r.1, .int .i64 r.2] 118)
          by_cases hm2 : r ∈ L
          · have hil := List.idxOf_lt_length_of_mem hm2
            have hcv := hidx hm2
            subst hcv
            obtain ⟨ix, hix⟩ : ∃ ix, ix = L.idxOf r := ⟨_, rfl⟩
            rw [← hix] at hil hlook
            have C : Hid _ := set_any wb.heap.size (Wd L) (ix) (word (nums L (R kl) j)) (wr.alloc (.cells #[.int .i64 r.1, .int .i64 r.2] 118)) (by unfold Wd; omega) (by unfold Wd; omega) (word_lt _) HRA
            have RB : Hid (((wr.alloc (.cells #[.int .i64 r.1, .int .i64 r.2] 118)).setCell ⟨wb.heap.size, ix / 64, none⟩ (.int .u64 (word (nums L (R kl) j) (ix / 64) ||| 2 ^ (ix % 64) : Nat))).drew.rowIs wb.heap.size 91 (Wd L) (fun q => .int .u64 (word (nums L (R kl) (j + 1)) q))) := by
              have := row_bit (v := ix) HRA
              have e : nums L (R kl) (j + 1) = nums L (R kl) j ++ [ix] := by
                show (if R kl j ∈ L then _ else _) = _
                rw [← hr, if_pos hm2, hix]
              rw [e]; exact this
            have HBB : Hid (Below wb.heap.size wb (((wr.alloc (.cells #[.int .i64 r.1, .int .i64 r.2] 118)).setCell ⟨wb.heap.size, ix / 64, none⟩ (.int .u64 (word (nums L (R kl) j) (ix / 64) ||| 2 ^ (ix % 64) : Nat))).drew)) := ((hb2.out.alloc hsz2 _).setCell (Nat.le_refl _) _).drew
            have hlook' : (Instr.lookup 120 (.map (some M)) (.agg #[.int .i64 r.1, .int .i64 r.2]) true).run Try.prog (wr.alloc (.cells #[.int .i64 r.1, .int .i64 r.2] 118)) = .ok (.tuple #[.int .i64 (ix), .bool true]) (wr.alloc (.cells #[.int .i64 r.1, .int .i64 r.2] 118)) := by rw [hlook]; simp [hm2]
            rw [hWd] at C
            clear hlook hMa hMb hall RA HRA hidx hr2 hb2 hr hix
            go_wp2_with fail
            refine Calls.mono C.out ?_
            rintro e wx ⟨rfl, hwx⟩
            rw [← hwx] at RB HBB
            clear hwx C
            go_wp2
            go_roundw
            case rel => exact ⟨j + 1, by omega, by go_num, RB, HBB⟩
            case measure => simp [intOf]; omega
          · have hlook' : (Instr.lookup 120 (.map (some M)) (.agg #[.int .i64 r.1, .int .i64 r.2]) true).run Try.prog (wr.alloc (.cells #[.int .i64 r.1, .int .i64 r.2] 118)) = .ok (.tuple #[.int .i64 cv, .bool false]) (wr.alloc (.cells #[.int .i64 r.1, .int .i64 r.2] 118)) := by rw [hlook]; simp [hm2]
            have RB : Hid ((wr.alloc (.cells #[.int .i64 r.1, .int .i64 r.2] 118)).rowIs wb.heap.size 91 (Wd L) (fun q => .int .u64 (word (nums L (R kl) (j + 1)) q))) := by
              have e : nums L (R kl) (j + 1) = nums L (R kl) j := by
                show (if R kl j ∈ L then _ else _) = _
                rw [← hr, if_neg hm2]
              rw [e]; exact HRA
            have HBB : Hid (Below wb.heap.size wb (wr.alloc (.cells #[.int .i64 r.1, .int .i64 r.2] 118))) := hb2.out.alloc hsz2 _
            clear hlook hMa hMb hall RA HRA hidx hr2 hb2 hr
            go_wp2
            go_roundw
            case rel => exact ⟨j + 1, by omega, by go_num, RB, HBB⟩
            case measure => simp [intOf]; omega
        · obtain rfl : j = mm kl := by omega
          obtain ⟨hkey, hrg, hcnt, hgr⟩ := HNX.out
          obtain ⟨w3, hupd, hno3⟩ := no_step (mt := 113) law112 Try.underlying113 hno.out (Nat.le_refl _) (by omega) hBlt hnB hkey hrg hcnt hgr (HWB.out.trans (hb2.out.mono (by omega))) (xb := wb.heap.size) (by omega) (word_lt _) hr2.out (nums_bit L HN.out (R kl) (mm kl))
          have k0 : wr.cell? ⟨w1.heap.size, 0, none⟩ = some (.string s) := (hb2.out.cell (p := ⟨w1.heap.size, 0, none⟩) (by simp; omega)).trans hk0
          have k1 : wr.cell? ⟨w1.heap.size, 1, none⟩ = some (.string t) := (hb2.out.cell (p := ⟨w1.heap.size, 1, none⟩) (by simp; omega)).trans hk1
          rw [hWd] at hupd
          have HN3 : Hid _ := hno3
          have HCN : Hid _ := hcnt
          clear hno3 hcnt hkey hrg hgr hk0 hk1
          go_wp2
          go_roundw
          case rel => exact ⟨_, _, HN3⟩
          case measure => rw [HN3.out.rg.left_eq, hno.out.rg.left_eq]; exact HCN.out

set_option maxHeartbeats 4000000 in
set_option maxRecDepth 100000 in
theorem numbered35 (B M nB : Nat) (D : DataW Value) (bb mm : Lit → Nat) (R : Lit → Nat → Rf) (L : List Rf) (w : World) (hnB : nB ≤ 65536) (hL : L.length ≤ 17179869184) (hnd : L.Nodup)
    (hD : w.ownsMap Try.prog 9 RV B nB D) (hM : NumMap w M L) (hl : Lists w D bb mm R) :
    Calls Try.prog 35 #[.map (some B), .map (some M)] w fun e w' => NumR 9 D mm R L nB e w' ∧ Below w.heap.size w w' := by
  have HM : Hid (NumMap w M L) := hM
  have HL : Hid (Lists w D bb mm R) := hl
  have HN : Hid L.Nodup := hnd
  have hBlt := hD.lt
  have hMlt := hM.lt
  have hlen := hD.len Try.underlying107
  have hmk := mkmap_hint Try.underlying114
  obtain ⟨w0, hrange, hrg0, hgr0, hsz0⟩ := (hD.alloc (.map #[] 0)).range law9 Try.underlying107
  have hszle := hD.size_le
  have H0 : Hid (NO 9 D mm R L B nB (w.heap.size + 1) w.heap.size w w0 (Maps.has D) (Maps.size D)) := by
    refine ⟨by simpa using hrg0, ?_, fun kl h => h, ⟨.map [], 0, ?_, by omega, fun kl h1 h2 => by rw [h1] at h2; cases h2⟩⟩
    · refine ⟨hgr0.os, hgr0.tape, hgr0.output, by simp at hsz0; omega, fun k hk => ?_⟩
      rw [hgr0.block k (by simp; omega) (by simp), Below.heap_alloc _ _ _ hk]
    · exact (World.ownsMap_made w Try.prog 9 RV).kept hgr0 (by simp)
  clear hM hl hnd hrg0 hgr0
  go_enter Try.func35, Try.ntmps35
  go_wp2
  clear hlen hmk hrange hsz0 hD
  go_loopw [18] (fun _ wr => ∃ (left : Lit → Bool) (cnt : Nat), Hid (NO 9 D mm R L B nB (w.heap.size + 1) w.heap.size w wr left cnt)) (fun _ wr => wr.rangeLeft B (w.heap.size + 1))
  case atStart => exact ⟨_, _, H0⟩
  case round =>
    obtain ⟨left, cnt, hno⟩ := hrel
    obtain ⟨wo, hwo⟩ : ∃ wo, wo = wr := ⟨_, rfl⟩
    subst hwo
    rcases hno.out.rg.next law9 0 with ⟨h0, hall, hrun⟩ | ⟨key, v, kl, y, w1, cnt', hkey, hlk, hv, hat, hrun, hrg, hcnt, hgr, hsz1, hen⟩
    · go_wp2
      go_ret
      obtain ⟨D2, n2, h1, h2, h3⟩ := hno.out.ex
      exact ⟨⟨_, D2, rfl, h1.mono (by omega), fun kl hk => h3 kl hk (hall kl)⟩, hno.out.bl⟩
    · obtain ⟨s, rfl⟩ := inv9 hkey
      obtain rfl : y = (.held v, []) := by simpa [RV] using hv.symm
      have hhas : Maps.has D kl = true := hno.out.lf kl hlk
      obtain ⟨hat2, hrow, hm, hwf⟩ := HL.out kl hhas
      obtain rfl : v = .slice (some ⟨bb kl, 0, none⟩) (mm kl) (mm kl) := by
        have := (hat (.lit (.bool true))).symm.trans (hat2 _)
        simpa using this
      have hbl1 : Below w.heap.size w w1 := by
        have := hno.out.bl
        exact ⟨hgr.os.trans this.os, hgr.tape.trans this.tape, hgr.output.trans this.output, Nat.le_trans this.size hgr.size, fun k hk => (hgr.block k (Nat.lt_of_lt_of_le hk this.size) (by simp; omega)).trans (this.block k hk)⟩
      have hw1 := hbl1.size
      have hblen := (HM.out.same (hbl1.block M hMlt)).len
      have HROW : Hid (w.rowIs (bb kl) 118 (mm kl * 2) (refAt (R kl) (mm kl))) := hrow
      have HWF : Hid _ := hwf
      have HB1 : Hid _ := hbl1
      have HNX : Hid _ := And.intro hkey (And.intro hrg (And.intro hcnt hgr))
      have C : Hid _ := newbit_any L.length w1 hL
      clear hkey hlk hv hat hrg hcnt hgr hhas hat2 hrow hwf hbl1 hsz1
      obtain ⟨wb, hwb⟩ : ∃ wb, wb = w1 := ⟨_, rfl⟩
      have hwbs : w1.heap.size ≤ wb.heap.size := by subst hwb; exact Nat.le_refl _
      have HWB : Hid (Below w1.heap.size w1 wb) := by subst hwb; exact Below.refl _ _
      go_wp2_with fail
      rw [← hwb] at C ⊢
      refine Calls.mono C.out ?_
      rintro e wx ⟨rfl, rfl⟩
      have R0 : Hid ((wb.alloc (.cells (madeCells #[.int .u64 0] ((L.length + 63) / 64)) 91)).rowIs wb.heap.size 91 (Wd L) (fun q => .int .u64 (word (nums L (R kl) 0) q))) := row_zero wb _
      have B0 : Hid (Below wb.heap.size wb (wb.alloc (.cells (madeCells #[.int .u64 0] ((L.length + 63) / 64)) 91))) := (Below.refl _ _).alloc (Nat.le_refl _) _
      obtain ⟨wc, hwc⟩ : ∃ wc, wc = wb.alloc (.cells (madeCells #[.int .u64 0] ((L.length + 63) / 64)) 91) := ⟨_, rfl⟩
      rw [← hwc] at R0 B0 ⊢
      obtain ⟨Ws, hWs⟩ : ∃ Ws, Ws = (L.length + 63) / 64 := ⟨_, rfl⟩
      have hWd : Wd L = Ws := by rw [hWs]; rfl
      rw [← hWs]
      clear hwb hwc hblen C hWs
      go_wp2
      go_loopw [28] (fun i w2 => ∃ j : Nat, j ≤ mm kl ∧ i = .int .i64 j ∧ Hid (w2.rowIs wb.heap.size 91 (Wd L) (fun q => .int .u64 (word (nums L (R kl) j) q))) ∧ Hid (Below wb.heap.size wb w2)) (fun i _ => mm kl - (intOf i).toNat)
      case atStart => exact ⟨0, Nat.zero_le _, rfl, R0, B0⟩
      case round =>
        obtain ⟨j, hj, rfl, hr2, hb2⟩ := hrel
        have hsz2 := hb2.out.size
        by_cases hlt : j < mm kl
        · have hall : Below w.heap.size w wr := HB1.out.trans ((HWB.out.mono (by omega)).trans (hb2.out.mono (by omega)))
          have hlb := HROW.out.lt
          obtain ⟨c0, c1⟩ := ref_cells (HROW.out.of_block (hall.block _ hlb)) hlt
          have hwf := HWF.out j hlt
          obtain ⟨r, hr⟩ : ∃ r, r = R kl j := ⟨_, rfl⟩
          rw [← hr] at c0 c1 hwf
          have hMb : Below wr.heap.size wr (wr.alloc (.cells #[.int .i64 r.1, .int .i64 r.2] 118)) := (Below.refl _ _).alloc (Nat.le_refl _) _
          have hMa : NumMap (wr.alloc (.cells #[.int .i64 r.1, .int .i64 r.2] 118)) M L := HM.out.same ((hMb.block M (by have := hall.size; omega)).trans (hall.block M hMlt))
          obtain ⟨cv, hlook, hidx⟩ := hMa.look r hwf
          have hx : wb.heap.size < wr.heap.size := hr2.out.lt
          have hlb2 : bb kl < wr.heap.size := by have := hall.size; omega
          have RA : wr.rowIs wb.heap.size 91 (Wd L) (fun q => .int .u64 (word (nums L (R kl) j) q)) := hr2.out
          have HRA := RA.alloc (.cells #[.int .i64 r.1, .int .i64 r.2] 118)
          by_cases hm2 : r ∈ L
          · have hil := List.idxOf_lt_length_of_mem hm2
            have hcv := hidx hm2
            subst hcv
            obtain ⟨ix, hix⟩ : ∃ ix, ix = L.idxOf r := ⟨_, rfl⟩
            rw [← hix] at hil hlook
            have C : Hid _ := set_any wb.heap.size (Wd L) (ix) (word (nums L (R kl) j)) (wr.alloc (.cells #[.int .i64 r.1, .int .i64 r.2] 118)) (by unfold Wd; omega) (by unfold Wd; omega) (word_lt _) HRA
            have RB : Hid (((wr.alloc (.cells #[.int .i64 r.1, .int .i64 r.2] 118)).setCell ⟨wb.heap.size, ix / 64, none⟩ (.int .u64 (word (nums L (R kl) j) (ix / 64) ||| 2 ^ (ix % 64) : Nat))).drew.rowIs wb.heap.size 91 (Wd L) (fun q => .int .u64 (word (nums L (R kl) (j + 1)) q))) := by
              have := row_bit (v := ix) HRA
              have e : nums L (R kl) (j + 1) = nums L (R kl) j ++ [ix] := by
                show (if R kl j ∈ L then _ else _) = _
                rw [← hr, if_pos hm2, hix]
              rw [e]; exact this
            have HBB : Hid (Below wb.heap.size wb (((wr.alloc (.cells #[.int .i64 r.1, .int .i64 r.2] 118)).setCell ⟨wb.heap.size, ix / 64, none⟩ (.int .u64 (word (nums L (R kl) j) (ix / 64) ||| 2 ^ (ix % 64) : Nat))).drew)) := ((hb2.out.alloc hsz2 _).setCell (Nat.le_refl _) _).drew
            have hlook' : (Instr.lookup 120 (.map (some M)) (.agg #[.int .i64 r.1, .int .i64 r.2]) true).run Try.prog (wr.alloc (.cells #[.int .i64 r.1, .int .i64 r.2] 118)) = .ok (.tuple #[.int .i64 (ix), .bool true]) (wr.alloc (.cells #[.int .i64 r.1, .int .i64 r.2] 118)) := by rw [hlook]; simp [hm2]
            rw [hWd] at C
            clear hlook hMa hMb hall RA HRA hidx hr2 hb2 hr hix
            go_wp2_with fail
            refine Calls.mono C.out ?_
            rintro e wx ⟨rfl, hwx⟩
            rw [← hwx] at RB HBB
            clear hwx C
            go_wp2
            go_roundw
            case rel => exact ⟨j + 1, by omega, by go_num, RB, HBB⟩
            case measure => simp [intOf]; omega
          · have hlook' : (Instr.lookup 120 (.map (some M)) (.agg #[.int .i64 r.1, .int .i64 r.2]) true).run Try.prog (wr.alloc (.cells #[.int .i64 r.1, .int .i64 r.2] 118)) = .ok (.tuple #[.int .i64 cv, .bool false]) (wr.alloc (.cells #[.int .i64 r.1, .int .i64 r.2] 118)) := by rw [hlook]; simp [hm2]
            have RB : Hid ((wr.alloc (.cells #[.int .i64 r.1, .int .i64 r.2] 118)).rowIs wb.heap.size 91 (Wd L) (fun q => .int .u64 (word (nums L (R kl) (j + 1)) q))) := by
              have e : nums L (R kl) (j + 1) = nums L (R kl) j := by
                show (if R kl j ∈ L then _ else _) = _
                rw [← hr, if_neg hm2]
              rw [e]; exact HRA
            have HBB : Hid (Below wb.heap.size wb (wr.alloc (.cells #[.int .i64 r.1, .int .i64 r.2] 118))) := hb2.out.alloc hsz2 _
            clear hlook hMa hMb hall RA HRA hidx hr2 hb2 hr
            go_wp2
            go_roundw
            case rel => exact ⟨j + 1, by omega, by go_num, RB, HBB⟩
            case measure => simp [intOf]; omega
        · obtain rfl : j = mm kl := by omega
          obtain ⟨hkey, hrg, hcnt, hgr⟩ := HNX.out
          obtain ⟨w3, hupd, hno3⟩ := no_step (mt := 114) law9 Try.underlying114 hno.out (Nat.le_refl _) (by omega) hBlt hnB hkey hrg hcnt hgr (HWB.out.trans (hb2.out.mono (by omega))) (xb := wb.heap.size) (by omega) (word_lt _) hr2.out (nums_bit L HN.out (R kl) (mm kl))
          rw [hWd] at hupd
          have HN3 : Hid _ := hno3
          have HCN : Hid _ := hcnt
          clear hno3 hcnt hkey hrg hgr
          go_wp2
          go_roundw
          case rel => exact ⟨_, _, HN3⟩
          case measure => rw [HN3.out.rg.left_eq, hno.out.rg.left_eq]; exact HCN.out
end Go.Proofs.Qxb6612720a
