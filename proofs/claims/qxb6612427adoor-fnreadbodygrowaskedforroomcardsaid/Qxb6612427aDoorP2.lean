import Derived.Test.Qxb6612427aDoorP1
import Derived.Test.Qxb6612427aDoorL2
namespace Go.Proofs.Qxb6612427aDoor
open Go.ChangeShapes Go.WideShapes Go.ChangeAt Go.RowKit
set_option linter.unusedVariables false

/-- THE WALK: the Go text returns true and writes nothing that was there. -/
theorem walk2 (a0 : Option Addr) (n c : Nat) (size : Int) (yes : Bool) (zs : List Int) (ae au an : Addr) (w : World)
    (h0 : (a0 = none ∧ n = 0 ∧ c = 0) ∨ ∃ x, a0 = some x ∧ n ≤ zs.length ∧ ∀ i, i < zs.length → w.cell? (x.add i) = some (.int .u8 (zs.getD i 0)))
    (he : w.cell? ⟨5, 0, none⟩ = some (.iface 150 (.pointer (some ae)))) (hu : w.cell? ⟨6, 0, none⟩ = some (.iface 150 (.pointer (some au)))) (hno : w.cell? ⟨0, 0, none⟩ = some (.iface 150 (.pointer (some an)))) :
    Calls Tryd.prog 6 #[.slice a0 n c, .int .i64 size, .bool yes] w fun e w' => e = .returned (.bool true) ∧ Below w.heap.size w w' := by
  by_cases hn : n ≤ 1048576
  · by_cases hs : size < 1 ∨ 65536 < size
    · exact lg_size a0 n c size yes w hn hs
    · obtain ⟨s, rfl⟩ : ∃ s : Nat, size = s := ⟨size.toNat, by omega⟩
      rcases h0 with ⟨rfl, rfl, rfl⟩ | ⟨x, rfl, hl, hc⟩
      · cases yes
        · exact lg_nil_no s an w (by omega) (by omega) hno
        · exact lg_nil_yes s ae au w (by omega) (by omega) he hu
      · have hz : bytesAt w x n (fun j => zs.getD j 0) := fun j hj => hc j (by omega)
        cases yes
        · exact lg_no x n c s _ an w hn (by omega) (by omega) hz hno
        · exact lg_yes x n c s _ ae au w hn (by omega) (by omega) hz he hu
  · exact lg_big a0 n c size yes w hn

set_option maxRecDepth 100000 in
theorem lifted2 (os : Os) (started : os.Started) (H : Type) (enc : TypeId × Value → H) :
    ReturnsInHanded {} Tryd.checked os 6 .any (fun w args => (Rows.fnReadBodyGrowAskedForRoomSpec.pre enc Tryd.prog Tryd.f6 [] false w args ∧ laidMetH Tryd.prog laidL w) ∧ sizedMet enc Tryd.prog Tryd.f6 (OpenSpec.ofChange Rows.fnReadBodyGrowAskedForRoomSpec) false w args)
      (Rows.fnReadBodyGrowAskedForRoomSpec.post enc Tryd.prog Tryd.f6 false true false false) := by
  refine returnsInHanded_of_change_and (C := Tryd.checked) (X := fun w _ => laidMetH Tryd.prog laidL w) (fun _ _ _ hh h => h.of_heap hh) own started (by kernel_rfl) Tryd.func6
    (ChangeSpec.witness_shaped (enc := enc) (C := Tryd.checked) (os := os) (X := fun w _ => laidMetH Tryd.prog laidL w) false (World.laidAll Tryd.prog os laidL) #[.slice none 0 0, .int .i64 0, .bool false] 8 (World.laidAll_os _ _ _) (World.shaped_of_RefB (by kernel_rfl) (by kernel_rfl)) (by kernel_rfl) (by kernel_rfl) (by kernel_rfl) (all_met os _)) ?_
  intro W base args ds gs before hval0 hW _ _ hL _
  have hval : ∀ (j : Nat) t v, Tryd.f6.params[j]? = some t → args[j]? = some v → Value.okWide Tryd.prog W .any base t v := hval0
  have hW' := hW
  obtain ⟨p, q, hA0, hV, rfl, hfz, hnd⟩ := hW
  have hA : DataW.TrodAll enc Tryd.prog W 0 (fun _ => true) true Tryd.f6.params.toList args.toList ds p := hA0
  rw [Tryd.params6] at hA hval
  obtain ⟨v0, vs0, d0, ds0, p0, q0, hargs, rfl, rfl, h0, r0⟩ := trodAll_cons hA
  obtain ⟨v1, vs1, d1, ds1, p1, q1, rfl, rfl, rfl, h1, r1⟩ := trodAll_cons r0
  obtain ⟨v2, vs2, d2, ds2, p2, q2, rfl, rfl, rfl, h2, r2⟩ := trodAll_cons r1
  obtain ⟨rfl, rfl, rfl⟩ := trodAll_nil r2
  obtain rfl : args = #[v0, v1, v2] := by cases args; simp_all
  obtain ⟨g, t, cs, fv, dv, pv, rfl, e1, e2, hv3, hv4, rfl⟩ := trodVars_one hV
  obtain rfl := Option.some.inj (gNo.symm.trans e1)
  obtain rfl := Option.some.inj (tNo.symm.trans e2)
  obtain ⟨xv, rfl, ix, rfl, rfl, hxc⟩ := token_of gNo Tryd.underlying34 hv3 hv4
  obtain ⟨a0, len0, cap0, rfl⟩ := okWide_slice Tryd.underlying31 (hval 0 31 v0 rfl rfl)
  have k0 := h0
  have lt0 : ∀ x ∈ p0, x.block < W.heap.size := by obtain ⟨m, hm⟩ := k0; exact DataW.trod_lt m _ _ _ hm
  obtain ⟨z0, w0⟩ : ∃ zs : List Int, (a0 = none ∧ len0 = 0 ∧ cap0 = 0) ∨ ∃ x, a0 = some x ∧ len0 ≤ zs.length ∧ ∀ i, i < zs.length → W.cell? (x.add i) = some (.int .u8 (zs.getD i 0)) := by
    obtain ⟨fuel, hf⟩ := h0
    rcases open_ints Tryd.underlying31 Tryd.underlying5 (by kernel_rfl) hf with ⟨hcs, _⟩ | ⟨x, l, c, zs, hcs, _, hl, hm, hz, _, hcell, hwz⟩
    · simp [Value.cells] at hcs
      obtain ⟨rfl, rfl, rfl⟩ := hcs
      exact ⟨[], .inl ⟨rfl, rfl, rfl⟩⟩
    · simp [Value.cells] at hcs
      obtain ⟨rfl, rfl, rfl⟩ := hcs
      have hz' : zs.length = cap0 := by simpa using hz
      exact ⟨zs, .inr ⟨_, rfl, by omega, hcell⟩⟩
  obtain ⟨a1, rfl, rfl, rfl, w1⟩ := open_int Tryd.underlying3 (hval 1 3 v1 rfl rfl) h1
  obtain ⟨yes, rfl, rfl, rfl⟩ := open_bool Tryd.underlying4 (hval 2 4 v2 rfl rfl) h2
  clear hA0 hval0
  obtain ⟨ae, au, an, hae, hau, han⟩ := of_laid hL
  refine (walk2 a0 len0 cap0 a1 yes z0 ae au an W w0 hae hau han).mono fun e W' ⟨he, bel⟩ => ?_
  subst he
  have hg0 : 0 < W.heap.size := World.block_lt_of_cell? W ⟨0, 0, none⟩ hxc
  exact ⟨_, rfl, _, _, _, [], _, [.cell 0 0], hW', trodAll_mk1 (shut_bool Tryd.underlying4 _), (trodAll_cons_mk (Below.trod laidOut (by kernel_rfl) (of_decide_eq_true (by kernel_rfl)) k0 bel lt0) (trodAll_cons_mk (shut_int Tryd.underlying3 w1) (trodAll_cons_mk (shut_bool Tryd.underlying4 yes) trodAll_mk0))),
    vars_read1 enc gNo tNo Tryd.underlying34 (var?_below bel gNo hg0 hv3) ix _, bel.frame _, fun h => by cases h⟩

theorem grow_row : Rows.FnReadBodyGrowAskedForRoomSaid :=
  OpenClaim.holds_of_wide 6 Tryd.f6 rfl rfl rfl rfl rfl rfl rfl ⟨rfl, rfl, rfl, rfl, rfl⟩ rfl rfl rfl rfl rfl (by kernel_rfl) Tryd.func6 (by kernel_rfl)
    (of_decide_eq_true (by kernel_rfl)) (by unfold Func.isWrapper; first | (rw [if_pos (by decide +kernel)]; kernel_rfl) | (rw [if_neg (by decide +kernel)]; exact ⟨rfl, rfl⟩))
    (fun os started H enc _ => lifted2 os started H enc)

/-- THE STATEMENT: the tied card. -/
theorem growAskedForRoom_proved : Rows.FnReadBodyGrowAskedForRoomCardSaid :=
  Claim7.holds_tied_plain_at .later [] [.sentinel, .sentinel, .sentinel, .sentinel] true (true, "ce7cec66e366852bbb49426842f41e3885a32a450fab643855df25c12d5218c2") true
    grow_row (fun _ h => by cases h) (by kernel_rfl) (fun _ h => by cases h) fnReadBodyGrowAskedForRoom_row_tie rfl ⟨rfl, rfl⟩ (by kernel_rfl) rfl
    (fun f fn hf hfn => by
      obtain rfl : f = 6 := Option.some.inj ((show Tryd.prog.funcNamed Rows.fnReadBodyGrowAskedForRoomRow.func = some 6 by kernel_rfl).symm.trans hf) |>.symm
      obtain rfl : fn = Tryd.f6 := (Option.some.inj (Tryd.func6.symm.trans hfn)).symm
      exact ⟨by kernel_rfl, fun j t ht => by
        rw [Tryd.params6] at ht
        have hm : t ∈ [31, 3, 4] := by simpa using Array.mem_of_getElem? ht
        have hall : ([31, 3, 4].all fun u => !Tryd.prog.wantsStandIn u) = true := by kernel_rfl
        exact (show Tryd.prog.wantsStandIn t = false by simpa using List.all_eq_true.1 hall t hm)⟩)
    (by kernel_rfl)
end Go.Proofs.Qxb6612427aDoor
