import Derived.Test.Qxb6612427aDoorRows
import Derived.Test.Qxb6612427aDoorTie
import Derived.Test.Qxb6612427aDoorCards
import Derived.Test.Qxb6612427aDoorL1
import Derived.ProofKit
import Derived.OpenShut
import Derived.LaidMore
import Derived.Lay
import Derived.Stop.LaidErr
import Derived.WalkSmall
import Derived.SevenTiedAt
namespace Go.Proofs.Qxb6612427aDoor
open Go.ChangeShapes Go.WideShapes Go.ChangeAt Go.RowKit
set_option linter.unusedVariables false

theorem own : ownKnob Tryd.prog.godebug = none := by kernel_rfl
theorem laidOut : laidOutB Tryd.prog = true := by kernel_rfl
/-- The named variable, as the given specification names it. -/
def nNo : String := Rows.fnReadBodyFirstSizeBytesSpec.vars.headD ""
def ifaceName : DataW Unit → String
  | .iface n _ => n
  | _ => ""
/-- The errors' type, as the given datum names it. -/
def nErr : String := ifaceName Rows.laid_io_EOF
theorem gNo : Tryd.prog.globalNamed nNo = some 0 := by kernel_rfl
theorem gShort : Tryd.prog.globalNamed "io.ErrShortBuffer" = some 4 := by kernel_rfl
theorem gEOF : Tryd.prog.globalNamed "io.EOF" = some 5 := by kernel_rfl
theorem gUnx : Tryd.prog.globalNamed "io.ErrUnexpectedEOF" = some 6 := by kernel_rfl
theorem tNo : (Tryd.prog.globals[0]?).map (·.type) = some 34 := by kernel_rfl
theorem tEOF : (Tryd.prog.globals[5]?).map (·.type) = some 34 := by kernel_rfl
theorem tUnx : (Tryd.prog.globals[6]?).map (·.type) = some 34 := by kernel_rfl
theorem cells152 : Tryd.prog.cellsOf 152 = 1 := by kernel_rfl
theorem cells9 : Tryd.prog.cellsOf 9 = 1 := by kernel_rfl

/-- The list that both rows bear. -/
def laidL : List (String × DataW Unit) := Rows.fnReadBodyFirstSizeBytesRow.laid

theorem all_met (os : Os) (args : Array Value) : laidMetH Tryd.prog laidL ((World.laidAll Tryd.prog os laidL).forCall (fun _ _ => 0) ⟨#[], args, []⟩).memory := by
  rw [MakeChecks.laidMetH_plain _ _ _ (by kernel_rfl)]
  exact laidMet_laidAll _ (by kernel_rfl) (by kernel_rfl)

theorem row150 (u : TypeId) (h : Tryd.prog.typeName? 3 u = some nErr) : u = 150 :=
  typeName_ptr_named (P := Tryd.prog) (nm := "errors.errorString") (by kernel_rfl) (by kernel_rfl) (by decide) u (h.trans (congrArg some (by decide)))

theorem of_laid {W : World} (h : laidMetH Tryd.prog laidL W) : ∃ ae au an : Addr, W.cell? ⟨5, 0, none⟩ = some (.iface 150 (.pointer (some ae))) ∧ W.cell? ⟨6, 0, none⟩ = some (.iface 150 (.pointer (some au))) ∧ W.cell? ⟨0, 0, none⟩ = some (.iface 150 (.pointer (some an))) := by
  rw [MakeChecks.laidMetH_plain _ _ _ (by kernel_rfl)] at h
  have hrow : ∀ u, Tryd.prog.typeName? 3 u = some nErr → u = 150 := row150
  obtain ⟨a1, _, h1, _⟩ := laid_sentinel h.tail gEOF tEOF Tryd.underlying34 hrow Tryd.underlying150 Tryd.underlying152 rfl rfl Tryd.underlying9 cells152 cells9
  obtain ⟨a2, _, h2, _⟩ := laid_sentinel h.tail.tail gUnx tUnx Tryd.underlying34 hrow Tryd.underlying150 Tryd.underlying152 rfl rfl Tryd.underlying9 cells152 cells9
  obtain ⟨a3, _, h3, _⟩ := laid_sentinel h.tail.tail.tail gNo tNo Tryd.underlying34 hrow Tryd.underlying150 Tryd.underlying152 rfl rfl Tryd.underlying9 cells152 cells9
  exact ⟨a1, a2, a3, by simpa using World.var?_cell gEOF h1 0, by simpa using World.var?_cell gUnx h2 0, by simpa using World.var?_cell gNo h3 0⟩

/-- THE WALK: the Go text returns true and writes nothing that was there. -/
theorem walk1 (a0 : Option Addr) (n c : Nat) (size : Int) (zs : List Int) (ae au : Addr) (w : World)
    (h0 : (a0 = none ∧ n = 0 ∧ c = 0) ∨ ∃ x, a0 = some x ∧ n ≤ zs.length ∧ ∀ i, i < zs.length → w.cell? (x.add i) = some (.int .u8 (zs.getD i 0)))
    (he : w.cell? ⟨5, 0, none⟩ = some (.iface 150 (.pointer (some ae)))) (hu : w.cell? ⟨6, 0, none⟩ = some (.iface 150 (.pointer (some au)))) :
    Calls Tryd.prog 5 #[.slice a0 n c, .int .i64 size] w fun e w' => e = .returned (.bool true) ∧ Below w.heap.size w w' := by
  by_cases hn : n ≤ 1048576
  · by_cases hs : size < 1 ∨ 65536 < size
    · exact law_size a0 n c size w hn hs
    · obtain ⟨s, rfl⟩ : ∃ s : Nat, size = s := ⟨size.toNat, by omega⟩
      rcases h0 with ⟨rfl, rfl, rfl⟩ | ⟨x, rfl, hl, hc⟩
      · exact law_nil s ae au w (by omega) (by omega) he hu
      · have hz : bytesAt w x n (fun j => zs.getD j 0) := fun j hj => hc j (by omega)
        by_cases hlt : n < s
        · exact law_short x n c s _ ae au w hn (by omega) (by omega) hlt hz he hu
        · exact law_full x n c s _ ae au w hn (by omega) (by omega) (by omega) hz he hu
  · exact law_big a0 n c size w hn

set_option maxRecDepth 100000 in
theorem lifted1 (os : Os) (started : os.Started) (H : Type) (enc : TypeId × Value → H) :
    ReturnsInHanded {} Tryd.checked os 5 .any (fun w args => (Rows.fnReadBodyFirstSizeBytesSpec.pre enc Tryd.prog Tryd.f5 [] false w args ∧ laidMetH Tryd.prog laidL w) ∧ sizedMet enc Tryd.prog Tryd.f5 (OpenSpec.ofChange Rows.fnReadBodyFirstSizeBytesSpec) false w args)
      (Rows.fnReadBodyFirstSizeBytesSpec.post enc Tryd.prog Tryd.f5 false true false false) := by
  refine returnsInHanded_of_change_and (C := Tryd.checked) (X := fun w _ => laidMetH Tryd.prog laidL w) (fun _ _ _ hh h => h.of_heap hh) own started (by kernel_rfl) Tryd.func5
    (ChangeSpec.witness_shaped (enc := enc) (C := Tryd.checked) (os := os) (X := fun w _ => laidMetH Tryd.prog laidL w) false (World.laidAll Tryd.prog os laidL) #[.slice none 0 0, .int .i64 0] 8 (World.laidAll_os _ _ _) (World.shaped_of_RefB (by kernel_rfl) (by kernel_rfl)) (by kernel_rfl) (by kernel_rfl) (by kernel_rfl) (all_met os _)) ?_
  intro W base args ds gs before hval0 hW _ _ hL _
  have hval : ∀ (j : Nat) t v, Tryd.f5.params[j]? = some t → args[j]? = some v → Value.okWide Tryd.prog W .any base t v := hval0
  have hW' := hW
  obtain ⟨p, q, hA0, hV, rfl, hfz, hnd⟩ := hW
  have hA : DataW.TrodAll enc Tryd.prog W 0 (fun _ => true) true Tryd.f5.params.toList args.toList ds p := hA0
  rw [Tryd.params5] at hA hval
  obtain ⟨v0, vs0, d0, ds0, p0, q0, hargs, rfl, rfl, h0, r0⟩ := trodAll_cons hA
  obtain ⟨v1, vs1, d1, ds1, p1, q1, rfl, rfl, rfl, h1, r1⟩ := trodAll_cons r0
  obtain ⟨rfl, rfl, rfl⟩ := trodAll_nil r1
  obtain rfl : args = #[v0, v1] := by cases args; simp_all
  obtain ⟨g, t, cs, fv, dv, pv, rfl, e1, e2, hv3, hv4, rfl⟩ := trodVars_one hV
  obtain rfl := Option.some.inj (gNo.symm.trans e1)
  obtain rfl := Option.some.inj (tNo.symm.trans e2)
  obtain ⟨xv, rfl, ix, rfl, rfl, hxc⟩ := token_of gNo Tryd.underlying34 hv3 hv4
  obtain ⟨a0, len0, cap0, rfl⟩ := okWide_slice Tryd.underlying31 (hval 0 31 v0 rfl rfl)
  have k0 := h0
  have lt0 : ∀ x ∈ p0, x.block < W.heap.size := by obtain ⟨m, hm⟩ := k0; exact DataW.trod_lt m _ _ _ hm
  obtain ⟨z0, w0⟩ : ∃ zs : List Int, (a0 = none ∧ len0 = 0 ∧ cap0 = 0) ∨ ∃ x, a0 = some x ∧ len0 ≤ zs.length ∧ ∀ i, i < zs.length → W.cell? (x.add i) = some (.int .u8 (zs.getD i 0)) := by
    obtain ⟨fuel, hf⟩ := h0
    rcases open_ints Tryd.underlying31 Tryd.underlying5 (by kernel_rfl) hf with ⟨hcs, _⟩ | ⟨x, l, c, zs, hcs, _, hl, hm, hz, _, hcell, hwz⟩
    · simp [Value.cells] at hcs
      obtain ⟨rfl, rfl, rfl⟩ := hcs
      exact ⟨[], .inl ⟨rfl, rfl, rfl⟩⟩
    · simp [Value.cells] at hcs
      obtain ⟨rfl, rfl, rfl⟩ := hcs
      have hz' : zs.length = cap0 := by simpa using hz
      exact ⟨zs, .inr ⟨_, rfl, by omega, hcell⟩⟩
  obtain ⟨a1, rfl, rfl, rfl, w1⟩ := open_int Tryd.underlying3 (hval 1 3 v1 rfl rfl) h1
  clear hA0 hval0
  obtain ⟨ae, au, _, hae, hau, _⟩ := of_laid hL
  refine (walk1 a0 len0 cap0 a1 z0 ae au W w0 hae hau).mono fun e W' ⟨he, bel⟩ => ?_
  subst he
  have hg0 : 0 < W.heap.size := World.block_lt_of_cell? W ⟨0, 0, none⟩ hxc
  exact ⟨_, rfl, _, _, _, [], _, [.cell 0 0], hW', trodAll_mk1 (shut_bool Tryd.underlying4 _), (trodAll_cons_mk (Below.trod laidOut (by kernel_rfl) (of_decide_eq_true (by kernel_rfl)) k0 bel lt0) (trodAll_cons_mk (shut_int Tryd.underlying3 w1) trodAll_mk0)),
    vars_read1 enc gNo tNo Tryd.underlying34 (var?_below bel gNo hg0 hv3) ix _, bel.frame _, fun h => by cases h⟩

theorem first_row : Rows.FnReadBodyFirstSizeBytesSaid :=
  OpenClaim.holds_of_wide 5 Tryd.f5 rfl rfl rfl rfl rfl rfl rfl ⟨rfl, rfl, rfl, rfl, rfl⟩ rfl rfl rfl rfl rfl (by kernel_rfl) Tryd.func5 (by kernel_rfl)
    (of_decide_eq_true (by kernel_rfl)) (by unfold Func.isWrapper; first | (rw [if_pos (by decide +kernel)]; kernel_rfl) | (rw [if_neg (by decide +kernel)]; exact ⟨rfl, rfl⟩))
    (fun os started H enc _ => lifted1 os started H enc)

/-- THE STATEMENT: the tied card. -/
theorem firstSizeBytes_proved : Rows.FnReadBodyFirstSizeBytesCardSaid :=
  Claim7.holds_tied_plain_at .later [] [.sentinel, .sentinel, .sentinel, .sentinel] true (true, "ce7cec66e366852bbb49426842f41e3885a32a450fab643855df25c12d5218c2") true
    first_row (fun _ h => by cases h) (by kernel_rfl) (fun _ h => by cases h) fnReadBodyFirstSizeBytes_row_tie rfl ⟨rfl, rfl⟩ (by kernel_rfl) rfl
    (fun f fn hf hfn => by
      obtain rfl : f = 5 := Option.some.inj ((show Tryd.prog.funcNamed Rows.fnReadBodyFirstSizeBytesRow.func = some 5 by kernel_rfl).symm.trans hf) |>.symm
      obtain rfl : fn = Tryd.f5 := (Option.some.inj (Tryd.func5.symm.trans hfn)).symm
      exact ⟨by kernel_rfl, fun j t ht => by
        rw [Tryd.params5] at ht
        have hm : t ∈ [31, 3] := by simpa using Array.mem_of_getElem? ht
        have hall : ([31, 3].all fun u => !Tryd.prog.wantsStandIn u) = true := by kernel_rfl
        exact (show Tryd.prog.wantsStandIn t = false by simpa using List.all_eq_true.1 hall t hm)⟩)
    (by kernel_rfl)
end Go.Proofs.Qxb6612427aDoor
