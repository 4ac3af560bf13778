import Derived.Test.Qxb6612720aDoorRows
import Derived.Test.Qxb6612720aDoorTie
import Derived.Test.Qxb6612720aDoorCards
import Derived.Test.Qxb6612720aDoorLw
import Derived.ProofKit
import Derived.OpenShut
import Derived.LaidMore
import Derived.Lay
import Derived.Lib.LaidTab
import Derived.SevenTiedAt
namespace Go.Proofs.Qxb6612720aDoor
open Go.ChangeShapes Go.WideShapes Go.ChangeAt Go.RowKit
set_option linter.unusedVariables false

theorem own : ownKnob Tryd.prog.godebug = none := by kernel_rfl
theorem laidOut : laidOutB Tryd.prog = true := by kernel_rfl
/-- The listed variable, as the given row lists it. -/
def laidL : List (String × DataW Unit) := Rows.fnEachListsWhatSetAddedRow.laid
def nTab : String := (laidL.map (·.1)).headD ""
theorem gTab : Tryd.prog.globalNamed nTab = some 0 := by kernel_rfl
theorem tTab : (Tryd.prog.globals[0]?).map (·.type) = some 39 := by kernel_rfl
theorem cells5 : Tryd.prog.cellsOf 5 = 1 := by kernel_rfl
theorem cells39 : Tryd.prog.cellsOf 39 = 64 := by kernel_rfl
def tabZ : List Int := Lib.deBruijn64tab.map fun n : Nat => (n : Int)
theorem laid_is : laidL = [(nTab, Lib.tabData .u8 tabZ)] := by kernel_rfl

theorem all_met (os : Os) (args : Array Value) : laidMetH Tryd.prog laidL ((World.laidAll Tryd.prog os laidL).forCall (fun _ _ => 0) ⟨#[], args, []⟩).memory := by
  rw [MakeChecks.laidMetH_plain _ _ _ (by kernel_rfl)]
  exact laidMet_laidAll _ (by kernel_rfl) (by kernel_rfl)

theorem of_laid {W : World} (h : laidMetH Tryd.prog laidL W) : Tab W := by
  rw [MakeChecks.laidMetH_plain _ _ _ (by kernel_rfl), laid_is] at h
  have hT := Lib.tabIs_of_head gTab tTab Tryd.underlying39 Tryd.underlying5 cells5 cells39 h
  intro j hj
  have hlen : tabZ.length = 64 := by kernel_rfl
  have := hT.cell gTab j (by omega)
  rw [this]
  have hl2 : Lib.deBruijn64tab.length = 64 := by kernel_rfl
  simp only [tabZ, List.getD, List.getElem?_map, List.getElem?_eq_getElem (show j < Lib.deBruijn64tab.length by omega), Option.map_some, Option.getD_some]

/-- THE WALK: the Go text returns true and writes nothing that was there. -/
theorem walk (size : Int) (a0 : Option Addr) (n c : Nat) (zs : List Int) (w : World) (hn : n ≤ maxLen) (hT : Tab w)
    (h0 : (a0 = none ∧ n = 0 ∧ c = 0) ∨ ∃ x, a0 = some x ∧ n ≤ zs.length ∧ ∀ i, i < zs.length → w.cell? (x.add i) = some (.int .i64 (zs.getD i 0))) :
    Calls Tryd.prog 3 #[.int .i64 size, .slice a0 n c] w fun e w' => e = .returned (.bool true) ∧ Below w.heap.size w w' := by
  by_cases h : n ≤ 1048576
  · by_cases h1 : 131072 < n
    · exact law_out a0 n c size w h (Or.inl h1)
    · by_cases h2 : size < 0
      · exact law_out a0 n c size w h (Or.inr (Or.inl ⟨by omega, h2⟩))
      · by_cases h3 : 65536 < size
        · exact law_out a0 n c size w h (Or.inr (Or.inr ⟨by omega, by omega, h3⟩))
        · obtain ⟨s, rfl⟩ : ∃ s : Nat, size = s := ⟨size.toNat, by omega⟩
          have hN : Nums w a0 n (fun j => zs.getD j 0) := by
            rcases h0 with ⟨_, h0, _⟩ | ⟨x, rfl, hl, hc⟩
            · exact Or.inl h0
            · by_cases e : n = 0
              · exact Or.inl e
              · obtain ⟨b, off, rfl, hc'⟩ := ints_at hc (by omega)
                exact Or.inr ⟨b, off, rfl, fun j hj => hc' j (by omega)⟩
          exact law_core a0 n c s _ w (by omega) (by omega) hN hT (World.block_lt_of_cell? w ⟨0, 0, none⟩ (hT 0 (by omega)))
  · exact law_big a0 n c size w h

set_option maxRecDepth 100000 in
theorem lifted (os : Os) (started : os.Started) (H : Type) (enc : TypeId × Value → H) :
    ReturnsInHanded {} Tryd.checked os 3 .any (fun w args => (Rows.fnEachListsWhatSetAddedSpec.pre enc Tryd.prog Tryd.f3 [] false w args ∧ laidMetH Tryd.prog laidL w) ∧ sizedMet enc Tryd.prog Tryd.f3 (OpenSpec.ofChange Rows.fnEachListsWhatSetAddedSpec) false w args)
      (Rows.fnEachListsWhatSetAddedSpec.post enc Tryd.prog Tryd.f3 false true false false) := by
  refine returnsInHanded_of_change_and (C := Tryd.checked) (X := fun w _ => laidMetH Tryd.prog laidL w) (fun _ _ _ hh h => h.of_heap hh) own started (by kernel_rfl) Tryd.func3
    (ChangeSpec.witness_shaped (enc := enc) (C := Tryd.checked) (os := os) (X := fun w _ => laidMetH Tryd.prog laidL w) false (World.laidAll Tryd.prog os laidL) #[.int .i64 0, .slice none 0 0] 8 (World.laidAll_os _ _ _) (World.shaped_of_RefB (by kernel_rfl) (by kernel_rfl)) (by kernel_rfl) (by kernel_rfl) (by kernel_rfl) (all_met os _)) ?_
  intro W base args ds gs before hval0 hW _ _ hL _
  have hval : ∀ (j : Nat) t v, Tryd.f3.params[j]? = some t → args[j]? = some v → Value.okWide Tryd.prog W .any base t v := hval0
  have hW' := hW
  obtain ⟨p, q, hA0, hV, rfl, hfz, hnd⟩ := hW
  have hA : DataW.TrodAll enc Tryd.prog W 0 (fun _ => true) true Tryd.f3.params.toList args.toList ds p := hA0
  rw [Tryd.params3] at hA hval
  obtain ⟨v0, vs0, d0, ds0, p0, q0, hargs, rfl, rfl, h0, r0⟩ := trodAll_cons hA
  obtain ⟨v1, vs1, d1, ds1, p1, q1, rfl, rfl, rfl, h1, r1⟩ := trodAll_cons r0
  obtain ⟨rfl, rfl, rfl⟩ := trodAll_nil r1
  obtain rfl : args = #[v0, v1] := by cases args; simp_all
  obtain ⟨rfl, rfl⟩ := trodVars_none hV
  obtain ⟨a1, len1, cap1, rfl⟩ := okWide_slice Tryd.underlying22 (hval 1 22 v1 rfl rfl)
  have k1 := h1
  have lt1 : ∀ x ∈ p1, x.block < W.heap.size := by obtain ⟨m, hm⟩ := k1; exact DataW.trod_lt m _ _ _ hm
  obtain ⟨z1, hm1, w1⟩ : ∃ zs : List Int, len1 ≤ maxLen ∧ ((a1 = none ∧ len1 = 0 ∧ cap1 = 0) ∨ ∃ x, a1 = some x ∧ len1 ≤ zs.length ∧ ∀ i, i < zs.length → W.cell? (x.add i) = some (.int .i64 (zs.getD i 0))) := by
    obtain ⟨fuel, hf⟩ := h1
    rcases open_ints Tryd.underlying22 Tryd.underlying3 (by kernel_rfl) hf with ⟨hcs, _⟩ | ⟨x, l, c, zs, hcs, _, hl, hm, hz, _, hcell, hwz⟩
    · simp [Value.cells] at hcs
      obtain ⟨rfl, rfl, rfl⟩ := hcs
      exact ⟨[], by simp [maxLen], .inl ⟨rfl, rfl, rfl⟩⟩
    · simp [Value.cells] at hcs
      obtain ⟨rfl, rfl, rfl⟩ := hcs
      have hz' : zs.length = cap1 := by simpa using hz
      exact ⟨zs, by omega, .inr ⟨_, rfl, by omega, hcell⟩⟩
  obtain ⟨a0, rfl, rfl, rfl, w0⟩ := open_int Tryd.underlying3 (hval 0 3 v0 rfl rfl) h0
  clear hA0 hval0
  refine (walk a0 a1 len1 cap1 z1 W hm1 (of_laid hL) w1).mono fun e W' ⟨he, bel⟩ => ?_
  subst he
  exact ⟨_, rfl, _, _, _, [], _, [], hW', trodAll_mk1 (shut_bool Tryd.underlying4 _), (trodAll_cons_mk (shut_int Tryd.underlying3 w0) (trodAll_cons_mk (Below.trod laidOut (by kernel_rfl) (of_decide_eq_true (by kernel_rfl)) k1 bel lt1) trodAll_mk0)), rfl, bel.frame _, fun h => by cases h⟩

theorem each_row : Rows.FnEachListsWhatSetAddedSaid :=
  OpenClaim.holds_of_wide 3 Tryd.f3 rfl rfl rfl rfl rfl rfl rfl ⟨rfl, rfl, rfl, rfl, rfl⟩ rfl rfl rfl rfl rfl (by kernel_rfl) Tryd.func3 (by kernel_rfl)
    (of_decide_eq_true (by kernel_rfl)) (by unfold Func.isWrapper; first | (rw [if_pos (by decide +kernel)]; kernel_rfl) | (rw [if_neg (by decide +kernel)]; exact ⟨rfl, rfl⟩))
    (fun os started H enc _ => lifted os started H enc)

/-- THE STATEMENT: the tied card. -/
theorem eachLists_proved : Rows.FnEachListsWhatSetAddedCardSaid :=
  Claim7.holds_tied_plain_at .later [] [.data] true (true, "6e0ee562e544f85f7ee6b0321bba7dadaa7267ea4534c27aa12cb28485b7efc6") false
    each_row (fun _ h => by cases h) (by kernel_rfl) (fun _ h => by cases h) fnEachListsWhatSetAdded_row_tie rfl ⟨rfl, rfl⟩ (by kernel_rfl) rfl
    (fun f fn hf hfn => by
      obtain rfl : f = 3 := Option.some.inj ((show Tryd.prog.funcNamed Rows.fnEachListsWhatSetAddedRow.func = some 3 by kernel_rfl).symm.trans hf) |>.symm
      obtain rfl : fn = Tryd.f3 := (Option.some.inj (Tryd.func3.symm.trans hfn)).symm
      exact ⟨by kernel_rfl, fun j t ht => by
        rw [Tryd.params3] at ht
        have hm : t ∈ [3, 22] := by simpa using Array.mem_of_getElem? ht
        have hall : ([3, 22].all fun u => !Tryd.prog.wantsStandIn u) = true := by kernel_rfl
        exact (show Tryd.prog.wantsStandIn t = false by simpa using List.all_eq_true.1 hall t hm)⟩)
    (by kernel_rfl)
end Go.Proofs.Qxb6612720aDoor
