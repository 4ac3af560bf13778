/-
  DERIVED. GIVEN WITH THE SEED: THE CARDS: each row of Qxb6612720aDoorRows.lean that lists a variable, with what it lists TIED to the program's text (the seventh form; the later family's looks); each row that meets fmt, with fmt's text TOLD by the authors' own Lean function (tested against real Go, not proved from fmt's source: count such statements apart). THE CARD IS WHAT COUNTS. Prove the row's statement (the work); the ties are given (Qxb6612720aDoorTie.lean); close each card by the builder's one call (the guide's Derived/Test/ToyasCard.lean, 'card_holds'). Laid BY PROGRAM, IN A SANDBOX (cutbox-door.mjs). By AI agents, Wed Nov 11 2026. No macro, syntax, notation, axiom, sorry.
-/
import Derived.Test.Qxb6612720aDoorRows
import GoSem.ClaimSeven
namespace Go.Proofs.Qxb6612720aDoor
namespace Rows

/-- THE TIED CARD OF 'zzlaws_delegation_b1.FnEachListsWhatSetAdded'. -/
def fnEachListsWhatSetAddedCard : Claim7 := { stood := { row := fnEachListsWhatSetAddedRow, standIns := [], harness := (true, "6e0ee562e544f85f7ee6b0321bba7dadaa7267ea4534c27aa12cb28485b7efc6"), looks := false }, kinds := [], alts := [], laidByText := true, laidKinds := [.data], laidTests := true, laidLooks := .later }
def FnEachListsWhatSetAddedCardSaid : Prop := Claim7.holds Tryd.pinned (.plain (OpenSpec.ofChange fnEachListsWhatSetAddedSpec)) fnEachListsWhatSetAddedCard

/-- THE TIED CARD OF 'zzlaws_delegation_b1.FnEachOfJoinedWords'. -/
def fnEachOfJoinedWordsCard : Claim7 := { stood := { row := fnEachOfJoinedWordsRow, standIns := [], harness := (true, "6e0ee562e544f85f7ee6b0321bba7dadaa7267ea4534c27aa12cb28485b7efc6"), looks := false }, kinds := [], alts := [], laidByText := true, laidKinds := [.data], laidTests := true, laidLooks := .later }
def FnEachOfJoinedWordsCardSaid : Prop := Claim7.holds Tryd.pinned (.plain (OpenSpec.ofChange fnEachOfJoinedWordsSpec)) fnEachOfJoinedWordsCard
end Rows
end Go.Proofs.Qxb6612720aDoor
