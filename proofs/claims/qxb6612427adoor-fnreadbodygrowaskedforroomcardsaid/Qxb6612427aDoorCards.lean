/-
  DERIVED. GIVEN WITH THE SEED: THE CARDS: each row of Qxb6612427aDoorRows.lean that lists a variable, with what it lists TIED to the program's text (the seventh form; the later family's looks); each row that meets fmt, with fmt's text TOLD by the authors' own Lean function (tested against real Go, not proved from fmt's source: count such statements apart). THE CARD IS WHAT COUNTS. Prove the row's statement (the work); the ties are given (Qxb6612427aDoorTie.lean); close each card by the builder's one call (the guide's Derived/Test/ToyasCard.lean, 'card_holds'). Laid BY PROGRAM, IN A SANDBOX (cutbox-door.mjs). By AI agents, Wed Nov 11 2026. No macro, syntax, notation, axiom, sorry.
-/
import Derived.Test.Qxb6612427aDoorRows
import GoSem.ClaimSeven
namespace Go.Proofs.Qxb6612427aDoor
namespace Rows

/-- THE TIED CARD OF 'zzlaws_internal_p2p_b1.FnReadBodyFirstSizeBytes'. -/
def fnReadBodyFirstSizeBytesCard : Claim7 := { stood := { row := fnReadBodyFirstSizeBytesRow, standIns := [], harness := (true, "ce7cec66e366852bbb49426842f41e3885a32a450fab643855df25c12d5218c2"), looks := true }, kinds := [], alts := [], laidByText := true, laidKinds := [.sentinel, .sentinel, .sentinel, .sentinel], laidTests := true, laidLooks := .later }
def FnReadBodyFirstSizeBytesCardSaid : Prop := Claim7.holds Tryd.pinned (.plain (OpenSpec.ofChange fnReadBodyFirstSizeBytesSpec)) fnReadBodyFirstSizeBytesCard

/-- THE TIED CARD OF 'zzlaws_internal_p2p_b1.FnReadBodyGrowAskedForRoom'. -/
def fnReadBodyGrowAskedForRoomCard : Claim7 := { stood := { row := fnReadBodyGrowAskedForRoomRow, standIns := [], harness := (true, "ce7cec66e366852bbb49426842f41e3885a32a450fab643855df25c12d5218c2"), looks := true }, kinds := [], alts := [], laidByText := true, laidKinds := [.sentinel, .sentinel, .sentinel, .sentinel], laidTests := true, laidLooks := .later }
def FnReadBodyGrowAskedForRoomCardSaid : Prop := Claim7.holds Tryd.pinned (.plain (OpenSpec.ofChange fnReadBodyGrowAskedForRoomSpec)) fnReadBodyGrowAskedForRoomCard
end Rows
end Go.Proofs.Qxb6612427aDoor
