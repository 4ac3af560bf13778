/-
  No cell of these rows narrows 'for every input' (looked for: loops, veiled, ifaces, maps, wideKeys, modest, calm, conditions, laid).
  DERIVED. THE GIVEN ROWS OF THIS SEAT. 3 by the template 'for every input the law returns true; each argument reads behind the call as it read before'; 0 by the template 'total and deterministic' (their statements: Qxb6612720aTotals.lean).
  GIVEN WITH THE SEED: the statements are not yours to turn. If you find one false, say at which input.
  Laid BY PROGRAM, IN A SANDBOX (cutbox-rows.mjs): the forced cells as the released guide's own fill.sh prints them over the translation ef12d44a2b792d26… (all of the seat's roots in one cut). By AI agents, Wed Nov 11 2026. No macro, syntax, notation, axiom, sorry.
-/
import Derived.Test.Qxb6612720aChecked
import GoSem.Claim
import GoSem.ClaimJoined
import GoSem.ClaimMapViews
import Derived.JoinedTies
import Derived.KernelRfl
namespace Go.Proofs.Qxb6612720a
/- THE CELL 'sum', in the pinned program and in every row, IS THE sha256 OF THE DUMP (.gsa) THAT Qxb6612720aProg.lean LOADS. Nothing in Lean hashes anything: it is a label: what it is worth is what the hold of that sum in a sandbox is worth. -/
noncomputable def Try.pinned : Pinned := { name := "qxb6612720a", sum := "ef12d44a2b792d269d78de51e3f05db332e25fb04c18afbf010905e012bf0699", checked := Try.checked }
namespace Rows
def none {H : Type} : Left H := { results := [], args := [] }

/-- 'zzlaws_delegation_b1.FnAnswerSplitsAtAnyPlace': WHATEVER THE INPUT: true; the input reads as it did. -/
def fnAnswerSplitsAtAnyPlaceSpec : ChangeSpec := { name := "fnAnswerSplitsAtAnyPlace", fn := fun _ => fun
  | [d1, d2, d3, d4, d5] => { results := [.lit (.bool true)], args := [d1, d2, d3, d4, d5] }
  | _ => none }
def fnAnswerSplitsAtAnyPlaceRow : OpenClaim := { program := "qxb6612720a", sum := "ef12d44a2b792d269d78de51e3f05db332e25fb04c18afbf010905e012bf0699", func := "example.com/volmacht/volmacht/zzlaws_delegation_b1.FnAnswerSplitsAtAnyPlace", spec := "fnAnswerSplitsAtAnyPlace", unfollowed := true, recurses := true, plainKeys := false, apart := false }
def FnAnswerSplitsAtAnyPlaceSaid : Prop := fnAnswerSplitsAtAnyPlaceRow.holds Try.pinned (OpenSpec.ofChange fnAnswerSplitsAtAnyPlaceSpec)

/-- ITS FALSE NEIGHBOUR: 'it returns false'. Refute it at one input. -/
def fnAnswerSplitsAtAnyPlaceWrong : ChangeSpec := { name := "fnAnswerSplitsAtAnyPlace", fn := fun _ => fun
  | [d1, d2, d3, d4, d5] => { results := [.lit (.bool false)], args := [d1, d2, d3, d4, d5] }
  | _ => none }
def FnAnswerSplitsAtAnyPlaceWrongFalsely : Prop := fnAnswerSplitsAtAnyPlaceRow.holds Try.pinned (OpenSpec.ofChange fnAnswerSplitsAtAnyPlaceWrong)

/-- 'zzlaws_delegation_b1.FnNumberNumbersEachValidGrantOnce': WHATEVER THE INPUT: true; the input reads as it did. -/
def fnNumberNumbersEachValidGrantOnceSpec : ChangeSpec := { name := "fnNumberNumbersEachValidGrantOnce", fn := fun _ => fun
  | [d1, d2, d3, d4] => { results := [.lit (.bool true)], args := [d1, d2, d3, d4] }
  | _ => none }
def fnNumberNumbersEachValidGrantOnceRow : OpenClaim := { program := "qxb6612720a", sum := "ef12d44a2b792d269d78de51e3f05db332e25fb04c18afbf010905e012bf0699", func := "example.com/volmacht/volmacht/zzlaws_delegation_b1.FnNumberNumbersEachValidGrantOnce", spec := "fnNumberNumbersEachValidGrantOnce", unfollowed := true, recurses := true, plainKeys := false, apart := false }
def FnNumberNumbersEachValidGrantOnceSaid : Prop := fnNumberNumbersEachValidGrantOnceRow.holds Try.pinned (OpenSpec.ofChange fnNumberNumbersEachValidGrantOnceSpec)

/-- ITS FALSE NEIGHBOUR: 'it returns false'. Refute it at one input. -/
def fnNumberNumbersEachValidGrantOnceWrong : ChangeSpec := { name := "fnNumberNumbersEachValidGrantOnce", fn := fun _ => fun
  | [d1, d2, d3, d4] => { results := [.lit (.bool false)], args := [d1, d2, d3, d4] }
  | _ => none }
def FnNumberNumbersEachValidGrantOnceWrongFalsely : Prop := fnNumberNumbersEachValidGrantOnceRow.holds Try.pinned (OpenSpec.ofChange fnNumberNumbersEachValidGrantOnceWrong)

/-- 'zzlaws_delegation_b1.FnNumberIgnoresGrantsOfSetsNotValidNow': WHATEVER THE INPUT: true; the input reads as it did. -/
def fnNumberIgnoresGrantsOfSetsNotValidNowSpec : ChangeSpec := { name := "fnNumberIgnoresGrantsOfSetsNotValidNow", fn := fun _ => fun
  | [d1, d2, d3, d4, d5, d6, d7] => { results := [.lit (.bool true)], args := [d1, d2, d3, d4, d5, d6, d7] }
  | _ => none }
def fnNumberIgnoresGrantsOfSetsNotValidNowRow : OpenClaim := { program := "qxb6612720a", sum := "ef12d44a2b792d269d78de51e3f05db332e25fb04c18afbf010905e012bf0699", func := "example.com/volmacht/volmacht/zzlaws_delegation_b1.FnNumberIgnoresGrantsOfSetsNotValidNow", spec := "fnNumberIgnoresGrantsOfSetsNotValidNow", unfollowed := true, recurses := true, plainKeys := false, apart := false }
def FnNumberIgnoresGrantsOfSetsNotValidNowSaid : Prop := fnNumberIgnoresGrantsOfSetsNotValidNowRow.holds Try.pinned (OpenSpec.ofChange fnNumberIgnoresGrantsOfSetsNotValidNowSpec)

/-- ITS FALSE NEIGHBOUR: 'it returns false'. Refute it at one input. -/
def fnNumberIgnoresGrantsOfSetsNotValidNowWrong : ChangeSpec := { name := "fnNumberIgnoresGrantsOfSetsNotValidNow", fn := fun _ => fun
  | [d1, d2, d3, d4, d5, d6, d7] => { results := [.lit (.bool false)], args := [d1, d2, d3, d4, d5, d6, d7] }
  | _ => none }
def FnNumberIgnoresGrantsOfSetsNotValidNowWrongFalsely : Prop := fnNumberIgnoresGrantsOfSetsNotValidNowRow.holds Try.pinned (OpenSpec.ofChange fnNumberIgnoresGrantsOfSetsNotValidNowWrong)

end Rows
end Go.Proofs.Qxb6612720a
