/-
  No cell of these rows narrows 'for every input' (looked for: loops, veiled, ifaces, maps, wideKeys, modest, calm, conditions, laid).
  DERIVED. THE GIVEN ROWS OF THIS SEAT. 4 by the template 'for every input the law returns true; each argument reads behind the call as it read before'; 0 by the template 'total and deterministic' (their statements: Qxb6612468aTotals.lean).
  GIVEN WITH THE SEED: the statements are not yours to turn. If you find one false, say at which input.
  Laid BY PROGRAM, IN A SANDBOX (cutbox-rows.mjs): the forced cells as the released guide's own fill.sh prints them over the translation 75eca17e2556f158… (all of the seat's roots in one cut). By AI agents, Wed Nov 11 2026. No macro, syntax, notation, axiom, sorry.
-/
import Derived.Test.Qxb6612468aChecked
import GoSem.Claim
import GoSem.ClaimJoined
import GoSem.ClaimMapViews
import Derived.JoinedTies
import Derived.KernelRfl
namespace Go.Proofs.Qxb6612468a
/- THE CELL 'sum', in the pinned program and in every row, IS THE sha256 OF THE DUMP (.gsa) THAT Qxb6612468aProg.lean LOADS. Nothing in Lean hashes anything: it is a label: what it is worth is what the hold of that sum in a sandbox is worth. -/
noncomputable def Try.pinned : Pinned := { name := "qxb6612468a", sum := "75eca17e2556f158d1f5ff4f79900e7daec553addeab0c20c4714e7f8de34c36", checked := Try.checked }
namespace Rows
def none {H : Type} : Left H := { results := [], args := [] }

/-- 'zzlaws_internal_api_b1.FnAttachedRulesMatchesCoverModel': WHATEVER THE INPUT: true; the input reads as it did. -/
def fnAttachedRulesMatchesCoverModelSpec : ChangeSpec := { name := "fnAttachedRulesMatchesCoverModel", fn := fun _ => fun
  | [d1, d2, d3] => { results := [.lit (.bool true)], args := [d1, d2, d3] }
  | _ => none }
def fnAttachedRulesMatchesCoverModelRow : OpenClaim := { program := "qxb6612468a", sum := "75eca17e2556f158d1f5ff4f79900e7daec553addeab0c20c4714e7f8de34c36", func := "example.com/archipelago/archipelago/zzlaws_internal_api_b1.FnAttachedRulesMatchesCoverModel", spec := "fnAttachedRulesMatchesCoverModel", unfollowed := true, recurses := true, apart := false }
def FnAttachedRulesMatchesCoverModelSaid : Prop := fnAttachedRulesMatchesCoverModelRow.holds Try.pinned (OpenSpec.ofChange fnAttachedRulesMatchesCoverModelSpec)

/-- ITS FALSE NEIGHBOUR: 'it returns false'. Refute it at one input. -/
def fnAttachedRulesMatchesCoverModelWrong : ChangeSpec := { name := "fnAttachedRulesMatchesCoverModel", fn := fun _ => fun
  | [d1, d2, d3] => { results := [.lit (.bool false)], args := [d1, d2, d3] }
  | _ => none }
def FnAttachedRulesMatchesCoverModelWrongFalsely : Prop := fnAttachedRulesMatchesCoverModelRow.holds Try.pinned (OpenSpec.ofChange fnAttachedRulesMatchesCoverModelWrong)

/-- 'zzlaws_internal_api_b1.FnAttachedRulesWholeRouteRefCoversEveryRule': WHATEVER THE INPUT: true; the input reads as it did. -/
def fnAttachedRulesWholeRouteRefCoversEveryRuleSpec : ChangeSpec := { name := "fnAttachedRulesWholeRouteRefCoversEveryRule", fn := fun _ => fun
  | [d1, d2, d3] => { results := [.lit (.bool true)], args := [d1, d2, d3] }
  | _ => none }
def fnAttachedRulesWholeRouteRefCoversEveryRuleRow : OpenClaim := { program := "qxb6612468a", sum := "75eca17e2556f158d1f5ff4f79900e7daec553addeab0c20c4714e7f8de34c36", func := "example.com/archipelago/archipelago/zzlaws_internal_api_b1.FnAttachedRulesWholeRouteRefCoversEveryRule", spec := "fnAttachedRulesWholeRouteRefCoversEveryRule", unfollowed := true, recurses := true, apart := false }
def FnAttachedRulesWholeRouteRefCoversEveryRuleSaid : Prop := fnAttachedRulesWholeRouteRefCoversEveryRuleRow.holds Try.pinned (OpenSpec.ofChange fnAttachedRulesWholeRouteRefCoversEveryRuleSpec)

/-- ITS FALSE NEIGHBOUR: 'it returns false'. Refute it at one input. -/
def fnAttachedRulesWholeRouteRefCoversEveryRuleWrong : ChangeSpec := { name := "fnAttachedRulesWholeRouteRefCoversEveryRule", fn := fun _ => fun
  | [d1, d2, d3] => { results := [.lit (.bool false)], args := [d1, d2, d3] }
  | _ => none }
def FnAttachedRulesWholeRouteRefCoversEveryRuleWrongFalsely : Prop := fnAttachedRulesWholeRouteRefCoversEveryRuleRow.holds Try.pinned (OpenSpec.ofChange fnAttachedRulesWholeRouteRefCoversEveryRuleWrong)

/-- 'zzlaws_internal_api_b1.FnValidProtocolCaseSensitive': WHATEVER THE INPUT: true; the input reads as it did. -/
def fnValidProtocolCaseSensitiveSpec : ChangeSpec := { name := "fnValidProtocolCaseSensitive", fn := fun _ => fun
  | [d] => { results := [.lit (.bool true)], args := [d] }
  | _ => none }
def fnValidProtocolCaseSensitiveRow : OpenClaim := { program := "qxb6612468a", sum := "75eca17e2556f158d1f5ff4f79900e7daec553addeab0c20c4714e7f8de34c36", func := "example.com/archipelago/archipelago/zzlaws_internal_api_b1.FnValidProtocolCaseSensitive", spec := "fnValidProtocolCaseSensitive", apart := false }
def FnValidProtocolCaseSensitiveSaid : Prop := fnValidProtocolCaseSensitiveRow.holds Try.pinned (OpenSpec.ofChange fnValidProtocolCaseSensitiveSpec)

/-- ITS FALSE NEIGHBOUR: 'it returns false'. Refute it at one input. -/
def fnValidProtocolCaseSensitiveWrong : ChangeSpec := { name := "fnValidProtocolCaseSensitive", fn := fun _ => fun
  | [d] => { results := [.lit (.bool false)], args := [d] }
  | _ => none }
def FnValidProtocolCaseSensitiveWrongFalsely : Prop := fnValidProtocolCaseSensitiveRow.holds Try.pinned (OpenSpec.ofChange fnValidProtocolCaseSensitiveWrong)

/-- 'zzlaws_internal_api_b1.FnNamespaceIsMetadataNamespace': WHATEVER THE INPUT: true; the input reads as it did. -/
def fnNamespaceIsMetadataNamespaceSpec : ChangeSpec := { name := "fnNamespaceIsMetadataNamespace", fn := fun _ => fun
  | [d1, d2, d3, d4, d5] => { results := [.lit (.bool true)], args := [d1, d2, d3, d4, d5] }
  | _ => none }
def fnNamespaceIsMetadataNamespaceRow : OpenClaim := { program := "qxb6612468a", sum := "75eca17e2556f158d1f5ff4f79900e7daec553addeab0c20c4714e7f8de34c36", func := "example.com/archipelago/archipelago/zzlaws_internal_api_b1.FnNamespaceIsMetadataNamespace", spec := "fnNamespaceIsMetadataNamespace", apart := false }
def FnNamespaceIsMetadataNamespaceSaid : Prop := fnNamespaceIsMetadataNamespaceRow.holds Try.pinned (OpenSpec.ofChange fnNamespaceIsMetadataNamespaceSpec)

/-- ITS FALSE NEIGHBOUR: 'it returns false'. Refute it at one input. -/
def fnNamespaceIsMetadataNamespaceWrong : ChangeSpec := { name := "fnNamespaceIsMetadataNamespace", fn := fun _ => fun
  | [d1, d2, d3, d4, d5] => { results := [.lit (.bool false)], args := [d1, d2, d3, d4, d5] }
  | _ => none }
def FnNamespaceIsMetadataNamespaceWrongFalsely : Prop := fnNamespaceIsMetadataNamespaceRow.holds Try.pinned (OpenSpec.ofChange fnNamespaceIsMetadataNamespaceWrong)

end Rows
end Go.Proofs.Qxb6612468a
