/-
  NARROWER THAN 'FOR EVERY INPUT', by the rows' own cells (each row's printed sentence says how): FnReadBodyFirstSizeBytes: ifaces, laid · FnReadBodyGrowAskedForRoom: ifaces, laid.
  DERIVED. THE GIVEN ROWS OF THIS SEAT. 2 by the template 'for every input the law returns true; each argument reads behind the call as it read before'; 0 by the template 'total and deterministic' (their statements: Qxb6612427aDoorTotals.lean).
  GIVEN WITH THE SEED: the statements are not yours to turn. If you find one false, say at which input.
  Laid BY PROGRAM, IN A SANDBOX (cutbox-rows.mjs): the forced cells as the released guide's own fill.sh prints them over the translation d07e5de5aabc7655… (all of the seat's roots in one cut). By AI agents, Wed Nov 11 2026. No macro, syntax, notation, axiom, sorry.
-/
import Derived.Test.Qxb6612427aDoorChecked
import GoSem.Claim
import GoSem.ClaimJoined
import GoSem.ClaimMapViews
import Derived.JoinedTies
import Derived.KernelRfl
namespace Go.Proofs.Qxb6612427aDoor
/- THE CELL 'sum', in the pinned program and in every row, IS THE sha256 OF THE DUMP (.gsa) THAT Qxb6612427aDoorProg.lean LOADS. Nothing in Lean hashes anything: it is a label: what it is worth is what the hold of that sum in a sandbox is worth. -/
noncomputable def Tryd.pinned : Pinned := { name := "qxb6612427adoor", sum := "d07e5de5aabc7655563851c0fc0d3e24f9e539c55af156dc0ed6602c404f1e23", checked := Tryd.checked }
namespace Rows
def none {H : Type} : Left H := { results := [], args := [] }

/- WHAT THE LISTED PACKAGE-LEVEL VARIABLES READ AS WHEN THE CALL BEGINS. Each datum BY PROGRAM (the guide's laid-datum.mjs) off the statement by which the dump's own 'gosem.cut.vars' lays the variable. In a bare row this is a premise. The card (Qxb6612427aDoorCards.lean) ties it to the program's text. -/
def laid_io_ErrShortBuffer {H : Type} : DataW H := .iface "*errors.errorString" (.ptr (.agg [.lit (.string [115, 104, 111, 114, 116, 32, 98, 117, 102, 102, 101, 114])]))
def laid_io_EOF {H : Type} : DataW H := .iface "*errors.errorString" (.ptr (.agg [.lit (.string [69, 79, 70])]))
def laid_io_ErrUnexpectedEOF {H : Type} : DataW H := .iface "*errors.errorString" (.ptr (.agg [.lit (.string [117, 110, 101, 120, 112, 101, 99, 116, 101, 100, 32, 69, 79, 70])]))
def laid_example_com_roundseal_roundseal_internal_p2p_errNoRoom {H : Type} : DataW H := .iface "*errors.errorString" (.ptr (.agg [.lit (.string [110, 111, 32, 114, 111, 111, 109, 32, 102, 111, 114, 32, 116, 104, 101, 32, 102, 114, 97, 109, 101, 32, 97, 109, 111, 110, 103, 32, 116, 104, 101, 32, 115, 116, 114, 97, 110, 103, 101, 114, 115, 39, 32, 102, 114, 97, 109, 101, 115])]))

/-- 'zzlaws_internal_p2p_b1.FnReadBodyFirstSizeBytes': WHATEVER THE INPUT: true; the input reads as it did. -/
def fnReadBodyFirstSizeBytesSpec : ChangeSpec := { name := "fnReadBodyFirstSizeBytes", vars := ["example.com/roundseal/roundseal/internal/p2p.errNoRoom"], fn := fun _ => fun
  | [d1, d2, g1] => { results := [.lit (.bool true)], args := [d1, d2], vars := [g1] }
  | _ => none }
def fnReadBodyFirstSizeBytesRow : OpenClaim := { program := "qxb6612427adoor", sum := "d07e5de5aabc7655563851c0fc0d3e24f9e539c55af156dc0ed6602c404f1e23", func := "example.com/roundseal/roundseal/zzlaws_internal_p2p_b1.FnReadBodyFirstSizeBytes", spec := "fnReadBodyFirstSizeBytes", unfollowed := true, recurses := true, named := ["example.com/roundseal/roundseal/internal/p2p.errNoRoom", "io.ErrShortBuffer", "io.EOF", "io.ErrUnexpectedEOF"], ifaces := true, plainKeys := false, apart := false, laid := [("io.ErrShortBuffer", laid_io_ErrShortBuffer), ("io.EOF", laid_io_EOF), ("io.ErrUnexpectedEOF", laid_io_ErrUnexpectedEOF), ("example.com/roundseal/roundseal/internal/p2p.errNoRoom", laid_example_com_roundseal_roundseal_internal_p2p_errNoRoom)] }
def FnReadBodyFirstSizeBytesSaid : Prop := fnReadBodyFirstSizeBytesRow.holds Tryd.pinned (OpenSpec.ofChange fnReadBodyFirstSizeBytesSpec)

/-- ITS FALSE NEIGHBOUR: 'it returns false'. Refute it at one input. -/
def fnReadBodyFirstSizeBytesWrong : ChangeSpec := { name := "fnReadBodyFirstSizeBytes", vars := ["example.com/roundseal/roundseal/internal/p2p.errNoRoom"], fn := fun _ => fun
  | [d1, d2, g1] => { results := [.lit (.bool false)], args := [d1, d2], vars := [g1] }
  | _ => none }
def FnReadBodyFirstSizeBytesWrongFalsely : Prop := fnReadBodyFirstSizeBytesRow.holds Tryd.pinned (OpenSpec.ofChange fnReadBodyFirstSizeBytesWrong)

/-- 'zzlaws_internal_p2p_b1.FnReadBodyGrowAskedForRoom': WHATEVER THE INPUT: true; the input reads as it did. -/
def fnReadBodyGrowAskedForRoomSpec : ChangeSpec := { name := "fnReadBodyGrowAskedForRoom", vars := ["example.com/roundseal/roundseal/internal/p2p.errNoRoom"], fn := fun _ => fun
  | [d1, d2, d3, g1] => { results := [.lit (.bool true)], args := [d1, d2, d3], vars := [g1] }
  | _ => none }
def fnReadBodyGrowAskedForRoomRow : OpenClaim := { program := "qxb6612427adoor", sum := "d07e5de5aabc7655563851c0fc0d3e24f9e539c55af156dc0ed6602c404f1e23", func := "example.com/roundseal/roundseal/zzlaws_internal_p2p_b1.FnReadBodyGrowAskedForRoom", spec := "fnReadBodyGrowAskedForRoom", unfollowed := true, recurses := true, named := ["example.com/roundseal/roundseal/internal/p2p.errNoRoom", "io.ErrShortBuffer", "io.EOF", "io.ErrUnexpectedEOF"], ifaces := true, plainKeys := false, apart := false, laid := [("io.ErrShortBuffer", laid_io_ErrShortBuffer), ("io.EOF", laid_io_EOF), ("io.ErrUnexpectedEOF", laid_io_ErrUnexpectedEOF), ("example.com/roundseal/roundseal/internal/p2p.errNoRoom", laid_example_com_roundseal_roundseal_internal_p2p_errNoRoom)] }
def FnReadBodyGrowAskedForRoomSaid : Prop := fnReadBodyGrowAskedForRoomRow.holds Tryd.pinned (OpenSpec.ofChange fnReadBodyGrowAskedForRoomSpec)

/-- ITS FALSE NEIGHBOUR: 'it returns false'. Refute it at one input. -/
def fnReadBodyGrowAskedForRoomWrong : ChangeSpec := { name := "fnReadBodyGrowAskedForRoom", vars := ["example.com/roundseal/roundseal/internal/p2p.errNoRoom"], fn := fun _ => fun
  | [d1, d2, d3, g1] => { results := [.lit (.bool false)], args := [d1, d2, d3], vars := [g1] }
  | _ => none }
def FnReadBodyGrowAskedForRoomWrongFalsely : Prop := fnReadBodyGrowAskedForRoomRow.holds Tryd.pinned (OpenSpec.ofChange fnReadBodyGrowAskedForRoomWrong)

end Rows
end Go.Proofs.Qxb6612427aDoor
