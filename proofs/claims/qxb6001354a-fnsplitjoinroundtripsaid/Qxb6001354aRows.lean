/-
  No cell of these rows narrows 'for every input' (looked for: loops, veiled, ifaces, maps, wideKeys, modest, calm, conditions, laid).
  DERIVED. THE GIVEN ROWS OF THIS SEAT. 2 by the template 'for every input the law returns true; each argument reads behind the call as it read before'; 0 by the template 'total and deterministic' (their statements: Qxb6001354aTotals.lean).
  GIVEN WITH THE SEED: the statements are not yours to turn. If you find one false, say at which input.
  Laid BY PROGRAM, IN A SANDBOX (cutbox-rows.mjs): the forced cells as the released guide's own fill.sh prints them over the translation 845ccb90caa872fa… (all of the seat's roots in one cut). By AI agents, Wed Nov 11 2026. No macro, syntax, notation, axiom, sorry.
-/
import Derived.Test.Qxb6001354aChecked
import GoSem.Claim
import GoSem.ClaimJoined
import GoSem.ClaimMapViews
import Derived.JoinedTies
import Derived.KernelRfl
namespace Go.Proofs.Qxb6001354a
/- THE CELL 'sum', in the pinned program and in every row, IS THE sha256 OF THE DUMP (.gsa) THAT Qxb6001354aProg.lean LOADS. Nothing in Lean hashes anything: it is a label: what it is worth is what the hold of that sum in a sandbox is worth. -/
noncomputable def Try.pinned : Pinned := { name := "qxb6001354a", sum := "845ccb90caa872fa72da2bc529b56f9d7482d23045ed35c9ac9dfb661ed7c74b", checked := Try.checked }
namespace Rows
def none {H : Type} : Left H := { results := [], args := [] }

/-- 'zzlaws_manifest_b1.FnSplitJoinRoundTrip': WHATEVER THE INPUT: true; the input reads as it did. -/
def fnSplitJoinRoundTripSpec : ChangeSpec := { name := "fnSplitJoinRoundTrip", fn := fun _ => fun
  | [d] => { results := [.lit (.bool true)], args := [d] }
  | _ => none }
def fnSplitJoinRoundTripRow : OpenClaim := { program := "qxb6001354a", sum := "845ccb90caa872fa72da2bc529b56f9d7482d23045ed35c9ac9dfb661ed7c74b", func := "example.com/ratline/ratline/zzlaws_manifest_b1.FnSplitJoinRoundTrip", spec := "fnSplitJoinRoundTrip", inPlace := ["internal/bytealg.IndexByteString", "internal/bytealg.IndexString"], named := ["internal/bytealg.MaxLen"], apart := false }
def FnSplitJoinRoundTripSaid : Prop := fnSplitJoinRoundTripRow.holds Try.pinned (OpenSpec.ofChange fnSplitJoinRoundTripSpec)

/-- ITS FALSE NEIGHBOUR: 'it returns false'. Refute it at one input. -/
def fnSplitJoinRoundTripWrong : ChangeSpec := { name := "fnSplitJoinRoundTrip", fn := fun _ => fun
  | [d] => { results := [.lit (.bool false)], args := [d] }
  | _ => none }
def FnSplitJoinRoundTripWrongFalsely : Prop := fnSplitJoinRoundTripRow.holds Try.pinned (OpenSpec.ofChange fnSplitJoinRoundTripWrong)

/-- 'zzlaws_manifest_b1.FnSplitPiecesShape': WHATEVER THE INPUT: true; the input reads as it did. -/
def fnSplitPiecesShapeSpec : ChangeSpec := { name := "fnSplitPiecesShape", fn := fun _ => fun
  | [d] => { results := [.lit (.bool true)], args := [d] }
  | _ => none }
def fnSplitPiecesShapeRow : OpenClaim := { program := "qxb6001354a", sum := "845ccb90caa872fa72da2bc529b56f9d7482d23045ed35c9ac9dfb661ed7c74b", func := "example.com/ratline/ratline/zzlaws_manifest_b1.FnSplitPiecesShape", spec := "fnSplitPiecesShape", inPlace := ["internal/bytealg.IndexByteString", "internal/bytealg.IndexString"], named := ["internal/bytealg.MaxLen"], apart := false }
def FnSplitPiecesShapeSaid : Prop := fnSplitPiecesShapeRow.holds Try.pinned (OpenSpec.ofChange fnSplitPiecesShapeSpec)

/-- ITS FALSE NEIGHBOUR: 'it returns false'. Refute it at one input. -/
def fnSplitPiecesShapeWrong : ChangeSpec := { name := "fnSplitPiecesShape", fn := fun _ => fun
  | [d] => { results := [.lit (.bool false)], args := [d] }
  | _ => none }
def FnSplitPiecesShapeWrongFalsely : Prop := fnSplitPiecesShapeRow.holds Try.pinned (OpenSpec.ofChange fnSplitPiecesShapeWrong)

end Rows
end Go.Proofs.Qxb6001354a
