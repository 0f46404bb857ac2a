/-
  No cell of these rows narrows 'for every input' (looked for: loops, veiled, ifaces, maps, wideKeys, modest, calm, conditions, laid).
  DERIVED. THE GIVEN ROWS OF THIS SEAT. 2 by the template 'for every input the law returns true; each argument reads behind the call as it read before'; 0 by the template 'total and deterministic' (their statements: Qxb6001480aTotals.lean).
  GIVEN WITH THE SEED: the statements are not yours to turn. If you find one false, say at which input.
  Laid BY PROGRAM, IN A SANDBOX (cutbox-rows.mjs): the forced cells as the released guide's own fill.sh prints them over the translation 8bc9db69d5de8d40… (all of the seat's roots in one cut). By AI agents, Wed Nov 11 2026. No macro, syntax, notation, axiom, sorry.
-/
import Derived.Test.Qxb6001480aChecked
import GoSem.Claim
import GoSem.ClaimJoined
import GoSem.ClaimMapViews
import Derived.JoinedTies
import Derived.KernelRfl
namespace Go.Proofs.Qxb6001480a
/- THE CELL 'sum', in the pinned program and in every row, IS THE sha256 OF THE DUMP (.gsa) THAT Qxb6001480aProg.lean LOADS. Nothing in Lean hashes anything: it is a label: what it is worth is what the hold of that sum in a sandbox is worth. -/
noncomputable def Try.pinned : Pinned := { name := "qxb6001480a", sum := "8bc9db69d5de8d4025336b87bd89e8063127980a6024527375ab3e30e68778b5", checked := Try.checked }
namespace Rows
def none {H : Type} : Left H := { results := [], args := [] }

/-- 'zzlaws_internal_policy_b1.FnSizeAdditiveAcrossASCIIByte': WHATEVER THE INPUT: true; the input reads as it did. -/
def fnSizeAdditiveAcrossASCIIByteSpec : ChangeSpec := { name := "fnSizeAdditiveAcrossASCIIByte", fn := fun _ => fun
  | [d1, d2, d3] => { results := [.lit (.bool true)], args := [d1, d2, d3] }
  | _ => none }
def fnSizeAdditiveAcrossASCIIByteRow : OpenClaim := { program := "qxb6001480a", sum := "8bc9db69d5de8d4025336b87bd89e8063127980a6024527375ab3e30e68778b5", func := "example.com/portunus/portunus/zzlaws_internal_policy_b1.FnSizeAdditiveAcrossASCIIByte", spec := "fnSizeAdditiveAcrossASCIIByte", inPlace := ["internal/bytealg.IndexByteString", "internal/bytealg.IndexString"], named := ["internal/bytealg.MaxLen"], apart := false }
def FnSizeAdditiveAcrossASCIIByteSaid : Prop := fnSizeAdditiveAcrossASCIIByteRow.holds Try.pinned (OpenSpec.ofChange fnSizeAdditiveAcrossASCIIByteSpec)

/-- ITS FALSE NEIGHBOUR: 'it returns false'. Refute it at one input. -/
def fnSizeAdditiveAcrossASCIIByteWrong : ChangeSpec := { name := "fnSizeAdditiveAcrossASCIIByte", fn := fun _ => fun
  | [d1, d2, d3] => { results := [.lit (.bool false)], args := [d1, d2, d3] }
  | _ => none }
def FnSizeAdditiveAcrossASCIIByteWrongFalsely : Prop := fnSizeAdditiveAcrossASCIIByteRow.holds Try.pinned (OpenSpec.ofChange fnSizeAdditiveAcrossASCIIByteWrong)

/-- 'zzlaws_internal_policy_b1.FnSizeBetweenQuarterAndAllOfNonSpaceBytes': WHATEVER THE INPUT: true; the input reads as it did. -/
def fnSizeBetweenQuarterAndAllOfNonSpaceBytesSpec : ChangeSpec := { name := "fnSizeBetweenQuarterAndAllOfNonSpaceBytes", fn := fun _ => fun
  | [d] => { results := [.lit (.bool true)], args := [d] }
  | _ => none }
def fnSizeBetweenQuarterAndAllOfNonSpaceBytesRow : OpenClaim := { program := "qxb6001480a", sum := "8bc9db69d5de8d4025336b87bd89e8063127980a6024527375ab3e30e68778b5", func := "example.com/portunus/portunus/zzlaws_internal_policy_b1.FnSizeBetweenQuarterAndAllOfNonSpaceBytes", spec := "fnSizeBetweenQuarterAndAllOfNonSpaceBytes", inPlace := ["internal/bytealg.IndexByteString", "internal/bytealg.IndexString"], named := ["internal/bytealg.MaxLen"], apart := false }
def FnSizeBetweenQuarterAndAllOfNonSpaceBytesSaid : Prop := fnSizeBetweenQuarterAndAllOfNonSpaceBytesRow.holds Try.pinned (OpenSpec.ofChange fnSizeBetweenQuarterAndAllOfNonSpaceBytesSpec)

/-- ITS FALSE NEIGHBOUR: 'it returns false'. Refute it at one input. -/
def fnSizeBetweenQuarterAndAllOfNonSpaceBytesWrong : ChangeSpec := { name := "fnSizeBetweenQuarterAndAllOfNonSpaceBytes", fn := fun _ => fun
  | [d] => { results := [.lit (.bool false)], args := [d] }
  | _ => none }
def FnSizeBetweenQuarterAndAllOfNonSpaceBytesWrongFalsely : Prop := fnSizeBetweenQuarterAndAllOfNonSpaceBytesRow.holds Try.pinned (OpenSpec.ofChange fnSizeBetweenQuarterAndAllOfNonSpaceBytesWrong)

end Rows
end Go.Proofs.Qxb6001480a
