/-
  No cell of these rows narrows 'for every input' (looked for: loops, veiled, ifaces, maps, wideKeys, modest, calm, conditions, laid).
  DERIVED. THE GIVEN ROWS OF THIS SEAT. 6 by the template 'for every input the law returns true; each argument reads behind the call as it read before'; 0 by the template 'total and deterministic' (their statements: Qxb6001160aTotals.lean).
  GIVEN WITH THE SEED: the statements are not yours to turn. If you find one false, say at which input.
  Laid BY PROGRAM, IN A SANDBOX (cutbox-rows.mjs): the forced cells as the released guide's own fill.sh prints them over the translation d4262cf2ed6a8e69… (all of the seat's roots in one cut). By AI agents, Wed Nov 11 2026. No macro, syntax, notation, axiom, sorry.
-/
import Derived.Test.Qxb6001160aChecked
import GoSem.Claim
import GoSem.ClaimJoined
import GoSem.ClaimMapViews
import Derived.JoinedTies
import Derived.KernelRfl
namespace Go.Proofs.Qxb6001160a
/- THE CELL 'sum', in the pinned program and in every row, IS THE sha256 OF THE DUMP (.gsa) THAT Qxb6001160aProg.lean LOADS. Nothing in Lean hashes anything: it is a label: what it is worth is what the hold of that sum in a sandbox is worth. -/
noncomputable def Try.pinned : Pinned := { name := "qxb6001160a", sum := "d4262cf2ed6a8e69c827ce9c28d44eb3041ccf2ac4722f1724f60743bfd41f49", checked := Try.checked }
namespace Rows
def none {H : Type} : Left H := { results := [], args := [] }

/-- 'zzlaws_git_b1.FnBoundaryReadClosedLeavesParentsBefore': WHATEVER THE INPUT: true; the input reads as it did. -/
def fnBoundaryReadClosedLeavesParentsBeforeSpec : ChangeSpec := { name := "fnBoundaryReadClosedLeavesParentsBefore", fn := fun _ => fun
  | [d1, d2, d3, d4, d5, d6, d7, d8, d9] => { results := [.lit (.bool true)], args := [d1, d2, d3, d4, d5, d6, d7, d8, d9] }
  | _ => none }
def fnBoundaryReadClosedLeavesParentsBeforeRow : OpenClaim := { program := "qxb6001160a", sum := "d4262cf2ed6a8e69c827ce9c28d44eb3041ccf2ac4722f1724f60743bfd41f49", func := "example.com/waymark/waymark/zzlaws_git_b1.FnBoundaryReadClosedLeavesParentsBefore", spec := "fnBoundaryReadClosedLeavesParentsBefore", unfollowed := true, recurses := true, apart := false }
def FnBoundaryReadClosedLeavesParentsBeforeSaid : Prop := fnBoundaryReadClosedLeavesParentsBeforeRow.holds Try.pinned (OpenSpec.ofChange fnBoundaryReadClosedLeavesParentsBeforeSpec)

/-- ITS FALSE NEIGHBOUR: 'it returns false'. Refute it at one input. -/
def fnBoundaryReadClosedLeavesParentsBeforeWrong : ChangeSpec := { name := "fnBoundaryReadClosedLeavesParentsBefore", fn := fun _ => fun
  | [d1, d2, d3, d4, d5, d6, d7, d8, d9] => { results := [.lit (.bool false)], args := [d1, d2, d3, d4, d5, d6, d7, d8, d9] }
  | _ => none }
def FnBoundaryReadClosedLeavesParentsBeforeWrongFalsely : Prop := fnBoundaryReadClosedLeavesParentsBeforeRow.holds Try.pinned (OpenSpec.ofChange fnBoundaryReadClosedLeavesParentsBeforeWrong)

/-- 'zzlaws_git_b1.FnBoundaryReadOpenedAccountsForEveryParent': WHATEVER THE INPUT: true; the input reads as it did. -/
def fnBoundaryReadOpenedAccountsForEveryParentSpec : ChangeSpec := { name := "fnBoundaryReadOpenedAccountsForEveryParent", fn := fun _ => fun
  | [d1, d2, d3, d4, d5, d6, d7, d8, d9] => { results := [.lit (.bool true)], args := [d1, d2, d3, d4, d5, d6, d7, d8, d9] }
  | _ => none }
def fnBoundaryReadOpenedAccountsForEveryParentRow : OpenClaim := { program := "qxb6001160a", sum := "d4262cf2ed6a8e69c827ce9c28d44eb3041ccf2ac4722f1724f60743bfd41f49", func := "example.com/waymark/waymark/zzlaws_git_b1.FnBoundaryReadOpenedAccountsForEveryParent", spec := "fnBoundaryReadOpenedAccountsForEveryParent", unfollowed := true, recurses := true, apart := false }
def FnBoundaryReadOpenedAccountsForEveryParentSaid : Prop := fnBoundaryReadOpenedAccountsForEveryParentRow.holds Try.pinned (OpenSpec.ofChange fnBoundaryReadOpenedAccountsForEveryParentSpec)

/-- ITS FALSE NEIGHBOUR: 'it returns false'. Refute it at one input. -/
def fnBoundaryReadOpenedAccountsForEveryParentWrong : ChangeSpec := { name := "fnBoundaryReadOpenedAccountsForEveryParent", fn := fun _ => fun
  | [d1, d2, d3, d4, d5, d6, d7, d8, d9] => { results := [.lit (.bool false)], args := [d1, d2, d3, d4, d5, d6, d7, d8, d9] }
  | _ => none }
def FnBoundaryReadOpenedAccountsForEveryParentWrongFalsely : Prop := fnBoundaryReadOpenedAccountsForEveryParentRow.holds Try.pinned (OpenSpec.ofChange fnBoundaryReadOpenedAccountsForEveryParentWrong)

/-- 'zzlaws_git_b1.FnBoundaryReadTwiceIsReadOnce': WHATEVER THE INPUT: true; the input reads as it did. -/
def fnBoundaryReadTwiceIsReadOnceSpec : ChangeSpec := { name := "fnBoundaryReadTwiceIsReadOnce", fn := fun _ => fun
  | [d1, d2, d3, d4, d5, d6, d7, d8, d9] => { results := [.lit (.bool true)], args := [d1, d2, d3, d4, d5, d6, d7, d8, d9] }
  | _ => none }
def fnBoundaryReadTwiceIsReadOnceRow : OpenClaim := { program := "qxb6001160a", sum := "d4262cf2ed6a8e69c827ce9c28d44eb3041ccf2ac4722f1724f60743bfd41f49", func := "example.com/waymark/waymark/zzlaws_git_b1.FnBoundaryReadTwiceIsReadOnce", spec := "fnBoundaryReadTwiceIsReadOnce", unfollowed := true, recurses := true, apart := false }
def FnBoundaryReadTwiceIsReadOnceSaid : Prop := fnBoundaryReadTwiceIsReadOnceRow.holds Try.pinned (OpenSpec.ofChange fnBoundaryReadTwiceIsReadOnceSpec)

/-- ITS FALSE NEIGHBOUR: 'it returns false'. Refute it at one input. -/
def fnBoundaryReadTwiceIsReadOnceWrong : ChangeSpec := { name := "fnBoundaryReadTwiceIsReadOnce", fn := fun _ => fun
  | [d1, d2, d3, d4, d5, d6, d7, d8, d9] => { results := [.lit (.bool false)], args := [d1, d2, d3, d4, d5, d6, d7, d8, d9] }
  | _ => none }
def FnBoundaryReadTwiceIsReadOnceWrongFalsely : Prop := fnBoundaryReadTwiceIsReadOnceRow.holds Try.pinned (OpenSpec.ofChange fnBoundaryReadTwiceIsReadOnceWrong)

/-- 'zzlaws_git_b1.FnEnglishMessagesRefusesMessageSettings': WHATEVER THE INPUT: true; the input reads as it did. -/
def fnEnglishMessagesRefusesMessageSettingsSpec : ChangeSpec := { name := "fnEnglishMessagesRefusesMessageSettings", fn := fun _ => fun
  | [d] => { results := [.lit (.bool true)], args := [d] }
  | _ => none }
def fnEnglishMessagesRefusesMessageSettingsRow : OpenClaim := { program := "qxb6001160a", sum := "d4262cf2ed6a8e69c827ce9c28d44eb3041ccf2ac4722f1724f60743bfd41f49", func := "example.com/waymark/waymark/zzlaws_git_b1.FnEnglishMessagesRefusesMessageSettings", spec := "fnEnglishMessagesRefusesMessageSettings", inPlace := ["internal/bytealg.IndexByteString", "internal/bytealg.IndexString"], unfollowed := true, recurses := true, named := ["internal/bytealg.MaxLen"], apart := false }
def FnEnglishMessagesRefusesMessageSettingsSaid : Prop := fnEnglishMessagesRefusesMessageSettingsRow.holds Try.pinned (OpenSpec.ofChange fnEnglishMessagesRefusesMessageSettingsSpec)

/-- ITS FALSE NEIGHBOUR: 'it returns false'. Refute it at one input. -/
def fnEnglishMessagesRefusesMessageSettingsWrong : ChangeSpec := { name := "fnEnglishMessagesRefusesMessageSettings", fn := fun _ => fun
  | [d] => { results := [.lit (.bool false)], args := [d] }
  | _ => none }
def FnEnglishMessagesRefusesMessageSettingsWrongFalsely : Prop := fnEnglishMessagesRefusesMessageSettingsRow.holds Try.pinned (OpenSpec.ofChange fnEnglishMessagesRefusesMessageSettingsWrong)

/-- 'zzlaws_git_b1.FnEnglishMessagesIsIdempotent': WHATEVER THE INPUT: true; the input reads as it did. -/
def fnEnglishMessagesIsIdempotentSpec : ChangeSpec := { name := "fnEnglishMessagesIsIdempotent", fn := fun _ => fun
  | [d] => { results := [.lit (.bool true)], args := [d] }
  | _ => none }
def fnEnglishMessagesIsIdempotentRow : OpenClaim := { program := "qxb6001160a", sum := "d4262cf2ed6a8e69c827ce9c28d44eb3041ccf2ac4722f1724f60743bfd41f49", func := "example.com/waymark/waymark/zzlaws_git_b1.FnEnglishMessagesIsIdempotent", spec := "fnEnglishMessagesIsIdempotent", inPlace := ["internal/bytealg.IndexByteString", "internal/bytealg.IndexString"], unfollowed := true, recurses := true, named := ["internal/bytealg.MaxLen"], apart := false }
def FnEnglishMessagesIsIdempotentSaid : Prop := fnEnglishMessagesIsIdempotentRow.holds Try.pinned (OpenSpec.ofChange fnEnglishMessagesIsIdempotentSpec)

/-- ITS FALSE NEIGHBOUR: 'it returns false'. Refute it at one input. -/
def fnEnglishMessagesIsIdempotentWrong : ChangeSpec := { name := "fnEnglishMessagesIsIdempotent", fn := fun _ => fun
  | [d] => { results := [.lit (.bool false)], args := [d] }
  | _ => none }
def FnEnglishMessagesIsIdempotentWrongFalsely : Prop := fnEnglishMessagesIsIdempotentRow.holds Try.pinned (OpenSpec.ofChange fnEnglishMessagesIsIdempotentWrong)

/-- 'zzlaws_git_b1.FnEnglishMessagesKeepsEveryOtherSetting': WHATEVER THE INPUT: true; the input reads as it did. -/
def fnEnglishMessagesKeepsEveryOtherSettingSpec : ChangeSpec := { name := "fnEnglishMessagesKeepsEveryOtherSetting", fn := fun _ => fun
  | [d1, d2, d3] => { results := [.lit (.bool true)], args := [d1, d2, d3] }
  | _ => none }
def fnEnglishMessagesKeepsEveryOtherSettingRow : OpenClaim := { program := "qxb6001160a", sum := "d4262cf2ed6a8e69c827ce9c28d44eb3041ccf2ac4722f1724f60743bfd41f49", func := "example.com/waymark/waymark/zzlaws_git_b1.FnEnglishMessagesKeepsEveryOtherSetting", spec := "fnEnglishMessagesKeepsEveryOtherSetting", inPlace := ["internal/bytealg.IndexByteString", "internal/bytealg.IndexString"], unfollowed := true, recurses := true, named := ["internal/bytealg.MaxLen"], apart := false }
def FnEnglishMessagesKeepsEveryOtherSettingSaid : Prop := fnEnglishMessagesKeepsEveryOtherSettingRow.holds Try.pinned (OpenSpec.ofChange fnEnglishMessagesKeepsEveryOtherSettingSpec)

/-- ITS FALSE NEIGHBOUR: 'it returns false'. Refute it at one input. -/
def fnEnglishMessagesKeepsEveryOtherSettingWrong : ChangeSpec := { name := "fnEnglishMessagesKeepsEveryOtherSetting", fn := fun _ => fun
  | [d1, d2, d3] => { results := [.lit (.bool false)], args := [d1, d2, d3] }
  | _ => none }
def FnEnglishMessagesKeepsEveryOtherSettingWrongFalsely : Prop := fnEnglishMessagesKeepsEveryOtherSettingRow.holds Try.pinned (OpenSpec.ofChange fnEnglishMessagesKeepsEveryOtherSettingWrong)

end Rows
end Go.Proofs.Qxb6001160a
