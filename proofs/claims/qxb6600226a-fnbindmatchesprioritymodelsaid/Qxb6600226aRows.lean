/-
  No cell of these rows narrows 'for every input' (looked for: loops, veiled, ifaces, maps, wideKeys, modest, calm, conditions, laid).
  DERIVED. THE GIVEN ROWS OF THIS SEAT. 7 by the template 'for every input the law returns true; each argument reads behind the call as it read before'; 0 by the template 'total and deterministic' (their statements: Qxb6600226aTotals.lean).
  GIVEN WITH THE SEED: the statements are not yours to turn. If you find one false, say at which input.
  Laid BY PROGRAM, IN A SANDBOX (cutbox-rows.mjs): the forced cells as the released guide's own fill.sh prints them over the translation 58e574c973b7574e… (all of the seat's roots in one cut). By AI agents, Wed Nov 11 2026. No macro, syntax, notation, axiom, sorry.
-/
import Derived.Test.Qxb6600226aChecked
import GoSem.Claim
import GoSem.ClaimJoined
import GoSem.ClaimMapViews
import Derived.JoinedTies
import Derived.KernelRfl
namespace Go.Proofs.Qxb6600226a
/- THE CELL 'sum', in the pinned program and in every row, IS THE sha256 OF THE DUMP (.gsa) THAT Qxb6600226aProg.lean LOADS. Nothing in Lean hashes anything: it is a label: what it is worth is what the hold of that sum in a sandbox is worth. -/
noncomputable def Try.pinned : Pinned := { name := "qxb6600226a", sum := "58e574c973b7574e3698c6aed633391a6a4b0c90f62b7eab2d03d6080f12559e", checked := Try.checked }
namespace Rows
def none {H : Type} : Left H := { results := [], args := [] }

/-- 'zzlaws_internal_chorefile_b1.FnIsChoreNamePrefixClosed': WHATEVER THE INPUT: true; the input reads as it did. -/
def fnIsChoreNamePrefixClosedSpec : ChangeSpec := { name := "fnIsChoreNamePrefixClosed", fn := fun _ => fun
  | [d1, d2] => { results := [.lit (.bool true)], args := [d1, d2] }
  | _ => none }
def fnIsChoreNamePrefixClosedRow : OpenClaim := { program := "qxb6600226a", sum := "58e574c973b7574e3698c6aed633391a6a4b0c90f62b7eab2d03d6080f12559e", func := "example.com/chorewright/chorewright/zzlaws_internal_chorefile_b1.FnIsChoreNamePrefixClosed", spec := "fnIsChoreNamePrefixClosed", apart := false }
def FnIsChoreNamePrefixClosedSaid : Prop := fnIsChoreNamePrefixClosedRow.holds Try.pinned (OpenSpec.ofChange fnIsChoreNamePrefixClosedSpec)

/-- ITS FALSE NEIGHBOUR: 'it returns false'. Refute it at one input. -/
def fnIsChoreNamePrefixClosedWrong : ChangeSpec := { name := "fnIsChoreNamePrefixClosed", fn := fun _ => fun
  | [d1, d2] => { results := [.lit (.bool false)], args := [d1, d2] }
  | _ => none }
def FnIsChoreNamePrefixClosedWrongFalsely : Prop := fnIsChoreNamePrefixClosedRow.holds Try.pinned (OpenSpec.ofChange fnIsChoreNamePrefixClosedWrong)

/-- 'zzlaws_internal_chorefile_b1.FnIsChoreNameJoinsAndRefusals': WHATEVER THE INPUT: true; the input reads as it did. -/
def fnIsChoreNameJoinsAndRefusalsSpec : ChangeSpec := { name := "fnIsChoreNameJoinsAndRefusals", fn := fun _ => fun
  | [d1, d2] => { results := [.lit (.bool true)], args := [d1, d2] }
  | _ => none }
def fnIsChoreNameJoinsAndRefusalsRow : OpenClaim := { program := "qxb6600226a", sum := "58e574c973b7574e3698c6aed633391a6a4b0c90f62b7eab2d03d6080f12559e", func := "example.com/chorewright/chorewright/zzlaws_internal_chorefile_b1.FnIsChoreNameJoinsAndRefusals", spec := "fnIsChoreNameJoinsAndRefusals", apart := false }
def FnIsChoreNameJoinsAndRefusalsSaid : Prop := fnIsChoreNameJoinsAndRefusalsRow.holds Try.pinned (OpenSpec.ofChange fnIsChoreNameJoinsAndRefusalsSpec)

/-- ITS FALSE NEIGHBOUR: 'it returns false'. Refute it at one input. -/
def fnIsChoreNameJoinsAndRefusalsWrong : ChangeSpec := { name := "fnIsChoreNameJoinsAndRefusals", fn := fun _ => fun
  | [d1, d2] => { results := [.lit (.bool false)], args := [d1, d2] }
  | _ => none }
def FnIsChoreNameJoinsAndRefusalsWrongFalsely : Prop := fnIsChoreNameJoinsAndRefusalsRow.holds Try.pinned (OpenSpec.ofChange fnIsChoreNameJoinsAndRefusalsWrong)

/-- 'zzlaws_internal_chorefile_b1.FnBindMatchesPriorityModel': WHATEVER THE INPUT: true; the input reads as it did. -/
def fnBindMatchesPriorityModelSpec : ChangeSpec := { name := "fnBindMatchesPriorityModel", fn := fun _ => fun
  | [d1, d2, d3, d4, d5, d6] => { results := [.lit (.bool true)], args := [d1, d2, d3, d4, d5, d6] }
  | _ => none }
def fnBindMatchesPriorityModelRow : OpenClaim := { program := "qxb6600226a", sum := "58e574c973b7574e3698c6aed633391a6a4b0c90f62b7eab2d03d6080f12559e", func := "example.com/chorewright/chorewright/zzlaws_internal_chorefile_b1.FnBindMatchesPriorityModel", spec := "fnBindMatchesPriorityModel", apart := false }
def FnBindMatchesPriorityModelSaid : Prop := fnBindMatchesPriorityModelRow.holds Try.pinned (OpenSpec.ofChange fnBindMatchesPriorityModelSpec)

/-- ITS FALSE NEIGHBOUR: 'it returns false'. Refute it at one input. -/
def fnBindMatchesPriorityModelWrong : ChangeSpec := { name := "fnBindMatchesPriorityModel", fn := fun _ => fun
  | [d1, d2, d3, d4, d5, d6] => { results := [.lit (.bool false)], args := [d1, d2, d3, d4, d5, d6] }
  | _ => none }
def FnBindMatchesPriorityModelWrongFalsely : Prop := fnBindMatchesPriorityModelRow.holds Try.pinned (OpenSpec.ofChange fnBindMatchesPriorityModelWrong)

/-- 'zzlaws_internal_chorefile_b1.FnBindOverridesActOnlyByLastEntryPerArgument': WHATEVER THE INPUT: true; the input reads as it did. -/
def fnBindOverridesActOnlyByLastEntryPerArgumentSpec : ChangeSpec := { name := "fnBindOverridesActOnlyByLastEntryPerArgument", fn := fun _ => fun
  | [d1, d2, d3, d4, d5, d6, d7, d8] => { results := [.lit (.bool true)], args := [d1, d2, d3, d4, d5, d6, d7, d8] }
  | _ => none }
def fnBindOverridesActOnlyByLastEntryPerArgumentRow : OpenClaim := { program := "qxb6600226a", sum := "58e574c973b7574e3698c6aed633391a6a4b0c90f62b7eab2d03d6080f12559e", func := "example.com/chorewright/chorewright/zzlaws_internal_chorefile_b1.FnBindOverridesActOnlyByLastEntryPerArgument", spec := "fnBindOverridesActOnlyByLastEntryPerArgument", apart := false }
def FnBindOverridesActOnlyByLastEntryPerArgumentSaid : Prop := fnBindOverridesActOnlyByLastEntryPerArgumentRow.holds Try.pinned (OpenSpec.ofChange fnBindOverridesActOnlyByLastEntryPerArgumentSpec)

/-- ITS FALSE NEIGHBOUR: 'it returns false'. Refute it at one input. -/
def fnBindOverridesActOnlyByLastEntryPerArgumentWrong : ChangeSpec := { name := "fnBindOverridesActOnlyByLastEntryPerArgument", fn := fun _ => fun
  | [d1, d2, d3, d4, d5, d6, d7, d8] => { results := [.lit (.bool false)], args := [d1, d2, d3, d4, d5, d6, d7, d8] }
  | _ => none }
def FnBindOverridesActOnlyByLastEntryPerArgumentWrongFalsely : Prop := fnBindOverridesActOnlyByLastEntryPerArgumentRow.holds Try.pinned (OpenSpec.ofChange fnBindOverridesActOnlyByLastEntryPerArgumentWrong)

/-- 'zzlaws_internal_chorefile_b1.FnNewEnvironMatchesLastWinsModel': WHATEVER THE INPUT: true; the input reads as it did. -/
def fnNewEnvironMatchesLastWinsModelSpec : ChangeSpec := { name := "fnNewEnvironMatchesLastWinsModel", fn := fun _ => fun
  | [d] => { results := [.lit (.bool true)], args := [d] }
  | _ => none }
def fnNewEnvironMatchesLastWinsModelRow : OpenClaim := { program := "qxb6600226a", sum := "58e574c973b7574e3698c6aed633391a6a4b0c90f62b7eab2d03d6080f12559e", func := "example.com/chorewright/chorewright/zzlaws_internal_chorefile_b1.FnNewEnvironMatchesLastWinsModel", spec := "fnNewEnvironMatchesLastWinsModel", inPlace := ["internal/bytealg.IndexByteString", "internal/bytealg.IndexString"], named := ["internal/bytealg.MaxLen"], apart := false }
def FnNewEnvironMatchesLastWinsModelSaid : Prop := fnNewEnvironMatchesLastWinsModelRow.holds Try.pinned (OpenSpec.ofChange fnNewEnvironMatchesLastWinsModelSpec)

/-- ITS FALSE NEIGHBOUR: 'it returns false'. Refute it at one input. -/
def fnNewEnvironMatchesLastWinsModelWrong : ChangeSpec := { name := "fnNewEnvironMatchesLastWinsModel", fn := fun _ => fun
  | [d] => { results := [.lit (.bool false)], args := [d] }
  | _ => none }
def FnNewEnvironMatchesLastWinsModelWrongFalsely : Prop := fnNewEnvironMatchesLastWinsModelRow.holds Try.pinned (OpenSpec.ofChange fnNewEnvironMatchesLastWinsModelWrong)

/-- 'zzlaws_internal_chorefile_b1.FnNewEnvironIdempotent': WHATEVER THE INPUT: true; the input reads as it did. -/
def fnNewEnvironIdempotentSpec : ChangeSpec := { name := "fnNewEnvironIdempotent", fn := fun _ => fun
  | [d] => { results := [.lit (.bool true)], args := [d] }
  | _ => none }
def fnNewEnvironIdempotentRow : OpenClaim := { program := "qxb6600226a", sum := "58e574c973b7574e3698c6aed633391a6a4b0c90f62b7eab2d03d6080f12559e", func := "example.com/chorewright/chorewright/zzlaws_internal_chorefile_b1.FnNewEnvironIdempotent", spec := "fnNewEnvironIdempotent", inPlace := ["internal/bytealg.IndexByteString", "internal/bytealg.IndexString"], named := ["internal/bytealg.MaxLen"], apart := false }
def FnNewEnvironIdempotentSaid : Prop := fnNewEnvironIdempotentRow.holds Try.pinned (OpenSpec.ofChange fnNewEnvironIdempotentSpec)

/-- ITS FALSE NEIGHBOUR: 'it returns false'. Refute it at one input. -/
def fnNewEnvironIdempotentWrong : ChangeSpec := { name := "fnNewEnvironIdempotent", fn := fun _ => fun
  | [d] => { results := [.lit (.bool false)], args := [d] }
  | _ => none }
def FnNewEnvironIdempotentWrongFalsely : Prop := fnNewEnvironIdempotentRow.holds Try.pinned (OpenSpec.ofChange fnNewEnvironIdempotentWrong)

/-- 'zzlaws_internal_chorefile_b1.FnNewEnvironFoldsOverConcatenation': WHATEVER THE INPUT: true; the input reads as it did. -/
def fnNewEnvironFoldsOverConcatenationSpec : ChangeSpec := { name := "fnNewEnvironFoldsOverConcatenation", fn := fun _ => fun
  | [d1, d2] => { results := [.lit (.bool true)], args := [d1, d2] }
  | _ => none }
def fnNewEnvironFoldsOverConcatenationRow : OpenClaim := { program := "qxb6600226a", sum := "58e574c973b7574e3698c6aed633391a6a4b0c90f62b7eab2d03d6080f12559e", func := "example.com/chorewright/chorewright/zzlaws_internal_chorefile_b1.FnNewEnvironFoldsOverConcatenation", spec := "fnNewEnvironFoldsOverConcatenation", inPlace := ["internal/bytealg.IndexByteString", "internal/bytealg.IndexString"], named := ["internal/bytealg.MaxLen"], apart := false }
def FnNewEnvironFoldsOverConcatenationSaid : Prop := fnNewEnvironFoldsOverConcatenationRow.holds Try.pinned (OpenSpec.ofChange fnNewEnvironFoldsOverConcatenationSpec)

/-- ITS FALSE NEIGHBOUR: 'it returns false'. Refute it at one input. -/
def fnNewEnvironFoldsOverConcatenationWrong : ChangeSpec := { name := "fnNewEnvironFoldsOverConcatenation", fn := fun _ => fun
  | [d1, d2] => { results := [.lit (.bool false)], args := [d1, d2] }
  | _ => none }
def FnNewEnvironFoldsOverConcatenationWrongFalsely : Prop := fnNewEnvironFoldsOverConcatenationRow.holds Try.pinned (OpenSpec.ofChange fnNewEnvironFoldsOverConcatenationWrong)

end Rows
end Go.Proofs.Qxb6600226a
