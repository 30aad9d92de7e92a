/-
  No cell of these rows narrows 'for every input' (looked for: loops, veiled, ifaces, maps, wideKeys, modest, calm, conditions, laid).
  DERIVED. THE GIVEN ROWS OF THIS SEAT. 8 by the template 'for every input the law returns true; each argument reads behind the call as it read before'; 0 by the template 'total and deterministic' (their statements: Qxb6000427aTotals.lean).
  GIVEN WITH THE SEED: the statements are not yours to turn. If you find one false, say at which input.
  Laid BY PROGRAM, IN A SANDBOX (cutbox-rows.mjs): the forced cells as the released guide's own fill.sh prints them over the translation 240061e94cf401dc… (all of the seat's roots in one cut). By AI agents, Wed Nov 11 2026. No macro, syntax, notation, axiom, sorry.
-/
import Derived.Test.Qxb6000427aChecked
import GoSem.Claim
import GoSem.ClaimJoined
import GoSem.ClaimMapViews
import Derived.JoinedTies
import Derived.KernelRfl
namespace Go.Proofs.Qxb6000427a
/- THE CELL 'sum', in the pinned program and in every row, IS THE sha256 OF THE DUMP (.gsa) THAT Qxb6000427aProg.lean LOADS. Nothing in Lean hashes anything: it is a label: what it is worth is what the hold of that sum in a sandbox is worth. -/
noncomputable def Try.pinned : Pinned := { name := "qxb6000427a", sum := "240061e94cf401dc46c48104eb5bd461147000d666077e35b59eb1c602c55d84", checked := Try.checked }
namespace Rows
def none {H : Type} : Left H := { results := [], args := [] }

/-- 'zzlaws_internal_analysis_b1.FnStrictnessMatchesDefinition': WHATEVER THE INPUT: true; the input reads as it did. -/
def fnStrictnessMatchesDefinitionSpec : ChangeSpec := { name := "fnStrictnessMatchesDefinition", fn := fun _ => fun
  | [d1, d2, d3] => { results := [.lit (.bool true)], args := [d1, d2, d3] }
  | _ => none }
def fnStrictnessMatchesDefinitionRow : OpenClaim := { program := "qxb6000427a", sum := "240061e94cf401dc46c48104eb5bd461147000d666077e35b59eb1c602c55d84", func := "example.com/ferrolho/ferrolho/zzlaws_internal_analysis_b1.FnStrictnessMatchesDefinition", spec := "fnStrictnessMatchesDefinition", apart := false }
def FnStrictnessMatchesDefinitionSaid : Prop := fnStrictnessMatchesDefinitionRow.holds Try.pinned (OpenSpec.ofChange fnStrictnessMatchesDefinitionSpec)

/-- ITS FALSE NEIGHBOUR: 'it returns false'. Refute it at one input. -/
def fnStrictnessMatchesDefinitionWrong : ChangeSpec := { name := "fnStrictnessMatchesDefinition", fn := fun _ => fun
  | [d1, d2, d3] => { results := [.lit (.bool false)], args := [d1, d2, d3] }
  | _ => none }
def FnStrictnessMatchesDefinitionWrongFalsely : Prop := fnStrictnessMatchesDefinitionRow.holds Try.pinned (OpenSpec.ofChange fnStrictnessMatchesDefinitionWrong)

/-- 'zzlaws_internal_analysis_b1.FnPrefixKeepsVerdicts': WHATEVER THE INPUT: true; the input reads as it did. -/
def fnPrefixKeepsVerdictsSpec : ChangeSpec := { name := "fnPrefixKeepsVerdicts", fn := fun _ => fun
  | [d1, d2, d3, d4] => { results := [.lit (.bool true)], args := [d1, d2, d3, d4] }
  | _ => none }
def fnPrefixKeepsVerdictsRow : OpenClaim := { program := "qxb6000427a", sum := "240061e94cf401dc46c48104eb5bd461147000d666077e35b59eb1c602c55d84", func := "example.com/ferrolho/ferrolho/zzlaws_internal_analysis_b1.FnPrefixKeepsVerdicts", spec := "fnPrefixKeepsVerdicts", apart := false }
def FnPrefixKeepsVerdictsSaid : Prop := fnPrefixKeepsVerdictsRow.holds Try.pinned (OpenSpec.ofChange fnPrefixKeepsVerdictsSpec)

/-- ITS FALSE NEIGHBOUR: 'it returns false'. Refute it at one input. -/
def fnPrefixKeepsVerdictsWrong : ChangeSpec := { name := "fnPrefixKeepsVerdicts", fn := fun _ => fun
  | [d1, d2, d3, d4] => { results := [.lit (.bool false)], args := [d1, d2, d3, d4] }
  | _ => none }
def FnPrefixKeepsVerdictsWrongFalsely : Prop := fnPrefixKeepsVerdictsRow.holds Try.pinned (OpenSpec.ofChange fnPrefixKeepsVerdictsWrong)

/-- 'zzlaws_internal_analysis_b1.FnStrictHistoryIsCascadeless': WHATEVER THE INPUT: true; the input reads as it did. -/
def fnStrictHistoryIsCascadelessSpec : ChangeSpec := { name := "fnStrictHistoryIsCascadeless", fn := fun _ => fun
  | [d1, d2, d3] => { results := [.lit (.bool true)], args := [d1, d2, d3] }
  | _ => none }
def fnStrictHistoryIsCascadelessRow : OpenClaim := { program := "qxb6000427a", sum := "240061e94cf401dc46c48104eb5bd461147000d666077e35b59eb1c602c55d84", func := "example.com/ferrolho/ferrolho/zzlaws_internal_analysis_b1.FnStrictHistoryIsCascadeless", spec := "fnStrictHistoryIsCascadeless", apart := false }
def FnStrictHistoryIsCascadelessSaid : Prop := fnStrictHistoryIsCascadelessRow.holds Try.pinned (OpenSpec.ofChange fnStrictHistoryIsCascadelessSpec)

/-- ITS FALSE NEIGHBOUR: 'it returns false'. Refute it at one input. -/
def fnStrictHistoryIsCascadelessWrong : ChangeSpec := { name := "fnStrictHistoryIsCascadeless", fn := fun _ => fun
  | [d1, d2, d3] => { results := [.lit (.bool false)], args := [d1, d2, d3] }
  | _ => none }
def FnStrictHistoryIsCascadelessWrongFalsely : Prop := fnStrictHistoryIsCascadelessRow.holds Try.pinned (OpenSpec.ofChange fnStrictHistoryIsCascadelessWrong)

/-- 'zzlaws_internal_analysis_b1.FnRecoverabilityMatchesDefinition': WHATEVER THE INPUT: true; the input reads as it did. -/
def fnRecoverabilityMatchesDefinitionSpec : ChangeSpec := { name := "fnRecoverabilityMatchesDefinition", fn := fun _ => fun
  | [d1, d2, d3] => { results := [.lit (.bool true)], args := [d1, d2, d3] }
  | _ => none }
def fnRecoverabilityMatchesDefinitionRow : OpenClaim := { program := "qxb6000427a", sum := "240061e94cf401dc46c48104eb5bd461147000d666077e35b59eb1c602c55d84", func := "example.com/ferrolho/ferrolho/zzlaws_internal_analysis_b1.FnRecoverabilityMatchesDefinition", spec := "fnRecoverabilityMatchesDefinition", apart := false }
def FnRecoverabilityMatchesDefinitionSaid : Prop := fnRecoverabilityMatchesDefinitionRow.holds Try.pinned (OpenSpec.ofChange fnRecoverabilityMatchesDefinitionSpec)

/-- ITS FALSE NEIGHBOUR: 'it returns false'. Refute it at one input. -/
def fnRecoverabilityMatchesDefinitionWrong : ChangeSpec := { name := "fnRecoverabilityMatchesDefinition", fn := fun _ => fun
  | [d1, d2, d3] => { results := [.lit (.bool false)], args := [d1, d2, d3] }
  | _ => none }
def FnRecoverabilityMatchesDefinitionWrongFalsely : Prop := fnRecoverabilityMatchesDefinitionRow.holds Try.pinned (OpenSpec.ofChange fnRecoverabilityMatchesDefinitionWrong)

/-- 'zzlaws_internal_analysis_b1.FnCascadelessIsRecoverable': WHATEVER THE INPUT: true; the input reads as it did. -/
def fnCascadelessIsRecoverableSpec : ChangeSpec := { name := "fnCascadelessIsRecoverable", fn := fun _ => fun
  | [d1, d2, d3] => { results := [.lit (.bool true)], args := [d1, d2, d3] }
  | _ => none }
def fnCascadelessIsRecoverableRow : OpenClaim := { program := "qxb6000427a", sum := "240061e94cf401dc46c48104eb5bd461147000d666077e35b59eb1c602c55d84", func := "example.com/ferrolho/ferrolho/zzlaws_internal_analysis_b1.FnCascadelessIsRecoverable", spec := "fnCascadelessIsRecoverable", apart := false }
def FnCascadelessIsRecoverableSaid : Prop := fnCascadelessIsRecoverableRow.holds Try.pinned (OpenSpec.ofChange fnCascadelessIsRecoverableSpec)

/-- ITS FALSE NEIGHBOUR: 'it returns false'. Refute it at one input. -/
def fnCascadelessIsRecoverableWrong : ChangeSpec := { name := "fnCascadelessIsRecoverable", fn := fun _ => fun
  | [d1, d2, d3] => { results := [.lit (.bool false)], args := [d1, d2, d3] }
  | _ => none }
def FnCascadelessIsRecoverableWrongFalsely : Prop := fnCascadelessIsRecoverableRow.holds Try.pinned (OpenSpec.ofChange fnCascadelessIsRecoverableWrong)

/-- 'zzlaws_internal_analysis_b1.FnRenamingKeepsVerdicts': WHATEVER THE INPUT: true; the input reads as it did. -/
def fnRenamingKeepsVerdictsSpec : ChangeSpec := { name := "fnRenamingKeepsVerdicts", fn := fun _ => fun
  | [d1, d2, d3, d4, d5] => { results := [.lit (.bool true)], args := [d1, d2, d3, d4, d5] }
  | _ => none }
def fnRenamingKeepsVerdictsRow : OpenClaim := { program := "qxb6000427a", sum := "240061e94cf401dc46c48104eb5bd461147000d666077e35b59eb1c602c55d84", func := "example.com/ferrolho/ferrolho/zzlaws_internal_analysis_b1.FnRenamingKeepsVerdicts", spec := "fnRenamingKeepsVerdicts", apart := false }
def FnRenamingKeepsVerdictsSaid : Prop := fnRenamingKeepsVerdictsRow.holds Try.pinned (OpenSpec.ofChange fnRenamingKeepsVerdictsSpec)

/-- ITS FALSE NEIGHBOUR: 'it returns false'. Refute it at one input. -/
def fnRenamingKeepsVerdictsWrong : ChangeSpec := { name := "fnRenamingKeepsVerdicts", fn := fun _ => fun
  | [d1, d2, d3, d4, d5] => { results := [.lit (.bool false)], args := [d1, d2, d3, d4, d5] }
  | _ => none }
def FnRenamingKeepsVerdictsWrongFalsely : Prop := fnRenamingKeepsVerdictsRow.holds Try.pinned (OpenSpec.ofChange fnRenamingKeepsVerdictsWrong)

/-- 'zzlaws_internal_analysis_b1.FnWalkOfForwardGraphIsIdentity': WHATEVER THE INPUT: true; the input reads as it did. -/
def fnWalkOfForwardGraphIsIdentitySpec : ChangeSpec := { name := "fnWalkOfForwardGraphIsIdentity", fn := fun _ => fun
  | [d1, d2, d3] => { results := [.lit (.bool true)], args := [d1, d2, d3] }
  | _ => none }
def fnWalkOfForwardGraphIsIdentityRow : OpenClaim := { program := "qxb6000427a", sum := "240061e94cf401dc46c48104eb5bd461147000d666077e35b59eb1c602c55d84", func := "example.com/ferrolho/ferrolho/zzlaws_internal_analysis_b1.FnWalkOfForwardGraphIsIdentity", spec := "fnWalkOfForwardGraphIsIdentity", apart := false }
def FnWalkOfForwardGraphIsIdentitySaid : Prop := fnWalkOfForwardGraphIsIdentityRow.holds Try.pinned (OpenSpec.ofChange fnWalkOfForwardGraphIsIdentitySpec)

/-- ITS FALSE NEIGHBOUR: 'it returns false'. Refute it at one input. -/
def fnWalkOfForwardGraphIsIdentityWrong : ChangeSpec := { name := "fnWalkOfForwardGraphIsIdentity", fn := fun _ => fun
  | [d1, d2, d3] => { results := [.lit (.bool false)], args := [d1, d2, d3] }
  | _ => none }
def FnWalkOfForwardGraphIsIdentityWrongFalsely : Prop := fnWalkOfForwardGraphIsIdentityRow.holds Try.pinned (OpenSpec.ofChange fnWalkOfForwardGraphIsIdentityWrong)

/-- 'zzlaws_internal_analysis_b1.FnWalkPlacesOnlyAfterPredecessors': WHATEVER THE INPUT: true; the input reads as it did. -/
def fnWalkPlacesOnlyAfterPredecessorsSpec : ChangeSpec := { name := "fnWalkPlacesOnlyAfterPredecessors", fn := fun _ => fun
  | [d1, d2, d3] => { results := [.lit (.bool true)], args := [d1, d2, d3] }
  | _ => none }
def fnWalkPlacesOnlyAfterPredecessorsRow : OpenClaim := { program := "qxb6000427a", sum := "240061e94cf401dc46c48104eb5bd461147000d666077e35b59eb1c602c55d84", func := "example.com/ferrolho/ferrolho/zzlaws_internal_analysis_b1.FnWalkPlacesOnlyAfterPredecessors", spec := "fnWalkPlacesOnlyAfterPredecessors", apart := false }
def FnWalkPlacesOnlyAfterPredecessorsSaid : Prop := fnWalkPlacesOnlyAfterPredecessorsRow.holds Try.pinned (OpenSpec.ofChange fnWalkPlacesOnlyAfterPredecessorsSpec)

/-- ITS FALSE NEIGHBOUR: 'it returns false'. Refute it at one input. -/
def fnWalkPlacesOnlyAfterPredecessorsWrong : ChangeSpec := { name := "fnWalkPlacesOnlyAfterPredecessors", fn := fun _ => fun
  | [d1, d2, d3] => { results := [.lit (.bool false)], args := [d1, d2, d3] }
  | _ => none }
def FnWalkPlacesOnlyAfterPredecessorsWrongFalsely : Prop := fnWalkPlacesOnlyAfterPredecessorsRow.holds Try.pinned (OpenSpec.ofChange fnWalkPlacesOnlyAfterPredecessorsWrong)

end Rows
end Go.Proofs.Qxb6000427a
