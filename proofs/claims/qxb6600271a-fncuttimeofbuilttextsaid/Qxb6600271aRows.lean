/-
  No cell of these rows narrows 'for every input' (looked for: loops, veiled, ifaces, maps, wideKeys, modest, calm, conditions, laid).
  DERIVED. THE GIVEN ROWS OF THIS SEAT. 4 by the template 'for every input the law returns true; each argument reads behind the call as it read before'; 0 by the template 'total and deterministic' (their statements: Qxb6600271aTotals.lean).
  GIVEN WITH THE SEED: the statements are not yours to turn. If you find one false, say at which input.
  Laid BY PROGRAM, IN A SANDBOX (cutbox-rows.mjs): the forced cells as the released guide's own fill.sh prints them over the translation 12f7d09dde600167… (all of the seat's roots in one cut). By AI agents, Wed Nov 11 2026. No macro, syntax, notation, axiom, sorry.
-/
import Derived.Test.Qxb6600271aChecked
import GoSem.Claim
import GoSem.ClaimJoined
import GoSem.ClaimMapViews
import Derived.JoinedTies
import Derived.KernelRfl
namespace Go.Proofs.Qxb6600271a
/- THE CELL 'sum', in the pinned program and in every row, IS THE sha256 OF THE DUMP (.gsa) THAT Qxb6600271aProg.lean LOADS. Nothing in Lean hashes anything: it is a label: what it is worth is what the hold of that sum in a sandbox is worth. -/
noncomputable def Try.pinned : Pinned := { name := "qxb6600271a", sum := "12f7d09dde600167d3ea25652b6b870d267aa2fce21c5f8417e211af6f2697ce", checked := Try.checked }
namespace Rows
def none {H : Type} : Left H := { results := [], args := [] }

/-- 'zzlaws_internal_toml_b1.FnDateTimeKindOfBuiltText': WHATEVER THE INPUT: true; the input reads as it did. -/
def fnDateTimeKindOfBuiltTextSpec : ChangeSpec := { name := "fnDateTimeKindOfBuiltText", fn := fun _ => fun
  | [d1, d2, d3, d4, d5, d6, d7, d8, d9, d10, d11] => { results := [.lit (.bool true)], args := [d1, d2, d3, d4, d5, d6, d7, d8, d9, d10, d11] }
  | _ => none }
def fnDateTimeKindOfBuiltTextRow : OpenClaim := { program := "qxb6600271a", sum := "12f7d09dde600167d3ea25652b6b870d267aa2fce21c5f8417e211af6f2697ce", func := "example.com/tamarack/tamarack/zzlaws_internal_toml_b1.FnDateTimeKindOfBuiltText", spec := "fnDateTimeKindOfBuiltText", inPlace := ["internal/bytealg.IndexByteString", "internal/bytealg.IndexString"], named := ["internal/bytealg.MaxLen"], apart := false }
def FnDateTimeKindOfBuiltTextSaid : Prop := fnDateTimeKindOfBuiltTextRow.holds Try.pinned (OpenSpec.ofChange fnDateTimeKindOfBuiltTextSpec)

/-- ITS FALSE NEIGHBOUR: 'it returns false'. Refute it at one input. -/
def fnDateTimeKindOfBuiltTextWrong : ChangeSpec := { name := "fnDateTimeKindOfBuiltText", fn := fun _ => fun
  | [d1, d2, d3, d4, d5, d6, d7, d8, d9, d10, d11] => { results := [.lit (.bool false)], args := [d1, d2, d3, d4, d5, d6, d7, d8, d9, d10, d11] }
  | _ => none }
def FnDateTimeKindOfBuiltTextWrongFalsely : Prop := fnDateTimeKindOfBuiltTextRow.holds Try.pinned (OpenSpec.ofChange fnDateTimeKindOfBuiltTextWrong)

/-- 'zzlaws_internal_toml_b1.FnDateTimeKindAgreesWithItsParts': WHATEVER THE INPUT: true; the input reads as it did. -/
def fnDateTimeKindAgreesWithItsPartsSpec : ChangeSpec := { name := "fnDateTimeKindAgreesWithItsParts", fn := fun _ => fun
  | [d] => { results := [.lit (.bool true)], args := [d] }
  | _ => none }
def fnDateTimeKindAgreesWithItsPartsRow : OpenClaim := { program := "qxb6600271a", sum := "12f7d09dde600167d3ea25652b6b870d267aa2fce21c5f8417e211af6f2697ce", func := "example.com/tamarack/tamarack/zzlaws_internal_toml_b1.FnDateTimeKindAgreesWithItsParts", spec := "fnDateTimeKindAgreesWithItsParts", inPlace := ["internal/bytealg.IndexByteString", "internal/bytealg.IndexString"], named := ["internal/bytealg.MaxLen"], apart := false }
def FnDateTimeKindAgreesWithItsPartsSaid : Prop := fnDateTimeKindAgreesWithItsPartsRow.holds Try.pinned (OpenSpec.ofChange fnDateTimeKindAgreesWithItsPartsSpec)

/-- ITS FALSE NEIGHBOUR: 'it returns false'. Refute it at one input. -/
def fnDateTimeKindAgreesWithItsPartsWrong : ChangeSpec := { name := "fnDateTimeKindAgreesWithItsParts", fn := fun _ => fun
  | [d] => { results := [.lit (.bool false)], args := [d] }
  | _ => none }
def FnDateTimeKindAgreesWithItsPartsWrongFalsely : Prop := fnDateTimeKindAgreesWithItsPartsRow.holds Try.pinned (OpenSpec.ofChange fnDateTimeKindAgreesWithItsPartsWrong)

/-- 'zzlaws_internal_toml_b1.FnCutTimeOfBuiltText': WHATEVER THE INPUT: true; the input reads as it did. -/
def fnCutTimeOfBuiltTextSpec : ChangeSpec := { name := "fnCutTimeOfBuiltText", fn := fun _ => fun
  | [d1, d2, d3, d4, d5, d6] => { results := [.lit (.bool true)], args := [d1, d2, d3, d4, d5, d6] }
  | _ => none }
def fnCutTimeOfBuiltTextRow : OpenClaim := { program := "qxb6600271a", sum := "12f7d09dde600167d3ea25652b6b870d267aa2fce21c5f8417e211af6f2697ce", func := "example.com/tamarack/tamarack/zzlaws_internal_toml_b1.FnCutTimeOfBuiltText", spec := "fnCutTimeOfBuiltText", apart := false }
def FnCutTimeOfBuiltTextSaid : Prop := fnCutTimeOfBuiltTextRow.holds Try.pinned (OpenSpec.ofChange fnCutTimeOfBuiltTextSpec)

/-- ITS FALSE NEIGHBOUR: 'it returns false'. Refute it at one input. -/
def fnCutTimeOfBuiltTextWrong : ChangeSpec := { name := "fnCutTimeOfBuiltText", fn := fun _ => fun
  | [d1, d2, d3, d4, d5, d6] => { results := [.lit (.bool false)], args := [d1, d2, d3, d4, d5, d6] }
  | _ => none }
def FnCutTimeOfBuiltTextWrongFalsely : Prop := fnCutTimeOfBuiltTextRow.holds Try.pinned (OpenSpec.ofChange fnCutTimeOfBuiltTextWrong)

/-- 'zzlaws_internal_toml_b1.FnCutTimeConsumesAWholeTime': WHATEVER THE INPUT: true; the input reads as it did. -/
def fnCutTimeConsumesAWholeTimeSpec : ChangeSpec := { name := "fnCutTimeConsumesAWholeTime", fn := fun _ => fun
  | [d] => { results := [.lit (.bool true)], args := [d] }
  | _ => none }
def fnCutTimeConsumesAWholeTimeRow : OpenClaim := { program := "qxb6600271a", sum := "12f7d09dde600167d3ea25652b6b870d267aa2fce21c5f8417e211af6f2697ce", func := "example.com/tamarack/tamarack/zzlaws_internal_toml_b1.FnCutTimeConsumesAWholeTime", spec := "fnCutTimeConsumesAWholeTime", apart := false }
def FnCutTimeConsumesAWholeTimeSaid : Prop := fnCutTimeConsumesAWholeTimeRow.holds Try.pinned (OpenSpec.ofChange fnCutTimeConsumesAWholeTimeSpec)

/-- ITS FALSE NEIGHBOUR: 'it returns false'. Refute it at one input. -/
def fnCutTimeConsumesAWholeTimeWrong : ChangeSpec := { name := "fnCutTimeConsumesAWholeTime", fn := fun _ => fun
  | [d] => { results := [.lit (.bool false)], args := [d] }
  | _ => none }
def FnCutTimeConsumesAWholeTimeWrongFalsely : Prop := fnCutTimeConsumesAWholeTimeRow.holds Try.pinned (OpenSpec.ofChange fnCutTimeConsumesAWholeTimeWrong)

end Rows
end Go.Proofs.Qxb6600271a
