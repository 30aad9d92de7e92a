/-
  No cell of these rows narrows 'for every input' (looked for: loops, veiled, ifaces, maps, wideKeys, modest, calm, conditions, laid).
  DERIVED. THE GIVEN ROWS OF THIS SEAT. 2 by the template 'for every input the law returns true; each argument reads behind the call as it read before'; 0 by the template 'total and deterministic' (their statements: Qxb6600269aTotals.lean).
  GIVEN WITH THE SEED: the statements are not yours to turn. If you find one false, say at which input.
  Laid BY PROGRAM, IN A SANDBOX (cutbox-rows.mjs): the forced cells as the released guide's own fill.sh prints them over the translation 52e08d2e58283b25… (all of the seat's roots in one cut). By AI agents, Wed Nov 11 2026. No macro, syntax, notation, axiom, sorry.
-/
import Derived.Test.Qxb6600269aChecked
import GoSem.Claim
import GoSem.ClaimJoined
import GoSem.ClaimMapViews
import Derived.JoinedTies
import Derived.KernelRfl
namespace Go.Proofs.Qxb6600269a
/- THE CELL 'sum', in the pinned program and in every row, IS THE sha256 OF THE DUMP (.gsa) THAT Qxb6600269aProg.lean LOADS. Nothing in Lean hashes anything: it is a label: what it is worth is what the hold of that sum in a sandbox is worth. -/
noncomputable def Try.pinned : Pinned := { name := "qxb6600269a", sum := "52e08d2e58283b2510ca6e8bb5c8488436037b9575221753b6a75a8cb024ba46", checked := Try.checked }
namespace Rows
def none {H : Type} : Left H := { results := [], args := [] }

/-- 'zzlaws_root_b1.FnTierStringRoundTrip': WHATEVER THE INPUT: true; the input reads as it did. -/
def fnTierStringRoundTripSpec : ChangeSpec := { name := "fnTierStringRoundTrip", fn := fun _ => fun
  | [d] => { results := [.lit (.bool true)], args := [d] }
  | _ => none }
def fnTierStringRoundTripRow : OpenClaim := { program := "qxb6600269a", sum := "52e08d2e58283b2510ca6e8bb5c8488436037b9575221753b6a75a8cb024ba46", func := "example.com/neat-injector/neat-injector/zzlaws_root_b1.FnTierStringRoundTrip", spec := "fnTierStringRoundTrip", apart := false }
def FnTierStringRoundTripSaid : Prop := fnTierStringRoundTripRow.holds Try.pinned (OpenSpec.ofChange fnTierStringRoundTripSpec)

/-- ITS FALSE NEIGHBOUR: 'it returns false'. Refute it at one input. -/
def fnTierStringRoundTripWrong : ChangeSpec := { name := "fnTierStringRoundTrip", fn := fun _ => fun
  | [d] => { results := [.lit (.bool false)], args := [d] }
  | _ => none }
def FnTierStringRoundTripWrongFalsely : Prop := fnTierStringRoundTripRow.holds Try.pinned (OpenSpec.ofChange fnTierStringRoundTripWrong)

/-- 'zzlaws_root_b1.FnTierStringOrderOfTiers': WHATEVER THE INPUT: true; the input reads as it did. -/
def fnTierStringOrderOfTiersSpec : ChangeSpec := { name := "fnTierStringOrderOfTiers", fn := fun _ => fun
  | [d] => { results := [.lit (.bool true)], args := [d] }
  | _ => none }
def fnTierStringOrderOfTiersRow : OpenClaim := { program := "qxb6600269a", sum := "52e08d2e58283b2510ca6e8bb5c8488436037b9575221753b6a75a8cb024ba46", func := "example.com/neat-injector/neat-injector/zzlaws_root_b1.FnTierStringOrderOfTiers", spec := "fnTierStringOrderOfTiers", apart := false }
def FnTierStringOrderOfTiersSaid : Prop := fnTierStringOrderOfTiersRow.holds Try.pinned (OpenSpec.ofChange fnTierStringOrderOfTiersSpec)

/-- ITS FALSE NEIGHBOUR: 'it returns false'. Refute it at one input. -/
def fnTierStringOrderOfTiersWrong : ChangeSpec := { name := "fnTierStringOrderOfTiers", fn := fun _ => fun
  | [d] => { results := [.lit (.bool false)], args := [d] }
  | _ => none }
def FnTierStringOrderOfTiersWrongFalsely : Prop := fnTierStringOrderOfTiersRow.holds Try.pinned (OpenSpec.ofChange fnTierStringOrderOfTiersWrong)

end Rows
end Go.Proofs.Qxb6600269a
