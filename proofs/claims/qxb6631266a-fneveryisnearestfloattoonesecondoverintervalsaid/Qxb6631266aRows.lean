/-
  No cell of these rows narrows 'for every input' (looked for: loops, veiled, ifaces, maps, wideKeys, modest, calm, conditions, laid).
  DERIVED. THE GIVEN ROWS OF THIS SEAT. 2 by the template 'for every input the law returns true; each argument reads behind the call as it read before'; 0 by the template 'total and deterministic' (their statements: Qxb6631266aTotals.lean).
  GIVEN WITH THE SEED: the statements are not yours to turn. If you find one false, say at which input.
  Laid BY PROGRAM, IN A SANDBOX (cutbox-rows.mjs): the forced cells as the released guide's own fill.sh prints them over the translation ae13e56e8e8f9090… (all of the seat's roots in one cut). By AI agents, Wed Nov 11 2026. No macro, syntax, notation, axiom, sorry.
-/
import Derived.Test.Qxb6631266aChecked
import GoSem.Claim
import GoSem.ClaimJoined
import GoSem.ClaimMapViews
import Derived.JoinedTies
import Derived.KernelRfl
namespace Go.Proofs.Qxb6631266a
/- THE CELL 'sum', in the pinned program and in every row, IS THE sha256 OF THE DUMP (.gsa) THAT Qxb6631266aProg.lean LOADS. Nothing in Lean hashes anything: it is a label: what it is worth is what the hold of that sum in a sandbox is worth. -/
noncomputable def Try.pinned : Pinned := { name := "qxb6631266a", sum := "ae13e56e8e8f909048291fcebe89735c0a15c564f70eb7e318a135324d6ff9bf", checked := Try.checked }
namespace Rows
def none {H : Type} : Left H := { results := [], args := [] }

/-- 'zzlaws_root_b1.FnEveryIsNearestFloatToOneSecondOverInterval': WHATEVER THE INPUT: true; the input reads as it did. -/
def fnEveryIsNearestFloatToOneSecondOverIntervalSpec : ChangeSpec := { name := "fnEveryIsNearestFloatToOneSecondOverInterval", fn := fun _ => fun
  | [d] => { results := [.lit (.bool true)], args := [d] }
  | _ => none }
def fnEveryIsNearestFloatToOneSecondOverIntervalRow : OpenClaim := { program := "qxb6631266a", sum := "ae13e56e8e8f909048291fcebe89735c0a15c564f70eb7e318a135324d6ff9bf", func := "example.com/ration/ration/zzlaws_root_b1.FnEveryIsNearestFloatToOneSecondOverInterval", spec := "fnEveryIsNearestFloatToOneSecondOverInterval", apart := false }
def FnEveryIsNearestFloatToOneSecondOverIntervalSaid : Prop := fnEveryIsNearestFloatToOneSecondOverIntervalRow.holds Try.pinned (OpenSpec.ofChange fnEveryIsNearestFloatToOneSecondOverIntervalSpec)

/-- ITS FALSE NEIGHBOUR: 'it returns false'. Refute it at one input. -/
def fnEveryIsNearestFloatToOneSecondOverIntervalWrong : ChangeSpec := { name := "fnEveryIsNearestFloatToOneSecondOverInterval", fn := fun _ => fun
  | [d] => { results := [.lit (.bool false)], args := [d] }
  | _ => none }
def FnEveryIsNearestFloatToOneSecondOverIntervalWrongFalsely : Prop := fnEveryIsNearestFloatToOneSecondOverIntervalRow.holds Try.pinned (OpenSpec.ofChange fnEveryIsNearestFloatToOneSecondOverIntervalWrong)

/-- 'zzlaws_root_b1.FnEveryHalvesWhenIntervalDoubles': WHATEVER THE INPUT: true; the input reads as it did. -/
def fnEveryHalvesWhenIntervalDoublesSpec : ChangeSpec := { name := "fnEveryHalvesWhenIntervalDoubles", fn := fun _ => fun
  | [d] => { results := [.lit (.bool true)], args := [d] }
  | _ => none }
def fnEveryHalvesWhenIntervalDoublesRow : OpenClaim := { program := "qxb6631266a", sum := "ae13e56e8e8f909048291fcebe89735c0a15c564f70eb7e318a135324d6ff9bf", func := "example.com/ration/ration/zzlaws_root_b1.FnEveryHalvesWhenIntervalDoubles", spec := "fnEveryHalvesWhenIntervalDoubles", apart := false }
def FnEveryHalvesWhenIntervalDoublesSaid : Prop := fnEveryHalvesWhenIntervalDoublesRow.holds Try.pinned (OpenSpec.ofChange fnEveryHalvesWhenIntervalDoublesSpec)

/-- ITS FALSE NEIGHBOUR: 'it returns false'. Refute it at one input. -/
def fnEveryHalvesWhenIntervalDoublesWrong : ChangeSpec := { name := "fnEveryHalvesWhenIntervalDoubles", fn := fun _ => fun
  | [d] => { results := [.lit (.bool false)], args := [d] }
  | _ => none }
def FnEveryHalvesWhenIntervalDoublesWrongFalsely : Prop := fnEveryHalvesWhenIntervalDoublesRow.holds Try.pinned (OpenSpec.ofChange fnEveryHalvesWhenIntervalDoublesWrong)

end Rows
end Go.Proofs.Qxb6631266a
