/-
  No cell of these rows narrows 'for every input' (looked for: loops, veiled, ifaces, maps, wideKeys, modest, calm, conditions, laid).
  DERIVED. THE GIVEN ROWS OF THIS SEAT. 2 by the template 'for every input the law returns true; each argument reads behind the call as it read before'; 0 by the template 'total and deterministic' (their statements: Qxb6632248aTotals.lean).
  GIVEN WITH THE SEED: the statements are not yours to turn. If you find one false, say at which input.
  Laid BY PROGRAM, IN A SANDBOX (cutbox-rows.mjs): the forced cells as the released guide's own fill.sh prints them over the translation e5567991d77fec25… (all of the seat's roots in one cut). By AI agents, Wed Nov 11 2026. No macro, syntax, notation, axiom, sorry.
-/
import Derived.Test.Qxb6632248aChecked
import GoSem.Claim
import GoSem.ClaimJoined
import GoSem.ClaimMapViews
import Derived.JoinedTies
import Derived.KernelRfl
namespace Go.Proofs.Qxb6632248a
/- THE CELL 'sum', in the pinned program and in every row, IS THE sha256 OF THE DUMP (.gsa) THAT Qxb6632248aProg.lean LOADS. Nothing in Lean hashes anything: it is a label: what it is worth is what the hold of that sum in a sandbox is worth. -/
noncomputable def Try.pinned : Pinned := { name := "qxb6632248a", sum := "e5567991d77fec25be10eee7e8e527852089bb0f4b6f61d0819ff12ec31527e1", checked := Try.checked }
namespace Rows
def none {H : Type} : Left H := { results := [], args := [] }

/-- 'zzlaws_root_b1.FnUsageIsOneAtInputBudget': WHATEVER THE INPUT: true; the input reads as it did. -/
def fnUsageIsOneAtInputBudgetSpec : ChangeSpec := { name := "fnUsageIsOneAtInputBudget", fn := fun _ => fun
  | [d1, d2, d3, d4] => { results := [.lit (.bool true)], args := [d1, d2, d3, d4] }
  | _ => none }
def fnUsageIsOneAtInputBudgetRow : OpenClaim := { program := "qxb6632248a", sum := "e5567991d77fec25be10eee7e8e527852089bb0f4b6f61d0819ff12ec31527e1", func := "example.com/libcompact/libcompact/zzlaws_root_b1.FnUsageIsOneAtInputBudget", spec := "fnUsageIsOneAtInputBudget", inPlace := ["math.Float64frombits"], apart := false }
def FnUsageIsOneAtInputBudgetSaid : Prop := fnUsageIsOneAtInputBudgetRow.holds Try.pinned (OpenSpec.ofChange fnUsageIsOneAtInputBudgetSpec)

/-- ITS FALSE NEIGHBOUR: 'it returns false'. Refute it at one input. -/
def fnUsageIsOneAtInputBudgetWrong : ChangeSpec := { name := "fnUsageIsOneAtInputBudget", fn := fun _ => fun
  | [d1, d2, d3, d4] => { results := [.lit (.bool false)], args := [d1, d2, d3, d4] }
  | _ => none }
def FnUsageIsOneAtInputBudgetWrongFalsely : Prop := fnUsageIsOneAtInputBudgetRow.holds Try.pinned (OpenSpec.ofChange fnUsageIsOneAtInputBudgetWrong)

/-- 'zzlaws_root_b1.FnUsageHangsOnRoomAlone': WHATEVER THE INPUT: true; the input reads as it did. -/
def fnUsageHangsOnRoomAloneSpec : ChangeSpec := { name := "fnUsageHangsOnRoomAlone", fn := fun _ => fun
  | [d1, d2, d3, d4, d5] => { results := [.lit (.bool true)], args := [d1, d2, d3, d4, d5] }
  | _ => none }
def fnUsageHangsOnRoomAloneRow : OpenClaim := { program := "qxb6632248a", sum := "e5567991d77fec25be10eee7e8e527852089bb0f4b6f61d0819ff12ec31527e1", func := "example.com/libcompact/libcompact/zzlaws_root_b1.FnUsageHangsOnRoomAlone", spec := "fnUsageHangsOnRoomAlone", inPlace := ["math.Float64frombits"], apart := false }
def FnUsageHangsOnRoomAloneSaid : Prop := fnUsageHangsOnRoomAloneRow.holds Try.pinned (OpenSpec.ofChange fnUsageHangsOnRoomAloneSpec)

/-- ITS FALSE NEIGHBOUR: 'it returns false'. Refute it at one input. -/
def fnUsageHangsOnRoomAloneWrong : ChangeSpec := { name := "fnUsageHangsOnRoomAlone", fn := fun _ => fun
  | [d1, d2, d3, d4, d5] => { results := [.lit (.bool false)], args := [d1, d2, d3, d4, d5] }
  | _ => none }
def FnUsageHangsOnRoomAloneWrongFalsely : Prop := fnUsageHangsOnRoomAloneRow.holds Try.pinned (OpenSpec.ofChange fnUsageHangsOnRoomAloneWrong)

end Rows
end Go.Proofs.Qxb6632248a
