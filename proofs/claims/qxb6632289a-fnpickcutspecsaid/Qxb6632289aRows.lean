/-
  No cell of these rows narrows 'for every input' (looked for: loops, veiled, ifaces, maps, wideKeys, modest, calm, conditions, laid).
  DERIVED. THE GIVEN ROWS OF THIS SEAT. 2 by the template 'for every input the law returns true; each argument reads behind the call as it read before'; 0 by the template 'total and deterministic' (their statements: Qxb6632289aTotals.lean).
  GIVEN WITH THE SEED: the statements are not yours to turn. If you find one false, say at which input.
  Laid BY PROGRAM, IN A SANDBOX (cutbox-rows.mjs): the forced cells as the released guide's own fill.sh prints them over the translation f9a243c595cc6859… (all of the seat's roots in one cut). By AI agents, Wed Nov 11 2026. No macro, syntax, notation, axiom, sorry.
-/
import Derived.Test.Qxb6632289aChecked
import GoSem.Claim
import GoSem.ClaimJoined
import GoSem.ClaimMapViews
import Derived.JoinedTies
import Derived.KernelRfl
namespace Go.Proofs.Qxb6632289a
/- THE CELL 'sum', in the pinned program and in every row, IS THE sha256 OF THE DUMP (.gsa) THAT Qxb6632289aProg.lean LOADS. Nothing in Lean hashes anything: it is a label: what it is worth is what the hold of that sum in a sandbox is worth. -/
noncomputable def Try.pinned : Pinned := { name := "qxb6632289a", sum := "f9a243c595cc685991099ba5960d10605b295f24c54f9d85badcc3348290e939", checked := Try.checked }
namespace Rows
def none {H : Type} : Left H := { results := [], args := [] }

/-- 'zzlaws_pkg_protocol_b1.FnPickCutSpec': WHATEVER THE INPUT: true; the input reads as it did. -/
def fnPickCutSpecSpec : ChangeSpec := { name := "fnPickCutSpec", fn := fun _ => fun
  | [d1, d2, d3] => { results := [.lit (.bool true)], args := [d1, d2, d3] }
  | _ => none }
def fnPickCutSpecRow : OpenClaim := { program := "qxb6632289a", sum := "f9a243c595cc685991099ba5960d10605b295f24c54f9d85badcc3348290e939", func := "example.com/scorestone/scorestone/zzlaws_pkg_protocol_b1.FnPickCutSpec", spec := "fnPickCutSpec", apart := false }
def FnPickCutSpecSaid : Prop := fnPickCutSpecRow.holds Try.pinned (OpenSpec.ofChange fnPickCutSpecSpec)

/-- ITS FALSE NEIGHBOUR: 'it returns false'. Refute it at one input. -/
def fnPickCutSpecWrong : ChangeSpec := { name := "fnPickCutSpec", fn := fun _ => fun
  | [d1, d2, d3] => { results := [.lit (.bool false)], args := [d1, d2, d3] }
  | _ => none }
def FnPickCutSpecWrongFalsely : Prop := fnPickCutSpecRow.holds Try.pinned (OpenSpec.ofChange fnPickCutSpecWrong)

/-- 'zzlaws_pkg_protocol_b1.FnPickInsertTheirs': WHATEVER THE INPUT: true; the input reads as it did. -/
def fnPickInsertTheirsSpec : ChangeSpec := { name := "fnPickInsertTheirs", fn := fun _ => fun
  | [d1, d2, d3, d4] => { results := [.lit (.bool true)], args := [d1, d2, d3, d4] }
  | _ => none }
def fnPickInsertTheirsRow : OpenClaim := { program := "qxb6632289a", sum := "f9a243c595cc685991099ba5960d10605b295f24c54f9d85badcc3348290e939", func := "example.com/scorestone/scorestone/zzlaws_pkg_protocol_b1.FnPickInsertTheirs", spec := "fnPickInsertTheirs", apart := false }
def FnPickInsertTheirsSaid : Prop := fnPickInsertTheirsRow.holds Try.pinned (OpenSpec.ofChange fnPickInsertTheirsSpec)

/-- ITS FALSE NEIGHBOUR: 'it returns false'. Refute it at one input. -/
def fnPickInsertTheirsWrong : ChangeSpec := { name := "fnPickInsertTheirs", fn := fun _ => fun
  | [d1, d2, d3, d4] => { results := [.lit (.bool false)], args := [d1, d2, d3, d4] }
  | _ => none }
def FnPickInsertTheirsWrongFalsely : Prop := fnPickInsertTheirsRow.holds Try.pinned (OpenSpec.ofChange fnPickInsertTheirsWrong)

end Rows
end Go.Proofs.Qxb6632289a
