/-
  No cell of these rows narrows 'for every input' (looked for: loops, veiled, ifaces, maps, wideKeys, modest, calm, conditions, laid).
  DERIVED. THE GIVEN ROWS OF THIS SEAT. 2 by the template 'for every input the law returns true; each argument reads behind the call as it read before'; 0 by the template 'total and deterministic' (their statements: Qxb6631319aTotals.lean).
  GIVEN WITH THE SEED: the statements are not yours to turn. If you find one false, say at which input.
  Laid BY PROGRAM, IN A SANDBOX (cutbox-rows.mjs): the forced cells as the released guide's own fill.sh prints them over the translation 5cd8fe2d1243a4d9… (all of the seat's roots in one cut). By AI agents, Wed Nov 11 2026. No macro, syntax, notation, axiom, sorry.
-/
import Derived.Test.Qxb6631319aChecked
import GoSem.Claim
import GoSem.ClaimJoined
import GoSem.ClaimMapViews
import Derived.JoinedTies
import Derived.KernelRfl
namespace Go.Proofs.Qxb6631319a
/- THE CELL 'sum', in the pinned program and in every row, IS THE sha256 OF THE DUMP (.gsa) THAT Qxb6631319aProg.lean LOADS. Nothing in Lean hashes anything: it is a label: what it is worth is what the hold of that sum in a sandbox is worth. -/
noncomputable def Try.pinned : Pinned := { name := "qxb6631319a", sum := "5cd8fe2d1243a4d9f208d478fcd2c168231629dee243dcfd7aa9c68b7df98e80", checked := Try.checked }
namespace Rows
def none {H : Type} : Left H := { results := [], args := [] }

/-- 'zzlaws_root_b1.FnAppendJSONTextDecodesBackMinimally': WHATEVER THE INPUT: true; the input reads as it did. -/
def fnAppendJSONTextDecodesBackMinimallySpec : ChangeSpec := { name := "fnAppendJSONTextDecodesBackMinimally", fn := fun _ => fun
  | [d1, d2] => { results := [.lit (.bool true)], args := [d1, d2] }
  | _ => none }
def fnAppendJSONTextDecodesBackMinimallyRow : OpenClaim := { program := "qxb6631319a", sum := "5cd8fe2d1243a4d9f208d478fcd2c168231629dee243dcfd7aa9c68b7df98e80", func := "example.com/cardwire/cardwire/zzlaws_root_b1.FnAppendJSONTextDecodesBackMinimally", spec := "fnAppendJSONTextDecodesBackMinimally", apart := false }
def FnAppendJSONTextDecodesBackMinimallySaid : Prop := fnAppendJSONTextDecodesBackMinimallyRow.holds Try.pinned (OpenSpec.ofChange fnAppendJSONTextDecodesBackMinimallySpec)

/-- ITS FALSE NEIGHBOUR: 'it returns false'. Refute it at one input. -/
def fnAppendJSONTextDecodesBackMinimallyWrong : ChangeSpec := { name := "fnAppendJSONTextDecodesBackMinimally", fn := fun _ => fun
  | [d1, d2] => { results := [.lit (.bool false)], args := [d1, d2] }
  | _ => none }
def FnAppendJSONTextDecodesBackMinimallyWrongFalsely : Prop := fnAppendJSONTextDecodesBackMinimallyRow.holds Try.pinned (OpenSpec.ofChange fnAppendJSONTextDecodesBackMinimallyWrong)

/-- 'zzlaws_root_b1.FnAppendJSONTextSplitsAtAnyCut': WHATEVER THE INPUT: true; the input reads as it did. -/
def fnAppendJSONTextSplitsAtAnyCutSpec : ChangeSpec := { name := "fnAppendJSONTextSplitsAtAnyCut", fn := fun _ => fun
  | [d1, d2, d3] => { results := [.lit (.bool true)], args := [d1, d2, d3] }
  | _ => none }
def fnAppendJSONTextSplitsAtAnyCutRow : OpenClaim := { program := "qxb6631319a", sum := "5cd8fe2d1243a4d9f208d478fcd2c168231629dee243dcfd7aa9c68b7df98e80", func := "example.com/cardwire/cardwire/zzlaws_root_b1.FnAppendJSONTextSplitsAtAnyCut", spec := "fnAppendJSONTextSplitsAtAnyCut", apart := false }
def FnAppendJSONTextSplitsAtAnyCutSaid : Prop := fnAppendJSONTextSplitsAtAnyCutRow.holds Try.pinned (OpenSpec.ofChange fnAppendJSONTextSplitsAtAnyCutSpec)

/-- ITS FALSE NEIGHBOUR: 'it returns false'. Refute it at one input. -/
def fnAppendJSONTextSplitsAtAnyCutWrong : ChangeSpec := { name := "fnAppendJSONTextSplitsAtAnyCut", fn := fun _ => fun
  | [d1, d2, d3] => { results := [.lit (.bool false)], args := [d1, d2, d3] }
  | _ => none }
def FnAppendJSONTextSplitsAtAnyCutWrongFalsely : Prop := fnAppendJSONTextSplitsAtAnyCutRow.holds Try.pinned (OpenSpec.ofChange fnAppendJSONTextSplitsAtAnyCutWrong)

end Rows
end Go.Proofs.Qxb6631319a
