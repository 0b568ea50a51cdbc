/-
  No cell of these rows narrows 'for every input' (looked for: loops, veiled, ifaces, maps, wideKeys, modest, calm, conditions, laid).
  DERIVED. THE GIVEN ROWS OF THIS SEAT. 1 by the template 'for every input the law returns true; each argument reads behind the call as it read before'; 0 by the template 'total and deterministic' (their statements: Qxb6602642aTotals.lean).
  GIVEN WITH THE SEED: the statements are not yours to turn. If you find one false, say at which input.
  Laid BY PROGRAM, IN A SANDBOX (cutbox-rows.mjs): the forced cells as the released guide's own fill.sh prints them over the translation 092d8357bf02ae5b… (all of the seat's roots in one cut). By AI agents, Wed Nov 11 2026. No macro, syntax, notation, axiom, sorry.
-/
import Derived.Test.Qxb6602642aChecked
import GoSem.Claim
import GoSem.ClaimJoined
import GoSem.ClaimMapViews
import Derived.JoinedTies
import Derived.KernelRfl
namespace Go.Proofs.Qxb6602642a
/- THE CELL 'sum', in the pinned program and in every row, IS THE sha256 OF THE DUMP (.gsa) THAT Qxb6602642aProg.lean LOADS. Nothing in Lean hashes anything: it is a label: what it is worth is what the hold of that sum in a sandbox is worth. -/
noncomputable def Try.pinned : Pinned := { name := "qxb6602642a", sum := "092d8357bf02ae5bcfb3d9e9cf1bd3be8400f94e54a298d32bcd53a57afa3cca", checked := Try.checked }
namespace Rows
def none {H : Type} : Left H := { results := [], args := [] }

/-- 'zzlaws_pkg_plan_b1.FnIsLineLabelNoLabelExtendsAnother': WHATEVER THE INPUT: true; the input reads as it did. -/
def fnIsLineLabelNoLabelExtendsAnotherSpec : ChangeSpec := { name := "fnIsLineLabelNoLabelExtendsAnother", fn := fun _ => fun
  | [d1, d2] => { results := [.lit (.bool true)], args := [d1, d2] }
  | _ => none }
def fnIsLineLabelNoLabelExtendsAnotherRow : OpenClaim := { program := "qxb6602642a", sum := "092d8357bf02ae5bcfb3d9e9cf1bd3be8400f94e54a298d32bcd53a57afa3cca", func := "example.com/vestwright/vestwright/zzlaws_pkg_plan_b1.FnIsLineLabelNoLabelExtendsAnother", spec := "fnIsLineLabelNoLabelExtendsAnother", apart := false }
def FnIsLineLabelNoLabelExtendsAnotherSaid : Prop := fnIsLineLabelNoLabelExtendsAnotherRow.holds Try.pinned (OpenSpec.ofChange fnIsLineLabelNoLabelExtendsAnotherSpec)

/-- ITS FALSE NEIGHBOUR: 'it returns false'. Refute it at one input. -/
def fnIsLineLabelNoLabelExtendsAnotherWrong : ChangeSpec := { name := "fnIsLineLabelNoLabelExtendsAnother", fn := fun _ => fun
  | [d1, d2] => { results := [.lit (.bool false)], args := [d1, d2] }
  | _ => none }
def FnIsLineLabelNoLabelExtendsAnotherWrongFalsely : Prop := fnIsLineLabelNoLabelExtendsAnotherRow.holds Try.pinned (OpenSpec.ofChange fnIsLineLabelNoLabelExtendsAnotherWrong)

end Rows
end Go.Proofs.Qxb6602642a
