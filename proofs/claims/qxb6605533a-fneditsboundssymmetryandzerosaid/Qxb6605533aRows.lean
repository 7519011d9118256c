/-
  No cell of these rows narrows 'for every input' (looked for: loops, veiled, ifaces, maps, wideKeys, modest, calm, conditions, laid).
  DERIVED. THE GIVEN ROWS OF THIS SEAT. 2 by the template 'for every input the law returns true; each argument reads behind the call as it read before'; 0 by the template 'total and deterministic' (their statements: Qxb6605533aTotals.lean).
  GIVEN WITH THE SEED: the statements are not yours to turn. If you find one false, say at which input.
  Laid BY PROGRAM, IN A SANDBOX (cutbox-rows.mjs): the forced cells as the released guide's own fill.sh prints them over the translation 7206c1eb1d761255… (all of the seat's roots in one cut). By AI agents, Wed Nov 11 2026. No macro, syntax, notation, axiom, sorry.
-/
import Derived.Test.Qxb6605533aChecked
import GoSem.Claim
import GoSem.ClaimJoined
import GoSem.ClaimMapViews
import Derived.JoinedTies
import Derived.KernelRfl
namespace Go.Proofs.Qxb6605533a
/- THE CELL 'sum', in the pinned program and in every row, IS THE sha256 OF THE DUMP (.gsa) THAT Qxb6605533aProg.lean LOADS. Nothing in Lean hashes anything: it is a label: what it is worth is what the hold of that sum in a sandbox is worth. -/
noncomputable def Try.pinned : Pinned := { name := "qxb6605533a", sum := "7206c1eb1d7612551c5700258872a2cd8c6d7e9b053e6fcfa7d85c904c749742", checked := Try.checked }
namespace Rows
def none {H : Type} : Left H := { results := [], args := [] }

/-- 'zzlaws_pkg_spec_b1.FnEditsBoundsSymmetryAndZero': WHATEVER THE INPUT: true; the input reads as it did. -/
def fnEditsBoundsSymmetryAndZeroSpec : ChangeSpec := { name := "fnEditsBoundsSymmetryAndZero", fn := fun _ => fun
  | [d1, d2] => { results := [.lit (.bool true)], args := [d1, d2] }
  | _ => none }
def fnEditsBoundsSymmetryAndZeroRow : OpenClaim := { program := "qxb6605533a", sum := "7206c1eb1d7612551c5700258872a2cd8c6d7e9b053e6fcfa7d85c904c749742", func := "example.com/edgewalk/edgewalk/zzlaws_pkg_spec_b1.FnEditsBoundsSymmetryAndZero", spec := "fnEditsBoundsSymmetryAndZero", apart := false }
def FnEditsBoundsSymmetryAndZeroSaid : Prop := fnEditsBoundsSymmetryAndZeroRow.holds Try.pinned (OpenSpec.ofChange fnEditsBoundsSymmetryAndZeroSpec)

/-- ITS FALSE NEIGHBOUR: 'it returns false'. Refute it at one input. -/
def fnEditsBoundsSymmetryAndZeroWrong : ChangeSpec := { name := "fnEditsBoundsSymmetryAndZero", fn := fun _ => fun
  | [d1, d2] => { results := [.lit (.bool false)], args := [d1, d2] }
  | _ => none }
def FnEditsBoundsSymmetryAndZeroWrongFalsely : Prop := fnEditsBoundsSymmetryAndZeroRow.holds Try.pinned (OpenSpec.ofChange fnEditsBoundsSymmetryAndZeroWrong)

/-- 'zzlaws_pkg_spec_b1.FnEditsAppendCostsItsLength': WHATEVER THE INPUT: true; the input reads as it did. -/
def fnEditsAppendCostsItsLengthSpec : ChangeSpec := { name := "fnEditsAppendCostsItsLength", fn := fun _ => fun
  | [d1, d2] => { results := [.lit (.bool true)], args := [d1, d2] }
  | _ => none }
def fnEditsAppendCostsItsLengthRow : OpenClaim := { program := "qxb6605533a", sum := "7206c1eb1d7612551c5700258872a2cd8c6d7e9b053e6fcfa7d85c904c749742", func := "example.com/edgewalk/edgewalk/zzlaws_pkg_spec_b1.FnEditsAppendCostsItsLength", spec := "fnEditsAppendCostsItsLength", apart := false }
def FnEditsAppendCostsItsLengthSaid : Prop := fnEditsAppendCostsItsLengthRow.holds Try.pinned (OpenSpec.ofChange fnEditsAppendCostsItsLengthSpec)

/-- ITS FALSE NEIGHBOUR: 'it returns false'. Refute it at one input. -/
def fnEditsAppendCostsItsLengthWrong : ChangeSpec := { name := "fnEditsAppendCostsItsLength", fn := fun _ => fun
  | [d1, d2] => { results := [.lit (.bool false)], args := [d1, d2] }
  | _ => none }
def FnEditsAppendCostsItsLengthWrongFalsely : Prop := fnEditsAppendCostsItsLengthRow.holds Try.pinned (OpenSpec.ofChange fnEditsAppendCostsItsLengthWrong)

end Rows
end Go.Proofs.Qxb6605533a
