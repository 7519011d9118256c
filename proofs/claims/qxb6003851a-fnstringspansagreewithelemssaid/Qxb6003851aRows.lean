/-
  No cell of these rows narrows 'for every input' (looked for: loops, veiled, ifaces, maps, wideKeys, modest, calm, conditions, laid).
  DERIVED. THE GIVEN ROWS OF THIS SEAT. 3 by the template 'for every input the law returns true; each argument reads behind the call as it read before'; 0 by the template 'total and deterministic' (their statements: Qxb6003851aTotals.lean).
  GIVEN WITH THE SEED: the statements are not yours to turn. If you find one false, say at which input.
  Laid BY PROGRAM, IN A SANDBOX (cutbox-rows.mjs): the forced cells as the released guide's own fill.sh prints them over the translation e37bf89b5b2d5e7d… (all of the seat's roots in one cut). By AI agents, Wed Nov 11 2026. No macro, syntax, notation, axiom, sorry.
-/
import Derived.Test.Qxb6003851aChecked
import GoSem.Claim
import GoSem.ClaimJoined
import GoSem.ClaimMapViews
import Derived.JoinedTies
import Derived.KernelRfl
namespace Go.Proofs.Qxb6003851a
/- THE CELL 'sum', in the pinned program and in every row, IS THE sha256 OF THE DUMP (.gsa) THAT Qxb6003851aProg.lean LOADS. Nothing in Lean hashes anything: it is a label: what it is worth is what the hold of that sum in a sandbox is worth. -/
noncomputable def Try.pinned : Pinned := { name := "qxb6003851a", sum := "e37bf89b5b2d5e7d10d9febf45d41d660206c96eafec60f35dde14cc6bbf5584", checked := Try.checked }
namespace Rows
def none {H : Type} : Left H := { results := [], args := [] }

/-- 'zzlaws_pkg_archive_g1.FnStringSpansAgreeWithElems': WHATEVER THE INPUT: true; the input reads as it did. -/
def fnStringSpansAgreeWithElemsSpec : ChangeSpec := { name := "fnStringSpansAgreeWithElems", fn := fun _ => fun
  | [d1, d2, d3, d4] => { results := [.lit (.bool true)], args := [d1, d2, d3, d4] }
  | _ => none }
def fnStringSpansAgreeWithElemsRow : OpenClaim := { program := "qxb6003851a", sum := "e37bf89b5b2d5e7d10d9febf45d41d660206c96eafec60f35dde14cc6bbf5584", func := "example.com/shroudpack/shroudpack/zzlaws_pkg_archive_g1.FnStringSpansAgreeWithElems", spec := "fnStringSpansAgreeWithElems", apart := false }
def FnStringSpansAgreeWithElemsSaid : Prop := fnStringSpansAgreeWithElemsRow.holds Try.pinned (OpenSpec.ofChange fnStringSpansAgreeWithElemsSpec)

/-- ITS FALSE NEIGHBOUR: 'it returns false'. Refute it at one input. -/
def fnStringSpansAgreeWithElemsWrong : ChangeSpec := { name := "fnStringSpansAgreeWithElems", fn := fun _ => fun
  | [d1, d2, d3, d4] => { results := [.lit (.bool false)], args := [d1, d2, d3, d4] }
  | _ => none }
def FnStringSpansAgreeWithElemsWrongFalsely : Prop := fnStringSpansAgreeWithElemsRow.holds Try.pinned (OpenSpec.ofChange fnStringSpansAgreeWithElemsWrong)

/-- 'zzlaws_pkg_hook_g1.FnVetConfigFileFindsAppendedConfig': WHATEVER THE INPUT: true; the input reads as it did. -/
def fnVetConfigFileFindsAppendedConfigSpec : ChangeSpec := { name := "fnVetConfigFileFindsAppendedConfig", fn := fun _ => fun
  | [d1, d2] => { results := [.lit (.bool true)], args := [d1, d2] }
  | _ => none }
def fnVetConfigFileFindsAppendedConfigRow : OpenClaim := { program := "qxb6003851a", sum := "e37bf89b5b2d5e7d10d9febf45d41d660206c96eafec60f35dde14cc6bbf5584", func := "example.com/shroudpack/shroudpack/zzlaws_pkg_hook_g1.FnVetConfigFileFindsAppendedConfig", spec := "fnVetConfigFileFindsAppendedConfig", apart := false }
def FnVetConfigFileFindsAppendedConfigSaid : Prop := fnVetConfigFileFindsAppendedConfigRow.holds Try.pinned (OpenSpec.ofChange fnVetConfigFileFindsAppendedConfigSpec)

/-- ITS FALSE NEIGHBOUR: 'it returns false'. Refute it at one input. -/
def fnVetConfigFileFindsAppendedConfigWrong : ChangeSpec := { name := "fnVetConfigFileFindsAppendedConfig", fn := fun _ => fun
  | [d1, d2] => { results := [.lit (.bool false)], args := [d1, d2] }
  | _ => none }
def FnVetConfigFileFindsAppendedConfigWrongFalsely : Prop := fnVetConfigFileFindsAppendedConfigRow.holds Try.pinned (OpenSpec.ofChange fnVetConfigFileFindsAppendedConfigWrong)

/-- 'zzlaws_pkg_hook_g1.FnVetConfigFileReadsOnlyTheLast': WHATEVER THE INPUT: true; the input reads as it did. -/
def fnVetConfigFileReadsOnlyTheLastSpec : ChangeSpec := { name := "fnVetConfigFileReadsOnlyTheLast", fn := fun _ => fun
  | [d1, d2] => { results := [.lit (.bool true)], args := [d1, d2] }
  | _ => none }
def fnVetConfigFileReadsOnlyTheLastRow : OpenClaim := { program := "qxb6003851a", sum := "e37bf89b5b2d5e7d10d9febf45d41d660206c96eafec60f35dde14cc6bbf5584", func := "example.com/shroudpack/shroudpack/zzlaws_pkg_hook_g1.FnVetConfigFileReadsOnlyTheLast", spec := "fnVetConfigFileReadsOnlyTheLast", apart := false }
def FnVetConfigFileReadsOnlyTheLastSaid : Prop := fnVetConfigFileReadsOnlyTheLastRow.holds Try.pinned (OpenSpec.ofChange fnVetConfigFileReadsOnlyTheLastSpec)

/-- ITS FALSE NEIGHBOUR: 'it returns false'. Refute it at one input. -/
def fnVetConfigFileReadsOnlyTheLastWrong : ChangeSpec := { name := "fnVetConfigFileReadsOnlyTheLast", fn := fun _ => fun
  | [d1, d2] => { results := [.lit (.bool false)], args := [d1, d2] }
  | _ => none }
def FnVetConfigFileReadsOnlyTheLastWrongFalsely : Prop := fnVetConfigFileReadsOnlyTheLastRow.holds Try.pinned (OpenSpec.ofChange fnVetConfigFileReadsOnlyTheLastWrong)

end Rows
end Go.Proofs.Qxb6003851a
