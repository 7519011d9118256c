/-
  No cell of these rows narrows 'for every input' (looked for: loops, veiled, ifaces, maps, wideKeys, modest, calm, conditions, laid).
  DERIVED. THE GIVEN ROWS OF THIS SEAT. 4 by the template 'for every input the law returns true; each argument reads behind the call as it read before'; 0 by the template 'total and deterministic' (their statements: Qxb6003856aTotals.lean).
  GIVEN WITH THE SEED: the statements are not yours to turn. If you find one false, say at which input.
  Laid BY PROGRAM, IN A SANDBOX (cutbox-rows.mjs): the forced cells as the released guide's own fill.sh prints them over the translation 3524532f784a7dfd… (all of the seat's roots in one cut). By AI agents, Wed Nov 11 2026. No macro, syntax, notation, axiom, sorry.
-/
import Derived.Test.Qxb6003856aChecked
import GoSem.Claim
import GoSem.ClaimJoined
import GoSem.ClaimMapViews
import Derived.JoinedTies
import Derived.KernelRfl
namespace Go.Proofs.Qxb6003856a
/- THE CELL 'sum', in the pinned program and in every row, IS THE sha256 OF THE DUMP (.gsa) THAT Qxb6003856aProg.lean LOADS. Nothing in Lean hashes anything: it is a label: what it is worth is what the hold of that sum in a sandbox is worth. -/
noncomputable def Try.pinned : Pinned := { name := "qxb6003856a", sum := "3524532f784a7dfd84018053ba894ff357ea469a178fd622d3be834a5d1c9f6c", checked := Try.checked }
namespace Rows
def none {H : Type} : Left H := { results := [], args := [] }

/-- 'zzlaws_internal_match_b1.FnJaroWinklerInUnitRange': WHATEVER THE INPUT: true; the input reads as it did. -/
def fnJaroWinklerInUnitRangeSpec : ChangeSpec := { name := "fnJaroWinklerInUnitRange", fn := fun _ => fun
  | [d1, d2] => { results := [.lit (.bool true)], args := [d1, d2] }
  | _ => none }
def fnJaroWinklerInUnitRangeRow : OpenClaim := { program := "qxb6003856a", sum := "3524532f784a7dfd84018053ba894ff357ea469a178fd622d3be834a5d1c9f6c", func := "example.com/ledgerline/ledgerline/zzlaws_internal_match_b1.FnJaroWinklerInUnitRange", spec := "fnJaroWinklerInUnitRange", unfollowed := true, recurses := true, plainKeys := false, apart := false }
def FnJaroWinklerInUnitRangeSaid : Prop := fnJaroWinklerInUnitRangeRow.holds Try.pinned (OpenSpec.ofChange fnJaroWinklerInUnitRangeSpec)

/-- ITS FALSE NEIGHBOUR: 'it returns false'. Refute it at one input. -/
def fnJaroWinklerInUnitRangeWrong : ChangeSpec := { name := "fnJaroWinklerInUnitRange", fn := fun _ => fun
  | [d1, d2] => { results := [.lit (.bool false)], args := [d1, d2] }
  | _ => none }
def FnJaroWinklerInUnitRangeWrongFalsely : Prop := fnJaroWinklerInUnitRangeRow.holds Try.pinned (OpenSpec.ofChange fnJaroWinklerInUnitRangeWrong)

/-- 'zzlaws_internal_match_b1.FnJaroWinklerZeroExactlyWithoutMatches': WHATEVER THE INPUT: true; the input reads as it did. -/
def fnJaroWinklerZeroExactlyWithoutMatchesSpec : ChangeSpec := { name := "fnJaroWinklerZeroExactlyWithoutMatches", fn := fun _ => fun
  | [d1, d2] => { results := [.lit (.bool true)], args := [d1, d2] }
  | _ => none }
def fnJaroWinklerZeroExactlyWithoutMatchesRow : OpenClaim := { program := "qxb6003856a", sum := "3524532f784a7dfd84018053ba894ff357ea469a178fd622d3be834a5d1c9f6c", func := "example.com/ledgerline/ledgerline/zzlaws_internal_match_b1.FnJaroWinklerZeroExactlyWithoutMatches", spec := "fnJaroWinklerZeroExactlyWithoutMatches", unfollowed := true, recurses := true, plainKeys := false, apart := false }
def FnJaroWinklerZeroExactlyWithoutMatchesSaid : Prop := fnJaroWinklerZeroExactlyWithoutMatchesRow.holds Try.pinned (OpenSpec.ofChange fnJaroWinklerZeroExactlyWithoutMatchesSpec)

/-- ITS FALSE NEIGHBOUR: 'it returns false'. Refute it at one input. -/
def fnJaroWinklerZeroExactlyWithoutMatchesWrong : ChangeSpec := { name := "fnJaroWinklerZeroExactlyWithoutMatches", fn := fun _ => fun
  | [d1, d2] => { results := [.lit (.bool false)], args := [d1, d2] }
  | _ => none }
def FnJaroWinklerZeroExactlyWithoutMatchesWrongFalsely : Prop := fnJaroWinklerZeroExactlyWithoutMatchesRow.holds Try.pinned (OpenSpec.ofChange fnJaroWinklerZeroExactlyWithoutMatchesWrong)

/-- 'zzlaws_internal_match_b1.FnFrontierPopDrainsInNonIncreasingOrder': WHATEVER THE INPUT: true; the input reads as it did. -/
def fnFrontierPopDrainsInNonIncreasingOrderSpec : ChangeSpec := { name := "fnFrontierPopDrainsInNonIncreasingOrder", fn := fun _ => fun
  | [d] => { results := [.lit (.bool true)], args := [d] }
  | _ => none }
def fnFrontierPopDrainsInNonIncreasingOrderRow : OpenClaim := { program := "qxb6003856a", sum := "3524532f784a7dfd84018053ba894ff357ea469a178fd622d3be834a5d1c9f6c", func := "example.com/ledgerline/ledgerline/zzlaws_internal_match_b1.FnFrontierPopDrainsInNonIncreasingOrder", spec := "fnFrontierPopDrainsInNonIncreasingOrder", plainKeys := false, apart := false }
def FnFrontierPopDrainsInNonIncreasingOrderSaid : Prop := fnFrontierPopDrainsInNonIncreasingOrderRow.holds Try.pinned (OpenSpec.ofChange fnFrontierPopDrainsInNonIncreasingOrderSpec)

/-- ITS FALSE NEIGHBOUR: 'it returns false'. Refute it at one input. -/
def fnFrontierPopDrainsInNonIncreasingOrderWrong : ChangeSpec := { name := "fnFrontierPopDrainsInNonIncreasingOrder", fn := fun _ => fun
  | [d] => { results := [.lit (.bool false)], args := [d] }
  | _ => none }
def FnFrontierPopDrainsInNonIncreasingOrderWrongFalsely : Prop := fnFrontierPopDrainsInNonIncreasingOrderRow.holds Try.pinned (OpenSpec.ofChange fnFrontierPopDrainsInNonIncreasingOrderWrong)

/-- 'zzlaws_internal_match_b1.FnFrontierPopTakesTheHighestAndKeepsAHeap': WHATEVER THE INPUT: true; the input reads as it did. -/
def fnFrontierPopTakesTheHighestAndKeepsAHeapSpec : ChangeSpec := { name := "fnFrontierPopTakesTheHighestAndKeepsAHeap", fn := fun _ => fun
  | [d] => { results := [.lit (.bool true)], args := [d] }
  | _ => none }
def fnFrontierPopTakesTheHighestAndKeepsAHeapRow : OpenClaim := { program := "qxb6003856a", sum := "3524532f784a7dfd84018053ba894ff357ea469a178fd622d3be834a5d1c9f6c", func := "example.com/ledgerline/ledgerline/zzlaws_internal_match_b1.FnFrontierPopTakesTheHighestAndKeepsAHeap", spec := "fnFrontierPopTakesTheHighestAndKeepsAHeap", plainKeys := false, apart := false }
def FnFrontierPopTakesTheHighestAndKeepsAHeapSaid : Prop := fnFrontierPopTakesTheHighestAndKeepsAHeapRow.holds Try.pinned (OpenSpec.ofChange fnFrontierPopTakesTheHighestAndKeepsAHeapSpec)

/-- ITS FALSE NEIGHBOUR: 'it returns false'. Refute it at one input. -/
def fnFrontierPopTakesTheHighestAndKeepsAHeapWrong : ChangeSpec := { name := "fnFrontierPopTakesTheHighestAndKeepsAHeap", fn := fun _ => fun
  | [d] => { results := [.lit (.bool false)], args := [d] }
  | _ => none }
def FnFrontierPopTakesTheHighestAndKeepsAHeapWrongFalsely : Prop := fnFrontierPopTakesTheHighestAndKeepsAHeapRow.holds Try.pinned (OpenSpec.ofChange fnFrontierPopTakesTheHighestAndKeepsAHeapWrong)

end Rows
end Go.Proofs.Qxb6003856a
