/-
  No cell of these rows narrows 'for every input' (looked for: loops, veiled, ifaces, maps, wideKeys, modest, calm, conditions, laid).
  DERIVED. THE GIVEN ROWS OF THIS SEAT. 2 by the template 'for every input the law returns true; each argument reads behind the call as it read before'; 0 by the template 'total and deterministic' (their statements: Qxb6604667aTotals.lean).
  GIVEN WITH THE SEED: the statements are not yours to turn. If you find one false, say at which input.
  Laid BY PROGRAM, IN A SANDBOX (cutbox-rows.mjs): the forced cells as the released guide's own fill.sh prints them over the translation 588188ba9169b865… (all of the seat's roots in one cut). By AI agents, Wed Nov 11 2026. No macro, syntax, notation, axiom, sorry.
-/
import Derived.Test.Qxb6604667aChecked
import GoSem.Claim
import GoSem.ClaimJoined
import GoSem.ClaimMapViews
import Derived.JoinedTies
import Derived.KernelRfl
namespace Go.Proofs.Qxb6604667a
/- THE CELL 'sum', in the pinned program and in every row, IS THE sha256 OF THE DUMP (.gsa) THAT Qxb6604667aProg.lean LOADS. Nothing in Lean hashes anything: it is a label: what it is worth is what the hold of that sum in a sandbox is worth. -/
noncomputable def Try.pinned : Pinned := { name := "qxb6604667a", sum := "588188ba9169b8659a6b2b87ae4d0ae393a2c34028c99627df4a3cd9bdf75d3f", checked := Try.checked }
namespace Rows
def none {H : Type} : Left H := { results := [], args := [] }

/-- 'zzlaws_pkg_fair_b1.FnCompareOrdersRatiosAsTheirQuotients': WHATEVER THE INPUT: true; the input reads as it did. -/
def fnCompareOrdersRatiosAsTheirQuotientsSpec : ChangeSpec := { name := "fnCompareOrdersRatiosAsTheirQuotients", fn := fun _ => fun
  | [d1, d2, d3, d4] => { results := [.lit (.bool true)], args := [d1, d2, d3, d4] }
  | _ => none }
def fnCompareOrdersRatiosAsTheirQuotientsRow : OpenClaim := { program := "qxb6604667a", sum := "588188ba9169b8659a6b2b87ae4d0ae393a2c34028c99627df4a3cd9bdf75d3f", func := "example.com/kerfline/kerfline/zzlaws_pkg_fair_b1.FnCompareOrdersRatiosAsTheirQuotients", spec := "fnCompareOrdersRatiosAsTheirQuotients", inPlace := ["math.Float64bits", "math.Float64frombits"], apart := false }
def FnCompareOrdersRatiosAsTheirQuotientsSaid : Prop := fnCompareOrdersRatiosAsTheirQuotientsRow.holds Try.pinned (OpenSpec.ofChange fnCompareOrdersRatiosAsTheirQuotientsSpec)

/-- ITS FALSE NEIGHBOUR: 'it returns false'. Refute it at one input. -/
def fnCompareOrdersRatiosAsTheirQuotientsWrong : ChangeSpec := { name := "fnCompareOrdersRatiosAsTheirQuotients", fn := fun _ => fun
  | [d1, d2, d3, d4] => { results := [.lit (.bool false)], args := [d1, d2, d3, d4] }
  | _ => none }
def FnCompareOrdersRatiosAsTheirQuotientsWrongFalsely : Prop := fnCompareOrdersRatiosAsTheirQuotientsRow.holds Try.pinned (OpenSpec.ofChange fnCompareOrdersRatiosAsTheirQuotientsWrong)

/-- 'zzlaws_pkg_fair_b1.FnCompareKeepsOrderPastTheFloatRange': WHATEVER THE INPUT: true; the input reads as it did. -/
def fnCompareKeepsOrderPastTheFloatRangeSpec : ChangeSpec := { name := "fnCompareKeepsOrderPastTheFloatRange", fn := fun _ => fun
  | [d1, d2, d3] => { results := [.lit (.bool true)], args := [d1, d2, d3] }
  | _ => none }
def fnCompareKeepsOrderPastTheFloatRangeRow : OpenClaim := { program := "qxb6604667a", sum := "588188ba9169b8659a6b2b87ae4d0ae393a2c34028c99627df4a3cd9bdf75d3f", func := "example.com/kerfline/kerfline/zzlaws_pkg_fair_b1.FnCompareKeepsOrderPastTheFloatRange", spec := "fnCompareKeepsOrderPastTheFloatRange", inPlace := ["math.Float64bits", "math.Float64frombits"], apart := false }
def FnCompareKeepsOrderPastTheFloatRangeSaid : Prop := fnCompareKeepsOrderPastTheFloatRangeRow.holds Try.pinned (OpenSpec.ofChange fnCompareKeepsOrderPastTheFloatRangeSpec)

/-- ITS FALSE NEIGHBOUR: 'it returns false'. Refute it at one input. -/
def fnCompareKeepsOrderPastTheFloatRangeWrong : ChangeSpec := { name := "fnCompareKeepsOrderPastTheFloatRange", fn := fun _ => fun
  | [d1, d2, d3] => { results := [.lit (.bool false)], args := [d1, d2, d3] }
  | _ => none }
def FnCompareKeepsOrderPastTheFloatRangeWrongFalsely : Prop := fnCompareKeepsOrderPastTheFloatRangeRow.holds Try.pinned (OpenSpec.ofChange fnCompareKeepsOrderPastTheFloatRangeWrong)

end Rows
end Go.Proofs.Qxb6604667a
