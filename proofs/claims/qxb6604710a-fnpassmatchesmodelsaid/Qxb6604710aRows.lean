/-
  No cell of these rows narrows 'for every input' (looked for: loops, veiled, ifaces, maps, wideKeys, modest, calm, conditions, laid).
  DERIVED. THE GIVEN ROWS OF THIS SEAT. 6 by the template 'for every input the law returns true; each argument reads behind the call as it read before'; 0 by the template 'total and deterministic' (their statements: Qxb6604710aTotals.lean).
  GIVEN WITH THE SEED: the statements are not yours to turn. If you find one false, say at which input.
  Laid BY PROGRAM, IN A SANDBOX (cutbox-rows.mjs): the forced cells as the released guide's own fill.sh prints them over the translation 19228e669b4c09c3… (all of the seat's roots in one cut). By AI agents, Wed Nov 11 2026. No macro, syntax, notation, axiom, sorry.
-/
import Derived.Test.Qxb6604710aChecked
import GoSem.Claim
import GoSem.ClaimJoined
import GoSem.ClaimMapViews
import Derived.JoinedTies
import Derived.KernelRfl
namespace Go.Proofs.Qxb6604710a
/- THE CELL 'sum', in the pinned program and in every row, IS THE sha256 OF THE DUMP (.gsa) THAT Qxb6604710aProg.lean LOADS. Nothing in Lean hashes anything: it is a label: what it is worth is what the hold of that sum in a sandbox is worth. -/
noncomputable def Try.pinned : Pinned := { name := "qxb6604710a", sum := "19228e669b4c09c34633be5d2f34bfe65c5d6b841fa56ae0ddd15563a39b9619", checked := Try.checked }
namespace Rows
def none {H : Type} : Left H := { results := [], args := [] }

/-- 'zzlaws_merge_b1.FnSettleExact': WHATEVER THE INPUT: true; the input reads as it did. -/
def fnSettleExactSpec : ChangeSpec := { name := "fnSettleExact", fn := fun _ => fun
  | [d1, d2, d3, d4, d5, d6, d7, d8, d9] => { results := [.lit (.bool true)], args := [d1, d2, d3, d4, d5, d6, d7, d8, d9] }
  | _ => none }
def fnSettleExactRow : OpenClaim := { program := "qxb6604710a", sum := "19228e669b4c09c34633be5d2f34bfe65c5d6b841fa56ae0ddd15563a39b9619", func := "example.com/seriate/seriate/zzlaws_merge_b1.FnSettleExact", spec := "fnSettleExact", unfollowed := true, recurses := true, plainKeys := false, apart := false }
def FnSettleExactSaid : Prop := fnSettleExactRow.holds Try.pinned (OpenSpec.ofChange fnSettleExactSpec)

/-- ITS FALSE NEIGHBOUR: 'it returns false'. Refute it at one input. -/
def fnSettleExactWrong : ChangeSpec := { name := "fnSettleExact", fn := fun _ => fun
  | [d1, d2, d3, d4, d5, d6, d7, d8, d9] => { results := [.lit (.bool false)], args := [d1, d2, d3, d4, d5, d6, d7, d8, d9] }
  | _ => none }
def FnSettleExactWrongFalsely : Prop := fnSettleExactRow.holds Try.pinned (OpenSpec.ofChange fnSettleExactWrong)

/-- 'zzlaws_merge_b1.FnSettleScriptKeepsQueues': WHATEVER THE INPUT: true; the input reads as it did. -/
def fnSettleScriptKeepsQueuesSpec : ChangeSpec := { name := "fnSettleScriptKeepsQueues", fn := fun _ => fun
  | [d1, d2] => { results := [.lit (.bool true)], args := [d1, d2] }
  | _ => none }
def fnSettleScriptKeepsQueuesRow : OpenClaim := { program := "qxb6604710a", sum := "19228e669b4c09c34633be5d2f34bfe65c5d6b841fa56ae0ddd15563a39b9619", func := "example.com/seriate/seriate/zzlaws_merge_b1.FnSettleScriptKeepsQueues", spec := "fnSettleScriptKeepsQueues", unfollowed := true, recurses := true, plainKeys := false, apart := false }
def FnSettleScriptKeepsQueuesSaid : Prop := fnSettleScriptKeepsQueuesRow.holds Try.pinned (OpenSpec.ofChange fnSettleScriptKeepsQueuesSpec)

/-- ITS FALSE NEIGHBOUR: 'it returns false'. Refute it at one input. -/
def fnSettleScriptKeepsQueuesWrong : ChangeSpec := { name := "fnSettleScriptKeepsQueues", fn := fun _ => fun
  | [d1, d2] => { results := [.lit (.bool false)], args := [d1, d2] }
  | _ => none }
def FnSettleScriptKeepsQueuesWrongFalsely : Prop := fnSettleScriptKeepsQueuesRow.holds Try.pinned (OpenSpec.ofChange fnSettleScriptKeepsQueuesWrong)

/-- 'zzlaws_merge_b1.FnCommittingExact': WHATEVER THE INPUT: true; the input reads as it did. -/
def fnCommittingExactSpec : ChangeSpec := { name := "fnCommittingExact", fn := fun _ => fun
  | [d] => { results := [.lit (.bool true)], args := [d] }
  | _ => none }
def fnCommittingExactRow : OpenClaim := { program := "qxb6604710a", sum := "19228e669b4c09c34633be5d2f34bfe65c5d6b841fa56ae0ddd15563a39b9619", func := "example.com/seriate/seriate/zzlaws_merge_b1.FnCommittingExact", spec := "fnCommittingExact", unfollowed := true, recurses := true, plainKeys := false, apart := false }
def FnCommittingExactSaid : Prop := fnCommittingExactRow.holds Try.pinned (OpenSpec.ofChange fnCommittingExactSpec)

/-- ITS FALSE NEIGHBOUR: 'it returns false'. Refute it at one input. -/
def fnCommittingExactWrong : ChangeSpec := { name := "fnCommittingExact", fn := fun _ => fun
  | [d] => { results := [.lit (.bool false)], args := [d] }
  | _ => none }
def FnCommittingExactWrongFalsely : Prop := fnCommittingExactRow.holds Try.pinned (OpenSpec.ofChange fnCommittingExactWrong)

/-- 'zzlaws_merge_b1.FnCommittingAfterSettles': WHATEVER THE INPUT: true; the input reads as it did. -/
def fnCommittingAfterSettlesSpec : ChangeSpec := { name := "fnCommittingAfterSettles", fn := fun _ => fun
  | [d1, d2] => { results := [.lit (.bool true)], args := [d1, d2] }
  | _ => none }
def fnCommittingAfterSettlesRow : OpenClaim := { program := "qxb6604710a", sum := "19228e669b4c09c34633be5d2f34bfe65c5d6b841fa56ae0ddd15563a39b9619", func := "example.com/seriate/seriate/zzlaws_merge_b1.FnCommittingAfterSettles", spec := "fnCommittingAfterSettles", unfollowed := true, recurses := true, plainKeys := false, apart := false }
def FnCommittingAfterSettlesSaid : Prop := fnCommittingAfterSettlesRow.holds Try.pinned (OpenSpec.ofChange fnCommittingAfterSettlesSpec)

/-- ITS FALSE NEIGHBOUR: 'it returns false'. Refute it at one input. -/
def fnCommittingAfterSettlesWrong : ChangeSpec := { name := "fnCommittingAfterSettles", fn := fun _ => fun
  | [d1, d2] => { results := [.lit (.bool false)], args := [d1, d2] }
  | _ => none }
def FnCommittingAfterSettlesWrongFalsely : Prop := fnCommittingAfterSettlesRow.holds Try.pinned (OpenSpec.ofChange fnCommittingAfterSettlesWrong)

/-- 'zzlaws_merge_b1.FnPassMatchesModel': WHATEVER THE INPUT: true; the input reads as it did. -/
def fnPassMatchesModelSpec : ChangeSpec := { name := "fnPassMatchesModel", fn := fun _ => fun
  | [d1, d2, d3] => { results := [.lit (.bool true)], args := [d1, d2, d3] }
  | _ => none }
def fnPassMatchesModelRow : OpenClaim := { program := "qxb6604710a", sum := "19228e669b4c09c34633be5d2f34bfe65c5d6b841fa56ae0ddd15563a39b9619", func := "example.com/seriate/seriate/zzlaws_merge_b1.FnPassMatchesModel", spec := "fnPassMatchesModel", inPlace := ["internal/reflectlite.ValueOf", "internal/reflectlite.Swapper", "(internal/reflectlite.Value).Len"], unfollowed := true, recurses := true, plainKeys := false, apart := false }
def FnPassMatchesModelSaid : Prop := fnPassMatchesModelRow.holds Try.pinned (OpenSpec.ofChange fnPassMatchesModelSpec)

/-- ITS FALSE NEIGHBOUR: 'it returns false'. Refute it at one input. -/
def fnPassMatchesModelWrong : ChangeSpec := { name := "fnPassMatchesModel", fn := fun _ => fun
  | [d1, d2, d3] => { results := [.lit (.bool false)], args := [d1, d2, d3] }
  | _ => none }
def FnPassMatchesModelWrongFalsely : Prop := fnPassMatchesModelRow.holds Try.pinned (OpenSpec.ofChange fnPassMatchesModelWrong)

/-- 'zzlaws_merge_b1.FnPassKeepsNewest': WHATEVER THE INPUT: true; the input reads as it did. -/
def fnPassKeepsNewestSpec : ChangeSpec := { name := "fnPassKeepsNewest", fn := fun _ => fun
  | [d1, d2] => { results := [.lit (.bool true)], args := [d1, d2] }
  | _ => none }
def fnPassKeepsNewestRow : OpenClaim := { program := "qxb6604710a", sum := "19228e669b4c09c34633be5d2f34bfe65c5d6b841fa56ae0ddd15563a39b9619", func := "example.com/seriate/seriate/zzlaws_merge_b1.FnPassKeepsNewest", spec := "fnPassKeepsNewest", inPlace := ["internal/reflectlite.ValueOf", "internal/reflectlite.Swapper", "(internal/reflectlite.Value).Len"], unfollowed := true, recurses := true, plainKeys := false, apart := false }
def FnPassKeepsNewestSaid : Prop := fnPassKeepsNewestRow.holds Try.pinned (OpenSpec.ofChange fnPassKeepsNewestSpec)

/-- ITS FALSE NEIGHBOUR: 'it returns false'. Refute it at one input. -/
def fnPassKeepsNewestWrong : ChangeSpec := { name := "fnPassKeepsNewest", fn := fun _ => fun
  | [d1, d2] => { results := [.lit (.bool false)], args := [d1, d2] }
  | _ => none }
def FnPassKeepsNewestWrongFalsely : Prop := fnPassKeepsNewestRow.holds Try.pinned (OpenSpec.ofChange fnPassKeepsNewestWrong)

end Rows
end Go.Proofs.Qxb6604710a
