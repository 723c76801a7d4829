/-
  No cell of these rows narrows 'for every input' (looked for: loops, veiled, ifaces, maps, wideKeys, modest, calm, conditions, laid).
  DERIVED. THE GIVEN ROWS OF THIS SEAT. 7 by the template 'for every input the law returns true; each argument reads behind the call as it read before'; 0 by the template 'total and deterministic' (their statements: Qxb6602348aTotals.lean).
  GIVEN WITH THE SEED: the statements are not yours to turn. If you find one false, say at which input.
  Laid BY PROGRAM, IN A SANDBOX (cutbox-rows.mjs): the forced cells as the released guide's own fill.sh prints them over the translation f96957ec5cc40bf2… (all of the seat's roots in one cut). By AI agents, Wed Nov 11 2026. No macro, syntax, notation, axiom, sorry.
-/
import Derived.Test.Qxb6602348aChecked
import GoSem.Claim
import GoSem.ClaimJoined
import GoSem.ClaimMapViews
import Derived.JoinedTies
import Derived.KernelRfl
namespace Go.Proofs.Qxb6602348a
/- THE CELL 'sum', in the pinned program and in every row, IS THE sha256 OF THE DUMP (.gsa) THAT Qxb6602348aProg.lean LOADS. Nothing in Lean hashes anything: it is a label: what it is worth is what the hold of that sum in a sandbox is worth. -/
noncomputable def Try.pinned : Pinned := { name := "qxb6602348a", sum := "f96957ec5cc40bf2de1ea33283610b38fe9fd97401cfa8ea4690ef7404f06930", checked := Try.checked }
namespace Rows
def none {H : Type} : Left H := { results := [], args := [] }

/-- 'zzlaws_stats_b1.FnSortCountingFallsExact': WHATEVER THE INPUT: true; the input reads as it did. -/
def fnSortCountingFallsExactSpec : ChangeSpec := { name := "fnSortCountingFallsExact", fn := fun _ => fun
  | [d1, d2] => { results := [.lit (.bool true)], args := [d1, d2] }
  | _ => none }
def fnSortCountingFallsExactRow : OpenClaim := { program := "qxb6602348a", sum := "f96957ec5cc40bf2de1ea33283610b38fe9fd97401cfa8ea4690ef7404f06930", func := "example.com/calipers/calipers/zzlaws_stats_b1.FnSortCountingFallsExact", spec := "fnSortCountingFallsExact", apart := false }
def FnSortCountingFallsExactSaid : Prop := fnSortCountingFallsExactRow.holds Try.pinned (OpenSpec.ofChange fnSortCountingFallsExactSpec)

/-- ITS FALSE NEIGHBOUR: 'it returns false'. Refute it at one input. -/
def fnSortCountingFallsExactWrong : ChangeSpec := { name := "fnSortCountingFallsExact", fn := fun _ => fun
  | [d1, d2] => { results := [.lit (.bool false)], args := [d1, d2] }
  | _ => none }
def FnSortCountingFallsExactWrongFalsely : Prop := fnSortCountingFallsExactRow.holds Try.pinned (OpenSpec.ofChange fnSortCountingFallsExactWrong)

/-- 'zzlaws_stats_b1.FnSortCountingFallsReversal': WHATEVER THE INPUT: true; the input reads as it did. -/
def fnSortCountingFallsReversalSpec : ChangeSpec := { name := "fnSortCountingFallsReversal", fn := fun _ => fun
  | [d] => { results := [.lit (.bool true)], args := [d] }
  | _ => none }
def fnSortCountingFallsReversalRow : OpenClaim := { program := "qxb6602348a", sum := "f96957ec5cc40bf2de1ea33283610b38fe9fd97401cfa8ea4690ef7404f06930", func := "example.com/calipers/calipers/zzlaws_stats_b1.FnSortCountingFallsReversal", spec := "fnSortCountingFallsReversal", apart := false }
def FnSortCountingFallsReversalSaid : Prop := fnSortCountingFallsReversalRow.holds Try.pinned (OpenSpec.ofChange fnSortCountingFallsReversalSpec)

/-- ITS FALSE NEIGHBOUR: 'it returns false'. Refute it at one input. -/
def fnSortCountingFallsReversalWrong : ChangeSpec := { name := "fnSortCountingFallsReversal", fn := fun _ => fun
  | [d] => { results := [.lit (.bool false)], args := [d] }
  | _ => none }
def FnSortCountingFallsReversalWrongFalsely : Prop := fnSortCountingFallsReversalRow.holds Try.pinned (OpenSpec.ofChange fnSortCountingFallsReversalWrong)

/-- 'zzlaws_stats_b1.FnRankSumExact': WHATEVER THE INPUT: true; the input reads as it did. -/
def fnRankSumExactSpec : ChangeSpec := { name := "fnRankSumExact", fn := fun _ => fun
  | [d1, d2] => { results := [.lit (.bool true)], args := [d1, d2] }
  | _ => none }
def fnRankSumExactRow : OpenClaim := { program := "qxb6602348a", sum := "f96957ec5cc40bf2de1ea33283610b38fe9fd97401cfa8ea4690ef7404f06930", func := "example.com/calipers/calipers/zzlaws_stats_b1.FnRankSumExact", spec := "fnRankSumExact", apart := false }
def FnRankSumExactSaid : Prop := fnRankSumExactRow.holds Try.pinned (OpenSpec.ofChange fnRankSumExactSpec)

/-- ITS FALSE NEIGHBOUR: 'it returns false'. Refute it at one input. -/
def fnRankSumExactWrong : ChangeSpec := { name := "fnRankSumExact", fn := fun _ => fun
  | [d1, d2] => { results := [.lit (.bool false)], args := [d1, d2] }
  | _ => none }
def FnRankSumExactWrongFalsely : Prop := fnRankSumExactRow.holds Try.pinned (OpenSpec.ofChange fnRankSumExactWrong)

/-- 'zzlaws_stats_b1.FnRankSumSymmetry': WHATEVER THE INPUT: true; the input reads as it did. -/
def fnRankSumSymmetrySpec : ChangeSpec := { name := "fnRankSumSymmetry", fn := fun _ => fun
  | [d1, d2] => { results := [.lit (.bool true)], args := [d1, d2] }
  | _ => none }
def fnRankSumSymmetryRow : OpenClaim := { program := "qxb6602348a", sum := "f96957ec5cc40bf2de1ea33283610b38fe9fd97401cfa8ea4690ef7404f06930", func := "example.com/calipers/calipers/zzlaws_stats_b1.FnRankSumSymmetry", spec := "fnRankSumSymmetry", apart := false }
def FnRankSumSymmetrySaid : Prop := fnRankSumSymmetryRow.holds Try.pinned (OpenSpec.ofChange fnRankSumSymmetrySpec)

/-- ITS FALSE NEIGHBOUR: 'it returns false'. Refute it at one input. -/
def fnRankSumSymmetryWrong : ChangeSpec := { name := "fnRankSumSymmetry", fn := fun _ => fun
  | [d1, d2] => { results := [.lit (.bool false)], args := [d1, d2] }
  | _ => none }
def FnRankSumSymmetryWrongFalsely : Prop := fnRankSumSymmetryRow.holds Try.pinned (OpenSpec.ofChange fnRankSumSymmetryWrong)

/-- 'zzlaws_stats_b1.FnMergeCountingFallsExact': WHATEVER THE INPUT: true; the input reads as it did. -/
def fnMergeCountingFallsExactSpec : ChangeSpec := { name := "fnMergeCountingFallsExact", fn := fun _ => fun
  | [d1, d2] => { results := [.lit (.bool true)], args := [d1, d2] }
  | _ => none }
def fnMergeCountingFallsExactRow : OpenClaim := { program := "qxb6602348a", sum := "f96957ec5cc40bf2de1ea33283610b38fe9fd97401cfa8ea4690ef7404f06930", func := "example.com/calipers/calipers/zzlaws_stats_b1.FnMergeCountingFallsExact", spec := "fnMergeCountingFallsExact", unfollowed := true, recurses := true, apart := false }
def FnMergeCountingFallsExactSaid : Prop := fnMergeCountingFallsExactRow.holds Try.pinned (OpenSpec.ofChange fnMergeCountingFallsExactSpec)

/-- ITS FALSE NEIGHBOUR: 'it returns false'. Refute it at one input. -/
def fnMergeCountingFallsExactWrong : ChangeSpec := { name := "fnMergeCountingFallsExact", fn := fun _ => fun
  | [d1, d2] => { results := [.lit (.bool false)], args := [d1, d2] }
  | _ => none }
def FnMergeCountingFallsExactWrongFalsely : Prop := fnMergeCountingFallsExactRow.holds Try.pinned (OpenSpec.ofChange fnMergeCountingFallsExactWrong)

/-- 'zzlaws_stats_b1.FnMergeCountingFallsAgreesWithSort': WHATEVER THE INPUT: true; the input reads as it did. -/
def fnMergeCountingFallsAgreesWithSortSpec : ChangeSpec := { name := "fnMergeCountingFallsAgreesWithSort", fn := fun _ => fun
  | [d1, d2] => { results := [.lit (.bool true)], args := [d1, d2] }
  | _ => none }
def fnMergeCountingFallsAgreesWithSortRow : OpenClaim := { program := "qxb6602348a", sum := "f96957ec5cc40bf2de1ea33283610b38fe9fd97401cfa8ea4690ef7404f06930", func := "example.com/calipers/calipers/zzlaws_stats_b1.FnMergeCountingFallsAgreesWithSort", spec := "fnMergeCountingFallsAgreesWithSort", unfollowed := true, recurses := true, apart := false }
def FnMergeCountingFallsAgreesWithSortSaid : Prop := fnMergeCountingFallsAgreesWithSortRow.holds Try.pinned (OpenSpec.ofChange fnMergeCountingFallsAgreesWithSortSpec)

/-- ITS FALSE NEIGHBOUR: 'it returns false'. Refute it at one input. -/
def fnMergeCountingFallsAgreesWithSortWrong : ChangeSpec := { name := "fnMergeCountingFallsAgreesWithSort", fn := fun _ => fun
  | [d1, d2] => { results := [.lit (.bool false)], args := [d1, d2] }
  | _ => none }
def FnMergeCountingFallsAgreesWithSortWrongFalsely : Prop := fnMergeCountingFallsAgreesWithSortRow.holds Try.pinned (OpenSpec.ofChange fnMergeCountingFallsAgreesWithSortWrong)

/-- 'zzlaws_stats_b1.FnRankSumAgreesWithMerge': WHATEVER THE INPUT: true; the input reads as it did. -/
def fnRankSumAgreesWithMergeSpec : ChangeSpec := { name := "fnRankSumAgreesWithMerge", fn := fun _ => fun
  | [d1, d2] => { results := [.lit (.bool true)], args := [d1, d2] }
  | _ => none }
def fnRankSumAgreesWithMergeRow : OpenClaim := { program := "qxb6602348a", sum := "f96957ec5cc40bf2de1ea33283610b38fe9fd97401cfa8ea4690ef7404f06930", func := "example.com/calipers/calipers/zzlaws_stats_b1.FnRankSumAgreesWithMerge", spec := "fnRankSumAgreesWithMerge", unfollowed := true, recurses := true, apart := false }
def FnRankSumAgreesWithMergeSaid : Prop := fnRankSumAgreesWithMergeRow.holds Try.pinned (OpenSpec.ofChange fnRankSumAgreesWithMergeSpec)

/-- ITS FALSE NEIGHBOUR: 'it returns false'. Refute it at one input. -/
def fnRankSumAgreesWithMergeWrong : ChangeSpec := { name := "fnRankSumAgreesWithMerge", fn := fun _ => fun
  | [d1, d2] => { results := [.lit (.bool false)], args := [d1, d2] }
  | _ => none }
def FnRankSumAgreesWithMergeWrongFalsely : Prop := fnRankSumAgreesWithMergeRow.holds Try.pinned (OpenSpec.ofChange fnRankSumAgreesWithMergeWrong)

end Rows
end Go.Proofs.Qxb6602348a
