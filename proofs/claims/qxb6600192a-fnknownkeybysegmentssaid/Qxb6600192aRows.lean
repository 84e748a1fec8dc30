/-
  No cell of these rows narrows 'for every input' (looked for: loops, veiled, ifaces, maps, wideKeys, modest, calm, conditions, laid).
  DERIVED. THE GIVEN ROWS OF THIS SEAT. 5 by the template 'for every input the law returns true; each argument reads behind the call as it read before'; 0 by the template 'total and deterministic' (their statements: Qxb6600192aTotals.lean).
  GIVEN WITH THE SEED: the statements are not yours to turn. If you find one false, say at which input.
  Laid BY PROGRAM, IN A SANDBOX (cutbox-rows.mjs): the forced cells as the released guide's own fill.sh prints them over the translation 5463ff63a0f50105… (all of the seat's roots in one cut). By AI agents, Wed Nov 11 2026. No macro, syntax, notation, axiom, sorry.
-/
import Derived.Test.Qxb6600192aChecked
import GoSem.Claim
import GoSem.ClaimJoined
import GoSem.ClaimMapViews
import Derived.JoinedTies
import Derived.KernelRfl
namespace Go.Proofs.Qxb6600192a
/- THE CELL 'sum', in the pinned program and in every row, IS THE sha256 OF THE DUMP (.gsa) THAT Qxb6600192aProg.lean LOADS. Nothing in Lean hashes anything: it is a label: what it is worth is what the hold of that sum in a sandbox is worth. -/
noncomputable def Try.pinned : Pinned := { name := "qxb6600192a", sum := "5463ff63a0f50105a82d928e78ce710012fe3bfc2f65e67aaa7b5d19cbeb6e3c", checked := Try.checked }
namespace Rows
def none {H : Type} : Left H := { results := [], args := [] }

/-- 'zzlaws_internal_input_b1.FnAppendEscapedReadsBackCanonically': WHATEVER THE INPUT: true; the input reads as it did. -/
def fnAppendEscapedReadsBackCanonicallySpec : ChangeSpec := { name := "fnAppendEscapedReadsBackCanonically", fn := fun _ => fun
  | [d1, d2] => { results := [.lit (.bool true)], args := [d1, d2] }
  | _ => none }
def fnAppendEscapedReadsBackCanonicallyRow : OpenClaim := { program := "qxb6600192a", sum := "5463ff63a0f50105a82d928e78ce710012fe3bfc2f65e67aaa7b5d19cbeb6e3c", func := "example.com/tuoguan/tuoguan/zzlaws_internal_input_b1.FnAppendEscapedReadsBackCanonically", spec := "fnAppendEscapedReadsBackCanonically", apart := false }
def FnAppendEscapedReadsBackCanonicallySaid : Prop := fnAppendEscapedReadsBackCanonicallyRow.holds Try.pinned (OpenSpec.ofChange fnAppendEscapedReadsBackCanonicallySpec)

/-- ITS FALSE NEIGHBOUR: 'it returns false'. Refute it at one input. -/
def fnAppendEscapedReadsBackCanonicallyWrong : ChangeSpec := { name := "fnAppendEscapedReadsBackCanonically", fn := fun _ => fun
  | [d1, d2] => { results := [.lit (.bool false)], args := [d1, d2] }
  | _ => none }
def FnAppendEscapedReadsBackCanonicallyWrongFalsely : Prop := fnAppendEscapedReadsBackCanonicallyRow.holds Try.pinned (OpenSpec.ofChange fnAppendEscapedReadsBackCanonicallyWrong)

/-- 'zzlaws_internal_input_b1.FnAppendEscapedSplitsOverConcatenation': WHATEVER THE INPUT: true; the input reads as it did. -/
def fnAppendEscapedSplitsOverConcatenationSpec : ChangeSpec := { name := "fnAppendEscapedSplitsOverConcatenation", fn := fun _ => fun
  | [d1, d2, d3] => { results := [.lit (.bool true)], args := [d1, d2, d3] }
  | _ => none }
def fnAppendEscapedSplitsOverConcatenationRow : OpenClaim := { program := "qxb6600192a", sum := "5463ff63a0f50105a82d928e78ce710012fe3bfc2f65e67aaa7b5d19cbeb6e3c", func := "example.com/tuoguan/tuoguan/zzlaws_internal_input_b1.FnAppendEscapedSplitsOverConcatenation", spec := "fnAppendEscapedSplitsOverConcatenation", apart := false }
def FnAppendEscapedSplitsOverConcatenationSaid : Prop := fnAppendEscapedSplitsOverConcatenationRow.holds Try.pinned (OpenSpec.ofChange fnAppendEscapedSplitsOverConcatenationSpec)

/-- ITS FALSE NEIGHBOUR: 'it returns false'. Refute it at one input. -/
def fnAppendEscapedSplitsOverConcatenationWrong : ChangeSpec := { name := "fnAppendEscapedSplitsOverConcatenation", fn := fun _ => fun
  | [d1, d2, d3] => { results := [.lit (.bool false)], args := [d1, d2, d3] }
  | _ => none }
def FnAppendEscapedSplitsOverConcatenationWrongFalsely : Prop := fnAppendEscapedSplitsOverConcatenationRow.holds Try.pinned (OpenSpec.ofChange fnAppendEscapedSplitsOverConcatenationWrong)

/-- 'zzlaws_internal_input_b1.FnKnownKeyBySegments': WHATEVER THE INPUT: true; the input reads as it did. -/
def fnKnownKeyBySegmentsSpec : ChangeSpec := { name := "fnKnownKeyBySegments", fn := fun _ => fun
  | [d1, d2] => { results := [.lit (.bool true)], args := [d1, d2] }
  | _ => none }
def fnKnownKeyBySegmentsRow : OpenClaim := { program := "qxb6600192a", sum := "5463ff63a0f50105a82d928e78ce710012fe3bfc2f65e67aaa7b5d19cbeb6e3c", func := "example.com/tuoguan/tuoguan/zzlaws_internal_input_b1.FnKnownKeyBySegments", spec := "fnKnownKeyBySegments", apart := false }
def FnKnownKeyBySegmentsSaid : Prop := fnKnownKeyBySegmentsRow.holds Try.pinned (OpenSpec.ofChange fnKnownKeyBySegmentsSpec)

/-- ITS FALSE NEIGHBOUR: 'it returns false'. Refute it at one input. -/
def fnKnownKeyBySegmentsWrong : ChangeSpec := { name := "fnKnownKeyBySegments", fn := fun _ => fun
  | [d1, d2] => { results := [.lit (.bool false)], args := [d1, d2] }
  | _ => none }
def FnKnownKeyBySegmentsWrongFalsely : Prop := fnKnownKeyBySegmentsRow.holds Try.pinned (OpenSpec.ofChange fnKnownKeyBySegmentsWrong)

/-- 'zzlaws_internal_input_b1.FnKnownKeyOverJoinedLists': WHATEVER THE INPUT: true; the input reads as it did. -/
def fnKnownKeyOverJoinedListsSpec : ChangeSpec := { name := "fnKnownKeyOverJoinedLists", fn := fun _ => fun
  | [d1, d2, d3] => { results := [.lit (.bool true)], args := [d1, d2, d3] }
  | _ => none }
def fnKnownKeyOverJoinedListsRow : OpenClaim := { program := "qxb6600192a", sum := "5463ff63a0f50105a82d928e78ce710012fe3bfc2f65e67aaa7b5d19cbeb6e3c", func := "example.com/tuoguan/tuoguan/zzlaws_internal_input_b1.FnKnownKeyOverJoinedLists", spec := "fnKnownKeyOverJoinedLists", apart := false }
def FnKnownKeyOverJoinedListsSaid : Prop := fnKnownKeyOverJoinedListsRow.holds Try.pinned (OpenSpec.ofChange fnKnownKeyOverJoinedListsSpec)

/-- ITS FALSE NEIGHBOUR: 'it returns false'. Refute it at one input. -/
def fnKnownKeyOverJoinedListsWrong : ChangeSpec := { name := "fnKnownKeyOverJoinedLists", fn := fun _ => fun
  | [d1, d2, d3] => { results := [.lit (.bool false)], args := [d1, d2, d3] }
  | _ => none }
def FnKnownKeyOverJoinedListsWrongFalsely : Prop := fnKnownKeyOverJoinedListsRow.holds Try.pinned (OpenSpec.ofChange fnKnownKeyOverJoinedListsWrong)

/-- 'zzlaws_internal_input_b1.FnKnownKeyKnowsTablesOfAKnownKey': WHATEVER THE INPUT: true; the input reads as it did. -/
def fnKnownKeyKnowsTablesOfAKnownKeySpec : ChangeSpec := { name := "fnKnownKeyKnowsTablesOfAKnownKey", fn := fun _ => fun
  | [d1, d2, d3] => { results := [.lit (.bool true)], args := [d1, d2, d3] }
  | _ => none }
def fnKnownKeyKnowsTablesOfAKnownKeyRow : OpenClaim := { program := "qxb6600192a", sum := "5463ff63a0f50105a82d928e78ce710012fe3bfc2f65e67aaa7b5d19cbeb6e3c", func := "example.com/tuoguan/tuoguan/zzlaws_internal_input_b1.FnKnownKeyKnowsTablesOfAKnownKey", spec := "fnKnownKeyKnowsTablesOfAKnownKey", apart := false }
def FnKnownKeyKnowsTablesOfAKnownKeySaid : Prop := fnKnownKeyKnowsTablesOfAKnownKeyRow.holds Try.pinned (OpenSpec.ofChange fnKnownKeyKnowsTablesOfAKnownKeySpec)

/-- ITS FALSE NEIGHBOUR: 'it returns false'. Refute it at one input. -/
def fnKnownKeyKnowsTablesOfAKnownKeyWrong : ChangeSpec := { name := "fnKnownKeyKnowsTablesOfAKnownKey", fn := fun _ => fun
  | [d1, d2, d3] => { results := [.lit (.bool false)], args := [d1, d2, d3] }
  | _ => none }
def FnKnownKeyKnowsTablesOfAKnownKeyWrongFalsely : Prop := fnKnownKeyKnowsTablesOfAKnownKeyRow.holds Try.pinned (OpenSpec.ofChange fnKnownKeyKnowsTablesOfAKnownKeyWrong)

end Rows
end Go.Proofs.Qxb6600192a
