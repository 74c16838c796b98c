/-
  No cell of these rows narrows 'for every input' (looked for: loops, veiled, ifaces, maps, wideKeys, modest, calm, conditions, laid).
  DERIVED. THE GIVEN ROWS OF THIS SEAT. 6 by the template 'for every input the law returns true; each argument reads behind the call as it read before'; 0 by the template 'total and deterministic' (their statements: Qxb6619318aTotals.lean).
  GIVEN WITH THE SEED: the statements are not yours to turn. If you find one false, say at which input.
  Laid BY PROGRAM, IN A SANDBOX (cutbox-rows.mjs): the forced cells as the released guide's own fill.sh prints them over the translation c28d972620412e2f… (all of the seat's roots in one cut). By AI agents, Wed Nov 11 2026. No macro, syntax, notation, axiom, sorry.
-/
import Derived.Test.Qxb6619318aChecked
import GoSem.Claim
import GoSem.ClaimJoined
import GoSem.ClaimMapViews
import Derived.JoinedTies
import Derived.KernelRfl
namespace Go.Proofs.Qxb6619318a
/- THE CELL 'sum', in the pinned program and in every row, IS THE sha256 OF THE DUMP (.gsa) THAT Qxb6619318aProg.lean LOADS. Nothing in Lean hashes anything: it is a label: what it is worth is what the hold of that sum in a sandbox is worth. -/
noncomputable def Try.pinned : Pinned := { name := "qxb6619318a", sum := "c28d972620412e2f9b065c73a4f1889af52a150d650a70d9030448e6f246d2b9", checked := Try.checked }
namespace Rows
def none {H : Type} : Left H := { results := [], args := [] }

/-- 'zzlaws_pkg_prefilter_b1.FnMergeSortedUnionAfterInto': WHATEVER THE INPUT: true; the input reads as it did. -/
def fnMergeSortedUnionAfterIntoSpec : ChangeSpec := { name := "fnMergeSortedUnionAfterInto", fn := fun _ => fun
  | [d1, d2, d3] => { results := [.lit (.bool true)], args := [d1, d2, d3] }
  | _ => none }
def fnMergeSortedUnionAfterIntoRow : OpenClaim := { program := "qxb6619318a", sum := "c28d972620412e2f9b065c73a4f1889af52a150d650a70d9030448e6f246d2b9", func := "example.com/spoonbill/spoonbill/zzlaws_pkg_prefilter_b1.FnMergeSortedUnionAfterInto", spec := "fnMergeSortedUnionAfterInto", apart := false }
def FnMergeSortedUnionAfterIntoSaid : Prop := fnMergeSortedUnionAfterIntoRow.holds Try.pinned (OpenSpec.ofChange fnMergeSortedUnionAfterIntoSpec)

/-- ITS FALSE NEIGHBOUR: 'it returns false'. Refute it at one input. -/
def fnMergeSortedUnionAfterIntoWrong : ChangeSpec := { name := "fnMergeSortedUnionAfterInto", fn := fun _ => fun
  | [d1, d2, d3] => { results := [.lit (.bool false)], args := [d1, d2, d3] }
  | _ => none }
def FnMergeSortedUnionAfterIntoWrongFalsely : Prop := fnMergeSortedUnionAfterIntoRow.holds Try.pinned (OpenSpec.ofChange fnMergeSortedUnionAfterIntoWrong)

/-- 'zzlaws_pkg_prefilter_b1.FnMergeAssociates': WHATEVER THE INPUT: true; the input reads as it did. -/
def fnMergeAssociatesSpec : ChangeSpec := { name := "fnMergeAssociates", fn := fun _ => fun
  | [d1, d2, d3] => { results := [.lit (.bool true)], args := [d1, d2, d3] }
  | _ => none }
def fnMergeAssociatesRow : OpenClaim := { program := "qxb6619318a", sum := "c28d972620412e2f9b065c73a4f1889af52a150d650a70d9030448e6f246d2b9", func := "example.com/spoonbill/spoonbill/zzlaws_pkg_prefilter_b1.FnMergeAssociates", spec := "fnMergeAssociates", apart := false }
def FnMergeAssociatesSaid : Prop := fnMergeAssociatesRow.holds Try.pinned (OpenSpec.ofChange fnMergeAssociatesSpec)

/-- ITS FALSE NEIGHBOUR: 'it returns false'. Refute it at one input. -/
def fnMergeAssociatesWrong : ChangeSpec := { name := "fnMergeAssociates", fn := fun _ => fun
  | [d1, d2, d3] => { results := [.lit (.bool false)], args := [d1, d2, d3] }
  | _ => none }
def FnMergeAssociatesWrongFalsely : Prop := fnMergeAssociatesRow.holds Try.pinned (OpenSpec.ofChange fnMergeAssociatesWrong)

/-- 'zzlaws_pkg_prefilter_b1.FnMarkPairAddsExactlyCaseVariants': WHATEVER THE INPUT: true; the input reads as it did. -/
def fnMarkPairAddsExactlyCaseVariantsSpec : ChangeSpec := { name := "fnMarkPairAddsExactlyCaseVariants", fn := fun _ => fun
  | [d1, d2, d3, d4] => { results := [.lit (.bool true)], args := [d1, d2, d3, d4] }
  | _ => none }
def fnMarkPairAddsExactlyCaseVariantsRow : OpenClaim := { program := "qxb6619318a", sum := "c28d972620412e2f9b065c73a4f1889af52a150d650a70d9030448e6f246d2b9", func := "example.com/spoonbill/spoonbill/zzlaws_pkg_prefilter_b1.FnMarkPairAddsExactlyCaseVariants", spec := "fnMarkPairAddsExactlyCaseVariants", apart := false }
def FnMarkPairAddsExactlyCaseVariantsSaid : Prop := fnMarkPairAddsExactlyCaseVariantsRow.holds Try.pinned (OpenSpec.ofChange fnMarkPairAddsExactlyCaseVariantsSpec)

/-- ITS FALSE NEIGHBOUR: 'it returns false'. Refute it at one input. -/
def fnMarkPairAddsExactlyCaseVariantsWrong : ChangeSpec := { name := "fnMarkPairAddsExactlyCaseVariants", fn := fun _ => fun
  | [d1, d2, d3, d4] => { results := [.lit (.bool false)], args := [d1, d2, d3, d4] }
  | _ => none }
def FnMarkPairAddsExactlyCaseVariantsWrongFalsely : Prop := fnMarkPairAddsExactlyCaseVariantsRow.holds Try.pinned (OpenSpec.ofChange fnMarkPairAddsExactlyCaseVariantsWrong)

/-- 'zzlaws_pkg_prefilter_b1.FnMarkPairScriptCountsAndFolds': WHATEVER THE INPUT: true; the input reads as it did. -/
def fnMarkPairScriptCountsAndFoldsSpec : ChangeSpec := { name := "fnMarkPairScriptCountsAndFolds", fn := fun _ => fun
  | [d1, d2] => { results := [.lit (.bool true)], args := [d1, d2] }
  | _ => none }
def fnMarkPairScriptCountsAndFoldsRow : OpenClaim := { program := "qxb6619318a", sum := "c28d972620412e2f9b065c73a4f1889af52a150d650a70d9030448e6f246d2b9", func := "example.com/spoonbill/spoonbill/zzlaws_pkg_prefilter_b1.FnMarkPairScriptCountsAndFolds", spec := "fnMarkPairScriptCountsAndFolds", apart := false }
def FnMarkPairScriptCountsAndFoldsSaid : Prop := fnMarkPairScriptCountsAndFoldsRow.holds Try.pinned (OpenSpec.ofChange fnMarkPairScriptCountsAndFoldsSpec)

/-- ITS FALSE NEIGHBOUR: 'it returns false'. Refute it at one input. -/
def fnMarkPairScriptCountsAndFoldsWrong : ChangeSpec := { name := "fnMarkPairScriptCountsAndFolds", fn := fun _ => fun
  | [d1, d2] => { results := [.lit (.bool false)], args := [d1, d2] }
  | _ => none }
def FnMarkPairScriptCountsAndFoldsWrongFalsely : Prop := fnMarkPairScriptCountsAndFoldsRow.holds Try.pinned (OpenSpec.ofChange fnMarkPairScriptCountsAndFoldsWrong)

/-- 'zzlaws_pkg_prefilter_b1.FnNextPairShiftsAndFindsLeast': WHATEVER THE INPUT: true; the input reads as it did. -/
def fnNextPairShiftsAndFindsLeastSpec : ChangeSpec := { name := "fnNextPairShiftsAndFindsLeast", fn := fun _ => fun
  | [d1, d2, d3, d4] => { results := [.lit (.bool true)], args := [d1, d2, d3, d4] }
  | _ => none }
def fnNextPairShiftsAndFindsLeastRow : OpenClaim := { program := "qxb6619318a", sum := "c28d972620412e2f9b065c73a4f1889af52a150d650a70d9030448e6f246d2b9", func := "example.com/spoonbill/spoonbill/zzlaws_pkg_prefilter_b1.FnNextPairShiftsAndFindsLeast", spec := "fnNextPairShiftsAndFindsLeast", apart := false }
def FnNextPairShiftsAndFindsLeastSaid : Prop := fnNextPairShiftsAndFindsLeastRow.holds Try.pinned (OpenSpec.ofChange fnNextPairShiftsAndFindsLeastSpec)

/-- ITS FALSE NEIGHBOUR: 'it returns false'. Refute it at one input. -/
def fnNextPairShiftsAndFindsLeastWrong : ChangeSpec := { name := "fnNextPairShiftsAndFindsLeast", fn := fun _ => fun
  | [d1, d2, d3, d4] => { results := [.lit (.bool false)], args := [d1, d2, d3, d4] }
  | _ => none }
def FnNextPairShiftsAndFindsLeastWrongFalsely : Prop := fnNextPairShiftsAndFindsLeastRow.holds Try.pinned (OpenSpec.ofChange fnNextPairShiftsAndFindsLeastWrong)

/-- 'zzlaws_pkg_prefilter_b1.FnNextPairFindsMarkedPairAnyCase': WHATEVER THE INPUT: true; the input reads as it did. -/
def fnNextPairFindsMarkedPairAnyCaseSpec : ChangeSpec := { name := "fnNextPairFindsMarkedPairAnyCase", fn := fun _ => fun
  | [d1, d2, d3, d4] => { results := [.lit (.bool true)], args := [d1, d2, d3, d4] }
  | _ => none }
def fnNextPairFindsMarkedPairAnyCaseRow : OpenClaim := { program := "qxb6619318a", sum := "c28d972620412e2f9b065c73a4f1889af52a150d650a70d9030448e6f246d2b9", func := "example.com/spoonbill/spoonbill/zzlaws_pkg_prefilter_b1.FnNextPairFindsMarkedPairAnyCase", spec := "fnNextPairFindsMarkedPairAnyCase", apart := false }
def FnNextPairFindsMarkedPairAnyCaseSaid : Prop := fnNextPairFindsMarkedPairAnyCaseRow.holds Try.pinned (OpenSpec.ofChange fnNextPairFindsMarkedPairAnyCaseSpec)

/-- ITS FALSE NEIGHBOUR: 'it returns false'. Refute it at one input. -/
def fnNextPairFindsMarkedPairAnyCaseWrong : ChangeSpec := { name := "fnNextPairFindsMarkedPairAnyCase", fn := fun _ => fun
  | [d1, d2, d3, d4] => { results := [.lit (.bool false)], args := [d1, d2, d3, d4] }
  | _ => none }
def FnNextPairFindsMarkedPairAnyCaseWrongFalsely : Prop := fnNextPairFindsMarkedPairAnyCaseRow.holds Try.pinned (OpenSpec.ofChange fnNextPairFindsMarkedPairAnyCaseWrong)

end Rows
end Go.Proofs.Qxb6619318a
