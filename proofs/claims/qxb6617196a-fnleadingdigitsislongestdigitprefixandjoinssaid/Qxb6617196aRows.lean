/-
  No cell of these rows narrows 'for every input' (looked for: loops, veiled, ifaces, maps, wideKeys, modest, calm, conditions, laid).
  DERIVED. THE GIVEN ROWS OF THIS SEAT. 2 by the template 'for every input the law returns true; each argument reads behind the call as it read before'; 0 by the template 'total and deterministic' (their statements: Qxb6617196aTotals.lean).
  GIVEN WITH THE SEED: the statements are not yours to turn. If you find one false, say at which input.
  Laid BY PROGRAM, IN A SANDBOX (cutbox-rows.mjs): the forced cells as the released guide's own fill.sh prints them over the translation 909b0a1edc5b04ff… (all of the seat's roots in one cut). By AI agents, Wed Nov 11 2026. No macro, syntax, notation, axiom, sorry.
-/
import Derived.Test.Qxb6617196aChecked
import GoSem.Claim
import GoSem.ClaimJoined
import GoSem.ClaimMapViews
import Derived.JoinedTies
import Derived.KernelRfl
namespace Go.Proofs.Qxb6617196a
/- THE CELL 'sum', in the pinned program and in every row, IS THE sha256 OF THE DUMP (.gsa) THAT Qxb6617196aProg.lean LOADS. Nothing in Lean hashes anything: it is a label: what it is worth is what the hold of that sum in a sandbox is worth. -/
noncomputable def Try.pinned : Pinned := { name := "qxb6617196a", sum := "909b0a1edc5b04ff4c7a5da9674e52469af6570cfaad2bc29260a23f46acbd1e", checked := Try.checked }
namespace Rows
def none {H : Type} : Left H := { results := [], args := [] }

/-- 'zzlaws_internal_vtime_b1.FnFractionOfIsExactDecimalProduct': WHATEVER THE INPUT: true; the input reads as it did. -/
def fnFractionOfIsExactDecimalProductSpec : ChangeSpec := { name := "fnFractionOfIsExactDecimalProduct", fn := fun _ => fun
  | [d1, d2] => { results := [.lit (.bool true)], args := [d1, d2] }
  | _ => none }
def fnFractionOfIsExactDecimalProductRow : OpenClaim := { program := "qxb6617196a", sum := "909b0a1edc5b04ff4c7a5da9674e52469af6570cfaad2bc29260a23f46acbd1e", func := "example.com/velvet-loom/velvet-loom/zzlaws_internal_vtime_b1.FnFractionOfIsExactDecimalProduct", spec := "fnFractionOfIsExactDecimalProduct", apart := false }
def FnFractionOfIsExactDecimalProductSaid : Prop := fnFractionOfIsExactDecimalProductRow.holds Try.pinned (OpenSpec.ofChange fnFractionOfIsExactDecimalProductSpec)

/-- ITS FALSE NEIGHBOUR: 'it returns false'. Refute it at one input. -/
def fnFractionOfIsExactDecimalProductWrong : ChangeSpec := { name := "fnFractionOfIsExactDecimalProduct", fn := fun _ => fun
  | [d1, d2] => { results := [.lit (.bool false)], args := [d1, d2] }
  | _ => none }
def FnFractionOfIsExactDecimalProductWrongFalsely : Prop := fnFractionOfIsExactDecimalProductRow.holds Try.pinned (OpenSpec.ofChange fnFractionOfIsExactDecimalProductWrong)

/-- 'zzlaws_internal_vtime_b1.FnLeadingDigitsIsLongestDigitPrefixAndJoins': WHATEVER THE INPUT: true; the input reads as it did. -/
def fnLeadingDigitsIsLongestDigitPrefixAndJoinsSpec : ChangeSpec := { name := "fnLeadingDigitsIsLongestDigitPrefixAndJoins", fn := fun _ => fun
  | [d1, d2] => { results := [.lit (.bool true)], args := [d1, d2] }
  | _ => none }
def fnLeadingDigitsIsLongestDigitPrefixAndJoinsRow : OpenClaim := { program := "qxb6617196a", sum := "909b0a1edc5b04ff4c7a5da9674e52469af6570cfaad2bc29260a23f46acbd1e", func := "example.com/velvet-loom/velvet-loom/zzlaws_internal_vtime_b1.FnLeadingDigitsIsLongestDigitPrefixAndJoins", spec := "fnLeadingDigitsIsLongestDigitPrefixAndJoins", apart := false }
def FnLeadingDigitsIsLongestDigitPrefixAndJoinsSaid : Prop := fnLeadingDigitsIsLongestDigitPrefixAndJoinsRow.holds Try.pinned (OpenSpec.ofChange fnLeadingDigitsIsLongestDigitPrefixAndJoinsSpec)

/-- ITS FALSE NEIGHBOUR: 'it returns false'. Refute it at one input. -/
def fnLeadingDigitsIsLongestDigitPrefixAndJoinsWrong : ChangeSpec := { name := "fnLeadingDigitsIsLongestDigitPrefixAndJoins", fn := fun _ => fun
  | [d1, d2] => { results := [.lit (.bool false)], args := [d1, d2] }
  | _ => none }
def FnLeadingDigitsIsLongestDigitPrefixAndJoinsWrongFalsely : Prop := fnLeadingDigitsIsLongestDigitPrefixAndJoinsRow.holds Try.pinned (OpenSpec.ofChange fnLeadingDigitsIsLongestDigitPrefixAndJoinsWrong)

end Rows
end Go.Proofs.Qxb6617196a
