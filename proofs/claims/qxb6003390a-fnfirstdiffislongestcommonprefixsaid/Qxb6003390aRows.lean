/-
  No cell of these rows narrows 'for every input' (looked for: loops, veiled, ifaces, maps, wideKeys, modest, calm, conditions, laid).
  DERIVED. THE GIVEN ROWS OF THIS SEAT. 5 by the template 'for every input the law returns true; each argument reads behind the call as it read before'; 0 by the template 'total and deterministic' (their statements: Qxb6003390aTotals.lean).
  GIVEN WITH THE SEED: the statements are not yours to turn. If you find one false, say at which input.
  Laid BY PROGRAM, IN A SANDBOX (cutbox-rows.mjs): the forced cells as the released guide's own fill.sh prints them over the translation 60022485ae491509… (all of the seat's roots in one cut). By AI agents, Wed Nov 11 2026. No macro, syntax, notation, axiom, sorry.
-/
import Derived.Test.Qxb6003390aChecked
import GoSem.Claim
import GoSem.ClaimJoined
import GoSem.ClaimMapViews
import Derived.JoinedTies
import Derived.KernelRfl
namespace Go.Proofs.Qxb6003390a
/- THE CELL 'sum', in the pinned program and in every row, IS THE sha256 OF THE DUMP (.gsa) THAT Qxb6003390aProg.lean LOADS. Nothing in Lean hashes anything: it is a label: what it is worth is what the hold of that sum in a sandbox is worth. -/
noncomputable def Try.pinned : Pinned := { name := "qxb6003390a", sum := "60022485ae49150950acee0f6ae5006063bdbbf013495fc1220be58d569176ba", checked := Try.checked }
namespace Rows
def none {H : Type} : Left H := { results := [], args := [] }

/-- 'zzlaws_internal_clock_g1.FnStampBeforeStrictTotalOrder': WHATEVER THE INPUT: true; the input reads as it did. -/
def fnStampBeforeStrictTotalOrderSpec : ChangeSpec := { name := "fnStampBeforeStrictTotalOrder", fn := fun _ => fun
  | [d1, d2, d3, d4, d5, d6] => { results := [.lit (.bool true)], args := [d1, d2, d3, d4, d5, d6] }
  | _ => none }
def fnStampBeforeStrictTotalOrderRow : OpenClaim := { program := "qxb6003390a", sum := "60022485ae49150950acee0f6ae5006063bdbbf013495fc1220be58d569176ba", func := "example.com/antecede/antecede/zzlaws_internal_clock_g1.FnStampBeforeStrictTotalOrder", spec := "fnStampBeforeStrictTotalOrder", apart := false }
def FnStampBeforeStrictTotalOrderSaid : Prop := fnStampBeforeStrictTotalOrderRow.holds Try.pinned (OpenSpec.ofChange fnStampBeforeStrictTotalOrderSpec)

/-- ITS FALSE NEIGHBOUR: 'it returns false'. Refute it at one input. -/
def fnStampBeforeStrictTotalOrderWrong : ChangeSpec := { name := "fnStampBeforeStrictTotalOrder", fn := fun _ => fun
  | [d1, d2, d3, d4, d5, d6] => { results := [.lit (.bool false)], args := [d1, d2, d3, d4, d5, d6] }
  | _ => none }
def FnStampBeforeStrictTotalOrderWrongFalsely : Prop := fnStampBeforeStrictTotalOrderRow.holds Try.pinned (OpenSpec.ofChange fnStampBeforeStrictTotalOrderWrong)

/-- 'zzlaws_internal_clock_g1.FnStampBeforeIsByteOrder': WHATEVER THE INPUT: true; the input reads as it did. -/
def fnStampBeforeIsByteOrderSpec : ChangeSpec := { name := "fnStampBeforeIsByteOrder", fn := fun _ => fun
  | [d1, d2, d3, d4] => { results := [.lit (.bool true)], args := [d1, d2, d3, d4] }
  | _ => none }
def fnStampBeforeIsByteOrderRow : OpenClaim := { program := "qxb6003390a", sum := "60022485ae49150950acee0f6ae5006063bdbbf013495fc1220be58d569176ba", func := "example.com/antecede/antecede/zzlaws_internal_clock_g1.FnStampBeforeIsByteOrder", spec := "fnStampBeforeIsByteOrder", apart := false }
def FnStampBeforeIsByteOrderSaid : Prop := fnStampBeforeIsByteOrderRow.holds Try.pinned (OpenSpec.ofChange fnStampBeforeIsByteOrderSpec)

/-- ITS FALSE NEIGHBOUR: 'it returns false'. Refute it at one input. -/
def fnStampBeforeIsByteOrderWrong : ChangeSpec := { name := "fnStampBeforeIsByteOrder", fn := fun _ => fun
  | [d1, d2, d3, d4] => { results := [.lit (.bool false)], args := [d1, d2, d3, d4] }
  | _ => none }
def FnStampBeforeIsByteOrderWrongFalsely : Prop := fnStampBeforeIsByteOrderRow.holds Try.pinned (OpenSpec.ofChange fnStampBeforeIsByteOrderWrong)

/-- 'zzlaws_internal_disk_disktest_g1.FnFirstDiffIsLongestCommonPrefix': WHATEVER THE INPUT: true; the input reads as it did. -/
def fnFirstDiffIsLongestCommonPrefixSpec : ChangeSpec := { name := "fnFirstDiffIsLongestCommonPrefix", fn := fun _ => fun
  | [d1, d2] => { results := [.lit (.bool true)], args := [d1, d2] }
  | _ => none }
def fnFirstDiffIsLongestCommonPrefixRow : OpenClaim := { program := "qxb6003390a", sum := "60022485ae49150950acee0f6ae5006063bdbbf013495fc1220be58d569176ba", func := "example.com/antecede/antecede/zzlaws_internal_disk_disktest_g1.FnFirstDiffIsLongestCommonPrefix", spec := "fnFirstDiffIsLongestCommonPrefix", apart := false }
def FnFirstDiffIsLongestCommonPrefixSaid : Prop := fnFirstDiffIsLongestCommonPrefixRow.holds Try.pinned (OpenSpec.ofChange fnFirstDiffIsLongestCommonPrefixSpec)

/-- ITS FALSE NEIGHBOUR: 'it returns false'. Refute it at one input. -/
def fnFirstDiffIsLongestCommonPrefixWrong : ChangeSpec := { name := "fnFirstDiffIsLongestCommonPrefix", fn := fun _ => fun
  | [d1, d2] => { results := [.lit (.bool false)], args := [d1, d2] }
  | _ => none }
def FnFirstDiffIsLongestCommonPrefixWrongFalsely : Prop := fnFirstDiffIsLongestCommonPrefixRow.holds Try.pinned (OpenSpec.ofChange fnFirstDiffIsLongestCommonPrefixWrong)

/-- 'zzlaws_internal_disk_disktest_g1.FnFirstDiffUltrametric': WHATEVER THE INPUT: true; the input reads as it did. -/
def fnFirstDiffUltrametricSpec : ChangeSpec := { name := "fnFirstDiffUltrametric", fn := fun _ => fun
  | [d1, d2, d3] => { results := [.lit (.bool true)], args := [d1, d2, d3] }
  | _ => none }
def fnFirstDiffUltrametricRow : OpenClaim := { program := "qxb6003390a", sum := "60022485ae49150950acee0f6ae5006063bdbbf013495fc1220be58d569176ba", func := "example.com/antecede/antecede/zzlaws_internal_disk_disktest_g1.FnFirstDiffUltrametric", spec := "fnFirstDiffUltrametric", apart := false }
def FnFirstDiffUltrametricSaid : Prop := fnFirstDiffUltrametricRow.holds Try.pinned (OpenSpec.ofChange fnFirstDiffUltrametricSpec)

/-- ITS FALSE NEIGHBOUR: 'it returns false'. Refute it at one input. -/
def fnFirstDiffUltrametricWrong : ChangeSpec := { name := "fnFirstDiffUltrametric", fn := fun _ => fun
  | [d1, d2, d3] => { results := [.lit (.bool false)], args := [d1, d2, d3] }
  | _ => none }
def FnFirstDiffUltrametricWrongFalsely : Prop := fnFirstDiffUltrametricRow.holds Try.pinned (OpenSpec.ofChange fnFirstDiffUltrametricWrong)

/-- 'zzlaws_internal_node_g1.FnLookupConcat': WHATEVER THE INPUT: true; the input reads as it did. -/
def fnLookupConcatSpec : ChangeSpec := { name := "fnLookupConcat", fn := fun _ => fun
  | [d1, d2, d3, d4, d5] => { results := [.lit (.bool true)], args := [d1, d2, d3, d4, d5] }
  | _ => none }
def fnLookupConcatRow : OpenClaim := { program := "qxb6003390a", sum := "60022485ae49150950acee0f6ae5006063bdbbf013495fc1220be58d569176ba", func := "example.com/antecede/antecede/zzlaws_internal_node_g1.FnLookupConcat", spec := "fnLookupConcat", apart := false }
def FnLookupConcatSaid : Prop := fnLookupConcatRow.holds Try.pinned (OpenSpec.ofChange fnLookupConcatSpec)

/-- ITS FALSE NEIGHBOUR: 'it returns false'. Refute it at one input. -/
def fnLookupConcatWrong : ChangeSpec := { name := "fnLookupConcat", fn := fun _ => fun
  | [d1, d2, d3, d4, d5] => { results := [.lit (.bool false)], args := [d1, d2, d3, d4, d5] }
  | _ => none }
def FnLookupConcatWrongFalsely : Prop := fnLookupConcatRow.holds Try.pinned (OpenSpec.ofChange fnLookupConcatWrong)

end Rows
end Go.Proofs.Qxb6003390a
