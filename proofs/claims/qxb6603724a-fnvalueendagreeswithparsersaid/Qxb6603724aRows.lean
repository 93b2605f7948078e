/-
  No cell of these rows narrows 'for every input' (looked for: loops, veiled, ifaces, maps, wideKeys, modest, calm, conditions, laid).
  DERIVED. THE GIVEN ROWS OF THIS SEAT. 4 by the template 'for every input the law returns true; each argument reads behind the call as it read before'; 0 by the template 'total and deterministic' (their statements: Qxb6603724aTotals.lean).
  GIVEN WITH THE SEED: the statements are not yours to turn. If you find one false, say at which input.
  Laid BY PROGRAM, IN A SANDBOX (cutbox-rows.mjs): the forced cells as the released guide's own fill.sh prints them over the translation c886d9ccb43c1be1… (all of the seat's roots in one cut). By AI agents, Wed Nov 11 2026. No macro, syntax, notation, axiom, sorry.
-/
import Derived.Test.Qxb6603724aChecked
import GoSem.Claim
import GoSem.ClaimJoined
import GoSem.ClaimMapViews
import Derived.JoinedTies
import Derived.KernelRfl
namespace Go.Proofs.Qxb6603724a
/- THE CELL 'sum', in the pinned program and in every row, IS THE sha256 OF THE DUMP (.gsa) THAT Qxb6603724aProg.lean LOADS. Nothing in Lean hashes anything: it is a label: what it is worth is what the hold of that sum in a sandbox is worth. -/
noncomputable def Try.pinned : Pinned := { name := "qxb6603724a", sum := "c886d9ccb43c1be1f4ff083941576a0af40ec36b7f2cdb3769ae436cb5a12b46", checked := Try.checked }
namespace Rows
def none {H : Type} : Left H := { results := [], args := [] }

/-- 'zzlaws_internal_rawjson_b1.FnSkipSpaceIsFirstNonSpace': WHATEVER THE INPUT: true; the input reads as it did. -/
def fnSkipSpaceIsFirstNonSpaceSpec : ChangeSpec := { name := "fnSkipSpaceIsFirstNonSpace", fn := fun _ => fun
  | [d1, d2] => { results := [.lit (.bool true)], args := [d1, d2] }
  | _ => none }
def fnSkipSpaceIsFirstNonSpaceRow : OpenClaim := { program := "qxb6603724a", sum := "c886d9ccb43c1be1f4ff083941576a0af40ec36b7f2cdb3769ae436cb5a12b46", func := "example.com/forseti/forseti/zzlaws_internal_rawjson_b1.FnSkipSpaceIsFirstNonSpace", spec := "fnSkipSpaceIsFirstNonSpace", apart := false }
def FnSkipSpaceIsFirstNonSpaceSaid : Prop := fnSkipSpaceIsFirstNonSpaceRow.holds Try.pinned (OpenSpec.ofChange fnSkipSpaceIsFirstNonSpaceSpec)

/-- ITS FALSE NEIGHBOUR: 'it returns false'. Refute it at one input. -/
def fnSkipSpaceIsFirstNonSpaceWrong : ChangeSpec := { name := "fnSkipSpaceIsFirstNonSpace", fn := fun _ => fun
  | [d1, d2] => { results := [.lit (.bool false)], args := [d1, d2] }
  | _ => none }
def FnSkipSpaceIsFirstNonSpaceWrongFalsely : Prop := fnSkipSpaceIsFirstNonSpaceRow.holds Try.pinned (OpenSpec.ofChange fnSkipSpaceIsFirstNonSpaceWrong)

/-- 'zzlaws_internal_rawjson_b1.FnStringEndFirstUnescapedQuote': WHATEVER THE INPUT: true; the input reads as it did. -/
def fnStringEndFirstUnescapedQuoteSpec : ChangeSpec := { name := "fnStringEndFirstUnescapedQuote", fn := fun _ => fun
  | [d1, d2] => { results := [.lit (.bool true)], args := [d1, d2] }
  | _ => none }
def fnStringEndFirstUnescapedQuoteRow : OpenClaim := { program := "qxb6603724a", sum := "c886d9ccb43c1be1f4ff083941576a0af40ec36b7f2cdb3769ae436cb5a12b46", func := "example.com/forseti/forseti/zzlaws_internal_rawjson_b1.FnStringEndFirstUnescapedQuote", spec := "fnStringEndFirstUnescapedQuote", apart := false }
def FnStringEndFirstUnescapedQuoteSaid : Prop := fnStringEndFirstUnescapedQuoteRow.holds Try.pinned (OpenSpec.ofChange fnStringEndFirstUnescapedQuoteSpec)

/-- ITS FALSE NEIGHBOUR: 'it returns false'. Refute it at one input. -/
def fnStringEndFirstUnescapedQuoteWrong : ChangeSpec := { name := "fnStringEndFirstUnescapedQuote", fn := fun _ => fun
  | [d1, d2] => { results := [.lit (.bool false)], args := [d1, d2] }
  | _ => none }
def FnStringEndFirstUnescapedQuoteWrongFalsely : Prop := fnStringEndFirstUnescapedQuoteRow.holds Try.pinned (OpenSpec.ofChange fnStringEndFirstUnescapedQuoteWrong)

/-- 'zzlaws_internal_rawjson_b1.FnValueEndAgreesWithParser': WHATEVER THE INPUT: true; the input reads as it did. -/
def fnValueEndAgreesWithParserSpec : ChangeSpec := { name := "fnValueEndAgreesWithParser", fn := fun _ => fun
  | [d1, d2] => { results := [.lit (.bool true)], args := [d1, d2] }
  | _ => none }
def fnValueEndAgreesWithParserRow : OpenClaim := { program := "qxb6603724a", sum := "c886d9ccb43c1be1f4ff083941576a0af40ec36b7f2cdb3769ae436cb5a12b46", func := "example.com/forseti/forseti/zzlaws_internal_rawjson_b1.FnValueEndAgreesWithParser", spec := "fnValueEndAgreesWithParser", apart := false }
def FnValueEndAgreesWithParserSaid : Prop := fnValueEndAgreesWithParserRow.holds Try.pinned (OpenSpec.ofChange fnValueEndAgreesWithParserSpec)

/-- ITS FALSE NEIGHBOUR: 'it returns false'. Refute it at one input. -/
def fnValueEndAgreesWithParserWrong : ChangeSpec := { name := "fnValueEndAgreesWithParser", fn := fun _ => fun
  | [d1, d2] => { results := [.lit (.bool false)], args := [d1, d2] }
  | _ => none }
def FnValueEndAgreesWithParserWrongFalsely : Prop := fnValueEndAgreesWithParserRow.holds Try.pinned (OpenSpec.ofChange fnValueEndAgreesWithParserWrong)

/-- 'zzlaws_internal_rawjson_b1.FnValueEndWalkLandsOnClose': WHATEVER THE INPUT: true; the input reads as it did. -/
def fnValueEndWalkLandsOnCloseSpec : ChangeSpec := { name := "fnValueEndWalkLandsOnClose", fn := fun _ => fun
  | [d1, d2] => { results := [.lit (.bool true)], args := [d1, d2] }
  | _ => none }
def fnValueEndWalkLandsOnCloseRow : OpenClaim := { program := "qxb6603724a", sum := "c886d9ccb43c1be1f4ff083941576a0af40ec36b7f2cdb3769ae436cb5a12b46", func := "example.com/forseti/forseti/zzlaws_internal_rawjson_b1.FnValueEndWalkLandsOnClose", spec := "fnValueEndWalkLandsOnClose", apart := false }
def FnValueEndWalkLandsOnCloseSaid : Prop := fnValueEndWalkLandsOnCloseRow.holds Try.pinned (OpenSpec.ofChange fnValueEndWalkLandsOnCloseSpec)

/-- ITS FALSE NEIGHBOUR: 'it returns false'. Refute it at one input. -/
def fnValueEndWalkLandsOnCloseWrong : ChangeSpec := { name := "fnValueEndWalkLandsOnClose", fn := fun _ => fun
  | [d1, d2] => { results := [.lit (.bool false)], args := [d1, d2] }
  | _ => none }
def FnValueEndWalkLandsOnCloseWrongFalsely : Prop := fnValueEndWalkLandsOnCloseRow.holds Try.pinned (OpenSpec.ofChange fnValueEndWalkLandsOnCloseWrong)

end Rows
end Go.Proofs.Qxb6603724a
