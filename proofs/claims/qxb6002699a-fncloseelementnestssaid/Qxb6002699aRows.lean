/-
  No cell of these rows narrows 'for every input' (looked for: loops, veiled, ifaces, maps, wideKeys, modest, calm, conditions, laid).
  DERIVED. THE GIVEN ROWS OF THIS SEAT. 7 by the template 'for every input the law returns true; each argument reads behind the call as it read before'; 0 by the template 'total and deterministic' (their statements: Qxb6002699aTotals.lean).
  GIVEN WITH THE SEED: the statements are not yours to turn. If you find one false, say at which input.
  Laid BY PROGRAM, IN A SANDBOX (cutbox-rows.mjs): the forced cells as the released guide's own fill.sh prints them over the translation c6b165472d0fda35… (all of the seat's roots in one cut). By AI agents, Wed Nov 11 2026. No macro, syntax, notation, axiom, sorry.
-/
import Derived.Test.Qxb6002699aChecked
import GoSem.Claim
import GoSem.ClaimJoined
import GoSem.ClaimMapViews
import Derived.JoinedTies
import Derived.KernelRfl
namespace Go.Proofs.Qxb6002699a
/- THE CELL 'sum', in the pinned program and in every row, IS THE sha256 OF THE DUMP (.gsa) THAT Qxb6002699aProg.lean LOADS. Nothing in Lean hashes anything: it is a label: what it is worth is what the hold of that sum in a sandbox is worth. -/
noncomputable def Try.pinned : Pinned := { name := "qxb6002699a", sum := "c6b165472d0fda35c78aae79088d3993b9939d02febb1bb9c8da6d5297fe026b", checked := Try.checked }
namespace Rows
def none {H : Type} : Left H := { results := [], args := [] }

/-- 'zzlaws_root_b1.FnNumberKeyDecodesBack': WHATEVER THE INPUT: true; the input reads as it did. -/
def fnNumberKeyDecodesBackSpec : ChangeSpec := { name := "fnNumberKeyDecodesBack", fn := fun _ => fun
  | [d] => { results := [.lit (.bool true)], args := [d] }
  | _ => none }
def fnNumberKeyDecodesBackRow : OpenClaim := { program := "qxb6002699a", sum := "c6b165472d0fda35c78aae79088d3993b9939d02febb1bb9c8da6d5297fe026b", func := "example.com/nameline/nameline/zzlaws_root_b1.FnNumberKeyDecodesBack", spec := "fnNumberKeyDecodesBack", apart := false }
def FnNumberKeyDecodesBackSaid : Prop := fnNumberKeyDecodesBackRow.holds Try.pinned (OpenSpec.ofChange fnNumberKeyDecodesBackSpec)

/-- ITS FALSE NEIGHBOUR: 'it returns false'. Refute it at one input. -/
def fnNumberKeyDecodesBackWrong : ChangeSpec := { name := "fnNumberKeyDecodesBack", fn := fun _ => fun
  | [d] => { results := [.lit (.bool false)], args := [d] }
  | _ => none }
def FnNumberKeyDecodesBackWrongFalsely : Prop := fnNumberKeyDecodesBackRow.holds Try.pinned (OpenSpec.ofChange fnNumberKeyDecodesBackWrong)

/-- 'zzlaws_root_b1.FnNumberKeyInjective': WHATEVER THE INPUT: true; the input reads as it did. -/
def fnNumberKeyInjectiveSpec : ChangeSpec := { name := "fnNumberKeyInjective", fn := fun _ => fun
  | [d1, d2] => { results := [.lit (.bool true)], args := [d1, d2] }
  | _ => none }
def fnNumberKeyInjectiveRow : OpenClaim := { program := "qxb6002699a", sum := "c6b165472d0fda35c78aae79088d3993b9939d02febb1bb9c8da6d5297fe026b", func := "example.com/nameline/nameline/zzlaws_root_b1.FnNumberKeyInjective", spec := "fnNumberKeyInjective", apart := false }
def FnNumberKeyInjectiveSaid : Prop := fnNumberKeyInjectiveRow.holds Try.pinned (OpenSpec.ofChange fnNumberKeyInjectiveSpec)

/-- ITS FALSE NEIGHBOUR: 'it returns false'. Refute it at one input. -/
def fnNumberKeyInjectiveWrong : ChangeSpec := { name := "fnNumberKeyInjective", fn := fun _ => fun
  | [d1, d2] => { results := [.lit (.bool false)], args := [d1, d2] }
  | _ => none }
def FnNumberKeyInjectiveWrongFalsely : Prop := fnNumberKeyInjectiveRow.holds Try.pinned (OpenSpec.ofChange fnNumberKeyInjectiveWrong)

/-- 'zzlaws_root_b1.FnNumberKeyOrdersLikeText': WHATEVER THE INPUT: true; the input reads as it did. -/
def fnNumberKeyOrdersLikeTextSpec : ChangeSpec := { name := "fnNumberKeyOrdersLikeText", fn := fun _ => fun
  | [d1, d2] => { results := [.lit (.bool true)], args := [d1, d2] }
  | _ => none }
def fnNumberKeyOrdersLikeTextRow : OpenClaim := { program := "qxb6002699a", sum := "c6b165472d0fda35c78aae79088d3993b9939d02febb1bb9c8da6d5297fe026b", func := "example.com/nameline/nameline/zzlaws_root_b1.FnNumberKeyOrdersLikeText", spec := "fnNumberKeyOrdersLikeText", apart := false }
def FnNumberKeyOrdersLikeTextSaid : Prop := fnNumberKeyOrdersLikeTextRow.holds Try.pinned (OpenSpec.ofChange fnNumberKeyOrdersLikeTextSpec)

/-- ITS FALSE NEIGHBOUR: 'it returns false'. Refute it at one input. -/
def fnNumberKeyOrdersLikeTextWrong : ChangeSpec := { name := "fnNumberKeyOrdersLikeText", fn := fun _ => fun
  | [d1, d2] => { results := [.lit (.bool false)], args := [d1, d2] }
  | _ => none }
def FnNumberKeyOrdersLikeTextWrongFalsely : Prop := fnNumberKeyOrdersLikeTextRow.holds Try.pinned (OpenSpec.ofChange fnNumberKeyOrdersLikeTextWrong)

/-- 'zzlaws_root_b1.FnCloseElementRoundTrip': WHATEVER THE INPUT: true; the input reads as it did. -/
def fnCloseElementRoundTripSpec : ChangeSpec := { name := "fnCloseElementRoundTrip", fn := fun _ => fun
  | [d1, d2] => { results := [.lit (.bool true)], args := [d1, d2] }
  | _ => none }
def fnCloseElementRoundTripRow : OpenClaim := { program := "qxb6002699a", sum := "c6b165472d0fda35c78aae79088d3993b9939d02febb1bb9c8da6d5297fe026b", func := "example.com/nameline/nameline/zzlaws_root_b1.FnCloseElementRoundTrip", spec := "fnCloseElementRoundTrip", apart := false }
def FnCloseElementRoundTripSaid : Prop := fnCloseElementRoundTripRow.holds Try.pinned (OpenSpec.ofChange fnCloseElementRoundTripSpec)

/-- ITS FALSE NEIGHBOUR: 'it returns false'. Refute it at one input. -/
def fnCloseElementRoundTripWrong : ChangeSpec := { name := "fnCloseElementRoundTrip", fn := fun _ => fun
  | [d1, d2] => { results := [.lit (.bool false)], args := [d1, d2] }
  | _ => none }
def FnCloseElementRoundTripWrongFalsely : Prop := fnCloseElementRoundTripRow.holds Try.pinned (OpenSpec.ofChange fnCloseElementRoundTripWrong)

/-- 'zzlaws_root_b1.FnCloseElementNests': WHATEVER THE INPUT: true; the input reads as it did. -/
def fnCloseElementNestsSpec : ChangeSpec := { name := "fnCloseElementNests", fn := fun _ => fun
  | [d1, d2, d3, d4] => { results := [.lit (.bool true)], args := [d1, d2, d3, d4] }
  | _ => none }
def fnCloseElementNestsRow : OpenClaim := { program := "qxb6002699a", sum := "c6b165472d0fda35c78aae79088d3993b9939d02febb1bb9c8da6d5297fe026b", func := "example.com/nameline/nameline/zzlaws_root_b1.FnCloseElementNests", spec := "fnCloseElementNests", apart := false }
def FnCloseElementNestsSaid : Prop := fnCloseElementNestsRow.holds Try.pinned (OpenSpec.ofChange fnCloseElementNestsSpec)

/-- ITS FALSE NEIGHBOUR: 'it returns false'. Refute it at one input. -/
def fnCloseElementNestsWrong : ChangeSpec := { name := "fnCloseElementNests", fn := fun _ => fun
  | [d1, d2, d3, d4] => { results := [.lit (.bool false)], args := [d1, d2, d3, d4] }
  | _ => none }
def FnCloseElementNestsWrongFalsely : Prop := fnCloseElementNestsRow.holds Try.pinned (OpenSpec.ofChange fnCloseElementNestsWrong)

/-- 'zzlaws_root_b1.FnLookupReturnsWhatWasStored': WHATEVER THE INPUT: true; the input reads as it did. -/
def fnLookupReturnsWhatWasStoredSpec : ChangeSpec := { name := "fnLookupReturnsWhatWasStored", fn := fun _ => fun
  | [d1, d2, d3, d4] => { results := [.lit (.bool true)], args := [d1, d2, d3, d4] }
  | _ => none }
def fnLookupReturnsWhatWasStoredRow : OpenClaim := { program := "qxb6002699a", sum := "c6b165472d0fda35c78aae79088d3993b9939d02febb1bb9c8da6d5297fe026b", func := "example.com/nameline/nameline/zzlaws_root_b1.FnLookupReturnsWhatWasStored", spec := "fnLookupReturnsWhatWasStored", inPlace := ["internal/bytealg.IndexByteString"], apart := false }
def FnLookupReturnsWhatWasStoredSaid : Prop := fnLookupReturnsWhatWasStoredRow.holds Try.pinned (OpenSpec.ofChange fnLookupReturnsWhatWasStoredSpec)

/-- ITS FALSE NEIGHBOUR: 'it returns false'. Refute it at one input. -/
def fnLookupReturnsWhatWasStoredWrong : ChangeSpec := { name := "fnLookupReturnsWhatWasStored", fn := fun _ => fun
  | [d1, d2, d3, d4] => { results := [.lit (.bool false)], args := [d1, d2, d3, d4] }
  | _ => none }
def FnLookupReturnsWhatWasStoredWrongFalsely : Prop := fnLookupReturnsWhatWasStoredRow.holds Try.pinned (OpenSpec.ofChange fnLookupReturnsWhatWasStoredWrong)

/-- 'zzlaws_root_b1.FnLookupOrderFree': WHATEVER THE INPUT: true; the input reads as it did. -/
def fnLookupOrderFreeSpec : ChangeSpec := { name := "fnLookupOrderFree", fn := fun _ => fun
  | [d1, d2, d3, d4] => { results := [.lit (.bool true)], args := [d1, d2, d3, d4] }
  | _ => none }
def fnLookupOrderFreeRow : OpenClaim := { program := "qxb6002699a", sum := "c6b165472d0fda35c78aae79088d3993b9939d02febb1bb9c8da6d5297fe026b", func := "example.com/nameline/nameline/zzlaws_root_b1.FnLookupOrderFree", spec := "fnLookupOrderFree", inPlace := ["internal/bytealg.IndexByteString"], apart := false }
def FnLookupOrderFreeSaid : Prop := fnLookupOrderFreeRow.holds Try.pinned (OpenSpec.ofChange fnLookupOrderFreeSpec)

/-- ITS FALSE NEIGHBOUR: 'it returns false'. Refute it at one input. -/
def fnLookupOrderFreeWrong : ChangeSpec := { name := "fnLookupOrderFree", fn := fun _ => fun
  | [d1, d2, d3, d4] => { results := [.lit (.bool false)], args := [d1, d2, d3, d4] }
  | _ => none }
def FnLookupOrderFreeWrongFalsely : Prop := fnLookupOrderFreeRow.holds Try.pinned (OpenSpec.ofChange fnLookupOrderFreeWrong)

end Rows
end Go.Proofs.Qxb6002699a
