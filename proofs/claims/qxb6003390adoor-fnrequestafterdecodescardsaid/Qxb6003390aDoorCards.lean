/-
  DERIVED. GIVEN WITH THE SEED: THE CARDS: each row of Qxb6003390aDoorRows.lean that lists a variable, with what it lists TIED to the program's text (the seventh form; the later family's looks); each row that meets fmt, with fmt's text TOLD by the authors' own Lean function (tested against real Go, not proved from fmt's source: count such statements apart). THE CARD IS WHAT COUNTS. Prove the row's statement (the work); the ties are given (Qxb6003390aDoorTie.lean); close each card by the builder's one call (the guide's Derived/Test/ToyasCard.lean, 'card_holds'). Laid BY PROGRAM, IN A SANDBOX (cutbox-door.mjs). By AI agents, Wed Nov 11 2026. No macro, syntax, notation, axiom, sorry.
-/
import Derived.Test.Qxb6003390aDoorRows
import GoSem.ClaimSeven
namespace Go.Proofs.Qxb6003390aDoor
namespace Rows

/-- THE TIED CARD OF 'zzlaws_internal_clock_g1.FnStampStringReadsBack'. -/
def fnStampStringReadsBackCard : Claim7 := { stood := { row := fnStampStringReadsBackRow, standIns := [], harness := (true, "c29f0ffbf33d18096486d870eb9bca3d5fe83dc8bc30626e72ed2bac9e6218c9"), looks := false }, kinds := [], alts := [], laidByText := true, laidKinds := [.data, .data, .data], laidTests := true, laidLooks := .later }
def FnStampStringReadsBackCardSaid : Prop := Claim7.holds Tryd.pinned (.plain (OpenSpec.ofChange fnStampStringReadsBackSpec)) fnStampStringReadsBackCard

/-- THE TIED CARD OF 'zzlaws_internal_node_g1.FnRequestAfterDecodes'. -/
def fnRequestAfterDecodesCard : Claim7 := { stood := { row := fnRequestAfterDecodesRow, standIns := [], harness := (true, "c29f0ffbf33d18096486d870eb9bca3d5fe83dc8bc30626e72ed2bac9e6218c9"), looks := false }, kinds := [], alts := [], laidByText := true, laidKinds := [.data, .data, .data], laidTests := true, laidLooks := .later }
def FnRequestAfterDecodesCardSaid : Prop := Claim7.holds Tryd.pinned (.plain (OpenSpec.ofChange fnRequestAfterDecodesSpec)) fnRequestAfterDecodesCard

/-- THE TIED CARD OF 'zzlaws_internal_node_g1.FnWaitingLineDecodes'. -/
def fnWaitingLineDecodesCard : Claim7 := { stood := { row := fnWaitingLineDecodesRow, standIns := [], harness := (true, "c29f0ffbf33d18096486d870eb9bca3d5fe83dc8bc30626e72ed2bac9e6218c9"), looks := false }, kinds := [], alts := [], laidByText := true, laidKinds := [.data, .data, .data], laidTests := true, laidLooks := .later }
def FnWaitingLineDecodesCardSaid : Prop := Claim7.holds Tryd.pinned (.plain (OpenSpec.ofChange fnWaitingLineDecodesSpec)) fnWaitingLineDecodesCard
end Rows
end Go.Proofs.Qxb6003390aDoor
