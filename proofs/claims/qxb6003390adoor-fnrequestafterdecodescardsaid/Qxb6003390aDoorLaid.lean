/-
  Seat b6003390aD. The rows' list of tables: what it gives the walks, and a world that meets it.
-/
import Derived.Test.Qxb6003390aDoorShelf
import Derived.ProofKit
import Derived.LaidMore
import Derived.OpenShut
import Derived.ShutString
import Derived.Stop.Joined
import Derived.Lib.LaidTab
namespace Go.Proofs.Qxb6003390aDoor.laid
open Go.ChangeShapes Go.WideShapes Go.ChangeAt Go.RowKit Go.Lib Go.Proofs.Qxb6003390aDoor.shelf

/-- The three tables, as the rows list them. -/
def laid3 : List (String × DataW Unit) := Rows.fnWaitingLineDecodesRow.laid

theorem own : ownKnob Tryd.prog.godebug = none := by kernel_rfl
theorem laidOut : laidOutB Tryd.prog = true := by kernel_rfl
theorem gPow : Tryd.prog.globalNamed powName = some 0 := by kernel_rfl
theorem tPow : (Tryd.prog.globals[0]?).map (·.type) = some 45 := by kernel_rfl

theorem tab_eq : (Rows.laid_internal_strconv_uint64pow10 : DataW Unit) = tabData .u64 pow10Tab := by kernel_rfl

/-- WHAT THE CONDITION GIVES THE WALKS. -/
theorem of_laid {W : World} (h : laidMetH Tryd.prog laid3 W) : TabIs Tryd.prog W powName .u64 pow10Tab := by
  rw [MakeChecks.laidMetH_plain _ _ _ (by kernel_rfl)] at h
  obtain ⟨ps, ⟨g0, t0, cs0, f0, p0, q0, _, _, _, _, ⟨g1, t1, cs1, f1, p1, q1, _, _, _, _, ⟨g2, t2, cs2, f2, p2, q2, hg2, ht2, hv2, hd2, _, _⟩, _⟩, _⟩, _, _⟩ := h
  have hg2' : Tryd.prog.globalNamed powName = some g2 := hg2
  obtain rfl := Option.some.inj (gPow.symm.trans hg2')
  obtain rfl := Option.some.inj (tPow.symm.trans ht2)
  have hd : DataW.trod (fun _ => ()) Tryd.prog W 0 (fun _ => true) false f2 45 cs2.toList = some (tabData .u64 pow10Tab, p2) := by rw [← tab_eq]; exact hd2
  unfold TabIs
  have hv : W.var? Tryd.prog powName = some cs2 := hv2
  rw [hv, ← cells_of_tab Tryd.underlying45 Tryd.underlying22 (by kernel_rfl) (by kernel_rfl) hd]

/-- The door's own heap meets the condition. -/
theorem door_met (os : Os) (args : Array Value) : laidMetH Tryd.prog laid3 ((World.doorLaid Tryd.prog 400 os).forCall (fun _ _ => 0) ⟨#[], args, []⟩).memory :=
  laidMetH_of_parts3 (fuel := 8) (laidMet_of_run' 8 (by kernel_rfl) (by kernel_rfl)) (by kernel_rfl) (by kernel_rfl)
end Go.Proofs.Qxb6003390aDoor.laid
