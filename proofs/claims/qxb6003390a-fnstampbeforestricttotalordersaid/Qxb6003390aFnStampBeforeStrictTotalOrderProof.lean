/-
  Seat b6003390a: 'Rows.FnStampBeforeStrictTotalOrderSaid' proved. The frame is the given shell's (the end turned to 'Below').
-/
import Derived.Test.Qxb6003390aRows
import Derived.Test.Qxb6003390aBefore
import Derived.WalkKit
import Derived.ProofKit
import Derived.OpenShut
import Derived.ShutString
namespace Go.Proofs.Qxb6003390a.fnStampBeforeStrictTotalOrder
open Go.ChangeShapes Go.WideShapes Go.ChangeAt Go.RowKit
open Go.ChangeMaps (open_string shut_string)
open Go.Proofs.Qxb6003390a.stamp
set_option linter.unusedVariables false      -- a walk need not use every 'w<i>' (that an integer argument fits its kind)

theorem own : ownKnob Try.prog.godebug = none := by kernel_rfl

/-! ### STEP 1: THE WALK: every test is decided ahead of it, one theorem a way through; each call by its contract; the three stamps carried by 'Three'. -/
theorem way_S_t (a0 a1 a2 a3 a4 a5 : Int) (w : World) (i0 : bef a0 a1 a0 a1 = false) (i1 : bef a2 a3 a2 a3 = false) (i2 : bef a4 a5 a4 a5 = false) (h1 : (a0 == a2) = true) (h2 : (a1 == a3) = true) (h3 : bef a0 a1 a2 a3 = false) (h4 : bef a2 a3 a0 a1 = false) (h5 : bef a4 a5 a2 a3 = true) :
    Calls Try.prog 3 #[.int .u64 a0, .int .u32 a1, .int .u64 a2, .int .u32 a3, .int .u64 a4, .int .u32 a5] w fun e w' => e = .returned (.bool true) ∧ Below w.heap.size w w' := by
  go_enter Try.func3, Try.ntmps3
  go_wp2_with fail
  refine (before_three (three_start w a0 a1 a2 a3 a4 a5) _ _ _ _).mono ?_
  rintro e W ⟨rfl, hS⟩
  have c0 := hS.c0; have c1 := hS.c1; have c2 := hS.c2; have c3 := hS.c3; have c4 := hS.c4; have c5 := hS.c5
  go_wp2_with (go_at_call 8; refine (before_three hS _ _ _ _).mono ?_; rintro e W ⟨rfl, hT⟩; clear c0 c1 c2 c3 c4 c5 hS; have hS := hT; clear hT; have c0 := hS.c0; have c1 := hS.c1; have c2 := hS.c2; have c3 := hS.c3; have c4 := hS.c4; have c5 := hS.c5)
  go_ret
  exact ⟨rfl, hS.below⟩

theorem way_S_f (a0 a1 a2 a3 a4 a5 : Int) (w : World) (i0 : bef a0 a1 a0 a1 = false) (i1 : bef a2 a3 a2 a3 = false) (i2 : bef a4 a5 a4 a5 = false) (h1 : (a0 == a2) = true) (h2 : (a1 == a3) = true) (h3 : bef a0 a1 a2 a3 = false) (h4 : bef a2 a3 a0 a1 = false) (h5 : bef a4 a5 a2 a3 = false) :
    Calls Try.prog 3 #[.int .u64 a0, .int .u32 a1, .int .u64 a2, .int .u32 a3, .int .u64 a4, .int .u32 a5] w fun e w' => e = .returned (.bool true) ∧ Below w.heap.size w w' := by
  go_enter Try.func3, Try.ntmps3
  go_wp2_with fail
  refine (before_three (three_start w a0 a1 a2 a3 a4 a5) _ _ _ _).mono ?_
  rintro e W ⟨rfl, hS⟩
  have c0 := hS.c0; have c1 := hS.c1; have c2 := hS.c2; have c3 := hS.c3; have c4 := hS.c4; have c5 := hS.c5
  go_wp2_with (go_at_call 8; refine (before_three hS _ _ _ _).mono ?_; rintro e W ⟨rfl, hT⟩; clear c0 c1 c2 c3 c4 c5 hS; have hS := hT; clear hT; have c0 := hS.c0; have c1 := hS.c1; have c2 := hS.c2; have c3 := hS.c3; have c4 := hS.c4; have c5 := hS.c5)
  go_ret
  exact ⟨rfl, hS.below⟩

theorem way_N_ttf (a0 a1 a2 a3 a4 a5 : Int) (w : World) (i0 : bef a0 a1 a0 a1 = false) (i1 : bef a2 a3 a2 a3 = false) (i2 : bef a4 a5 a4 a5 = false) (h1 : (a0 == a2) = false) (h3 : bef a0 a1 a2 a3 = true) (h4 : bef a2 a3 a0 a1 = false) (h6 : bef a2 a3 a4 a5 = true) (h5 : bef a4 a5 a2 a3 = false) (h7 : bef a0 a1 a4 a5 = true) :
    Calls Try.prog 3 #[.int .u64 a0, .int .u32 a1, .int .u64 a2, .int .u32 a3, .int .u64 a4, .int .u32 a5] w fun e w' => e = .returned (.bool true) ∧ Below w.heap.size w w' := by
  go_enter Try.func3, Try.ntmps3
  go_wp2_with fail
  refine (before_three (three_start w a0 a1 a2 a3 a4 a5) _ _ _ _).mono ?_
  rintro e W ⟨rfl, hS⟩
  have c0 := hS.c0; have c1 := hS.c1; have c2 := hS.c2; have c3 := hS.c3; have c4 := hS.c4; have c5 := hS.c5
  go_wp2_with (go_at_call 8; refine (before_three hS _ _ _ _).mono ?_; rintro e W ⟨rfl, hT⟩; clear c0 c1 c2 c3 c4 c5 hS; have hS := hT; clear hT; have c0 := hS.c0; have c1 := hS.c1; have c2 := hS.c2; have c3 := hS.c3; have c4 := hS.c4; have c5 := hS.c5)
  go_ret
  exact ⟨rfl, hS.below⟩

theorem way_N_tft (a0 a1 a2 a3 a4 a5 : Int) (w : World) (i0 : bef a0 a1 a0 a1 = false) (i1 : bef a2 a3 a2 a3 = false) (i2 : bef a4 a5 a4 a5 = false) (h1 : (a0 == a2) = false) (h3 : bef a0 a1 a2 a3 = true) (h4 : bef a2 a3 a0 a1 = false) (h6 : bef a2 a3 a4 a5 = false) (h5 : bef a4 a5 a2 a3 = true) :
    Calls Try.prog 3 #[.int .u64 a0, .int .u32 a1, .int .u64 a2, .int .u32 a3, .int .u64 a4, .int .u32 a5] w fun e w' => e = .returned (.bool true) ∧ Below w.heap.size w w' := by
  go_enter Try.func3, Try.ntmps3
  go_wp2_with fail
  refine (before_three (three_start w a0 a1 a2 a3 a4 a5) _ _ _ _).mono ?_
  rintro e W ⟨rfl, hS⟩
  have c0 := hS.c0; have c1 := hS.c1; have c2 := hS.c2; have c3 := hS.c3; have c4 := hS.c4; have c5 := hS.c5
  go_wp2_with (go_at_call 8; refine (before_three hS _ _ _ _).mono ?_; rintro e W ⟨rfl, hT⟩; clear c0 c1 c2 c3 c4 c5 hS; have hS := hT; clear hT; have c0 := hS.c0; have c1 := hS.c1; have c2 := hS.c2; have c3 := hS.c3; have c4 := hS.c4; have c5 := hS.c5)
  go_ret
  exact ⟨rfl, hS.below⟩

theorem way_N_tff (a0 a1 a2 a3 a4 a5 : Int) (w : World) (i0 : bef a0 a1 a0 a1 = false) (i1 : bef a2 a3 a2 a3 = false) (i2 : bef a4 a5 a4 a5 = false) (h1 : (a0 == a2) = false) (h3 : bef a0 a1 a2 a3 = true) (h4 : bef a2 a3 a0 a1 = false) (h6 : bef a2 a3 a4 a5 = false) (h5 : bef a4 a5 a2 a3 = false) :
    Calls Try.prog 3 #[.int .u64 a0, .int .u32 a1, .int .u64 a2, .int .u32 a3, .int .u64 a4, .int .u32 a5] w fun e w' => e = .returned (.bool true) ∧ Below w.heap.size w w' := by
  go_enter Try.func3, Try.ntmps3
  go_wp2_with fail
  refine (before_three (three_start w a0 a1 a2 a3 a4 a5) _ _ _ _).mono ?_
  rintro e W ⟨rfl, hS⟩
  have c0 := hS.c0; have c1 := hS.c1; have c2 := hS.c2; have c3 := hS.c3; have c4 := hS.c4; have c5 := hS.c5
  go_wp2_with (go_at_call 8; refine (before_three hS _ _ _ _).mono ?_; rintro e W ⟨rfl, hT⟩; clear c0 c1 c2 c3 c4 c5 hS; have hS := hT; clear hT; have c0 := hS.c0; have c1 := hS.c1; have c2 := hS.c2; have c3 := hS.c3; have c4 := hS.c4; have c5 := hS.c5)
  go_ret
  exact ⟨rfl, hS.below⟩

theorem way_N_ft (a0 a1 a2 a3 a4 a5 : Int) (w : World) (i0 : bef a0 a1 a0 a1 = false) (i1 : bef a2 a3 a2 a3 = false) (i2 : bef a4 a5 a4 a5 = false) (h1 : (a0 == a2) = false) (h3 : bef a0 a1 a2 a3 = false) (h4 : bef a2 a3 a0 a1 = true) (h5 : bef a4 a5 a2 a3 = true) (h7 : bef a4 a5 a0 a1 = true) :
    Calls Try.prog 3 #[.int .u64 a0, .int .u32 a1, .int .u64 a2, .int .u32 a3, .int .u64 a4, .int .u32 a5] w fun e w' => e = .returned (.bool true) ∧ Below w.heap.size w w' := by
  go_enter Try.func3, Try.ntmps3
  go_wp2_with fail
  refine (before_three (three_start w a0 a1 a2 a3 a4 a5) _ _ _ _).mono ?_
  rintro e W ⟨rfl, hS⟩
  have c0 := hS.c0; have c1 := hS.c1; have c2 := hS.c2; have c3 := hS.c3; have c4 := hS.c4; have c5 := hS.c5
  go_wp2_with (go_at_call 8; refine (before_three hS _ _ _ _).mono ?_; rintro e W ⟨rfl, hT⟩; clear c0 c1 c2 c3 c4 c5 hS; have hS := hT; clear hT; have c0 := hS.c0; have c1 := hS.c1; have c2 := hS.c2; have c3 := hS.c3; have c4 := hS.c4; have c5 := hS.c5)
  go_ret
  exact ⟨rfl, hS.below⟩

theorem way_N_ff (a0 a1 a2 a3 a4 a5 : Int) (w : World) (i0 : bef a0 a1 a0 a1 = false) (i1 : bef a2 a3 a2 a3 = false) (i2 : bef a4 a5 a4 a5 = false) (h1 : (a0 == a2) = false) (h3 : bef a0 a1 a2 a3 = false) (h4 : bef a2 a3 a0 a1 = true) (h5 : bef a4 a5 a2 a3 = false) :
    Calls Try.prog 3 #[.int .u64 a0, .int .u32 a1, .int .u64 a2, .int .u32 a3, .int .u64 a4, .int .u32 a5] w fun e w' => e = .returned (.bool true) ∧ Below w.heap.size w w' := by
  go_enter Try.func3, Try.ntmps3
  go_wp2_with fail
  refine (before_three (three_start w a0 a1 a2 a3 a4 a5) _ _ _ _).mono ?_
  rintro e W ⟨rfl, hS⟩
  have c0 := hS.c0; have c1 := hS.c1; have c2 := hS.c2; have c3 := hS.c3; have c4 := hS.c4; have c5 := hS.c5
  go_wp2_with (go_at_call 8; refine (before_three hS _ _ _ _).mono ?_; rintro e W ⟨rfl, hT⟩; clear c0 c1 c2 c3 c4 c5 hS; have hS := hT; clear hT; have c0 := hS.c0; have c1 := hS.c1; have c2 := hS.c2; have c3 := hS.c3; have c4 := hS.c4; have c5 := hS.c5)
  go_ret
  exact ⟨rfl, hS.below⟩

theorem way_E_ttf (a0 a1 a2 a3 a4 a5 : Int) (w : World) (i0 : bef a0 a1 a0 a1 = false) (i1 : bef a2 a3 a2 a3 = false) (i2 : bef a4 a5 a4 a5 = false) (h1 : (a0 == a2) = true) (h2 : (a1 == a3) = false) (h3 : bef a0 a1 a2 a3 = true) (h4 : bef a2 a3 a0 a1 = false) (h6 : bef a2 a3 a4 a5 = true) (h5 : bef a4 a5 a2 a3 = false) (h7 : bef a0 a1 a4 a5 = true) :
    Calls Try.prog 3 #[.int .u64 a0, .int .u32 a1, .int .u64 a2, .int .u32 a3, .int .u64 a4, .int .u32 a5] w fun e w' => e = .returned (.bool true) ∧ Below w.heap.size w w' := by
  go_enter Try.func3, Try.ntmps3
  go_wp2_with fail
  refine (before_three (three_start w a0 a1 a2 a3 a4 a5) _ _ _ _).mono ?_
  rintro e W ⟨rfl, hS⟩
  have c0 := hS.c0; have c1 := hS.c1; have c2 := hS.c2; have c3 := hS.c3; have c4 := hS.c4; have c5 := hS.c5
  go_wp2_with (go_at_call 8; refine (before_three hS _ _ _ _).mono ?_; rintro e W ⟨rfl, hT⟩; clear c0 c1 c2 c3 c4 c5 hS; have hS := hT; clear hT; have c0 := hS.c0; have c1 := hS.c1; have c2 := hS.c2; have c3 := hS.c3; have c4 := hS.c4; have c5 := hS.c5)
  go_ret
  exact ⟨rfl, hS.below⟩

theorem way_E_tft (a0 a1 a2 a3 a4 a5 : Int) (w : World) (i0 : bef a0 a1 a0 a1 = false) (i1 : bef a2 a3 a2 a3 = false) (i2 : bef a4 a5 a4 a5 = false) (h1 : (a0 == a2) = true) (h2 : (a1 == a3) = false) (h3 : bef a0 a1 a2 a3 = true) (h4 : bef a2 a3 a0 a1 = false) (h6 : bef a2 a3 a4 a5 = false) (h5 : bef a4 a5 a2 a3 = true) :
    Calls Try.prog 3 #[.int .u64 a0, .int .u32 a1, .int .u64 a2, .int .u32 a3, .int .u64 a4, .int .u32 a5] w fun e w' => e = .returned (.bool true) ∧ Below w.heap.size w w' := by
  go_enter Try.func3, Try.ntmps3
  go_wp2_with fail
  refine (before_three (three_start w a0 a1 a2 a3 a4 a5) _ _ _ _).mono ?_
  rintro e W ⟨rfl, hS⟩
  have c0 := hS.c0; have c1 := hS.c1; have c2 := hS.c2; have c3 := hS.c3; have c4 := hS.c4; have c5 := hS.c5
  go_wp2_with (go_at_call 8; refine (before_three hS _ _ _ _).mono ?_; rintro e W ⟨rfl, hT⟩; clear c0 c1 c2 c3 c4 c5 hS; have hS := hT; clear hT; have c0 := hS.c0; have c1 := hS.c1; have c2 := hS.c2; have c3 := hS.c3; have c4 := hS.c4; have c5 := hS.c5)
  go_ret
  exact ⟨rfl, hS.below⟩

theorem way_E_tff (a0 a1 a2 a3 a4 a5 : Int) (w : World) (i0 : bef a0 a1 a0 a1 = false) (i1 : bef a2 a3 a2 a3 = false) (i2 : bef a4 a5 a4 a5 = false) (h1 : (a0 == a2) = true) (h2 : (a1 == a3) = false) (h3 : bef a0 a1 a2 a3 = true) (h4 : bef a2 a3 a0 a1 = false) (h6 : bef a2 a3 a4 a5 = false) (h5 : bef a4 a5 a2 a3 = false) :
    Calls Try.prog 3 #[.int .u64 a0, .int .u32 a1, .int .u64 a2, .int .u32 a3, .int .u64 a4, .int .u32 a5] w fun e w' => e = .returned (.bool true) ∧ Below w.heap.size w w' := by
  go_enter Try.func3, Try.ntmps3
  go_wp2_with fail
  refine (before_three (three_start w a0 a1 a2 a3 a4 a5) _ _ _ _).mono ?_
  rintro e W ⟨rfl, hS⟩
  have c0 := hS.c0; have c1 := hS.c1; have c2 := hS.c2; have c3 := hS.c3; have c4 := hS.c4; have c5 := hS.c5
  go_wp2_with (go_at_call 8; refine (before_three hS _ _ _ _).mono ?_; rintro e W ⟨rfl, hT⟩; clear c0 c1 c2 c3 c4 c5 hS; have hS := hT; clear hT; have c0 := hS.c0; have c1 := hS.c1; have c2 := hS.c2; have c3 := hS.c3; have c4 := hS.c4; have c5 := hS.c5)
  go_ret
  exact ⟨rfl, hS.below⟩

theorem way_E_ft (a0 a1 a2 a3 a4 a5 : Int) (w : World) (i0 : bef a0 a1 a0 a1 = false) (i1 : bef a2 a3 a2 a3 = false) (i2 : bef a4 a5 a4 a5 = false) (h1 : (a0 == a2) = true) (h2 : (a1 == a3) = false) (h3 : bef a0 a1 a2 a3 = false) (h4 : bef a2 a3 a0 a1 = true) (h5 : bef a4 a5 a2 a3 = true) (h7 : bef a4 a5 a0 a1 = true) :
    Calls Try.prog 3 #[.int .u64 a0, .int .u32 a1, .int .u64 a2, .int .u32 a3, .int .u64 a4, .int .u32 a5] w fun e w' => e = .returned (.bool true) ∧ Below w.heap.size w w' := by
  go_enter Try.func3, Try.ntmps3
  go_wp2_with fail
  refine (before_three (three_start w a0 a1 a2 a3 a4 a5) _ _ _ _).mono ?_
  rintro e W ⟨rfl, hS⟩
  have c0 := hS.c0; have c1 := hS.c1; have c2 := hS.c2; have c3 := hS.c3; have c4 := hS.c4; have c5 := hS.c5
  go_wp2_with (go_at_call 8; refine (before_three hS _ _ _ _).mono ?_; rintro e W ⟨rfl, hT⟩; clear c0 c1 c2 c3 c4 c5 hS; have hS := hT; clear hT; have c0 := hS.c0; have c1 := hS.c1; have c2 := hS.c2; have c3 := hS.c3; have c4 := hS.c4; have c5 := hS.c5)
  go_ret
  exact ⟨rfl, hS.below⟩

theorem way_E_ff (a0 a1 a2 a3 a4 a5 : Int) (w : World) (i0 : bef a0 a1 a0 a1 = false) (i1 : bef a2 a3 a2 a3 = false) (i2 : bef a4 a5 a4 a5 = false) (h1 : (a0 == a2) = true) (h2 : (a1 == a3) = false) (h3 : bef a0 a1 a2 a3 = false) (h4 : bef a2 a3 a0 a1 = true) (h5 : bef a4 a5 a2 a3 = false) :
    Calls Try.prog 3 #[.int .u64 a0, .int .u32 a1, .int .u64 a2, .int .u32 a3, .int .u64 a4, .int .u32 a5] w fun e w' => e = .returned (.bool true) ∧ Below w.heap.size w w' := by
  go_enter Try.func3, Try.ntmps3
  go_wp2_with fail
  refine (before_three (three_start w a0 a1 a2 a3 a4 a5) _ _ _ _).mono ?_
  rintro e W ⟨rfl, hS⟩
  have c0 := hS.c0; have c1 := hS.c1; have c2 := hS.c2; have c3 := hS.c3; have c4 := hS.c4; have c5 := hS.c5
  go_wp2_with (go_at_call 8; refine (before_three hS _ _ _ _).mono ?_; rintro e W ⟨rfl, hT⟩; clear c0 c1 c2 c3 c4 c5 hS; have hS := hT; clear hT; have c0 := hS.c0; have c1 := hS.c1; have c2 := hS.c2; have c3 := hS.c3; have c4 := hS.c4; have c5 := hS.c5)
  go_ret
  exact ⟨rfl, hS.below⟩


theorem walk (a0 : Int) (a1 : Int) (a2 : Int) (a3 : Int) (a4 : Int) (a5 : Int) (w : World) :
    Calls Try.prog 3 #[.int .u64 a0, .int .u32 a1, .int .u64 a2, .int .u32 a3, .int .u64 a4, .int .u32 a5] w fun e w' => e = .returned (.bool true) ∧ Below w.heap.size w w' := by
  have i0 := bef_irrefl a0 a1
  have i1 := bef_irrefl a2 a3
  have i2 := bef_irrefl a4 a5
  by_cases hs : a0 = a2 ∧ a1 = a3
  · obtain ⟨e1, e2⟩ := hs
    obtain ⟨hab, hba⟩ := bef_same a0 a1 a2 a3 e1 e2
    have b1 : (a0 == a2) = true := by simp [e1]
    have b2 : (a1 == a3) = true := by simp [e2]
    cases hcb : bef a4 a5 a2 a3
    · exact way_S_f a0 a1 a2 a3 a4 a5 w i0 i1 i2 b1 b2 hab hba hcb
    · exact way_S_t a0 a1 a2 a3 a4 a5 w i0 i1 i2 b1 b2 hab hba hcb
  · have ht := bef_total a0 a1 a2 a3 hs
    have hcb' : bef a2 a3 a4 a5 = true → bef a4 a5 a2 a3 = false := by
      intro h
      cases h' : bef a4 a5 a2 a3
      · rfl
      · have := bef_trans _ _ _ _ _ _ h h'; rw [i1] at this; cases this
    cases e1 : a0 == a2
    · cases hab : bef a0 a1 a2 a3
      · rw [hab] at ht
        cases hcb : bef a4 a5 a2 a3
        · exact way_N_ff a0 a1 a2 a3 a4 a5 w i0 i1 i2 e1 hab ht hcb
        · exact way_N_ft a0 a1 a2 a3 a4 a5 w i0 i1 i2 e1 hab ht hcb (bef_trans _ _ _ _ _ _ hcb ht)
      · rw [hab] at ht
        cases hbc : bef a2 a3 a4 a5
        · cases hcb : bef a4 a5 a2 a3
          · exact way_N_tff a0 a1 a2 a3 a4 a5 w i0 i1 i2 e1 hab ht hbc hcb
          · exact way_N_tft a0 a1 a2 a3 a4 a5 w i0 i1 i2 e1 hab ht hbc hcb
        · exact way_N_ttf a0 a1 a2 a3 a4 a5 w i0 i1 i2 e1 hab ht hbc (hcb' hbc) (bef_trans _ _ _ _ _ _ hab hbc)
    · have e2 : (a1 == a3) = false := by
        have : a0 = a2 := by simpa using e1
        simp; exact fun x => hs ⟨this, x⟩
      cases hab : bef a0 a1 a2 a3
      · rw [hab] at ht
        cases hcb : bef a4 a5 a2 a3
        · exact way_E_ff a0 a1 a2 a3 a4 a5 w i0 i1 i2 e1 e2 hab ht hcb
        · exact way_E_ft a0 a1 a2 a3 a4 a5 w i0 i1 i2 e1 e2 hab ht hcb (bef_trans _ _ _ _ _ _ hcb ht)
      · rw [hab] at ht
        cases hbc : bef a2 a3 a4 a5
        · cases hcb : bef a4 a5 a2 a3
          · exact way_E_tff a0 a1 a2 a3 a4 a5 w i0 i1 i2 e1 e2 hab ht hbc hcb
          · exact way_E_tft a0 a1 a2 a3 a4 a5 w i0 i1 i2 e1 e2 hab ht hbc hcb
        · exact way_E_ttf a0 a1 a2 a3 a4 a5 w i0 i1 i2 e1 e2 hab ht hbc (hcb' hbc) (bef_trans _ _ _ _ _ _ hab hbc)

/-! ### THE ROW's STEP: WRITTEN OUT: LEAVE IT -/
set_option maxRecDepth 100000 in
theorem lifted (os : Os) (started : os.Started) (H : Type) (enc : TypeId × Value → H) :
    ReturnsInHanded {} Try.checked os 3 .any (Rows.fnStampBeforeStrictTotalOrderSpec.pre6 enc Try.prog Try.f3 Rows.fnStampBeforeStrictTotalOrderRow.domain false) (Rows.fnStampBeforeStrictTotalOrderSpec.post enc Try.prog Try.f3 false true false false) := by
  refine returnsInHanded_of_change (C := Try.checked) own started (by kernel_rfl) Try.func3
    (ChangeSpec.witness6 (enc := enc) (C := Try.checked) false ⟨#[], #[.int .u64 0, .int .u32 0, .int .u64 0, .int .u32 0, .int .u64 0, .int .u32 0], []⟩ 8 (by kernel_rfl) (by kernel_rfl) (by kernel_rfl) (by kernel_rfl)) ?_
  intro W base args ds gs before hval0 hW hcnd _
  have hval : ∀ (j : Nat) t v, Try.f3.params[j]? = some t → args[j]? = some v → Value.okWide Try.prog W .any base t v := hval0
  have hW' := hW
  obtain ⟨p, q, hA0, hV, rfl, hfz, hnd⟩ := hW
  have hA : DataW.TrodAll enc Try.prog W 0 (fun _ => true) true Try.f3.params.toList args.toList ds p := hA0
  rw [Try.params3] at hA hval
  obtain ⟨v0, vs0, d0, ds0, p0, q0, hargs, rfl, rfl, h0, r0⟩ := trodAll_cons hA
  obtain ⟨v1, vs1, d1, ds1, p1, q1, rfl, rfl, rfl, h1, r1⟩ := trodAll_cons r0
  obtain ⟨v2, vs2, d2, ds2, p2, q2, rfl, rfl, rfl, h2, r2⟩ := trodAll_cons r1
  obtain ⟨v3, vs3, d3, ds3, p3, q3, rfl, rfl, rfl, h3, r3⟩ := trodAll_cons r2
  obtain ⟨v4, vs4, d4, ds4, p4, q4, rfl, rfl, rfl, h4, r4⟩ := trodAll_cons r3
  obtain ⟨v5, vs5, d5, ds5, p5, q5, rfl, rfl, rfl, h5, r5⟩ := trodAll_cons r4
  obtain ⟨rfl, rfl, rfl⟩ := trodAll_nil r5
  obtain rfl : args = #[v0, v1, v2, v3, v4, v5] := by cases args; simp_all
  obtain ⟨rfl, rfl⟩ := trodVars_none hV
  obtain ⟨a0, rfl, rfl, rfl, w0⟩ := open_int Try.underlying22 (hval 0 22 v0 rfl rfl) h0
  obtain ⟨a1, rfl, rfl, rfl, w1⟩ := open_int Try.underlying23 (hval 1 23 v1 rfl rfl) h1
  obtain ⟨a2, rfl, rfl, rfl, w2⟩ := open_int Try.underlying22 (hval 2 22 v2 rfl rfl) h2
  obtain ⟨a3, rfl, rfl, rfl, w3⟩ := open_int Try.underlying23 (hval 3 23 v3 rfl rfl) h3
  obtain ⟨a4, rfl, rfl, rfl, w4⟩ := open_int Try.underlying22 (hval 4 22 v4 rfl rfl) h4
  obtain ⟨a5, rfl, rfl, rfl, w5⟩ := open_int Try.underlying23 (hval 5 23 v5 rfl rfl) h5
  clear hA0 hval0
  simp only [List.append_nil] at hW'
  refine (walk a0 a1 a2 a3 a4 a5 W).mono fun e W' ⟨he, bel⟩ => ?_
  subst he
  exact ⟨_, rfl, _, _, _, [], _, [], hW', trodAll_mk1 (shut_bool Try.underlying4 _), (trodAll_cons_mk (shut_int Try.underlying22 w0) (trodAll_cons_mk (shut_int Try.underlying23 w1) (trodAll_cons_mk (shut_int Try.underlying22 w2) (trodAll_cons_mk (shut_int Try.underlying23 w3) (trodAll_cons_mk (shut_int Try.underlying22 w4) (trodAll_cons_mk (shut_int Try.underlying23 w5) trodAll_mk0)))))), rfl, bel.frame _, fun h => by cases h⟩

theorem over : Rows.fnStampBeforeStrictTotalOrderRow.holds Try.pinned (OpenSpec.ofChange Rows.fnStampBeforeStrictTotalOrderSpec) :=
  OpenClaim.holds_of_wide 3 Try.f3 rfl rfl rfl rfl rfl rfl rfl ⟨rfl, rfl, rfl, rfl, rfl⟩ rfl rfl rfl rfl rfl (by kernel_rfl) Try.func3 (by kernel_rfl)
    (of_decide_eq_true (by kernel_rfl)) (by unfold Func.isWrapper; first | (rw [if_pos (by decide +kernel)]; kernel_rfl) | (rw [if_neg (by decide +kernel)]; exact ⟨rfl, rfl⟩))
    (fun os started H enc _ => lifted os started H enc)

/-- ████ THE STATEMENT ████ -/
theorem proved : Rows.FnStampBeforeStrictTotalOrderSaid :=
  over
end Go.Proofs.Qxb6003390a.fnStampBeforeStrictTotalOrder
