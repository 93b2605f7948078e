/-
  Seat b6003390a. '(clock.Stamp).Before' by a contract, and the plain order on stamps.
-/
import Derived.Test.Qxb6003390aRows
import Derived.WalkKit
import Derived.ProofKit
namespace Go.Proofs.Qxb6003390a.stamp
open Go.RowKit

/-- The order on stamps: the time first, then the member. -/
def bef (a b c d : Int) : Bool := if a = c then decide (b < d) else decide (a < c)

theorem bef_irrefl (a b : Int) : bef a b a b = false := by simp [bef]

theorem bef_same (a b c d : Int) (h1 : a = c) (h2 : b = d) : bef a b c d = false ∧ bef c d a b = false := by
  subst h1; subst h2; simp [bef]

theorem bef_total (a b c d : Int) (h : ¬ (a = c ∧ b = d)) : bef c d a b = !bef a b c d := by
  unfold bef
  by_cases e : a = c
  · subst e
    have : b ≠ d := fun x => h ⟨rfl, x⟩
    simp only [if_pos]
    rw [Bool.eq_iff_iff]; simp; omega
  · rw [if_neg e, if_neg (fun x => e x.symm)]
    rw [Bool.eq_iff_iff]; simp; omega

theorem bef_trans (a b c d e f : Int) (h1 : bef a b c d = true) (h2 : bef c d e f = true) : bef a b e f = true := by
  unfold bef at *
  split at h1 <;> split at h2 <;> split <;> simp at * <;> omega

theorem bef_eq {a b c d : Int} (h : a = c) : decide (b < d) = bef a b c d := by simp [bef, h]
theorem bef_ne {a b c d : Int} (h : ¬ a = c) : decide (a < c) = bef a b c d := by simp [bef, h]
theorem ret_bool {a b : Bool} (h : a = b) : Ending.returned (.bool a) = .returned (.bool b) := by rw [h]

theorem before_any (a b c d : Int) (w : World) :
    Calls Try.prog 8 #[.agg #[.int .u64 a, .int .u32 b], .agg #[.int .u64 c, .int .u32 d]] w fun e w' => e = .returned (.bool (bef a b c d)) ∧ w' = (w.alloc (.cells #[.int .u64 a, .int .u32 b] 25)).alloc (.cells #[.int .u64 c, .int .u32 d] 25) := by
  by_cases h : a = c
  · have hh : (a != c) = false := by simp [h]
    have H : Hid (a = c) := h
    clear h
    go_enter Try.func8, Try.ntmps8
    go_wp2
    go_ret
    exact ⟨ret_bool (bef_eq H.out), rfl⟩
  · have hh : (a != c) = true := by simp [h]
    go_enter Try.func8, Try.ntmps8
    go_wp2
    go_ret
    exact ⟨ret_bool (bef_ne h), rfl⟩

/-- Three stamps lie in the call's first three blocks; below them nothing has turned. -/
structure Three (w W : World) (a0 a1 a2 a3 a4 a5 : Int) : Prop where
  c0 : W.cell? ⟨w.heap.size, 0, none⟩ = some (.int .u64 a0)
  c1 : W.cell? ⟨w.heap.size, 1, none⟩ = some (.int .u32 a1)
  c2 : W.cell? ⟨w.heap.size + 1, 0, none⟩ = some (.int .u64 a2)
  c3 : W.cell? ⟨w.heap.size + 1, 1, none⟩ = some (.int .u32 a3)
  c4 : W.cell? ⟨w.heap.size + 1 + 1, 0, none⟩ = some (.int .u64 a4)
  c5 : W.cell? ⟨w.heap.size + 1 + 1, 1, none⟩ = some (.int .u32 a5)
  size : w.heap.size + 3 ≤ W.heap.size
  below : Below w.heap.size w W

theorem three_start (w : World) (a0 a1 a2 a3 a4 a5 : Int) :
    Three w (((w.alloc (.cells #[.int .u64 a0, .int .u32 a1] 25)).alloc (.cells #[.int .u64 a2, .int .u32 a3] 25)).alloc (.cells #[.int .u64 a4, .int .u32 a5] 25)) a0 a1 a2 a3 a4 a5 := by
  constructor
  all_goals first | (go_simp; done) | (simp; done) | skip
  exact (((Below.refl _ _).alloc (Nat.le_refl _) _).alloc (by simp) _).alloc (by simp; omega) _

theorem three_step {w W W' : World} {a0 a1 a2 a3 a4 a5 : Int} (h : Three w W a0 a1 a2 a3 a4 a5) (hb : Below W.heap.size W W') : Three w W' a0 a1 a2 a3 a4 a5 := by
  have hs := h.size
  have hz := hb.size
  exact ⟨(hb.cell (by simp; omega)).trans h.c0, (hb.cell (by simp; omega)).trans h.c1, (hb.cell (by simp; omega)).trans h.c2, (hb.cell (by simp; omega)).trans h.c3, (hb.cell (by simp; omega)).trans h.c4, (hb.cell (by simp; omega)).trans h.c5, by omega, h.below.trans (hb.mono (by omega))⟩

theorem before_three {w W : World} {a0 a1 a2 a3 a4 a5 : Int} (h : Three w W a0 a1 a2 a3 a4 a5) (a b c d : Int) :
    Calls Try.prog 8 #[.agg #[.int .u64 a, .int .u32 b], .agg #[.int .u64 c, .int .u32 d]] W fun e w' => e = .returned (.bool (bef a b c d)) ∧ Three w w' a0 a1 a2 a3 a4 a5 := by
  refine (before_any a b c d W).mono ?_
  rintro e w' ⟨rfl, rfl⟩
  exact ⟨rfl, three_step h (((Below.refl _ _).alloc (Nat.le_refl _) _).alloc (by simp) _)⟩
end Go.Proofs.Qxb6003390a.stamp
