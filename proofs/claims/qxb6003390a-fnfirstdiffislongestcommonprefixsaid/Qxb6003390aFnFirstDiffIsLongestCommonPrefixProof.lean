/-
  Seat b6003390a: 'Rows.FnFirstDiffIsLongestCommonPrefixSaid' proved. The frame is the given shell's.
-/
import Derived.Test.Qxb6003390aRows
import Derived.Test.Qxb6003390aLcp
import Derived.WalkKit
import Derived.ProofKit
import Derived.OpenShut
import Derived.ShutString
import Derived.ChangeOld
import Derived.Below
namespace Go.Proofs.Qxb6003390a.fnFirstDiffIsLongestCommonPrefix
open Go.ChangeShapes Go.WideShapes Go.ChangeAt Go.RowKit
open Go.ChangeMaps (open_string shut_string)
open Go.Proofs.Qxb6003390a.sl
set_option linter.unusedVariables false

theorem own : ownKnob Try.prog.godebug = none := by kernel_rfl
theorem laidOut : laidOutB Try.prog = true := by kernel_rfl

/-- WHAT THE WALK IS TOLD OF A SLICE OF INTEGERS THAT CAME IN: it is nil; or it leads to a row of 'cap' cells, the numbers 'zs' (the first 'len' are its elements, the rest its spare room), each fitting its kind. -/
def IsRow (k : IntKind) (w : World) (a : Option Addr) (len cap : Nat) (zs : List Int) : Prop :=
  (a = none ∧ len = 0 ∧ cap = 0 ∧ zs = []) ∨
  ∃ x, a = some x ∧ len ≤ cap ∧ cap ≤ maxLen ∧ zs.length = cap ∧ (∀ i, i < zs.length → w.cell? (x.add i) = some (.int k (zs.getD i 0))) ∧ ∀ n ∈ zs, (Lit.int k n).wf = true

/-! ### STEP 1: THE WALK -/
theorem isB_of_row {w : World} {a : Option Addr} {len cap : Nat} {zs : List Int} (h : IsRow .u8 w a len cap zs) : IsB .u8 w a (zs.take len) ∧ len = (zs.take len).length ∧ (a = none → cap = 0) ∧ len ≤ maxLen := by
  rcases h with ⟨rfl, rfl, rfl, rfl⟩ | ⟨x, rfl, hl, hm, hz, hcell, _⟩
  · exact ⟨isB_nil _ _ _, rfl, fun _ => rfl, by unfold maxLen; omega⟩
  · refine ⟨?_, (by simp; omega), (fun h => nomatch h), by omega⟩
    intro j hj
    have hj' : j < len := by simp at hj; omega
    have hc := hcell j (by omega)
    have hc0 := hcell 0 (by omega)
    obtain ⟨b, off, spot⟩ := x
    have hspot : spot = none := by simpa [Addr.add] using World.cell?_spot hc0
    subst hspot
    refine ⟨b, off, rfl, ?_⟩
    rw [← add_plain, hc]
    simp [hj']

theorem guard_no (a0 a1 : Option Addr) (n0 c0 n1 c1 : Nat) (w : World) (hm0 : n0 ≤ maxLen) (hm1 : n1 ≤ maxLen) (hg : ¬ n0 + n1 ≤ 1048576) :
    Calls Try.prog 5 #[.slice a0 n0 c0, .slice a1 n1 c1] w fun e w' => e = .returned (.bool true) ∧ Below w.heap.size w w' := by
  unfold maxLen at hm0 hm1
  have hG := guard_any a0 a1 n0 c0 n1 c1 w hm0 hm1
  rw [decide_eq_false hg] at hG
  go_enter Try.func5, Try.ntmps5
  go_wp2_with (go_at_call 11; refine hG.mono ?_; rintro e w' ⟨rfl, rfl⟩)
  go_ret
  exact ⟨rfl, Below.refl _ _⟩

theorem guard_long (a0 a1 : Option Addr) (n0 c0 n1 c1 : Nat) (w : World) (hg : n0 + n1 ≤ 1048576) (h : 1024 < n0 ∨ (¬ 1024 < n0 ∧ 1024 < n1)) :
    Calls Try.prog 5 #[.slice a0 n0 c0, .slice a1 n1 c1] w fun e w' => e = .returned (.bool true) ∧ Below w.heap.size w w' := by
  have hG := guard_any a0 a1 n0 c0 n1 c1 w (by omega) (by omega)
  rw [decide_eq_true hg] at hG
  rcases h with h | ⟨h, h'⟩
  all_goals
    go_enter Try.func5, Try.ntmps5
    go_wp2_with (go_at_call 11; refine hG.mono ?_; rintro e w' ⟨rfl, rfl⟩)
    go_ret
    exact ⟨rfl, Below.refl _ _⟩

/-- What the loop has found when it stands ahead of candidate k. -/
def best (xs ys : List Int) (k : Nat) : Nat := min (k - 1) (lcp xs ys)
theorem best_yes (xs ys : List Int) (k : Nat) (h : reach xs ys k = true) : best xs ys (k + 1) = k := by
  have : k ≤ lcp xs ys := of_decide_eq_true h
  simp [best]; omega
theorem best_no (xs ys : List Int) (k : Nat) (h : reach xs ys k = false) : best xs ys (k + 1) = best xs ys k := by
  have : ¬ k ≤ lcp xs ys := of_decide_eq_false h
  simp [best]; omega
theorem best_all (xs ys : List Int) (k : Nat) (h : lcp xs ys < k) : best xs ys k = lcp xs ys := by simp [best]; omega

set_option maxHeartbeats 1000000 in
theorem main_walk (a0 a1 : Option Addr) (n0 c0 n1 c1 : Nat) (xs ys : List Int) (w : World) (h0 : IsB .u8 w a0 xs) (h1 : IsB .u8 w a1 ys) (e0 : n0 = xs.length) (e1 : n1 = ys.length) (k0 : a0 = none → c0 = 0) (k1 : a1 = none → c1 = 0) (hm0 : n0 ≤ 1024) (hm1 : n1 ≤ 1024) :
    Calls Try.prog 5 #[.slice a0 n0 c0, .slice a1 n1 c1] w fun e w' => e = .returned (.bool true) ∧ Below w.heap.size w w' := by
  have hG := guard_any a0 a1 n0 c0 n1 c1 w (by omega) (by omega)
  rw [decide_eq_true (by omega)] at hG
  have hC0 := clone_any a0 n0 c0 xs w h0 e0 k0 (by omega)
  have E0 : Hid (n0 = xs.length) := e0
  have E1 : Hid (n1 = ys.length) := e1
  have K1 : Hid (a1 = none → c1 = 0) := k1
  clear e0 e1 k0 k1
  go_enter Try.func5, Try.ntmps5
  go_wp2_with (go_at_call 11; refine hG.mono ?_; rintro e w' ⟨rfl, rfl⟩)
  refine hC0.mono ?_
  clear hG hC0 h0
  rintro e w1 ⟨b0, d0, rfl, hB0, hb1⟩
  have hC1 := clone_any a1 n1 c1 ys w1 (h1.step hb1) E1.out K1.out (by omega)
  clear h1
  go_wp2_with fail
  refine hC1.mono ?_
  clear hC1
  rintro e w2 ⟨b1, d1, rfl, hB1, hb2⟩
  have hB0' := hB0.step hb2
  have hbel : Below w.heap.size w w2 := hb1.trans (hb2.mono hb1.size)
  clear hB0 hb1 hb2
  have hle := lcp_le xs ys
  have hmin : lcp xs ys ≤ min n0 n1 := by rw [E0.out, E1.out]; omega
  have hm0' : min n0 n1 ≤ n0 := by omega
  have hm1' : min n0 n1 ≤ n1 := by omega
  go_wp2_with (go_at_call 13; refine (min_any _ _ _).mono ?_; rintro e w' ⟨rfl, rfl⟩)
  generalize min n0 n1 = m at hmin hm0' hm1' ⊢
  go_loopw [6, 7] (fun t i wr => ∃ k : Nat, k ≤ m + 1 ∧ i = .int .i64 k ∧ t = .int .i64 (best xs ys k) ∧ IsB .u8 wr b0 xs ∧ IsB .u8 wr b1 ys ∧ Below w.heap.size w wr) (fun _ i _ => m + 1 - (intOf i).toNat)
  case atStart => exact ⟨0, Nat.zero_le _, rfl, rfl, hB0', hB1, hbel⟩
  case round =>
    obtain ⟨k, hk, rfl, rfl, hA, hB, hb⟩ := hrel
    clear hB0' hB1 hbel
    by_cases hlt : k ≤ m
    · have hS := same_any b0 b1 n0 d0 n1 d1 k xs ys wr hA hB E0.out E1.out (by omega) (by omega) (by omega)
      cases hr : reach xs ys k
      · rw [hr] at hS
        have hbn := best_no xs ys k hr
        have HB : Hid (best xs ys (k + 1) = best xs ys k) := hbn
        clear hr hbn
        go_wp2_with (go_at_call 14; refine hS.mono ?_; rintro e w' ⟨rfl, n, rfl⟩)
        go_roundw
        case rel => exact ⟨k + 1, by omega, by go_num, by rw [HB.out], hA, hB, hb.trans ⟨rfl, rfl, rfl, Nat.le_refl _, fun _ _ => rfl⟩⟩
        case measure => simp [intOf]; omega
      · rw [hr] at hS
        have hby := best_yes xs ys k hr
        have HB : Hid (best xs ys (k + 1) = k) := hby
        clear hr hby
        go_wp2_with (go_at_call 14; refine hS.mono ?_; rintro e w' ⟨rfl, n, rfl⟩)
        go_roundw
        case rel => exact ⟨k + 1, by omega, by go_num, by rw [HB.out], hA, hB, hb.trans ⟨rfl, rfl, rfl, Nat.le_refl _, fun _ _ => rfl⟩⟩
        case measure => simp [intOf]; omega
    · have hbest := best_all xs ys k (by omega)
      rw [hbest]
      have hF1 := zzfirst_any b0 b1 n0 d0 n1 d1 xs ys wr hA hB E0.out E1.out (by omega)
      clear hbest hle hmin
      generalize hL : lcp xs ys = L at hF1 ⊢
      go_wp2_with fail
      refine hF1.mono ?_
      rintro e w3 ⟨rfl, q, rfl⟩
      have hF2 := zzfirst_any b1 b0 n1 d1 n0 d0 ys xs (wr.drewN q) (hB.drewN q) (hA.drewN q) E1.out E0.out (by omega)
      rw [lcp_comm, hL] at hF2
      clear hF1 hL
      go_wp2_with (go_at_call 15; refine hF2.mono ?_; rintro e w' ⟨rfl, n, rfl⟩)
      go_ret
      exact ⟨rfl, hb.trans ⟨rfl, rfl, rfl, Nat.le_refl _, fun _ _ => rfl⟩⟩

theorem walk (a0 : Option Addr) (len0 cap0 : Nat) (z0 : List Int) (a1 : Option Addr) (len1 cap1 : Nat) (z1 : List Int) (w : World) (w0 : IsRow .u8 w a0 len0 cap0 z0) (w1 : IsRow .u8 w a1 len1 cap1 z1) :
    Calls Try.prog 5 #[.slice a0 len0 cap0, .slice a1 len1 cap1] w fun e w' => e = .returned (.bool true) ∧ Below w.heap.size w w' := by
  obtain ⟨h0, e0, k0, m0⟩ := isB_of_row w0
  obtain ⟨h1, e1, k1, m1⟩ := isB_of_row w1
  by_cases hg : len0 + len1 ≤ 1048576
  · by_cases hA : 1024 < len0
    · exact guard_long a0 a1 len0 cap0 len1 cap1 w hg (.inl hA)
    · by_cases hB : 1024 < len1
      · exact guard_long a0 a1 len0 cap0 len1 cap1 w hg (.inr ⟨hA, hB⟩)
      · exact main_walk a0 a1 len0 cap0 len1 cap1 _ _ w h0 h1 e0 e1 k0 k1 (by omega) (by omega)
  · exact guard_no a0 a1 len0 cap0 len1 cap1 w m0 m1 hg

/-! ### THE ROW's STEP: WRITTEN OUT: LEAVE IT -/
set_option maxRecDepth 100000 in
theorem lifted (os : Os) (started : os.Started) (H : Type) (enc : TypeId × Value → H) :
    ReturnsInHanded {} Try.checked os 5 .any (Rows.fnFirstDiffIsLongestCommonPrefixSpec.pre6 enc Try.prog Try.f5 Rows.fnFirstDiffIsLongestCommonPrefixRow.domain false) (Rows.fnFirstDiffIsLongestCommonPrefixSpec.post enc Try.prog Try.f5 false true false false) := by
  refine returnsInHanded_of_change (C := Try.checked) own started (by kernel_rfl) Try.func5
    (ChangeSpec.witness6 (enc := enc) (C := Try.checked) false ⟨#[], #[.slice none 0 0, .slice none 0 0], []⟩ 8 (by kernel_rfl) (by kernel_rfl) (by kernel_rfl) (by kernel_rfl)) ?_
  intro W base args ds gs before hval0 hW hcnd _
  have hval : ∀ (j : Nat) t v, Try.f5.params[j]? = some t → args[j]? = some v → Value.okWide Try.prog W .any base t v := hval0
  have hW' := hW
  obtain ⟨p, q, hA0, hV, rfl, hfz, hnd⟩ := hW
  have hA : DataW.TrodAll enc Try.prog W 0 (fun _ => true) true Try.f5.params.toList args.toList ds p := hA0
  rw [Try.params5] at hA hval
  obtain ⟨v0, vs0, d0, ds0, p0, q0, hargs, rfl, rfl, h0, r0⟩ := trodAll_cons hA
  obtain ⟨v1, vs1, d1, ds1, p1, q1, rfl, rfl, rfl, h1, r1⟩ := trodAll_cons r0
  obtain ⟨rfl, rfl, rfl⟩ := trodAll_nil r1
  obtain rfl : args = #[v0, v1] := by cases args; simp_all
  obtain ⟨rfl, rfl⟩ := trodVars_none hV
  obtain ⟨a0, len0, cap0, rfl⟩ := okWide_slice Try.underlying32 (hval 0 32 v0 rfl rfl)
  have k0 := h0
  have lt0 : ∀ x ∈ p0, x.block < W.heap.size := by obtain ⟨m, hm⟩ := k0; exact DataW.trod_lt m _ _ _ hm
  obtain ⟨z0, w0⟩ : ∃ zs, IsRow .u8 W a0 len0 cap0 zs := by
    obtain ⟨fuel, hf⟩ := h0
    rcases open_ints Try.underlying32 Try.underlying5 (by kernel_rfl) hf with ⟨hcs, _⟩ | ⟨x, l, c, zs, hcs, _, hl, hm, hz, _, hcell, hwz⟩
    · simp [Value.cells] at hcs
      obtain ⟨rfl, rfl, rfl⟩ := hcs
      exact ⟨[], .inl ⟨rfl, rfl, rfl, rfl⟩⟩
    · simp [Value.cells] at hcs
      obtain ⟨rfl, rfl, rfl⟩ := hcs
      exact ⟨zs, .inr ⟨_, rfl, hl, hm, by simpa using hz, hcell, hwz⟩⟩
  obtain ⟨a1, len1, cap1, rfl⟩ := okWide_slice Try.underlying32 (hval 1 32 v1 rfl rfl)
  have k1 := h1
  have lt1 : ∀ x ∈ p1, x.block < W.heap.size := by obtain ⟨m, hm⟩ := k1; exact DataW.trod_lt m _ _ _ hm
  obtain ⟨z1, w1⟩ : ∃ zs, IsRow .u8 W a1 len1 cap1 zs := by
    obtain ⟨fuel, hf⟩ := h1
    rcases open_ints Try.underlying32 Try.underlying5 (by kernel_rfl) hf with ⟨hcs, _⟩ | ⟨x, l, c, zs, hcs, _, hl, hm, hz, _, hcell, hwz⟩
    · simp [Value.cells] at hcs
      obtain ⟨rfl, rfl, rfl⟩ := hcs
      exact ⟨[], .inl ⟨rfl, rfl, rfl, rfl⟩⟩
    · simp [Value.cells] at hcs
      obtain ⟨rfl, rfl, rfl⟩ := hcs
      exact ⟨zs, .inr ⟨_, rfl, hl, hm, by simpa using hz, hcell, hwz⟩⟩
  clear hA0 hval0
  refine (walk a0 len0 cap0 z0 a1 len1 cap1 z1 W w0 w1).mono fun e W' ⟨he, bel⟩ => ?_
  subst he
  exact ⟨_, rfl, _, _, _, [], _, [], hW', trodAll_mk1 (shut_bool Try.underlying4 _), (trodAll_cons_mk (Below.trod laidOut (by kernel_rfl) (of_decide_eq_true (by kernel_rfl)) k0 bel lt0) (trodAll_cons_mk (Below.trod laidOut (by kernel_rfl) (of_decide_eq_true (by kernel_rfl)) k1 bel lt1) trodAll_mk0)), rfl, bel.frame _, fun h => by cases h⟩

theorem over : Rows.fnFirstDiffIsLongestCommonPrefixRow.holds Try.pinned (OpenSpec.ofChange Rows.fnFirstDiffIsLongestCommonPrefixSpec) :=
  OpenClaim.holds_of_wide 5 Try.f5 rfl rfl rfl rfl rfl rfl rfl ⟨rfl, rfl, rfl, rfl, rfl⟩ rfl rfl rfl rfl rfl (by kernel_rfl) Try.func5 (by kernel_rfl)
    (of_decide_eq_true (by kernel_rfl)) (by unfold Func.isWrapper; first | (rw [if_pos (by decide +kernel)]; kernel_rfl) | (rw [if_neg (by decide +kernel)]; exact ⟨rfl, rfl⟩))
    (fun os started H enc _ => lifted os started H enc)

/-- ████ THE STATEMENT ████ -/
theorem proved : Rows.FnFirstDiffIsLongestCommonPrefixSaid := over
end Go.Proofs.Qxb6003390a.fnFirstDiffIsLongestCommonPrefix
