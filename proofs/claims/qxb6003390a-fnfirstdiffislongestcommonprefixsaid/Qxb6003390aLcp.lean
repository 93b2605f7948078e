/-
  Seat b6003390a. The longest common prefix; 'firstDiff', 'samePrefix', 'minInt', the guard by contracts.
-/
import Derived.Test.Qxb6003390aSl
namespace Go.Proofs.Qxb6003390a.sl
open Go.RowKit

/-! ### The plain function -/
def lcp : List Int → List Int → Nat
  | x :: xs, y :: ys => if x = y then lcp xs ys + 1 else 0
  | _, _ => 0

theorem lcp_comm : ∀ xs ys : List Int, lcp xs ys = lcp ys xs
  | [], [] => rfl
  | [], _ :: _ => rfl
  | _ :: _, [] => rfl
  | x :: xs, y :: ys => by
    simp only [lcp]
    by_cases h : x = y
    · rw [if_pos h, if_pos h.symm, lcp_comm xs ys]
    · rw [if_neg h, if_neg (fun e => h e.symm)]

theorem lcp_le : ∀ xs ys : List Int, lcp xs ys ≤ xs.length ∧ lcp xs ys ≤ ys.length
  | [], [] => by simp [lcp]
  | [], _ :: _ => by simp [lcp]
  | _ :: _, [] => by simp [lcp]
  | x :: xs, y :: ys => by
    simp only [lcp]
    have := lcp_le xs ys
    split <;> simp <;> omega

theorem lcp_nil (xs : List Int) : lcp xs [] = 0 := by cases xs <;> rfl

/-- At each place below the prefix's end the two agree; at its end they differ or one is out. -/
theorem lcp_at (xs ys : List Int) (k : Nat) (h : k < lcp xs ys) : xs.getD k 0 = ys.getD k 0 := by
  induction xs generalizing ys k with
  | nil => simp [lcp] at h
  | cons x xs ih =>
    cases ys with
    | nil => simp [lcp] at h
    | cons y ys =>
      simp only [lcp] at h
      by_cases e : x = y
      · rw [if_pos e] at h
        cases k with
        | zero => simpa using e
        | succ k => simpa using ih ys k (by omega)
      · rw [if_neg e] at h; omega

theorem lcp_end (xs ys : List Int) (hx : lcp xs ys < xs.length) (hy : lcp xs ys < ys.length) : xs.getD (lcp xs ys) 0 ≠ ys.getD (lcp xs ys) 0 := by
  induction xs generalizing ys with
  | nil => simp at hx
  | cons x xs ih =>
    cases ys with
    | nil => simp at hy
    | cons y ys =>
      simp only [lcp] at *
      by_cases e : x = y
      · simp only [if_pos e, List.length_cons] at *
        simpa using ih ys (by omega) (by omega)
      · simp only [if_neg e] at *
        simpa using e

theorem lcp_step (xs ys : List Int) (k : Nat) (h : k ≤ lcp xs ys) (hx : k < xs.length) (hy : k < ys.length) (e : xs.getD k 0 = ys.getD k 0) : k + 1 ≤ lcp xs ys := by
  by_cases hk : k = lcp xs ys
  · exact absurd e (by rw [hk]; exact lcp_end xs ys (by omega) (by omega))
  · omega

theorem lcp_stop (xs ys : List Int) (k : Nat) (h : k ≤ lcp xs ys) (e : xs.getD k 0 ≠ ys.getD k 0) : lcp xs ys = k := by
  by_cases hk : k = lcp xs ys
  · exact hk.symm
  · exact absurd (lcp_at xs ys k (by omega)) e

/-- Does the prefix reach k? -/
def reach (xs ys : List Int) (k : Nat) : Bool := decide (k ≤ lcp xs ys)

theorem ret_int {k : IntKind} {a b : Int} (h : a = b) : Ending.returned (.int k a) = .returned (.int k b) := by rw [h]
theorem ret_bool {a b : Bool} (h : a = b) : Ending.returned (.bool a) = .returned (.bool b) := by rw [h]

theorem drew2 (w : World) (n m : Nat) : ∃ q, (w.drewN n).drewN m = w.drewN q := ⟨_, World.drewN_drewN _ _ _⟩

/-! ### minInt -/
theorem min_any (a b : Nat) (w : World)  : Calls Try.prog 13 #[.int .i64 a, .int .i64 b] w fun e w' => e = .returned (.int .i64 (min a b : Nat)) ∧ w = w' := by
  by_cases h : a < b
  · have H : Hid (min a b = a) := Nat.min_eq_left (by omega)
    go_enter Try.func13, Try.ntmps13
    go_wp2
    go_ret
    exact ⟨ret_int (by rw [H.out]), rfl⟩
  · have H : Hid (min a b = b) := Nat.min_eq_right (by omega)
    go_enter Try.func13, Try.ntmps13
    go_wp2
    go_ret
    exact ⟨ret_int (by rw [H.out]), rfl⟩

/-! ### firstDiff -/
set_option maxHeartbeats 1000000 in
theorem first_some (b0 o0 n0 c0 b1 o1 n1 c1 : Nat) (xs ys : List Int) (w : World) (e0 : n0 = xs.length) (e1 : n1 = ys.length)
    (h0 : ∀ j, j < n0 → w.cell? ⟨b0, o0 + j, none⟩ = some (.int .u8 (xs.getD j 0))) (h1 : ∀ j, j < n1 → w.cell? ⟨b1, o1 + j, none⟩ = some (.int .u8 (ys.getD j 0))) (hm0 : n0 ≤ 1073741824) :
    Calls Try.prog 21 #[.slice (some ⟨b0, o0, none⟩) n0 c0, .slice (some ⟨b1, o1, none⟩) n1 c1] w fun e w' => e = .returned (.int .i64 (lcp xs ys)) ∧ ∃ n, w' = w.drewN n := by
  have E0 : Hid (n0 = xs.length) := e0
  have E1 : Hid (n1 = ys.length) := e1
  clear e0 e1
  go_enter Try.func21, Try.ntmps21
  go_wp2
  go_loopw [5] (fun i wr => ∃ k : Nat, k ≤ lcp xs ys ∧ i = .int .i64 k ∧ ∃ n, wr = w.drewN n) (fun i _ => n0 - (intOf i).toNat)
  case atStart => exact ⟨0, Nat.zero_le _, rfl, 0, rfl⟩
  case round =>
    obtain ⟨k, hk, rfl, n, rfl⟩ := hrel
    have hle := lcp_le xs ys
    have ek0 : k ≤ n0 := by have := E0.out; omega
    have ek1 : k ≤ n1 := by have := E1.out; omega
    by_cases hx : k < n0
    · by_cases hy : k < n1
      · have cx := h0 k hx
        have cy := h1 k hy
        have b0 : (0 : Int) ≤ (k : Int) := by omega
        have i0 : (k : Int) < (n0 : Int) := by omega
        have i1 : (k : Int) < (n1 : Int) := by omega
        have st := lcp_step xs ys k hk (by have := E0.out; omega) (by have := E1.out; omega)
        have sp := lcp_stop xs ys k hk
        have HK : Hid (k ≤ lcp xs ys) := hk
        clear hk hle h0 h1
        generalize xs.getD k 0 = x at cx st sp
        generalize ys.getD k 0 = y at cy st sp
        by_cases hxy : x = y
        · have hd : (x == y) = true := by simp [hxy]
          have S : Hid (k + 1 ≤ lcp xs ys) := st hxy
          clear st sp hxy
          go_wp2
          go_quiet (fail)
          go_wp2
          go_roundw
          case rel => exact ⟨k + 1, S.out, by go_num, _, rfl⟩
          case measure => simp [intOf]; omega
        · have hd : (x == y) = false := by simp [hxy]
          have S : Hid (lcp xs ys = k) := sp hxy
          clear st sp hxy
          go_wp2
          go_quiet (fail)
          go_wp2
          go_ret
          exact ⟨ret_int (by rw [S.out]), drew2 _ _ _⟩
      · have S : Hid (lcp xs ys = k) := by have := E1.out; show lcp xs ys = k; omega
        have hd : decide ((k : Int) < (n1 : Int)) = false := decide_eq_false (by omega)
        have i0 : (k : Int) < (n0 : Int) := by omega
        clear hle hk h0 h1
        go_wp2
        go_quiet (fail)
        go_wp2
        go_ret
        exact ⟨ret_int (by rw [S.out]), drew2 _ _ _⟩
    · have S : Hid (lcp xs ys = k) := by have := E0.out; show lcp xs ys = k; omega
      have hd : decide ((k : Int) < (n0 : Int)) = false := decide_eq_false (by omega)
      clear hle hk h0 h1
      go_wp2
      go_quiet (fail)
      go_wp2
      go_ret
      exact ⟨ret_int (by rw [S.out]), drew2 _ _ _⟩

theorem first_empty0 (a0 a1 : Option Addr) (c0 n1 c1 : Nat) (w : World) :
    Calls Try.prog 21 #[.slice a0 0 c0, .slice a1 n1 c1] w fun e w' => e = .returned (.int .i64 0) ∧ ∃ n, w' = w.drewN n := by
  have hd : decide ((0 : Int) < 0) = false := by simp
  go_enter Try.func21, Try.ntmps21
  go_wp2
  refine wp_loop_rounds 1 ?_
  rw [rounds_succ]
  go_wp2
  go_quiet (fail)
  go_wp2
  go_ret
  exact ⟨rfl, _, rfl⟩

theorem first_empty1 (a0 a1 : Option Addr) (n0 c0 n1 c1 : Nat) (w : World) (h0 : 0 < n0) (h1 : n1 = 0) :
    Calls Try.prog 21 #[.slice a0 n0 c0, .slice a1 n1 c1] w fun e w' => e = .returned (.int .i64 0) ∧ ∃ n, w' = w.drewN n := by
  have hd : decide (0 < n1) = false := decide_eq_false (by omega)
  clear h1
  go_enter Try.func21, Try.ntmps21
  go_wp2
  refine wp_loop_rounds 1 ?_
  rw [rounds_succ]
  go_wp2
  go_quiet (fail)
  go_wp2
  go_ret
  exact ⟨rfl, _, rfl⟩

theorem first_any (a0 a1 : Option Addr) (n0 c0 n1 c1 : Nat) (xs ys : List Int) (w : World) (h0 : IsB .u8 w a0 xs) (h1 : IsB .u8 w a1 ys) (e0 : n0 = xs.length) (e1 : n1 = ys.length) (hm0 : n0 ≤ 1073741824) :
    Calls Try.prog 21 #[.slice a0 n0 c0, .slice a1 n1 c1] w fun e w' => e = .returned (.int .i64 (lcp xs ys)) ∧ ∃ n, w' = w.drewN n := by
  by_cases z0 : n0 = 0
  · have hz : xs = [] := by cases xs with | nil => rfl | cons z zs => simp at e0; omega
    subst z0; subst hz
    exact first_empty0 a0 a1 c0 n1 c1 w
  · by_cases z1 : n1 = 0
    · have hz : ys = [] := by cases ys with | nil => rfl | cons z zs => simp at e1; omega
      subst hz
      rw [lcp_nil]
      exact first_empty1 a0 a1 n0 c0 n1 c1 w (by omega) z1
    · obtain ⟨b0, o0, r0, hc0⟩ := h0.at0 (by omega)
      obtain ⟨b1, o1, r1, hc1⟩ := h1.at0 (by omega)
      subst r0; subst r1
      exact first_some b0 o0 n0 c0 b1 o1 n1 c1 xs ys w e0 e1 (fun j hj => hc0 j (by omega)) (fun j hj => hc1 j (by omega)) hm0

/-- ZZFirstDiff: the same. -/
theorem zzfirst_any (a0 a1 : Option Addr) (n0 c0 n1 c1 : Nat) (xs ys : List Int) (w : World) (h0 : IsB .u8 w a0 xs) (h1 : IsB .u8 w a1 ys) (e0 : n0 = xs.length) (e1 : n1 = ys.length) (hm0 : n0 ≤ 1073741824) :
    Calls Try.prog 15 #[.slice a0 n0 c0, .slice a1 n1 c1] w fun e w' => e = .returned (.int .i64 (lcp xs ys)) ∧ ∃ n, w' = w.drewN n := by
  have hF := first_any a0 a1 n0 c0 n1 c1 xs ys w h0 h1 e0 e1 hm0
  clear h0 h1 e0 e1
  go_enter Try.func15, Try.ntmps15
  go_wp2_with fail
  refine hF.mono ?_
  rintro e w' ⟨rfl, n, rfl⟩
  go_wp2
  go_ret
  exact ⟨rfl, n, rfl⟩

/-! ### samePrefix -/
set_option maxHeartbeats 1000000 in
theorem same_some (b0 o0 n0 c0 b1 o1 n1 c1 q : Nat) (xs ys : List Int) (w : World) (e0 : n0 = xs.length) (e1 : n1 = ys.length)
    (h0 : ∀ j, j < n0 → w.cell? ⟨b0, o0 + j, none⟩ = some (.int .u8 (xs.getD j 0))) (h1 : ∀ j, j < n1 → w.cell? ⟨b1, o1 + j, none⟩ = some (.int .u8 (ys.getD j 0))) (hm0 : n0 ≤ 1073741824) (hq0 : q ≤ n0) (hq1 : q ≤ n1) :
    Calls Try.prog 14 #[.slice (some ⟨b0, o0, none⟩) n0 c0, .slice (some ⟨b1, o1, none⟩) n1 c1, .int .i64 q] w fun e w' => e = .returned (.bool (reach xs ys q)) ∧ ∃ n, w' = w.drewN n := by
  have E0 : Hid (n0 = xs.length) := e0
  have E1 : Hid (n1 = ys.length) := e1
  clear e0 e1
  go_enter Try.func14, Try.ntmps14
  go_wp2
  go_loopw [7] (fun i wr => ∃ k : Nat, k ≤ q ∧ k ≤ lcp xs ys ∧ i = .int .i64 k ∧ ∃ n, wr = w.drewN n) (fun i _ => q - (intOf i).toNat)
  case atStart => exact ⟨0, Nat.zero_le _, Nat.zero_le _, rfl, 0, rfl⟩
  case round =>
    obtain ⟨k, hkq, hk, rfl, n, rfl⟩ := hrel
    by_cases hlt : k < q
    · have cx := h0 k (by omega)
      have cy := h1 k (by omega)
      have b0 : (0 : Int) ≤ (k : Int) := by omega
      have i0 : (k : Int) < (n0 : Int) := by omega
      have i1 : (k : Int) < (n1 : Int) := by omega
      have st := lcp_step xs ys k hk (by have := E0.out; omega) (by have := E1.out; omega)
      have sp := lcp_stop xs ys k hk
      clear hk h0 h1
      generalize xs.getD k 0 = x at cx st sp
      generalize ys.getD k 0 = y at cy st sp
      by_cases hxy : x = y
      · have hd : (x != y) = false := by simp [hxy]
        have S : Hid (k + 1 ≤ lcp xs ys) := st hxy
        clear st sp hxy
        go_wp2
        go_quiet (fail)
        go_wp2
        go_roundw
        case rel => exact ⟨k + 1, by omega, S.out, by go_num, _, rfl⟩
        case measure => simp [intOf]; omega
      · have hd : (x != y) = true := by simp [hxy]
        have S : Hid (reach xs ys q = false) := by have := sp hxy; exact decide_eq_false (by omega)
        clear st sp hxy
        go_wp2
        go_quiet (fail)
        go_wp2
        go_ret
        exact ⟨ret_bool S.out.symm, drew2 _ _ _⟩
    · have S : Hid (reach xs ys q = true) := decide_eq_true (by omega)
      clear hk h0 h1
      go_wp2
      go_ret
      exact ⟨ret_bool S.out.symm, _, rfl⟩

theorem same_zero (a0 a1 : Option Addr) (n0 c0 n1 c1 : Nat) (xs ys : List Int) (w : World) :
    Calls Try.prog 14 #[.slice a0 n0 c0, .slice a1 n1 c1, .int .i64 (0 : Nat)] w fun e w' => e = .returned (.bool (reach xs ys 0)) ∧ ∃ n, w' = w.drewN n := by
  have S : Hid (reach xs ys 0 = true) := decide_eq_true (by omega)
  go_enter Try.func14, Try.ntmps14
  go_wp2
  refine wp_loop_rounds 1 ?_
  rw [rounds_succ]
  go_wp2
  go_ret
  exact ⟨ret_bool S.out.symm, 0, rfl⟩

theorem same_any (a0 a1 : Option Addr) (n0 c0 n1 c1 q : Nat) (xs ys : List Int) (w : World) (h0 : IsB .u8 w a0 xs) (h1 : IsB .u8 w a1 ys) (e0 : n0 = xs.length) (e1 : n1 = ys.length) (hm0 : n0 ≤ 1073741824) (hq0 : q ≤ n0) (hq1 : q ≤ n1) :
    Calls Try.prog 14 #[.slice a0 n0 c0, .slice a1 n1 c1, .int .i64 q] w fun e w' => e = .returned (.bool (reach xs ys q)) ∧ ∃ n, w' = w.drewN n := by
  by_cases hq : q = 0
  · subst hq
    exact same_zero a0 a1 n0 c0 n1 c1 xs ys w
  · obtain ⟨b0, o0, r0, hc0⟩ := h0.at0 (by omega)
    obtain ⟨b1, o1, r1, hc1⟩ := h1.at0 (by omega)
    subst r0; subst r1
    exact same_some b0 o0 n0 c0 b1 o1 n1 c1 q xs ys w e0 e1 (fun j hj => hc0 j (by omega)) (fun j hj => hc1 j (by omega)) hm0 hq0 hq1

/-! ### The guard: the two lengths add up to at most 2^20 -/
theorem guard_any (a0 a1 : Option Addr) (n0 c0 n1 c1 : Nat) (w : World) (hm0 : n0 ≤ 9223372036854775807) (hm1 : n1 ≤ 9223372036854775807) :
    Calls Try.prog 11 #[.slice a0 n0 c0, .slice a1 n1 c1] w fun e w' => e = .returned (.bool (decide (n0 + n1 ≤ 1048576))) ∧ w = w' := by
  by_cases g0 : 1048576 < n0
  · have H : Hid (decide (n0 + n1 ≤ 1048576) = false) := decide_eq_false (by omega)
    go_enter Try.func11, Try.ntmps11
    go_wp2
    go_ret
    exact ⟨ret_bool H.out.symm, rfl⟩
  · by_cases g1 : 1048576 < n1
    · have H : Hid (decide (n0 + n1 ≤ 1048576) = false) := decide_eq_false (by omega)
      go_enter Try.func11, Try.ntmps11
      go_wp2
      go_ret
      exact ⟨ret_bool H.out.symm, rfl⟩
    · by_cases g2 : 1048576 < n0 + n1
      · have H : Hid (decide (n0 + n1 ≤ 1048576) = false) := decide_eq_false (by omega)
        go_enter Try.func11, Try.ntmps11
        go_wp2
        go_ret
        exact ⟨ret_bool H.out.symm, rfl⟩
      · have H : Hid (decide (n0 + n1 ≤ 1048576) = true) := decide_eq_true (by omega)
        go_enter Try.func11, Try.ntmps11
        go_wp2
        go_ret
        exact ⟨ret_bool H.out.symm, rfl⟩
end Go.Proofs.Qxb6003390a.sl
