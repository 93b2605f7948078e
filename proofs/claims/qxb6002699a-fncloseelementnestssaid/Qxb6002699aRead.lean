/-
  Seat b6002699a. 'zzSameBytes', 'zzReadLen' and the guard by contracts.
-/
import Derived.Test.Qxb6002699aClose
namespace Go.Proofs.Qxb6002699a.sl
open Go.RowKit

theorem ret_bool {a b : Bool} (h : a = b) : Ending.returned (.bool a) = .returned (.bool b) := by rw [h]
theorem drew2 (w : World) (n m : Nat) : ∃ q, (w.drewN n).drewN m = w.drewN q := ⟨_, World.drewN_drewN _ _ _⟩

/-! ### zzSameBytes of two slices that read as the same numbers -/
set_option maxHeartbeats 1000000 in
theorem same_some (b0 o0 c0 b1 o1 c1 n : Nat) (zs : List Int) (w : World)
    (h0 : ∀ j, j < n → w.cell? ⟨b0, o0 + j, none⟩ = some (.int .u8 (zs.getD j 0))) (h1 : ∀ j, j < n → w.cell? ⟨b1, o1 + j, none⟩ = some (.int .u8 (zs.getD j 0))) (hm : n ≤ 1073741824) :
    Calls Try.prog 18 #[.slice (some ⟨b0, o0, none⟩) n c0, .slice (some ⟨b1, o1, none⟩) n c1] w fun e w' => e = .returned (.bool true) ∧ ∃ n, w' = w.drewN n := by
  go_enter Try.func18, Try.ntmps18
  go_wp2
  go_loopw [5] (fun i wr => ∃ k : Nat, k ≤ n ∧ i = .int .i64 k ∧ ∃ q, wr = w.drewN q) (fun i _ => n - (intOf i).toNat)
  case atStart => exact ⟨0, Nat.zero_le _, rfl, 0, rfl⟩
  case round =>
    obtain ⟨k, hk, rfl, q, rfl⟩ := hrel
    by_cases hlt : k < n
    · have cx := h0 k hlt
      have cy := h1 k hlt
      have b0 : (0 : Int) ≤ (k : Int) := by omega
      have i0 : (k : Int) < (n : Int) := by omega
      clear hk h0 h1
      generalize zs.getD k 0 = x at cx cy
      have hd : (x != x) = false := by simp
      go_wp2
      go_quiet (fail)
      go_wp2
      go_roundw
      case rel => exact ⟨k + 1, by omega, by go_num, _, rfl⟩
      case measure => simp [intOf]; omega
    · clear h0 h1
      go_wp2
      go_ret
      exact ⟨rfl, _, rfl⟩

theorem same_zero (a0 a1 : Option Addr) (c0 c1 : Nat) (w : World) :
    Calls Try.prog 18 #[.slice a0 0 c0, .slice a1 0 c1] w fun e w' => e = .returned (.bool true) ∧ ∃ n, w' = w.drewN n := by
  go_enter Try.func18, Try.ntmps18
  go_wp2
  refine wp_loop_rounds 1 ?_
  rw [rounds_succ]
  go_wp2
  go_ret
  exact ⟨rfl, 0, rfl⟩

theorem same_any (a0 a1 : Option Addr) (n c0 c1 : Nat) (zs : List Int) (w : World) (h0 : IsB .u8 w a0 zs) (h1 : IsB .u8 w a1 zs) (e : n = zs.length) (hm : n ≤ 1073741824) :
    Calls Try.prog 18 #[.slice a0 n c0, .slice a1 n c1] w fun e w' => e = .returned (.bool true) ∧ ∃ n, w' = w.drewN n := by
  by_cases hq : n = 0
  · subst hq
    exact same_zero a0 a1 c0 c1 w
  · obtain ⟨b0, o0, r0, hc0⟩ := h0.at0 (by omega)
    obtain ⟨b1, o1, r1, hc1⟩ := h1.at0 (by omega)
    subst r0; subst r1
    exact same_some b0 o0 c0 b1 o1 c1 n zs w (fun j hj => hc0 j (by omega)) (fun j hj => hc1 j (by omega)) hm

/-! ### zzReadLen -/
theorem or_byte (x y : Nat) (hx : x < 65536) (hy : y < 256) : bits .or .i64 ((x : Int) * 256) (y : Int) = (x : Int) * 256 + (y : Int) := by
  have e : (x : Int) * 256 = ((x * 256 : Nat) : Int) := by omega
  have hj : x * 256 ||| y = x * 256 + y := by
    have := Nat.shiftLeft_add_eq_or_of_lt (i := 8) (b := y) hy x
    rw [Nat.shiftLeft_eq] at this
    exact this.symm
  rw [e]
  show IntKind.i64.wrap ((BitVec.ofInt 64 ((x * 256 : Nat) : Int) ||| BitVec.ofInt 64 (y : Int)).toNat : Int) = _
  have e1 : (BitVec.ofInt 64 ((x * 256 : Nat) : Int)).toNat = x * 256 := by rw [BitVec.toNat_ofInt]; omega
  have e2 : (BitVec.ofInt 64 (y : Int)).toNat = y := by rw [BitVec.toNat_ofInt]; omega
  rw [BitVec.toNat_or, e1, e2, hj, IntKind.wrap_i64]
  omega
theorem or_zero (y : Nat) (hy : y < 256) : bits .or .i64 0 (y : Int) = (y : Int) := by
  have := or_byte 0 y (by omega) hy
  simpa using this

set_option maxHeartbeats 2000000 in
set_option maxRecDepth 100000 in
theorem read_short (b o n c i m : Nat) (w : World) (hc : w.cell? ⟨b, o + i, none⟩ = some (.int .u8 (m : Int))) (hm : m < 128) (hi : i < n) :
    Calls Try.prog 19 #[.slice (some ⟨b, o, none⟩) n c, .int .i64 i] w fun e w' => e = .returned (.tuple #[.int .i64 (m : Int), .int .i64 1, .bool true]) ∧ w = w' := by
  have k1 : decide ((i : Int) < 0) = false := decide_eq_false (by omega)
  have k2 : decide ((n : Int) ≤ (i : Int)) = false := decide_eq_false (by omega)
  have k3 : decide (n ≤ i) = false := decide_eq_false (by omega)
  go_enter Try.func19, Try.ntmps19
  go_wp2
  go_ret3
  exact ⟨rfl, rfl⟩

set_option maxHeartbeats 2000000 in
set_option maxRecDepth 100000 in
theorem read_long1 (b o n c i x : Nat) (w : World) (hc : w.cell? ⟨b, o + i, none⟩ = some (.int .u8 129)) (hc1 : w.cell? ⟨b, o + (i + 1), none⟩ = some (.int .u8 (x : Int))) (hx : x < 256) (hm : 128 ≤ x) (hi : i + 1 < n) (hn : n ≤ 1073741824) :
    Calls Try.prog 19 #[.slice (some ⟨b, o, none⟩) n c, .int .i64 i] w fun e w' => e = .returned (.tuple #[.int .i64 (x : Int), .int .i64 2, .bool true]) ∧ w = w' := by
  have k1 : decide ((i : Int) < 0) = false := decide_eq_false (by omega)
  have k2 : decide ((n : Int) ≤ (i : Int)) = false := decide_eq_false (by omega)
  have k3 : decide (n ≤ i) = false := decide_eq_false (by omega)
  have k4 : decide ((n : Int) < (i : Int) + 1 + 1) = false := decide_eq_false (by omega)
  have k5 : ((x : Int) == 0) = false := by simp; omega
  have kb : bits .and .u8 129 127 = 1 := by decide
  have kx := or_zero x hx
  go_enter Try.func19, Try.ntmps19
  go_wp2
  refine wp_loop_rounds 2 ?_
  iterate 2 (rw [rounds_succ]; go_wp2)
  go_ret3
  exact ⟨rfl, rfl⟩

set_option maxHeartbeats 2000000 in
set_option maxRecDepth 100000 in
theorem read_long2 (b o n c i x y : Nat) (w : World) (hc : w.cell? ⟨b, o + i, none⟩ = some (.int .u8 130)) (hc1 : w.cell? ⟨b, o + (i + 1), none⟩ = some (.int .u8 (x : Int))) (hc2 : w.cell? ⟨b, o + (i + 2), none⟩ = some (.int .u8 (y : Int))) (hx : x < 256) (hy : y < 256) (hm : 0 < x) (hi : i + 2 < n) (hn : n ≤ 1073741824) :
    Calls Try.prog 19 #[.slice (some ⟨b, o, none⟩) n c, .int .i64 i] w fun e w' => e = .returned (.tuple #[.int .i64 ((x : Int) * 256 + (y : Int)), .int .i64 3, .bool true]) ∧ w = w' := by
  have k1 : decide ((i : Int) < 0) = false := decide_eq_false (by omega)
  have k2 : decide ((n : Int) ≤ (i : Int)) = false := decide_eq_false (by omega)
  have k3 : decide (n ≤ i) = false := decide_eq_false (by omega)
  have k4 : decide ((n : Int) < (i : Int) + 1 + 2) = false := decide_eq_false (by omega)
  have k5 : ((x : Int) == 0) = false := by simp; omega
  have kb : bits .and .u8 130 127 = 2 := by decide
  have kx := or_zero x hx
  have ky := or_byte x y (by omega) hy
  go_enter Try.func19, Try.ntmps19
  go_wp2
  refine wp_loop_rounds 3 ?_
  iterate 3 (rw [rounds_succ]; go_wp2)
  go_ret3
  exact ⟨rfl, rfl⟩

set_option maxHeartbeats 2000000 in
set_option maxRecDepth 100000 in
theorem read_long3 (b o n c i x y z : Nat) (w : World) (hc : w.cell? ⟨b, o + i, none⟩ = some (.int .u8 131)) (hc1 : w.cell? ⟨b, o + (i + 1), none⟩ = some (.int .u8 (x : Int))) (hc2 : w.cell? ⟨b, o + (i + 2), none⟩ = some (.int .u8 (y : Int))) (hc3 : w.cell? ⟨b, o + (i + 3), none⟩ = some (.int .u8 (z : Int))) (hx : x < 256) (hy : y < 256) (hz : z < 256) (hm : 0 < x) (hi : i + 3 < n) (hn : n ≤ 1073741824) :
    Calls Try.prog 19 #[.slice (some ⟨b, o, none⟩) n c, .int .i64 i] w fun e w' => e = .returned (.tuple #[.int .i64 (((x : Int) * 256 + (y : Int)) * 256 + (z : Int)), .int .i64 4, .bool true]) ∧ w = w' := by
  have k1 : decide ((i : Int) < 0) = false := decide_eq_false (by omega)
  have k2 : decide ((n : Int) ≤ (i : Int)) = false := decide_eq_false (by omega)
  have k3 : decide (n ≤ i) = false := decide_eq_false (by omega)
  have k4 : decide ((n : Int) < (i : Int) + 1 + 3) = false := decide_eq_false (by omega)
  have k5 : ((x : Int) == 0) = false := by simp; omega
  have kb : bits .and .u8 131 127 = 3 := by decide
  have kx := or_zero x hx
  have ky := or_byte x y (by omega) hy
  have kz := or_byte (x * 256 + y) z (by omega) hz
  rw [show ((x * 256 + y : Nat) : Int) = (x : Int) * 256 + (y : Int) by omega] at kz
  go_enter Try.func19, Try.ntmps19
  go_wp2
  refine wp_loop_rounds 4 ?_
  iterate 4 (rw [rounds_succ]; go_wp2)
  go_ret3
  exact ⟨rfl, rfl⟩


theorem ret3 {k1 k2 : IntKind} {a b a' b' : Int} {c : Bool} (h : a = a') (h' : b = b') : Ending.returned (.tuple #[.int k1 a, .int k2 b, .bool c]) = .returned (.tuple #[.int k1 a', .int k2 b', .bool c]) := by rw [h, h']

theorem getD_app (A L : List Int) (j : Nat) : (A ++ L).getD (A.length + j) 0 = L.getD j 0 := by
  simp [List.getD_eq_getElem?_getD, List.getElem?_append_right]

/-- zzReadLen reads back the length that 'closeElement' wrote. -/
theorem read_any (b o n c i m : Nat) (A C : List Int) (w : World) (h : IsB .u8 w (some ⟨b, o, none⟩) (A ++ (lenB m ++ C))) (hi : i = A.length) (hn : n = (A ++ (lenB m ++ C)).length) (hm : m < 16777216) (hn2 : n ≤ 1073741824) :
    Calls Try.prog 19 #[.slice (some ⟨b, o, none⟩) n c, .int .i64 i] w fun e w' => e = .returned (.tuple #[.int .i64 m, .int .i64 (lenB m).length, .bool true]) ∧ w = w' := by
  subst hi
  have hc : ∀ j, j < (lenB m).length → w.cell? ⟨b, o + (A.length + j), none⟩ = some (.int .u8 ((lenB m ++ C).getD j 0)) := by
    intro j hj
    obtain ⟨b', o', e, hcell⟩ := h (A.length + j) (by simp; omega)
    cases e
    rw [hcell, getD_app]
  rw [List.length_append, List.length_append] at hn
  unfold lenB at hc hn ⊢
  clear h
  by_cases h1 : m < 128
  · rw [if_pos h1] at hc hn ⊢
    have c0 := hc 0 (by simp)
    simp at c0 hn
    exact (read_short b o n c A.length m w c0 h1 (by omega)).mono fun e w' ⟨he, hw⟩ => ⟨he, hw⟩
  rw [if_neg h1] at hc hn ⊢
  by_cases h2 : m < 256
  · rw [if_pos h2] at hc hn ⊢
    have c0 := hc 0 (by simp)
    have c1 := hc 1 (by simp)
    simp at c0 c1 hn
    exact (read_long1 b o n c A.length m w c0 c1 h2 (by omega) (by omega) hn2).mono fun e w' ⟨he, hw⟩ => ⟨he, hw⟩
  rw [if_neg h2] at hc hn ⊢
  by_cases h3 : m < 65536
  · rw [if_pos h3] at hc hn ⊢
    have c0 := hc 0 (by simp)
    have c1 := hc 1 (by simp)
    have c2 := hc 2 (by simp)
    simp at c0 c1 c2 hn
    exact (read_long2 b o n c A.length (m / 256) (m % 256) w c0 (by rw [c1]; simp) (by rw [c2]; simp) (by omega) (by omega) (by omega) (by omega) hn2).mono fun e w' ⟨he, hw⟩ => ⟨he.trans (ret3 (by omega) rfl), hw⟩
  · rw [if_neg h3] at hc hn ⊢
    have c0 := hc 0 (by simp)
    have c1 := hc 1 (by simp)
    have c2 := hc 2 (by simp)
    have c3 := hc 3 (by simp)
    simp at c0 c1 c2 c3 hn
    exact (read_long3 b o n c A.length (m / 256 / 256) (m / 256 % 256) (m % 256) w c0 (by rw [c1]; simp) (by rw [c2]; simp) (by rw [c3]; simp) (by omega) (by omega) (by omega) (by omega) (by omega) hn2).mono fun e w' ⟨he, hw⟩ => ⟨he.trans (ret3 (by omega) rfl), hw⟩

/-! ### The guard -/
set_option maxHeartbeats 2000000 in
set_option maxRecDepth 100000 in
theorem guard_any (a0 a1 a2 a3 : Option Addr) (n0 c0 n1 c1 n2 c2 n3 c3 : Nat) (w : World) (hm0 : n0 ≤ 9223372036854775807) (hm1 : n1 ≤ 9223372036854775807) (hm2 : n2 ≤ 9223372036854775807) (hm3 : n3 ≤ 9223372036854775807) :
    Calls Try.prog 20 #[.slice a0 n0 c0, .slice a1 n1 c1, .slice a2 n2 c2, .slice a3 n3 c3] w fun e w' => e = .returned (.bool (decide (n0 + n1 + n2 + n3 ≤ 1048576))) ∧ w = w' := by
  by_cases g0 : 1048576 < n0
  · have H : Hid (decide (n0 + n1 + n2 + n3 ≤ 1048576) = false) := decide_eq_false (by omega)
    go_enter Try.func20, Try.ntmps20
    go_wp2
    go_ret
    exact ⟨ret_bool H.out.symm, rfl⟩
  by_cases g1 : 1048576 < n1
  · have H : Hid (decide (n0 + n1 + n2 + n3 ≤ 1048576) = false) := decide_eq_false (by omega)
    go_enter Try.func20, Try.ntmps20
    go_wp2
    go_ret
    exact ⟨ret_bool H.out.symm, rfl⟩
  by_cases g2 : 1048576 < n0 + n1
  · have H : Hid (decide (n0 + n1 + n2 + n3 ≤ 1048576) = false) := decide_eq_false (by omega)
    go_enter Try.func20, Try.ntmps20
    go_wp2
    go_ret
    exact ⟨ret_bool H.out.symm, rfl⟩
  by_cases g3 : 1048576 < n2
  · have H : Hid (decide (n0 + n1 + n2 + n3 ≤ 1048576) = false) := decide_eq_false (by omega)
    go_enter Try.func20, Try.ntmps20
    go_wp2
    go_ret
    exact ⟨ret_bool H.out.symm, rfl⟩
  by_cases g4 : 1048576 < n0 + n1 + n2
  · have H : Hid (decide (n0 + n1 + n2 + n3 ≤ 1048576) = false) := decide_eq_false (by omega)
    go_enter Try.func20, Try.ntmps20
    go_wp2
    go_ret
    exact ⟨ret_bool H.out.symm, rfl⟩
  by_cases g5 : 1048576 < n3
  · have H : Hid (decide (n0 + n1 + n2 + n3 ≤ 1048576) = false) := decide_eq_false (by omega)
    go_enter Try.func20, Try.ntmps20
    go_wp2
    go_ret
    exact ⟨ret_bool H.out.symm, rfl⟩
  by_cases g6 : 1048576 < n0 + n1 + n2 + n3
  · have H : Hid (decide (n0 + n1 + n2 + n3 ≤ 1048576) = false) := decide_eq_false (by omega)
    go_enter Try.func20, Try.ntmps20
    go_wp2
    go_ret
    exact ⟨ret_bool H.out.symm, rfl⟩
  have H : Hid (decide (n0 + n1 + n2 + n3 ≤ 1048576) = true) := decide_eq_true (by omega)
  go_enter Try.func20, Try.ntmps20
  go_wp2
  go_ret
  exact ⟨ret_bool H.out.symm, rfl⟩
end Go.Proofs.Qxb6002699a.sl
