/-
  Seat b6603724a. 'SkipSpace' by a contract; the law 'FnSkipSpaceIsFirstNonSpace' walked.
-/
import Derived.Test.Qxb6603724aWs
namespace Go.Proofs.Qxb6603724a.sl
open Go.RowKit

set_option maxHeartbeats 1000000 in
theorem skip_any (b off n c p : Nat) (D : List Int) (w : World) (hD : Dat w b off n D) (_hp : p ≤ 9223372036854775807) :
    Calls Try.prog 9 #[.slice (some ⟨b, off, none⟩) n c, .int .i64 p] w fun e w' => e = .returned (.int .i64 (wsEnd D p)) ∧ w = w' := by
  have hl : Hid (n = D.length) := hD.len
  have hf := hD.fits
  have hc := hD.cell
  clear hD
  go_enter Try.func9, Try.ntmps9
  go_wp2
  go_loop [1] (fun t => ∃ k : Nat, p ≤ k ∧ (k ≤ p ∨ k ≤ n) ∧ t = .int .i64 k ∧ Hid (wsEnd D k = wsEnd D p)) (fun t => n - (intOf t).toNat)
  case atStart => exact ⟨p, Nat.le_refl _, .inl (Nat.le_refl _), rfl, rfl⟩
  case round =>
    obtain ⟨k, hk1, hk2, rfl, hE⟩ := hrel
    by_cases hlt : k < n
    · have hcell := hc k hlt
      have s1 := wsEnd_step D k (by have := hl.out; omega)
      have s2 := wsEnd_stop D k (by have := hl.out; omega)
      generalize D.getD k 0 = x at hcell s1 s2
      clear hc
      by_cases x1 : x = 32
      · have S : Hid (wsEnd D (k + 1) = wsEnd D k) := s1 (isSp_true.2 (.inl x1))
        have b1 : (x == 32) = true := by simp [x1]
        clear s1 s2 x1
        go_wp2
        go_round
        case rel => exact ⟨k + 1, by omega, by omega, by go_num, S.out.trans hE.out⟩
        case measure => simp [intOf]; omega
      · have b1 : (x == 32) = false := by simp [x1]
        by_cases x2 : x = 9
        · have S : Hid (wsEnd D (k + 1) = wsEnd D k) := s1 (isSp_true.2 (.inr (.inl x2)))
          have b2 : (x == 9) = true := by simp [x2]
          clear s1 s2 x1 x2
          go_wp2
          go_round
          case rel => exact ⟨k + 1, by omega, by omega, by go_num, S.out.trans hE.out⟩
          case measure => simp [intOf]; omega
        · have b2 : (x == 9) = false := by simp [x2]
          by_cases x3 : x = 10
          · have S : Hid (wsEnd D (k + 1) = wsEnd D k) := s1 (isSp_true.2 (.inr (.inr (.inl x3))))
            have b3 : (x == 10) = true := by simp [x3]
            clear s1 s2 x1 x2 x3
            go_wp2
            go_round
            case rel => exact ⟨k + 1, by omega, by omega, by go_num, S.out.trans hE.out⟩
            case measure => simp [intOf]; omega
          · have b3 : (x == 10) = false := by simp [x3]
            by_cases x4 : x = 13
            · have S : Hid (wsEnd D (k + 1) = wsEnd D k) := s1 (isSp_true.2 (.inr (.inr (.inr x4))))
              have b4 : (x == 13) = true := by simp [x4]
              clear s1 s2 x1 x2 x3 x4
              go_wp2
              go_round
              case rel => exact ⟨k + 1, by omega, by omega, by go_num, S.out.trans hE.out⟩
              case measure => simp [intOf]; omega
            · have b4 : (x == 13) = false := by simp [x4]
              have S : Hid (wsEnd D k = k) := s2 (isSp_false.2 ⟨x1, x2, x3, x4⟩)
              clear s1 s2 x1 x2 x3 x4
              go_wp2
              go_ret
              exact ⟨ret_int (by rw [← hE.out, S.out]), rfl⟩
    · have S : Hid (wsEnd D k = k) := wsEnd_out D k (by have := hl.out; omega)
      clear hc
      go_wp2
      go_ret
      exact ⟨ret_int (by rw [← hE.out, S.out]), rfl⟩

/-- No data: the place itself. -/
theorem skip_empty (ad : Option Addr) (c : Nat) (p : Int) (w : World) (hp : 0 ≤ p) :
    Calls Try.prog 9 #[.slice ad 0 c, .int .i64 p] w fun e w' => e = .returned (.int .i64 p) ∧ w = w' := by
  go_enter Try.func9, Try.ntmps9
  go_wp2
  refine wp_loop_rounds 1 ?_
  rw [rounds_succ]
  go_wp2
  go_ret
  exact ⟨rfl, rfl⟩

/-! ### The law -/
theorem guard7 (ad : Option Addr) (n c : Nat) (i : Int) (w : World) (_hm : n ≤ 9223372036854775807) :
    Calls Try.prog 7 #[.slice ad n c, .int .i64 i] w fun e w' => e = .returned (.bool (decide (n ≤ 1048576))) ∧ w = w' := by
  by_cases g0 : 1048576 < n
  · have H : Hid (decide (n ≤ 1048576) = false) := decide_eq_false (by omega)
    go_enter Try.func7, Try.ntmps7
    go_wp2
    go_ret
    exact ⟨ret_bool H.out.symm, rfl⟩
  · have H : Hid (decide (n ≤ 1048576) = true) := decide_eq_true (by omega)
    go_enter Try.func7, Try.ntmps7
    go_wp2
    go_ret
    exact ⟨ret_bool H.out.symm, rfl⟩

theorem law_guard (ad : Option Addr) (n c : Nat) (i : Int) (w : World) (hm : n ≤ 9223372036854775807) (h : ¬ n ≤ 1048576 ∨ (n ≤ 1048576 ∧ i < 0)) :
    Calls Try.prog 3 #[.slice ad n c, .int .i64 i] w fun e w' => e = .returned (.bool true) ∧ Below w.heap.size w w' := by
  have hG := guard7 ad n c i w hm
  rcases h with h | ⟨h, hi⟩
  · rw [decide_eq_false h] at hG
    go_enter Try.func3, Try.ntmps3
    go_wp2_with (go_at_call 7; refine hG.mono ?_; rintro e w' ⟨rfl, rfl⟩)
    go_ret
    exact ⟨rfl, Below.refl _ _⟩
  · rw [decide_eq_true h] at hG
    go_enter Try.func3, Try.ntmps3
    go_wp2_with (go_at_call 7; refine hG.mono ?_; rintro e w' ⟨rfl, rfl⟩)
    go_ret
    exact ⟨rfl, Below.refl _ _⟩

/-- No data. -/
theorem law_empty (ad : Option Addr) (c : Nat) (i : Int) (w : World) (hc : ad = none → c = 0) (hi : 0 ≤ i) :
    Calls Try.prog 3 #[.slice ad 0 c, .int .i64 i] w fun e w' => e = .returned (.bool true) ∧ Below w.heap.size w w' := by
  have hG := guard7 ad 0 c i w (by omega)
  rw [decide_eq_true (by omega)] at hG
  have hC := clone_any ad 0 c [] w (isB_nil _ _ _) rfl hc (by omega)
  clear hc
  go_enter Try.func3, Try.ntmps3
  go_wp2_with (first | (go_at_call 7; refine hG.mono ?_; rintro e w' ⟨rfl, rfl⟩) | (go_at_call 8; refine hC.mono ?_; rintro e w1 ⟨a1, c1, rfl, _, hb⟩) | (go_at_call 9; refine (skip_empty _ _ _ _ hi).mono ?_; rintro e w' ⟨rfl, rfl⟩))
  go_ret
  exact ⟨rfl, hb⟩

set_option maxHeartbeats 2000000 in
theorem law_some (ad : Option Addr) (n c i : Nat) (D : List Int) (w : World) (h : IsB .u8 w ad D) (hn : n = D.length) (hc : ad = none → c = 0) (h0 : 0 < n) (hm : n ≤ 1048576) (hi : i ≤ 9223372036854775807) :
    Calls Try.prog 3 #[.slice ad n c, .int .i64 i] w fun e w' => e = .returned (.bool true) ∧ Below w.heap.size w w' := by
  have hG := guard7 ad n c i w (by omega)
  rw [decide_eq_true hm] at hG
  have hC := clone_any ad n c D w h hn hc (by omega)
  have N : Hid (n = D.length) := hn
  have d1 : decide ((1048576 : Int) < (n : Int)) = false := decide_eq_false (by omega)
  have d2 : decide ((i : Int) < 0) = false := decide_eq_false (by omega)
  clear h hc hn
  go_enter Try.func3, Try.ntmps3
  go_wp2_with (first | (go_at_call 7; refine hG.mono ?_; rintro e w' ⟨rfl, rfl⟩) | (go_at_call 8; refine hC.mono ?_; rintro e w1 ⟨a1, c1, rfl, hB, hb⟩; refine Hid.out ?_))
  refine (show ∀ {p : Prop}, p → Hid p from fun h => h) ?_
  obtain ⟨b, off, e, hcell⟩ := hB.at0 (by have := N.out; omega)
  have hD : Dat w1 b off n D := ⟨N.out, fun j hj => hcell j (by have := N.out; omega), hm⟩
  subst e
  have hS := skip_any b off n c1 i D w1 hD hi
  have hge := wsEnd_ge D i
  clear hC hG hB hcell
  by_cases hin : n ≤ i
  · have hout := wsEnd_out D i (by have := N.out; omega)
    rw [hout] at hS
    clear hout hge hD
    go_wp2_with (go_at_call 9; refine hS.mono ?_; rintro e w' ⟨rfl, rfl⟩)
    go_ret
    exact ⟨rfl, hb⟩
  · have hle := wsEnd_le D i (by have := N.out; omega)
    have hall := fun j h1 h2 => (wsEnd_all D i j h1 h2 (by have := N.out; omega)).1
    have hend := wsEnd_end D i
    rw [← N.out] at hle hend
    have hcl := hD.cell
    clear hD
    generalize wsEnd D i = r at *
    have d3 : decide ((n : Int) ≤ (i : Int)) = false := decide_eq_false (by omega)
    have d4 : decide (r < i) = false := decide_eq_false (by omega)
    have d5 : decide (n < r) = false := decide_eq_false (by omega)
    go_wp2_with (go_at_call 9; refine hS.mono ?_; rintro e w' ⟨rfl, rfl⟩)
    clear hS
    go_loopw [6] (fun t wr => ∃ k : Nat, i ≤ k ∧ k ≤ r ∧ t = .int .i64 k ∧ (∀ j, j < n → wr.cell? ⟨b, off + j, none⟩ = some (.int .u8 (D.getD j 0))) ∧ Below w.heap.size w wr) (fun t _ => r - (intOf t).toNat)
    case atStart => exact ⟨i, Nat.le_refl _, hge, rfl, hcl, hb⟩
    case round =>
      clear hcl hb
      obtain ⟨k, hk1, hk2, rfl, hcl, hb⟩ := hrel
      by_cases hlt : k < r
      · have hck := hcl k (by omega)
        have hsp := hall k hk1 hlt
        have hcl' : Hid (∀ j, j < n → wr.cell? ⟨b, off + j, none⟩ = some (.int .u8 (D.getD j 0))) := hcl
        clear hall hend hcl
        generalize D.getD k 0 = x at hck hsp
        have hX := fun w => space_any x w
        simp only [hsp] at hX
        go_wp2_with (go_at_call 10; refine (hX _).mono ?_; rintro e w' ⟨rfl, rfl⟩)
        go_roundw
        case rel => exact ⟨k + 1, by omega, by omega, by go_num, hcl'.out, hb⟩
        case measure => simp [intOf]; omega
      · by_cases hrn : r < n
        · have hcr := hcl r hrn
          have hsp := hend hrn
          have hne : ((r : Int) == (n : Int)) = false := by simp; omega
          clear hall hend hcl
          generalize D.getD r 0 = x at hcr hsp
          have hX := fun w => space_any x w
          simp only [hsp] at hX
          go_wp2_with (go_at_call 10; refine (hX _).mono ?_; rintro e w' ⟨rfl, rfl⟩)
          go_ret
          exact ⟨rfl, hb⟩
        · have hne : ((r : Int) == (n : Int)) = true := by simp; omega
          clear hall hend hcl
          go_wp2
          go_ret
          exact ⟨rfl, hb⟩

/-- THE LAW's CALL: true, whatever the input. -/
theorem law_any (ad : Option Addr) (n c : Nat) (i : Int) (D : List Int) (w : World) (h : IsB .u8 w ad D) (hn : n = D.length) (hc : ad = none → c = 0) (hm : n ≤ 9223372036854775807) (hi : i ≤ 9223372036854775807) :
    Calls Try.prog 3 #[.slice ad n c, .int .i64 i] w fun e w' => e = .returned (.bool true) ∧ Below w.heap.size w w' := by
  by_cases hg : n ≤ 1048576
  · by_cases hneg : i < 0
    · exact law_guard ad n c i w hm (.inr ⟨hg, hneg⟩)
    · by_cases h0 : n = 0
      · subst h0
        exact law_empty ad c i w hc (by omega)
      · obtain ⟨k, rfl⟩ : ∃ k : Nat, i = k := ⟨i.toNat, by omega⟩
        exact law_some ad n c k D w h hn hc (by omega) hg (by omega)
  · exact law_guard ad n c i w hm (.inl hg)
end Go.Proofs.Qxb6603724a.sl
