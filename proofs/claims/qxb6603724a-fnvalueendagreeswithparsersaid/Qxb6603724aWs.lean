/-
  Seat b6603724a. White space: 'rjb1IsSpace', 'SkipSpace', 'rjb1Ws' by contracts.
-/
import Derived.Test.Qxb6603724aSl
namespace Go.Proofs.Qxb6603724a.sl
open Go.RowKit

theorem ret_int {k : IntKind} {a b : Int} (h : a = b) : Ending.returned (.int k a) = .returned (.int k b) := by rw [h]
theorem ret_bool {a b : Bool} (h : a = b) : Ending.returned (.bool a) = .returned (.bool b) := by rw [h]

/-- The data: n bytes in a row. -/
structure Dat (w : World) (b off n : Nat) (D : List Int) : Prop where
  len : n = D.length
  cell : ∀ j, j < n → w.cell? ⟨b, off + j, none⟩ = some (.int .u8 (D.getD j 0))
  fits : n ≤ 1048576

/-! ### The plain functions -/
def isSp (c : Int) : Bool := c == 32 || c == 9 || c == 10 || c == 13
theorem isSp_true {c : Int} : isSp c = true ↔ c = 32 ∨ c = 9 ∨ c = 10 ∨ c = 13 := by simp [isSp, or_assoc]
theorem isSp_false {c : Int} : isSp c = false ↔ c ≠ 32 ∧ c ≠ 9 ∧ c ≠ 10 ∧ c ≠ 13 := by simp [isSp, and_assoc]

/-- How many spaces stand ahead. -/
def sk : List Int → Nat
  | [] => 0
  | c :: t => if isSp c then sk t + 1 else 0
/-- The first place from p on that holds no space, or the end. -/
def wsEnd (D : List Int) (p : Nat) : Nat := p + sk (D.drop p)

theorem sk_le : ∀ l : List Int, sk l ≤ l.length
  | [] => Nat.le_refl _
  | c :: t => by simp only [sk]; have := sk_le t; split <;> simp <;> omega

theorem drop_at (D : List Int) (p : Nat) (h : p < D.length) : D.drop p = D.getD p 0 :: D.drop (p + 1) := by
  rw [List.drop_eq_getElem_cons h]; simp [h]

theorem wsEnd_step (D : List Int) (p : Nat) (h : p < D.length) (hs : isSp (D.getD p 0) = true) : wsEnd D (p + 1) = wsEnd D p := by
  unfold wsEnd
  rw [drop_at D p h, sk, if_pos hs]
  omega
theorem wsEnd_stop (D : List Int) (p : Nat) (h : p < D.length) (hs : isSp (D.getD p 0) = false) : wsEnd D p = p := by
  unfold wsEnd
  rw [drop_at D p h, sk, if_neg (by rw [hs]; simp)]
  omega
theorem wsEnd_out (D : List Int) (p : Nat) (h : D.length ≤ p) : wsEnd D p = p := by
  unfold wsEnd
  rw [List.drop_of_length_le h]; rfl
theorem wsEnd_ge (D : List Int) (p : Nat) : p ≤ wsEnd D p := by unfold wsEnd; omega
theorem wsEnd_le (D : List Int) (p : Nat) (h : p ≤ D.length) : wsEnd D p ≤ D.length := by
  have := sk_le (D.drop p)
  simp at this
  unfold wsEnd; omega

/-- All between is white space. -/
theorem wsEnd_all (D : List Int) (p j : Nat) (h1 : p ≤ j) (h2 : j < wsEnd D p) (hp : p ≤ D.length) : isSp (D.getD j 0) = true ∧ wsEnd D j = wsEnd D p := by
  induction j with
  | zero =>
    have hp0 : p = 0 := by omega
    subst hp0
    have hl := wsEnd_le D 0 (by omega)
    cases hs : isSp (D.getD 0 0) with
    | true => exact ⟨rfl, rfl⟩
    | false => have := wsEnd_stop D 0 (by omega) hs; omega
  | succ j ih =>
    have hl := wsEnd_le D p hp
    by_cases e : p = j + 1
    · subst e
      cases hs : isSp (D.getD (j + 1) 0) with
      | true => exact ⟨rfl, rfl⟩
      | false => have := wsEnd_stop D (j + 1) (by omega) hs; omega
    · obtain ⟨h3, h4⟩ := ih (by omega) (by omega)
      have h5 := wsEnd_step D j (by omega) h3
      have h6 : wsEnd D (j + 1) = wsEnd D p := by omega
      refine ⟨?_, h6⟩
      cases hs : isSp (D.getD (j + 1) 0) with
      | true => rfl
      | false => have := wsEnd_stop D (j + 1) (by omega) hs; omega

/-- At the end there is no white space. -/
theorem wsEnd_end (D : List Int) (p : Nat) (h : wsEnd D p < D.length) : isSp (D.getD (wsEnd D p) 0) = false := by
  by_cases hp : p ≤ D.length
  · cases hs : isSp (D.getD (wsEnd D p) 0) with
    | false => rfl
    | true =>
      have h1 := wsEnd_step D _ h hs
      have h2 : wsEnd D (wsEnd D p) = wsEnd D p := by
        by_cases he : wsEnd D p = p
        · rw [he, he]
        · have hge := wsEnd_ge D p
          obtain ⟨q, hq⟩ : ∃ q, wsEnd D p = q + 1 := ⟨wsEnd D p - 1, by omega⟩
          obtain ⟨h3, h4⟩ := wsEnd_all D p q (by omega) (by omega) hp
          have h5 := wsEnd_step D q (by omega) h3
          rw [hq, h5, h4, hq]
      have h6 := wsEnd_ge D (wsEnd D p + 1)
      omega
  · have := wsEnd_out D p (by omega); omega

/-! ### rjb1IsSpace -/
set_option maxHeartbeats 1000000 in
theorem space_any (c : Int) (w : World) : Calls Try.prog 10 #[.int .u8 c] w fun e w' => e = .returned (.bool (isSp c)) ∧ w = w' := by
  cases h1 : c == 32
  · cases h2 : c == 9
    · cases h3 : c == 10
      · cases h4 : c == 13
        · have H : Hid (isSp c = false) := by show isSp c = false; simp [isSp, h1, h2, h3, h4]
          go_enter Try.func10, Try.ntmps10
          go_wp2
          go_ret
          exact ⟨ret_bool H.out.symm, rfl⟩
        · have H : Hid (isSp c = true) := by show isSp c = true; simp [isSp, h4]
          go_enter Try.func10, Try.ntmps10
          go_wp2
          go_ret
          exact ⟨ret_bool H.out.symm, rfl⟩
      · have H : Hid (isSp c = true) := by show isSp c = true; simp [isSp, h3]
        go_enter Try.func10, Try.ntmps10
        go_wp2
        go_ret
        exact ⟨ret_bool H.out.symm, rfl⟩
    · have H : Hid (isSp c = true) := by show isSp c = true; simp [isSp, h2]
      go_enter Try.func10, Try.ntmps10
      go_wp2
      go_ret
      exact ⟨ret_bool H.out.symm, rfl⟩
  · have H : Hid (isSp c = true) := by show isSp c = true; simp [isSp, h1]
    go_enter Try.func10, Try.ntmps10
    go_wp2
    go_ret
    exact ⟨ret_bool H.out.symm, rfl⟩

/-! ### rjb1Ws -/
set_option maxHeartbeats 1000000 in
theorem ws_any (b off n c p : Nat) (D : List Int) (w : World) (hD : Dat w b off n D) (_hp : p ≤ 9223372036854775807) :
    Calls Try.prog 19 #[.slice (some ⟨b, off, none⟩) n c, .int .i64 p] w fun e w' => e = .returned (.int .i64 (wsEnd D p)) ∧ w = w' := by
  have hl : Hid (n = D.length) := hD.len
  have hf := hD.fits
  have hc := hD.cell
  clear hD
  go_enter Try.func19, Try.ntmps19
  go_wp2
  go_loop [1] (fun t => ∃ k : Nat, p ≤ k ∧ (k ≤ p ∨ k ≤ n) ∧ t = .int .i64 k ∧ Hid (wsEnd D k = wsEnd D p)) (fun t => n - (intOf t).toNat)
  case atStart => exact ⟨p, Nat.le_refl _, .inl (Nat.le_refl _), rfl, rfl⟩
  case round =>
    obtain ⟨k, hk1, hk2, rfl, hE⟩ := hrel
    by_cases hlt : k < n
    · have hcell := hc k hlt
      have s1 := wsEnd_step D k (by have := hl.out; omega)
      have s2 := wsEnd_stop D k (by have := hl.out; omega)
      generalize D.getD k 0 = x at hcell s1 s2
      cases hx : isSp x
      · have S : Hid (wsEnd D k = k) := s2 hx
        have hsp := space_any x
        simp only [hx] at hsp
        clear s1 s2 hc hx
        go_wp2_with (go_at_call 10; refine (hsp _).mono ?_; rintro e w' ⟨rfl, rfl⟩)
        go_ret
        exact ⟨ret_int (by rw [← hE.out, S.out]), rfl⟩
      · have S : Hid (wsEnd D (k + 1) = wsEnd D k) := s1 hx
        have hsp := space_any x
        simp only [hx] at hsp
        clear s1 s2 hc hx
        go_wp2_with (go_at_call 10; refine (hsp _).mono ?_; rintro e w' ⟨rfl, rfl⟩)
        go_round
        case rel => exact ⟨k + 1, by omega, by omega, by go_num, S.out.trans hE.out⟩
        case measure => simp [intOf]; omega
    · have S : Hid (wsEnd D k = k) := wsEnd_out D k (by have := hl.out; omega)
      clear hc
      go_wp2
      go_ret
      exact ⟨ret_int (by rw [← hE.out, S.out]), rfl⟩
end Go.Proofs.Qxb6603724a.sl
