/-
  Seat b6603724a. Strings: 'StringEnd', 'rjb1Hex', 'rjb1String' by contracts.
-/
import Derived.Test.Qxb6603724aWs
import Derived.Test.Qxb6603724aScan
namespace Go.Proofs.Qxb6603724a.sl
open Go.RowKit

theorem ret_two {a b : Int} {c d : Bool} (h : a = b) (h' : c = d) : Ending.returned (.tuple #[.int .i64 a, .bool c]) = .returned (.tuple #[.int .i64 b, .bool d]) := by rw [h, h']

set_option maxHeartbeats 1000000 in
theorem strend_any (b off n c p e : Nat) (D : List Int) (w : World) (hD : Dat w b off n D) (hs : St D (p + 1) e) :
    Calls Try.prog 13 #[.slice (some ⟨b, off, none⟩) n c, .int .i64 p] w fun r w' => r = .returned (.int .i64 e) ∧ w = w' := by
  have hl : Hid (n = D.length) := hD.len
  have hf := hD.fits
  have hc := hD.cell
  have hb := hs.bounds
  have hen : e ≤ n := by have := hl.out; omega
  have hpe : p + 1 < e := by omega
  have S0 : Hid (St D (p + 1) e) := hs
  clear hD hb hs
  go_enter Try.func13, Try.ntmps13
  go_wp2
  go_loop [1] (fun t => ∃ j : Nat, j ≤ n ∧ t = .int .i64 j ∧ Hid (St D j e)) (fun t => n - (intOf t).toNat)
  case atStart => exact ⟨p + 1, by omega, by go_num, S0.out⟩
  case round =>
    obtain ⟨j, hj, rfl, hS⟩ := hrel
    obtain ⟨h1, hi⟩ := hS.out.inv
    have hlt : j < n := by have := hl.out; omega
    have hcell := hc j hlt
    clear h1 hc hS S0
    rcases hi with ⟨x1, hn⟩ | ⟨x1, hn⟩ | ⟨x1, x2, hn⟩
    · have hb := hn.bounds
      have hj2 : j + 2 ≤ n := by have := hl.out; omega
      have H : Hid (St D (j + 2) e) := hn
      have b1 : (D.getD j 0 == 92) = true := by simp only [x1]; rfl
      clear hn x1 hb
      generalize D.getD j 0 = x at hcell b1
      go_wp2
      go_round
      case rel => exact ⟨j + 2, by omega, by go_num, H.out⟩
      case measure => simp [intOf]; omega
    · have H : Hid (e = j + 1) := hn
      have b1 : (D.getD j 0 == 92) = false := by simp only [x1]; rfl
      have b2 : (D.getD j 0 == 34) = true := by simp only [x1]; rfl
      clear hn x1
      generalize D.getD j 0 = x at hcell b1 b2
      go_wp2
      go_ret
      exact ⟨ret_int (by rw [H.out]; go_num), rfl⟩
    · have hb := hn.bounds
      have hj2 : j + 1 ≤ n := by have := hl.out; omega
      have H : Hid (St D (j + 1) e) := hn
      have b1 : (D.getD j 0 == 92) = false := by simpa using x1
      have b2 : (D.getD j 0 == 34) = false := by simpa using x2
      clear hn x1 x2 hb
      generalize D.getD j 0 = x at hcell b1 b2
      go_wp2
      go_round
      case rel => exact ⟨j + 1, by omega, by go_num, H.out⟩
      case measure => simp [intOf]; omega

/-! ### rjb1Hex -/
def isHex (c : Int) : Bool := decide ((48 ≤ c ∧ c ≤ 57) ∨ (97 ≤ c ∧ c ≤ 102) ∨ (65 ≤ c ∧ c ≤ 70))
theorem isHex_ne {c : Int} (h : isHex c = true) : c ≠ 92 ∧ c ≠ 34 := by
  have := of_decide_eq_true h
  omega

set_option maxHeartbeats 2000000 in
theorem hex_any (c : Int) (w : World) : Calls Try.prog 26 #[.int .u8 c] w fun e w' => e = .returned (.bool (isHex c)) ∧ w = w' := by
  by_cases h1 : c < 48
  · have H : Hid (isHex c = false) := decide_eq_false (by omega)
    go_enter Try.func26, Try.ntmps26
    go_wp2
    go_ret
    exact ⟨ret_bool H.out.symm, rfl⟩
  · by_cases h2 : c ≤ 57
    · have H : Hid (isHex c = true) := decide_eq_true (by omega)
      go_enter Try.func26, Try.ntmps26
      go_wp2
      go_ret
      exact ⟨ret_bool H.out.symm, rfl⟩
    · by_cases h3 : c < 65
      · have H : Hid (isHex c = false) := decide_eq_false (by omega)
        go_enter Try.func26, Try.ntmps26
        go_wp2
        go_ret
        exact ⟨ret_bool H.out.symm, rfl⟩
      · by_cases h4 : c ≤ 70
        · have H : Hid (isHex c = true) := decide_eq_true (by omega)
          go_enter Try.func26, Try.ntmps26
          go_wp2
          go_ret
          exact ⟨ret_bool H.out.symm, rfl⟩
        · by_cases h5 : c < 97
          · have H : Hid (isHex c = false) := decide_eq_false (by omega)
            go_enter Try.func26, Try.ntmps26
            go_wp2
            go_ret
            exact ⟨ret_bool H.out.symm, rfl⟩
          · by_cases h6 : c ≤ 102
            · have H : Hid (isHex c = true) := decide_eq_true (by omega)
              go_enter Try.func26, Try.ntmps26
              go_wp2
              go_ret
              exact ⟨ret_bool H.out.symm, rfl⟩
            · have H : Hid (isHex c = false) := decide_eq_false (by omega)
              go_enter Try.func26, Try.ntmps26
              go_wp2
              go_ret
              exact ⟨ret_bool H.out.symm, rfl⟩
end Go.Proofs.Qxb6603724a.sl
