/-
  Seat b6603724a. 'rjb1Key' by a contract.
-/
import Derived.Test.Qxb6603724aScalar
namespace Go.Proofs.Qxb6603724a.sl
open Go.RowKit

/-! ### rjb1Key -/
theorem passed_sp {c : Int} (h : isSp c = true) : passed c := by
  rcases isSp_true.1 h with h | h | h | h <;> subst h <;> unfold passed isOpen isClose <;> omega
theorem thru_ws {D : List Int} {p : Nat} (h : p ≤ D.length) : Thru D p (wsEnd D p) :=
  thru_passed (wsEnd_ge D p) (wsEnd_le D p h) (fun j h1 h2 => passed_sp (wsEnd_all D p j h1 h2 h).1)
theorem thru_one {D : List Int} {p : Nat} (h : p < D.length) (hc : passed (D.getD p 0)) : Thru D p (p + 1) :=
  thru_passed (by omega) (by omega) (fun j h1 h2 => by have : j = p := by omega
                                                       subst this; exact hc)
theorem thru_scalar {D : List Int} {n p q : Nat} (hn : n = D.length) (h : IsScalar D n p q) : Thru D p q := by
  obtain ⟨h1, h2, h3 | h3⟩ := h
  · exact thru_str (by omega) h3.1 h3.2
  · exact thru_passed (by omega) (by omega) (fun j a b => (h3.2 j a b).passed)

/-- What a key that was read gives. -/
def IsKey (D : List Int) (n p q : Nat) : Prop := p < q ∧ q ≤ n ∧ Thru D p q

set_option maxHeartbeats 2000000 in
theorem key_any (b off n c p : Nat) (D : List Int) (w : World) (hD : Dat w b off n D) (hp : p ≤ n) :
    Calls Try.prog 20 #[.slice (some ⟨b, off, none⟩) n c, .int .i64 p] w fun r w' => Says (IsKey D n p) r ∧ w = w' := by
  have hL : Hid (n = D.length) := hD.len
  have hf := hD.fits
  have HC : Hid (∀ j, j < n → w.cell? ⟨b, off + j, none⟩ = some (.int .u8 (D.getD j 0))) := hD.cell
  have hStr := fun h => string_any b off n c p D w hD h
  have hWs := fun q h => ws_any b off n c q D w hD h
  clear hD
  by_cases hpn : p < n
  · have hcell := HC.out p hpn
    have hS := hStr hpn
    clear hStr
    by_cases x1 : D.getD p 0 = 34
    · have b1 : (D.getD p 0 != 34) = false := by rw [x1]; rfl
      have X1 : Hid (D.getD p 0 = 34) := x1
      clear x1
      generalize D.getD p 0 = x at hcell b1 ⊢
      go_enter Try.func20, Try.ntmps20
      go_wp2_with fail
      refine hS.mono ?_
      rintro e w' ⟨⟨q, ok, rfl, hP⟩, rfl⟩
      cases ok
      · clear hP
        go_wp2
        go_ret2
        exact ⟨says_no _, rfl⟩
      · have hq := hP rfl
        have hqb := hq.bounds
        have hq1 : p + 1 < q := by omega
        have hq2 : q ≤ n := by have := hL.out; omega
        have T1 : Hid (Thru D p q) := thru_str (by have := hL.out; omega) X1.out hq
        have T2 : Hid (Thru D p (wsEnd D q)) := T1.out.trans (thru_ws (by have := hL.out; omega))
        have g1 := wsEnd_ge D q
        have g2 := wsEnd_le D q (by have := hL.out; omega)
        rw [← hL.out] at g2
        have hW := hWs q (by omega)
        clear hq hqb hP T1 hS X1
        generalize wsEnd D q = s at hW T2 g1 g2
        by_cases hsn : s < n
        · have hcs := HC.out s hsn
          by_cases y1 : D.getD s 0 = 58
          · have b2 : (D.getD s 0 != 58) = false := by rw [y1]; rfl
            have T3 : Hid (IsKey D n p (wsEnd D (s + 1))) := ⟨by have := wsEnd_ge D (s + 1); omega, by have := wsEnd_le D (s + 1) (by have := hL.out; omega); have := hL.out; omega,
              (T2.out.trans (thru_one (by have := hL.out; omega) (by rw [y1]; unfold passed isOpen isClose; omega))).trans (thru_ws (by have := hL.out; omega))⟩
            have hW2 := hWs (s + 1) (by omega)
            clear y1 T2
            generalize D.getD s 0 = y at hcs b2
            generalize wsEnd D (s + 1) = s2 at hW2 T3
            go_wp2_with fail
            refine hW.mono ?_
            rintro e w' ⟨rfl, rfl⟩
            clear hW
            go_wp2_with fail
            refine hW2.mono ?_
            rintro e w' ⟨rfl, rfl⟩
            clear hW2
            go_wp2
            go_ret2
            exact ⟨says_yes rfl T3.out, rfl⟩
          · have b2 : (D.getD s 0 != 58) = true := by simpa using y1
            clear y1 T2
            generalize D.getD s 0 = y at hcs b2
            go_wp2_with (go_at_call 19; refine hW.mono ?_; rintro e w' ⟨rfl, rfl⟩)
            go_ret2
            exact ⟨says_no _, rfl⟩
        · clear T2
          go_wp2_with (go_at_call 19; refine hW.mono ?_; rintro e w' ⟨rfl, rfl⟩)
          go_ret2
          exact ⟨says_no _, rfl⟩
    · have b1 : (D.getD p 0 != 34) = true := by simpa using x1
      clear x1 hS hWs
      generalize D.getD p 0 = x at hcell b1 ⊢
      go_enter Try.func20, Try.ntmps20
      go_wp2
      go_ret2
      exact ⟨says_no _, rfl⟩
  · clear hStr hWs
    go_enter Try.func20, Try.ntmps20
    go_wp2
    go_ret2
    exact ⟨says_no _, rfl⟩
end Go.Proofs.Qxb6603724a.sl
