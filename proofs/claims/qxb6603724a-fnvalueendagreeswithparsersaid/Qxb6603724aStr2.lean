/-
  Seat b6603724a. 'rjb1String' by a contract: where it says yes, the string ends there.
-/
import Derived.Test.Qxb6603724aStr
import Derived.Outline
namespace Go.Proofs.Qxb6603724a.sl
open Go.RowKit

/-- What a reader hands back: a place and a yes or no; where it says yes, P of the place. -/
def Says (P : Nat → Prop) (e : Ending) : Prop := ∃ (q : Nat) (ok : Bool), e = .returned (.tuple #[.int .i64 q, .bool ok]) ∧ (ok = true → P q)
theorem says_no (P : Nat → Prop) : Says P (.returned (.tuple #[.int .i64 0, .bool false])) := ⟨0, false, rfl, fun h => by cases h⟩
theorem says_yes {P : Nat → Prop} {a : Int} {q : Nat} (h : a = q) (hP : P q) : Says P (.returned (.tuple #[.int .i64 a, .bool true])) := ⟨q, true, by rw [h], fun _ => hP⟩

theorem skip_four {D : List Int} {q e : Nat} (hq : q + 6 ≤ D.length) (hc : D.getD q 0 = 92) (hh : ∀ j, q + 2 ≤ j → j < q + 6 → D.getD j 0 ≠ 92 ∧ D.getD j 0 ≠ 34) (hs : St D (q + 6) e) : St D q e := by
  have s5 := St.other (by omega) (hh (q + 5) (by omega) (by omega)).1 (hh (q + 5) (by omega) (by omega)).2 hs
  have s4 := St.other (by omega) (hh (q + 4) (by omega) (by omega)).1 (hh (q + 4) (by omega) (by omega)).2 s5
  have s3 := St.other (by omega) (hh (q + 3) (by omega) (by omega)).1 (hh (q + 3) (by omega) (by omega)).2 s4
  have s2 := St.other (by omega) (hh (q + 2) (by omega) (by omega)).1 (hh (q + 2) (by omega) (by omega)).2 s3
  exact St.esc (by omega) hc s2

set_option maxHeartbeats 4000000 in
theorem string_any (b off n c p : Nat) (D : List Int) (w : World) (hD : Dat w b off n D) (hp : p < n) :
    Calls Try.prog 23 #[.slice (some ⟨b, off, none⟩) n c, .int .i64 p] w fun r w' => Says (fun q => St D (p + 1) q) r ∧ w = w' := by
  have hl : Hid (n = D.length) := hD.len
  have hf := hD.fits
  have hc := hD.cell
  clear hD
  go_enter Try.func23, Try.ntmps23
  go_wp2
  go_loop [6] (fun t => ∃ q : Nat, p + 1 ≤ q ∧ q ≤ n ∧ t = .int .i64 q ∧ Hid (∀ e, St D q e → St D (p + 1) e)) (fun t => n - (intOf t).toNat)
  case atStart => exact ⟨p + 1, by omega, by omega, by go_num, fun _ h => h⟩
  case round =>
    obtain ⟨q, hq1, hq2, rfl, hS⟩ := hrel
    by_cases hlt : q < n
    · have hcell := hc q hlt
      by_cases x1 : D.getD q 0 = 34
      · have H : Hid (St D (p + 1) (q + 1)) := hS.out _ (St.quote (by have := hl.out; omega) x1)
        have b1 : (D.getD q 0 == 34) = true := by simp only [x1]; rfl
        clear x1 hS hc
        generalize D.getD q 0 = x at hcell b1
        go_wp2
        go_ret2
        exact ⟨says_yes (by go_num) H.out, rfl⟩
      · have b1 : (D.getD q 0 == 34) = false := by simpa using x1
        by_cases x2 : D.getD q 0 < 32
        · clear hS hc
          generalize D.getD q 0 = x at hcell b1 x2
          clear x1
          go_wp2
          go_ret2
          exact ⟨says_no _, rfl⟩
        · by_cases x3 : D.getD q 0 = 92
          · have b3 : (D.getD q 0 == 92) = true := by simp only [x3]; rfl
            by_cases hlt2 : q + 1 < n
            · have hcell2 := hc (q + 1) hlt2
              by_cases y : D.getD (q + 1) 0 = 117
              · have e1 : (D.getD (q + 1) 0 == 34) = false := by rw [y]; rfl
                have e2 : (D.getD (q + 1) 0 == 92) = false := by rw [y]; rfl
                have e3 : (D.getD (q + 1) 0 == 47) = false := by rw [y]; rfl
                have e4 : (D.getD (q + 1) 0 == 98) = false := by rw [y]; rfl
                have e5 : (D.getD (q + 1) 0 == 102) = false := by rw [y]; rfl
                have e6 : (D.getD (q + 1) 0 == 110) = false := by rw [y]; rfl
                have e7 : (D.getD (q + 1) 0 == 114) = false := by rw [y]; rfl
                have e8 : (D.getD (q + 1) 0 == 116) = false := by rw [y]; rfl
                have e9 : (D.getD (q + 1) 0 == 117) = true := by rw [y]; rfl
                have X3 : Hid (D.getD q 0 = 92) := x3
                clear y x3
                have HC : Hid (∀ j, j < n → w.cell? ⟨b, off + j, none⟩ = some (.int .u8 (D.getD j 0))) := hc
                clear hc x1
                by_cases h6 : q + 6 ≤ n
                · generalize hz : D.getD (q + 1) 0 = z at hcell2 e1 e2 e3 e4 e5 e6 e7 e8 e9
                  clear hz
                  generalize hx : D.getD q 0 = x at hcell b1 x2 b3
                  have HX : Hid (D.getD q 0 = x) := hx
                  clear hx
                  go_wp2
                  go_loop [8] (fun t => ∃ h : Nat, q + 2 ≤ h ∧ h ≤ q + 6 ∧ t = .int .i64 h ∧ Hid (∀ j, q + 2 ≤ j → j < h → D.getD j 0 ≠ 92 ∧ D.getD j 0 ≠ 34)) (fun t => q + 6 - (intOf t).toNat)
                  case atStart => exact ⟨q + 2, by omega, by omega, by go_num, fun j h1 h2 => by omega⟩
                  case round =>
                    obtain ⟨h, hh1, hh2, rfl, hH⟩ := hrel
                    by_cases hlt6 : h < q + 6
                    · have hcellh := HC.out h (by omega)
                      generalize hy : D.getD h 0 = y at hcellh
                      cases hx : isHex y
                      · have hX := fun w => hex_any y w
                        simp only [hx] at hX
                        clear hx hy
                        go_wp2_with (go_at_call 26; refine (hX _).mono ?_; rintro e w' ⟨rfl, rfl⟩)
                        go_ret2
                        exact ⟨says_no _, rfl⟩
                      · have hX := fun w => hex_any y w
                        simp only [hx] at hX
                        have H2 : Hid (∀ j, q + 2 ≤ j → j < h + 1 → D.getD j 0 ≠ 92 ∧ D.getD j 0 ≠ 34) := fun j h1 h2 => by
                          by_cases ej : j = h
                          · subst ej; rw [hy]; exact isHex_ne hx
                          · exact hH.out j h1 (by omega)
                        clear hx hy
                        go_wp2_with (go_at_call 26; refine (hX _).mono ?_; rintro e w' ⟨rfl, rfl⟩)
                        go_round
                        case rel => exact ⟨h + 1, by omega, by omega, by go_num, H2.out⟩
                        case measure => simp [intOf]; omega
                    · have H : Hid (∀ e, St D (q + 6) e → St D (p + 1) e) := fun e he => hS.out e (skip_four (by have := hl.out; omega) X3.out (fun j h1 h2 => hH.out j h1 (by omega)) he)
                      clear hS
                      go_wp2
                      go_round
                      case rel => exact ⟨q + 6, by omega, by omega, by go_num, H.out⟩
                      case measure => simp [intOf]; omega
                · generalize D.getD (q + 1) 0 = z at hcell2 e1 e2 e3 e4 e5 e6 e7 e8 e9
                  clear X3
                  generalize D.getD q 0 = x at hcell b1 x2 b3
                  go_wp2
                  go_ret2
                  exact ⟨says_no _, rfl⟩
              · have H : Hid (∀ e, St D (q + 2) e → St D (p + 1) e) := fun e he => hS.out e (St.esc (by have := hl.out; omega) x3 he)
                have y117 : (D.getD (q + 1) 0 == 117) = false := by simpa using y
                clear hS hc x1 y x3
                generalize D.getD q 0 = x at hcell b1 x2 b3
                generalize D.getD (q + 1) 0 = z at hcell2 y117
                have hcell3 : w.cell? ⟨b, off + (q + 1), none⟩ = some (.int .u8 z) := hcell2
                go_wp2
                all_goals first
                  | (go_ret2; exact ⟨says_no _, rfl⟩)
                  | (go_round; (case rel => exact ⟨q + 2, by omega, by omega, by go_num, H.out⟩); (case measure => simp [intOf]; omega))
            · clear hS hc x1 x3
              generalize D.getD q 0 = x at hcell b1 x2 b3
              go_wp2
              go_ret2
              exact ⟨says_no _, rfl⟩
          · have b3 : (D.getD q 0 == 92) = false := by simpa using x3
            have H : Hid (∀ e, St D (q + 1) e → St D (p + 1) e) := fun e he => hS.out e (St.other (by have := hl.out; omega) x3 x1 he)
            clear hS hc x1 x3
            generalize D.getD q 0 = x at hcell b1 x2 b3
            go_wp2
            go_round
            case rel => exact ⟨q + 1, by omega, by omega, by go_num, H.out⟩
            case measure => simp [intOf]; omega
    · clear hS hc
      go_wp2
      go_ret2
      exact ⟨says_no _, rfl⟩
end Go.Proofs.Qxb6603724a.sl
