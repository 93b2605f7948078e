/-
  Seat b6603724a. 'valueEnd', 'ZZvalueEnd', 'rjb1EndsScalar' by contracts.
-/
import Derived.Test.Qxb6603724aInv
namespace Go.Proofs.Qxb6603724a.sl
open Go.RowKit

/-- May the byte follow a number or literal? -/
def endsSc (c : Int) : Bool := c == 44 || c == 125 || c == 93 || isSp c

set_option maxHeartbeats 1000000 in
theorem ends_any (c : Int) (w : World) : Calls Try.prog 16 #[.int .u8 c] w fun e w' => e = .returned (.bool (endsSc c)) ∧ w = w' := by
  have hS := space_any c
  cases h1 : c == 44
  · cases h2 : c == 125
    · cases h3 : c == 93
      · have H : Hid (endsSc c = isSp c) := by show endsSc c = isSp c; simp [endsSc, h1, h2, h3]
        generalize isSp c = t at hS H
        go_enter Try.func16, Try.ntmps16
        go_wp2_with (go_at_call 10; refine (hS _).mono ?_; rintro e w' ⟨rfl, rfl⟩)
        go_ret
        exact ⟨ret_bool H.out.symm, rfl⟩
      · have H : Hid (endsSc c = true) := by show endsSc c = true; simp [endsSc, h3]
        clear hS
        go_enter Try.func16, Try.ntmps16
        go_wp2
        go_ret
        exact ⟨ret_bool H.out.symm, rfl⟩
    · have H : Hid (endsSc c = true) := by show endsSc c = true; simp [endsSc, h2]
      clear hS
      go_enter Try.func16, Try.ntmps16
      go_wp2
      go_ret
      exact ⟨ret_bool H.out.symm, rfl⟩
  · have H : Hid (endsSc c = true) := by show endsSc c = true; simp [endsSc, h1]
    clear hS
    go_enter Try.func16, Try.ntmps16
    go_wp2
    go_ret
    exact ⟨ret_bool H.out.symm, rfl⟩

set_option maxHeartbeats 1000000 in
theorem ve_str (b off n c i q : Nat) (D : List Int) (w : World) (hD : Dat w b off n D) (hi : i < n) (hc : D.getD i 0 = 34) (hs : St D (i + 1) q) :
    Calls Try.prog 22 #[.slice (some ⟨b, off, none⟩) n c, .int .i64 i] w fun r w' => r = .returned (.int .i64 q) ∧ w = w' := by
  have hf := hD.fits
  have hcell := hD.cell i hi
  have hS := strend_any b off n c i q D w hD hs
  have b1 : (D.getD i 0 == 34) = true := by rw [hc]; rfl
  clear hD hc hs
  generalize D.getD i 0 = x at hcell b1
  go_enter Try.func22, Try.ntmps22
  go_wp2_with (go_at_call 13; refine hS.mono ?_; rintro e w' ⟨rfl, rfl⟩)
  go_ret
  exact ⟨rfl, rfl⟩

set_option maxHeartbeats 4000000 in
theorem ve_con (b off n c i r : Nat) (D : List Int) (w : World) (hD : Dat w b off n D) (hi : i < n) (hc : isOpen (D.getD i 0)) (hv : Ev D i 0 r) :
    Calls Try.prog 22 #[.slice (some ⟨b, off, none⟩) n c, .int .i64 i] w fun e w' => e = .returned (.int .i64 r) ∧ w = w' := by
  have hf := hD.fits
  have hcell := hD.cell i hi
  have HD : Hid (Dat w b off n D) := hD
  have HL : Hid (n = D.length) := hD.len
  have HV : Hid (Ev D i 0 r) := hv
  have b1 : (D.getD i 0 == 34) = false := by rcases hc with h | h <;> rw [h] <;> rfl
  have bo : (D.getD i 0 == 123) = true ∨ ((D.getD i 0 == 123) = false ∧ (D.getD i 0 == 91) = true) := by
    rcases hc with h | h
    · exact .inl (by rw [h]; rfl)
    · exact .inr ⟨by rw [h]; rfl, by rw [h]; rfl⟩
  clear hD hc hv
  generalize D.getD i 0 = x at hcell b1 bo
  rcases bo with b2 | ⟨b2, b3⟩
  all_goals
    go_enter Try.func22, Try.ntmps22
    go_wp2
    go_loop [1, 5] (fun s1 s5 => ∃ p d : Nat, s1 = .int .i64 p ∧ s5 = .int .i64 d ∧ p ≤ n ∧ d ≤ p ∧ Hid (Ev D p d r)) (fun s1 _ => n - (intOf s1).toNat)
    case atStart => exact ⟨i, 0, rfl, rfl, by omega, by omega, HV.out⟩
    case round =>
      clear hcell
      obtain ⟨p, d, rfl, rfl, hpn, hdp, hE⟩ := hrel
      obtain ⟨hp, hcase⟩ := hE.out.inv
      have hlt : p < n := by have := HL.out; omega
      have hcell := HD.out.cell p hlt
      clear hp hE HV
      rcases hcase with ⟨y, e, hs, hn⟩ | ⟨y, hn⟩ | ⟨y, hd, hr⟩ | ⟨y, hd, hn⟩ | ⟨y1, y2, y3, hn⟩
      · have hS := strend_any b off n c p e D w HD.out hs
        have hb := hs.bounds
        have hb1 : p + 1 < e := by omega
        have hb2 : e ≤ n := by have := HL.out; omega
        have c1 : (D.getD p 0 == 34) = true := by rw [y]; rfl
        have HN : Hid (Ev D e d r) := hn
        clear y hs hn hb
        generalize D.getD p 0 = z at hcell c1
        go_wp2_with (go_at_call 13; refine hS.mono ?_; rintro e w' ⟨rfl, rfl⟩)
        go_round
        case rel => exact ⟨e, d, by go_num, rfl, hb2, by omega, HN.out⟩
        case measure => simp [intOf]; omega
      · have c1 : (D.getD p 0 == 34) = false := by rcases y with y | y <;> rw [y] <;> rfl
        have HN : Hid (Ev D (p + 1) (d + 1) r) := hn
        have bo : (D.getD p 0 == 123) = true ∨ ((D.getD p 0 == 123) = false ∧ (D.getD p 0 == 91) = true) := by
          rcases y with h | h
          · exact .inl (by rw [h]; rfl)
          · exact .inr ⟨by rw [h]; rfl, by rw [h]; rfl⟩
        clear y hn
        generalize D.getD p 0 = z at hcell c1 bo
        rcases bo with c2 | ⟨c2, c3⟩
        all_goals
          go_wp2
          go_round
          case rel => exact ⟨p + 1, d + 1, by go_num, by go_num, by omega, by omega, HN.out⟩
          case measure => simp [intOf]; omega
      · have c1 : (D.getD p 0 == 34) = false := by rcases y with y | y <;> rw [y] <;> rfl
        have c2 : (D.getD p 0 == 123) = false := by rcases y with y | y <;> rw [y] <;> rfl
        have c3 : (D.getD p 0 == 91) = false := by rcases y with y | y <;> rw [y] <;> rfl
        have bo : (D.getD p 0 == 125) = true ∨ ((D.getD p 0 == 125) = false ∧ (D.getD p 0 == 93) = true) := by
          rcases y with h | h
          · exact .inl (by rw [h]; rfl)
          · exact .inr ⟨by rw [h]; rfl, by rw [h]; rfl⟩
        have HR : Hid (r = p + 1) := hr
        clear y hr
        subst hd
        generalize D.getD p 0 = z at hcell c1 c2 c3 bo
        rcases bo with c4 | ⟨c4, c5⟩
        all_goals
          go_wp2
          go_ret
          exact ⟨ret_int (by rw [HR.out]; go_num), rfl⟩
      · have c1 : (D.getD p 0 == 34) = false := by rcases y with y | y <;> rw [y] <;> rfl
        have c2 : (D.getD p 0 == 123) = false := by rcases y with y | y <;> rw [y] <;> rfl
        have c3 : (D.getD p 0 == 91) = false := by rcases y with y | y <;> rw [y] <;> rfl
        have bo : (D.getD p 0 == 125) = true ∨ ((D.getD p 0 == 125) = false ∧ (D.getD p 0 == 93) = true) := by
          rcases y with h | h
          · exact .inl (by rw [h]; rfl)
          · exact .inr ⟨by rw [h]; rfl, by rw [h]; rfl⟩
        have HN : Hid (Ev D (p + 1) (d - 1) r) := hn
        have hd1 : ((d : Int) - 1 == 0) = false := by simp; omega
        have hd2 : ¬ ((d : Int) - 1 = 0) := by omega
        clear y hn
        generalize D.getD p 0 = z at hcell c1 c2 c3 bo
        rcases bo with c4 | ⟨c4, c5⟩
        all_goals
          go_wp2
          go_round
          case rel => exact ⟨p + 1, d - 1, by go_num, by go_num, by omega, by omega, HN.out⟩
          case measure => simp [intOf]; omega
      · have c1 : (D.getD p 0 == 34) = false := by simpa using y1
        have c2 : (D.getD p 0 == 123) = false := by simpa using fun h => y2 (.inl h)
        have c3 : (D.getD p 0 == 91) = false := by simpa using fun h => y2 (.inr h)
        have c4 : (D.getD p 0 == 125) = false := by simpa using fun h => y3 (.inl h)
        have c5 : (D.getD p 0 == 93) = false := by simpa using fun h => y3 (.inr h)
        have HN : Hid (Ev D (p + 1) d r) := hn
        clear y1 y2 y3 hn
        generalize D.getD p 0 = z at hcell c1 c2 c3 c4 c5
        go_wp2
        go_round
        case rel => exact ⟨p + 1, d, by go_num, rfl, by omega, by omega, HN.out⟩
        case measure => simp [intOf]; omega

theorem plain_tests {c : Int} (h : plain c) : (c == 44) = false ∧ (c == 125) = false ∧ (c == 93) = false ∧ (c == 32) = false ∧ (c == 9) = false ∧ (c == 10) = false ∧ (c == 13) = false := by
  obtain ⟨_, _, _, h4, h5, h6, h7, h8, h9, h10⟩ := h
  simp [h4, h5, h6, h7, h8, h9, h10]

set_option maxHeartbeats 4000000 in
theorem ve_plain (b off n c i q : Nat) (D : List Int) (w : World) (hD : Dat w b off n D) (hi : i < n) (h1 : D.getD i 0 ≠ 34) (h2 : ¬ isOpen (D.getD i 0)) (hiq : i < q) (hq : q ≤ n) (hp : Plain D i q) (he : q < n → endsSc (D.getD q 0) = true) :
    Calls Try.prog 22 #[.slice (some ⟨b, off, none⟩) n c, .int .i64 i] w fun e w' => e = .returned (.int .i64 q) ∧ w = w' := by
  have hf := hD.fits
  have hcell := hD.cell i hi
  have HC : Hid (∀ j, j < n → w.cell? ⟨b, off + j, none⟩ = some (.int .u8 (D.getD j 0))) := hD.cell
  have b1 : (D.getD i 0 == 34) = false := by simpa using h1
  have b2 : (D.getD i 0 == 123) = false := by simpa using fun h => h2 (.inl h)
  have b3 : (D.getD i 0 == 91) = false := by simpa using fun h => h2 (.inr h)
  have HP : Hid (Plain D i q) := hp
  have HE : Hid (q < n → endsSc (D.getD q 0) = true) := he
  clear hD h1 h2 hp he
  generalize D.getD i 0 = x at hcell b1 b2 b3
  go_enter Try.func22, Try.ntmps22
  go_wp2
  go_loop [1] (fun s1 => ∃ k : Nat, s1 = .int .i64 k ∧ i ≤ k ∧ k ≤ q) (fun s1 => n - (intOf s1).toNat)
  case atStart => exact ⟨i, rfl, by omega, by omega⟩
  case round =>
    clear hcell
    obtain ⟨k, rfl, hk1, hk2⟩ := hrel
    by_cases hlt : k < q
    · have hcell := HC.out k (by omega)
      obtain ⟨c1, c2, c3, c4, c5, c6, c7⟩ := plain_tests (HP.out k hk1 hlt)
      generalize D.getD k 0 = z at hcell c1 c2 c3 c4 c5 c6 c7
      go_wp2
      go_round
      case rel => exact ⟨k + 1, by go_num, by omega, by omega⟩
      case measure => simp [intOf]; omega
    · have E : Hid (q = k) := (by omega : q = k)
      by_cases hqn : k < n
      · have hcell := HC.out k hqn
        have he := HE.out (by omega)
        rw [E.out] at he
        clear HE HP
        generalize D.getD k 0 = z at hcell he
        cases c44 : z == 44
        · cases c125 : z == 125
          · cases c93 : z == 93
            · cases c32 : z == 32
              · cases c9 : z == 9
                · cases c10 : z == 10
                  · cases c13 : z == 13
                    · exact absurd he (by simp [endsSc, isSp, c44, c125, c93, c32, c9, c10, c13])
                    · clear he
                      go_wp2
                      go_ret
                      exact ⟨ret_int (by rw [E.out]), rfl⟩
                  · clear he
                    go_wp2
                    go_ret
                    exact ⟨ret_int (by rw [E.out]), rfl⟩
                · clear he
                  go_wp2
                  go_ret
                  exact ⟨ret_int (by rw [E.out]), rfl⟩
              · clear he
                go_wp2
                go_ret
                exact ⟨ret_int (by rw [E.out]), rfl⟩
            · clear he
              go_wp2
              go_ret
              exact ⟨ret_int (by rw [E.out]), rfl⟩
          · clear he
            go_wp2
            go_ret
            exact ⟨ret_int (by rw [E.out]), rfl⟩
        · clear he
          go_wp2
          go_ret
          exact ⟨ret_int (by rw [E.out]), rfl⟩
      · clear HE HP
        go_wp2
        go_ret
        exact ⟨ret_int (by rw [E.out]), rfl⟩

/-- valueEnd where a whole value stands. -/
theorem ve_any (b off n c i q : Nat) (D : List Int) (w : World) (hD : Dat w b off n D) (hi : i < n) (hv : VP D n i q) (he : D.getD i 0 ≠ 34 → ¬ isOpen (D.getD i 0) → q < n → endsSc (D.getD q 0) = true) :
    Calls Try.prog 22 #[.slice (some ⟨b, off, none⟩) n c, .int .i64 i] w fun e w' => e = .returned (.int .i64 q) ∧ w = w' := by
  obtain ⟨hq, ⟨h1, h2⟩ | ⟨h1, h2⟩ | ⟨h1, h2, h3, h4⟩⟩ := hv
  · exact ve_str b off n c i q D w hD hi h1 h2
  · exact ve_con b off n c i q D w hD hi h1 h2
  · exact ve_plain b off n c i q D w hD hi h1 h2 h3 hq h4 (he h1 h2)

theorem zzve_any (b off n c i q : Nat) (D : List Int) (w : World) (hD : Dat w b off n D) (hi : i < n) (hv : VP D n i q) (he : D.getD i 0 ≠ 34 → ¬ isOpen (D.getD i 0) → q < n → endsSc (D.getD q 0) = true) :
    Calls Try.prog 17 #[.slice (some ⟨b, off, none⟩) n c, .int .i64 i] w fun e w' => e = .returned (.int .i64 q) ∧ w = w' := by
  have hV := ve_any b off n c i q D w hD hi hv he
  clear hD hv he
  go_enter Try.func17, Try.ntmps17
  go_wp2_with (go_at_call 22; refine hV.mono ?_; rintro e w' ⟨rfl, rfl⟩)
  go_ret
  exact ⟨rfl, rfl⟩
end Go.Proofs.Qxb6603724a.sl
