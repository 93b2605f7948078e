/-
  Seat b6003390aD. 'zzReadDec' at a decimal numeral, by a contract.
-/
import Derived.Test.Qxb6003390aDoorRows
import Derived.Test.Qxb6003390aDoorDec
import Derived.WalkKit
import Derived.WalkSpells
import Derived.Outline
namespace Go.Proofs.Qxb6003390aDoor.dec
open Go.RowKit Go.Lib

/-- In the text s there stands, from place i on, u's numeral, and behind it no digit. -/
structure NumAt (s : ByteArray) (i u : Nat) : Prop where
  fits : i + (decDigits u).length ≤ s.size
  here : ∀ j, j < (decDigits u).length → ∀ h : i + j < s.size, (s[i + j]'h).toNat = ((decDigits u).getD j 0).toNat
  ends : ∀ h : i + (decDigits u).length < s.size, ¬ (48 ≤ (s[i + (decDigits u).length]'h).toNat ∧ (s[i + (decDigits u).length]'h).toNat ≤ 57)

theorem ret3 {k1 k2 : IntKind} {a b a' b' : Int} {c : Bool} (h : a = a') (h' : b = b') : Ending.returned (.tuple #[.int k1 a, .int k2 b, .bool c]) = .returned (.tuple #[.int k1 a', .int k2 b', .bool c]) := by rw [h, h']

set_option maxHeartbeats 2000000 in
theorem read_any (s : ByteArray) (i u : Nat) (w : World) (hs : s.size ≤ 1073741824) (hu : u < 18446744073709551616) (hn : NumAt s i u) :
    Calls Tryd.prog 10 #[.string s, .int .i64 i] w fun e w' => e = .returned (.tuple #[.int .u64 u, .int .i64 (i + (decDigits u).length : Nat), .bool true]) ∧ w = w' := by
  have hf := hn.fits
  have hp := dec_ne u
  generalize hlen : (decDigits u).length = len at *
  go_enter Tryd.func10, Tryd.ntmps10
  go_wp2
  go_loop [1, 8] (fun t v => ∃ p : Nat, i ≤ p ∧ p ≤ i + len ∧ t = .int .i64 p ∧ v = .int .u64 (dval ((decDigits u).take (p - i)) : Nat)) (fun t _ => i + len - (intOf t).toNat)
  case atStart => exact ⟨i, Nat.le_refl _, by omega, rfl, by simp [dval]⟩
  case round =>
    obtain ⟨p, h1, h2, rfl, rfl⟩ := hrel
    by_cases hlt : p < i + len
    · have hps : p < s.size := by omega
      have hc : (s[p]'hps).toNat = ((decDigits u).getD (p - i) 0).toNat := by
        have := hn.here (p - i) (by omega) (by omega)
        simpa [show i + (p - i) = p by omega] using this
      have hd := dec_getD u (p - i) (by omega)
      have hst := dval_step u (p - i) (by omega)
      have hle := dval_take_le (decDigits u) (p - i + 1)
      rw [dval_dec] at hle
      rw [show p - i + 1 = p + 1 - i by omega] at hst hle
      generalize ((decDigits u).getD (p - i) 0).toNat = c at hc hd hst
      generalize dval ((decDigits u).take (p - i)) = v at hst ⊢
      have HST : Hid (dval ((decDigits u).take (p + 1 - i)) = v * 10 + (c - 48)) := hst
      have hv : v * 10 + (c - 48) ≤ u := by omega
      have hd1 := hd.1
      have hd2 := hd.2
      clear hst hle hd
      go_wp2
      go_round
      case rel => exact ⟨p + 1, by omega, by omega, by go_num, by rw [HST.out]; go_num⟩
      case measure => simp [intOf]; omega
    · have hpe : p = i + len := by omega
      have hi : i < s.size := by omega
      have hz : (s[i]'hi).toNat = ((decDigits u).getD 0 0).toNat := by
        have := hn.here 0 (by omega) (by omega)
        simpa using this
      have hz1 : len = 1 ∨ (1 < len ∧ 49 ≤ ((decDigits u).getD 0 0).toNat) := by
        by_cases h : 1 < len
        · exact .inr ⟨h, dec_head u (dec_one u (by omega))⟩
        · exact .inl (by omega)
      have hall := dval_all u
      rw [hlen] at hall
      have hval : dval ((decDigits u).take (p - i)) = u := by rw [hpe, show i + len - i = len by omega]; exact hall
      rw [hval]
      have hend : ∀ h : p < s.size, ¬ (48 ≤ (s[p]'h).toNat ∧ (s[p]'h).toNat ≤ 57) := by
        subst hpe
        have := hn.ends
        simpa [hlen] using this
      have HPE : Hid (p = i + len) := hpe
      have HLN : Hid ((decDigits u).length = len) := hlen
      generalize ((decDigits u).getD 0 0).toNat = z at hz hz1
      have hpi : ¬ p = i := by omega
      have hpi' : ((p : Int) == (i : Int)) = false := by simp; omega
      have b1 : i ≤ p := by omega
      have b2 : p ≤ 1073741824 := by omega
      have hone : z = 48 → p - i ≤ 1 := by omega
      have hone' : z = 48 → (p : Int) - (i : Int) ≤ 1 := by omega
      clear hval hall hn hlen hpe hz1 hf h1 h2
      by_cases hps : p < s.size
      · have he := hend hps
        clear hend
        obtain ⟨c, hc⟩ : ∃ c, (s[p]'hps).toNat = c := ⟨_, rfl⟩
        rw [hc] at he
        have he' : c < 48 ∨ (48 ≤ c ∧ 57 < c) := by omega
        clear he
        by_cases hz48 : z = 48
        · have ho := hone hz48
          have ho' := hone' hz48
          have hzb : ((z : Int) == 48) = true := by simp; omega
          clear hone hone' hz48
          rcases he' with he | ⟨he, he2⟩
          · go_wp2
            go_ret3
            exact ⟨ret3 rfl (by have := HPE.out; have := HLN.out; omega), rfl⟩
          · go_wp2
            go_ret3
            exact ⟨ret3 rfl (by have := HPE.out; have := HLN.out; omega), rfl⟩
        · have hzb : ((z : Int) == 48) = false := by simp; omega
          clear hone hone' hz48
          rcases he' with he | ⟨he, he2⟩
          · go_wp2
            go_ret3
            exact ⟨ret3 rfl (by have := HPE.out; have := HLN.out; omega), rfl⟩
          · go_wp2
            go_ret3
            exact ⟨ret3 rfl (by have := HPE.out; have := HLN.out; omega), rfl⟩
      · clear hend
        by_cases hz48 : z = 48
        · have ho := hone hz48
          have ho' := hone' hz48
          have hzb : ((z : Int) == 48) = true := by simp; omega
          clear hone hone' hz48
          go_wp2
          go_ret3
          exact ⟨ret3 rfl (by have := HPE.out; have := HLN.out; omega), rfl⟩
        · have hzb : ((z : Int) == 48) = false := by simp; omega
          clear hone hone' hz48
          go_wp2
          go_ret3
          exact ⟨ret3 rfl (by have := HPE.out; have := HLN.out; omega), rfl⟩
end Go.Proofs.Qxb6003390aDoor.dec
