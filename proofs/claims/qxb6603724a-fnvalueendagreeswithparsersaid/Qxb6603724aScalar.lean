/-
  Seat b6603724a. 'rjb1Word', 'rjb1Scalar', 'rjb1Key' by contracts.
-/
import Derived.Test.Qxb6603724aNum
namespace Go.Proofs.Qxb6603724a.sl
open Go.RowKit

theorem Dat.drewN {w : World} {b off n : Nat} {D : List Int} (h : Dat w b off n D) (k : Nat) : Dat (w.drewN k) b off n D := ⟨h.len, h.cell, h.fits⟩
theorem drew2 (w : World) (n m : Nat) : ∃ q, (w.drewN n).drewN m = w.drewN q := ⟨_, World.drewN_drewN _ _ _⟩

set_option maxHeartbeats 2000000 in
theorem word_any (b off n c p : Nat) (D : List Int) (s : ByteArray) (w : World) (hD : Dat w b off n D) (hp : p < n) (hs : ∀ i (h : i < s.size), plain ((s[i]'h).toNat : Int)) (h0 : 0 < s.size) (h10 : s.size ≤ 10) :
    Calls Try.prog 24 #[.slice (some ⟨b, off, none⟩) n c, .int .i64 p, .string s] w fun r w' => Says (fun q => p < q ∧ q ≤ n ∧ Plain D p q) r ∧ ∃ k, w' = w.drewN k := by
  have hf := hD.fits
  have HC : Hid (∀ j, j < n → w.cell? ⟨b, off + j, none⟩ = some (.int .u8 (D.getD j 0))) := hD.cell
  have HS : Hid (∀ i (h : i < s.size), plain ((s[i]'h).toNat : Int)) := hs
  clear hD hs
  by_cases hfit : p + s.size ≤ n
  · go_enter Try.func24, Try.ntmps24
    go_wp2
    go_loopw [8] (fun t wr => ∃ k : Nat, k ≤ s.size ∧ t = .int .i64 k ∧ Hid (Plain D p (p + k)) ∧ ∃ m, wr = w.drewN m) (fun t _ => s.size - (intOf t).toNat)
    case atStart => exact ⟨0, Nat.zero_le _, rfl, Plain.nil D p, 0, rfl⟩
    case round =>
      obtain ⟨k, hk, rfl, hP, m, rfl⟩ := hrel
      by_cases hlt : k < s.size
      · have hcell := HC.out (p + k) (by omega)
        have hpl := HS.out k hlt
        obtain ⟨x, hx⟩ : ∃ x, D.getD (p + k) 0 = x := ⟨_, rfl⟩
        rw [hx] at hcell
        obtain ⟨y, hy⟩ : ∃ y, (s[k]'hlt).toNat = y := ⟨_, rfl⟩
        rw [hy] at hpl
        have b0 : (0 : Int) ≤ (p : Int) + (k : Int) := by omega
        have b1 : (p : Int) + (k : Int) < (n : Int) := by omega
        have b2 : (0 : Int) ≤ (k : Int) := by omega
        have b3 : (k : Int) < (s.size : Int) := by omega
        have HX : Hid (D.getD (p + k) 0 = x) := hx
        have HPL : Hid (plain (y : Int)) := hpl
        clear hx hpl
        by_cases hxy : x = (y : Int)
        · have hd : (x != (y : Int)) = false := by simp [hxy]
          have H : Hid (Plain D p (p + (k + 1))) := hP.out.snoc (by rw [HX.out, hxy]; exact HPL.out)
          clear hxy HPL HX
          go_wp2
          go_quiet (fail)
          go_wp2
          go_roundw
          case rel => exact ⟨k + 1, by omega, by go_num, H.out, _, rfl⟩
          case measure => simp [intOf]; omega
        · have hd : (x != (y : Int)) = true := by simp [hxy]
          clear hxy HPL HX
          go_wp2
          go_quiet (fail)
          go_wp2
          go_ret2
          exact ⟨says_no _, drew2 _ _ _⟩
      · have e : Hid (k = s.size) := (by omega : k = s.size)
        go_wp2
        go_ret2
        exact ⟨says_yes (q := p + s.size) (by go_num) ⟨by omega, hfit, by have := hP.out; rw [e.out] at this; exact this⟩, m, rfl⟩
  · go_enter Try.func24, Try.ntmps24
    go_wp2
    go_ret2
    exact ⟨says_no _, 0, rfl⟩

theorem plain_lit (l : List UInt8) (h : ∀ c ∈ l, plain (c.toNat : Int)) : ∀ i (hi : i < (⟨l.toArray⟩ : ByteArray).size), plain (((⟨l.toArray⟩ : ByteArray)[i]'hi).toNat : Int) := by
  intro i hi
  have hi' : i < l.length := by simpa [ByteArray.size] using hi
  have : (⟨l.toArray⟩ : ByteArray)[i]'hi = l[i]'hi' := rfl
  rw [this]
  exact h _ (List.getElem_mem _)

/-- What a scalar that was read is. -/
def IsScalar (D : List Int) (n p q : Nat) : Prop := p < q ∧ q ≤ n ∧ ((D.getD p 0 = 34 ∧ St D (p + 1) q) ∨ (D.getD p 0 ≠ 34 ∧ Plain D p q))

theorem says_map {P Q : Nat → Prop} {e : Ending} (h : Says P e) (f : ∀ q, P q → Q q) : Says Q e := by
  obtain ⟨q, ok, he, hP⟩ := h
  exact ⟨q, ok, he, fun ho => f q (hP ho)⟩

set_option maxHeartbeats 2000000 in
theorem scalar_any (b off n c p : Nat) (D : List Int) (w : World) (hD : Dat w b off n D) (hp : p < n) :
    Calls Try.prog 21 #[.slice (some ⟨b, off, none⟩) n c, .int .i64 p] w fun r w' => Says (IsScalar D n p) r ∧ ∃ k, w' = w.drewN k := by
  have hl := hD.len
  have hf := hD.fits
  have hcell := hD.cell p hp
  have hStr := string_any b off n c p D w hD hp
  have hNum := number_any b off n c p D w hD hp
  have hT := word_any b off n c p D ⟨#[116, 114, 117, 101]⟩ w hD hp (plain_lit [116, 114, 117, 101] (by intro c hc; simp at hc; rcases hc with rfl | rfl | rfl | rfl <;> unfold plain <;> decide)) (by decide) (by decide)
  have hF := word_any b off n c p D ⟨#[102, 97, 108, 115, 101]⟩ w hD hp (plain_lit [102, 97, 108, 115, 101] (by intro c hc; simp at hc; rcases hc with rfl | rfl | rfl | rfl | rfl <;> unfold plain <;> decide)) (by decide) (by decide)
  have hN := word_any b off n c p D ⟨#[110, 117, 108, 108]⟩ w hD hp (plain_lit [110, 117, 108, 108] (by intro c hc; simp at hc; rcases hc with rfl | rfl | rfl <;> unfold plain <;> decide)) (by decide) (by decide)
  clear hD
  by_cases x1 : D.getD p 0 = 34
  · have b1 : (D.getD p 0 == 34) = true := by rw [x1]; rfl
    have HY : Hid (∀ q, St D (p + 1) q → IsScalar D n p q) := fun q hq => ⟨by have := hq.bounds; omega, by have := hq.bounds; omega, .inl ⟨x1, hq⟩⟩
    clear x1 hNum hT hF hN hl
    generalize D.getD p 0 = x at hcell b1
    go_enter Try.func21, Try.ntmps21
    go_wp2_with (go_at_call 23; refine hStr.mono ?_; rintro e w' ⟨⟨q, ok, rfl, hP⟩, rfl⟩)
    go_ret2
    exact ⟨⟨q, ok, rfl, fun h => HY.out q (hP h)⟩, 0, rfl⟩
  · have b1 : (D.getD p 0 == 34) = false := by simpa using x1
    have HY : Hid (∀ q, (p < q ∧ q ≤ n ∧ Plain D p q) → IsScalar D n p q) := fun q hq => ⟨hq.1, hq.2.1, .inr ⟨x1, hq.2.2⟩⟩
    clear x1 hStr hl
    generalize D.getD p 0 = x at hcell b1
    by_cases x2 : x = 116
    · have b2 : (x == 116) = true := by simp [x2]
      clear x2 hNum hF hN
      go_enter Try.func21, Try.ntmps21
      go_wp2_with (go_at_call 24; refine hT.mono ?_; rintro e w' ⟨⟨q, ok, rfl, hP⟩, k, rfl⟩)
      go_ret2
      exact ⟨⟨q, ok, rfl, fun h => HY.out q (hP h)⟩, k, rfl⟩
    · have b2 : (x == 116) = false := by simp [x2]
      by_cases x3 : x = 102
      · have b3 : (x == 102) = true := by simp [x3]
        clear x2 x3 hNum hT hN
        go_enter Try.func21, Try.ntmps21
        go_wp2_with (go_at_call 24; refine hF.mono ?_; rintro e w' ⟨⟨q, ok, rfl, hP⟩, k, rfl⟩)
        go_ret2
        exact ⟨⟨q, ok, rfl, fun h => HY.out q (hP h)⟩, k, rfl⟩
      · have b3 : (x == 102) = false := by simp [x3]
        by_cases x4 : x = 110
        · have b4 : (x == 110) = true := by simp [x4]
          clear x2 x3 x4 hNum hT hF
          go_enter Try.func21, Try.ntmps21
          go_wp2_with (go_at_call 24; refine hN.mono ?_; rintro e w' ⟨⟨q, ok, rfl, hP⟩, k, rfl⟩)
          go_ret2
          exact ⟨⟨q, ok, rfl, fun h => HY.out q (hP h)⟩, k, rfl⟩
        · have b4 : (x == 110) = false := by simp [x4]
          clear x2 x3 x4 hN hT hF
          go_enter Try.func21, Try.ntmps21
          go_wp2_with (go_at_call 25; refine hNum.mono ?_; rintro e w' ⟨⟨q, ok, rfl, hP⟩, rfl⟩)
          go_ret2
          exact ⟨⟨q, ok, rfl, fun h => HY.out q (hP h)⟩, 0, rfl⟩

end Go.Proofs.Qxb6603724a.sl
