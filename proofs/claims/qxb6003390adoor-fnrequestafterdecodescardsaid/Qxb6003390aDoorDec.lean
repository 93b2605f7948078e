/-
  Seat b6003390aD. Plain mathematics on decimal numerals: no Go in sight.
-/
import Derived.Lib.ItoaNum
namespace Go.Proofs.Qxb6003390aDoor.dec
open Go.Lib

/-- The number that a row of digits writes. -/
def dval (l : List UInt8) : Nat := l.foldl (fun a c => a * 10 + (c.toNat - 48)) 0

theorem dval_snoc (l : List UInt8) (c : UInt8) : dval (l ++ [c]) = dval l * 10 + (c.toNat - 48) := by simp [dval, List.foldl_append]

theorem dval_nil : dval [] = 0 := rfl

theorem dig_nat (n : Nat) (h : n < 10) : (UInt8.ofNat (48 + n)).toNat = 48 + n := by
  rw [UInt8.toNat_ofNat']
  omega

theorem decDigits_big {u : Nat} (h : ¬ u < 10) : decDigits u = decDigits (u / 10) ++ [UInt8.ofNat (48 + u % 10)] := by rw [decDigits, dif_neg h]

theorem dval_dec (u : Nat) : dval (decDigits u) = u := by
  induction u using Nat.strongRecOn with
  | ind u ih =>
    by_cases h : u < 10
    · rw [decDigits_one h]
      simp [dval]
      omega
    · rw [decDigits_big h, dval_snoc, ih (u / 10) (by omega), dig_nat _ (by omega)]
      omega

theorem dec_digit (u : Nat) : ∀ c ∈ decDigits u, 48 ≤ c.toNat ∧ c.toNat ≤ 57 := by
  induction u using Nat.strongRecOn with
  | ind u ih =>
    by_cases h : u < 10
    · rw [decDigits_one h]
      intro c hc
      rw [List.mem_singleton] at hc
      subst hc
      rw [dig_nat u h]; omega
    · rw [decDigits_big h]
      intro c hc
      rw [List.mem_append] at hc
      rcases hc with hc | hc
      · exact ih (u / 10) (by omega) c hc
      · rw [List.mem_singleton] at hc
        subst hc
        rw [dig_nat _ (by omega)]; omega

theorem dec_ne (u : Nat) : 0 < (decDigits u).length := by rw [decDigits_length]; exact nDigits_pos u

/-- No leading zero but in '0' itself. -/
theorem dec_head (u : Nat) (h : 10 ≤ u) : 49 ≤ ((decDigits u).getD 0 0).toNat := by
  induction u using Nat.strongRecOn with
  | ind u ih =>
    rw [decDigits_big (by omega)]
    by_cases h1 : u / 10 < 10
    · rw [decDigits_one h1]
      have := dig_nat (u / 10) h1
      simp only [List.cons_append, List.nil_append, List.getD_cons_zero]
      rw [this]; omega
    · have := ih (u / 10) (by omega) (by omega)
      have hl := dec_ne (u / 10)
      rw [List.getD_eq_getElem?_getD, List.getElem?_append_left hl, ← List.getD_eq_getElem?_getD]
      exact this

theorem dec_one (u : Nat) (h : 1 < (decDigits u).length) : 10 ≤ u := by
  by_cases h1 : u < 10
  · rw [decDigits_one h1] at h; simp at h
  · omega

theorem foldl_ge (l : List UInt8) (a : Nat) : a ≤ l.foldl (fun a c => a * 10 + (c.toNat - 48)) a := by
  induction l generalizing a with
  | nil => exact Nat.le_refl _
  | cons c l ih =>
    simp only [List.foldl_cons]
    have := ih (a * 10 + (c.toNat - 48))
    omega

theorem dval_take_le (l : List UInt8) (j : Nat) : dval (l.take j) ≤ dval l := by
  have h : dval l = (l.drop j).foldl (fun a c => a * 10 + (c.toNat - 48)) (dval (l.take j)) := by
    show _ = (l.drop j).foldl _ ((l.take j).foldl _ 0)
    rw [← List.foldl_append, List.take_append_drop]
    rfl
  rw [h]
  exact foldl_ge _ _

theorem dval_step (u j : Nat) (h : j < (decDigits u).length) : dval ((decDigits u).take (j + 1)) = dval ((decDigits u).take j) * 10 + (((decDigits u).getD j 0).toNat - 48) := by
  rw [List.take_succ_eq_append_getElem h, dval_snoc]
  simp [h]

theorem dval_all (u : Nat) : dval ((decDigits u).take (decDigits u).length) = u := by rw [List.take_length, dval_dec]

theorem dec_getD (u j : Nat) (h : j < (decDigits u).length) : 48 ≤ ((decDigits u).getD j 0).toNat ∧ ((decDigits u).getD j 0).toNat ≤ 57 := by
  apply dec_digit u
  rw [List.getD_eq_getElem?_getD, List.getElem?_eq_getElem h]
  exact List.getElem_mem h
end Go.Proofs.Qxb6003390aDoor.dec
