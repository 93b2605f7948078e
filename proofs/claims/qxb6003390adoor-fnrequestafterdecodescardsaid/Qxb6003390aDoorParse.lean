/-
  Seat b6003390aD. The plain facts on the line that 'waitingLine' writes, as the independent parser meets them.
-/
import Derived.Test.Qxb6003390aDoorRead
import Derived.Test.Qxb6003390aDoorLine
namespace Go.Proofs.Qxb6003390aDoor.line
open Go.RowKit Go.Lib Go.Proofs.Qxb6003390aDoor.dec

/-- The text of a list of bytes. -/
def txt (l : List UInt8) : ByteArray := ⟨l.toArray⟩
theorem txt_size (l : List UInt8) : (txt l).size = l.length := by simp [txt, ByteArray.size]
theorem txt_get (l : List UInt8) (i : Nat) (h : i < (txt l).size) : (txt l)[i]'h = l[i]'(by rw [txt_size] at h; exact h) := rfl
theorem txt_getD (l : List UInt8) (i : Nat) (h : i < (txt l).size) : (txt l)[i]'h = l.getD i 0 := by
  rw [txt_get]
  rw [txt_size] at h
  simp [h]

theorem getD_right (a b : List UInt8) (i : Nat) (h : a.length ≤ i) : (a ++ b).getD i 0 = b.getD (i - a.length) 0 := by
  simp [List.getD_eq_getElem?_getD, List.getElem?_append_right h]
theorem getD_left (a b : List UInt8) (i : Nat) (h : i < a.length) : (a ++ b).getD i 0 = a.getD i 0 := by
  simp [List.getD_eq_getElem?_getD, List.getElem?_append_left h]

/-- A numeral between two texts, the second of which opens with no digit. -/
theorem numAt_of (pre : List UInt8) (u : Nat) (rest : List UInt8) (hr : ¬ (48 ≤ (rest.getD 0 0).toNat ∧ (rest.getD 0 0).toNat ≤ 57)) : NumAt (txt (pre ++ (decDigits u ++ rest))) pre.length u := by
  refine ⟨?_, ?_, ?_⟩
  · rw [txt_size]; simp
  · intro j hj h
    rw [txt_getD, getD_right _ _ _ (by omega), getD_left _ _ _ (by omega)]
    simp
  · intro h
    rw [txt_getD, getD_right _ _ _ (by omega), getD_right _ _ _ (by omega)]
    simpa using hr

/-- What the parser meets at entry k: a space, the numeral, and the next place. -/
structure At (s : ByteArray) (ns : List Nat) (k i : Nat) : Prop where
  inn : i + 1 < s.size
  space : ∀ h : i < s.size, (s[i]'h).toNat = 32
  num : NumAt s (i + 1) (ns.getD k 0)

theorem body_split (ns : List Nat) (k : Nat) (h : k < ns.length) : body ns ++ [10] = body (ns.take k) ++ ([32] ++ (decDigits (ns.getD k 0) ++ ((ns.drop (k + 1)).flatMap entry ++ [10]))) := by
  have e : ns = ns.take k ++ (ns.getD k 0 :: ns.drop (k + 1)) := by
    have : ns.drop k = ns.getD k 0 :: ns.drop (k + 1) := by rw [List.drop_eq_getElem_cons h]; simp [h]
    rw [← this, List.take_append_drop]
  have e2 : body ns = body (ns.take k) ++ ([32] ++ (decDigits (ns.getD k 0) ++ (ns.drop (k + 1)).flatMap entry)) := by
    have h2 : body ns = word ++ (ns.take k ++ (ns.getD k 0 :: ns.drop (k + 1))).flatMap entry := by rw [← e]; rfl
    rw [h2, List.flatMap_append, List.flatMap_cons]
    simp [body, entry]
  rw [e2]
  simp

theorem at_entry (ns : List Nat) (k : Nat) (h : k < ns.length) : At (txt (body ns ++ [10])) ns k (body (ns.take k)).length := by
  have hs := body_split ns k h
  refine ⟨?_, ?_, ?_⟩
  · rw [txt_size, hs]; simp; omega
  · intro h'
    rw [txt_getD, hs, getD_right _ _ _ (Nat.le_refl _)]
    simp
  · rw [hs, ← List.append_assoc]
    have := numAt_of (body (ns.take k) ++ [32]) (ns.getD k 0) ((ns.drop (k + 1)).flatMap entry ++ [10]) (by
      cases hd : ns.drop (k + 1) with
      | nil => simp
      | cons a t => simp [entry])
    simpa using this

theorem body_ge (ns : List Nat) : 7 ≤ (body ns).length := by simp [body, word]

theorem last_byte (ns : List Nat) (h : (body ns).length < (txt (body ns ++ [10])).size) : ((txt (body ns ++ [10]))[(body ns).length]'h).toNat = 10 := by
  rw [txt_getD, getD_right _ _ _ (Nat.le_refl _)]
  simp

theorem head_word (ns : List Nat) : (txt (body ns ++ [10])).extract 0 7 = txt word := by
  have : body ns ++ [10] = word ++ (ns.flatMap entry ++ [10]) := by simp [body]
  rw [this]
  apply ByteArray.ext
  simp [txt, word, ByteArray.data_extract]
end Go.Proofs.Qxb6003390aDoor.line
