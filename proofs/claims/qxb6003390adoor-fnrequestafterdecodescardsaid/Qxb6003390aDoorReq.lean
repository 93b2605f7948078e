/-
  Seat b6003390aD. 'FnRequestAfterDecodes' walked: the law's call returns true.
-/
import Derived.Test.Qxb6003390aDoorStamp
namespace Go.Proofs.Qxb6003390aDoor.line
open Go.RowKit Go.Lib Go.Proofs.Qxb6003390aDoor.dec Go.Proofs.Qxb6003390aDoor.shelf

/-- The guard. -/
theorem rguard_any (t m : Int) (r : ByteArray) (w : World) (_hr : r.size ≤ 9223372036854775807) :
    Calls Tryd.prog 8 #[.int .u64 t, .int .u32 m, .string r] w fun e w' => e = .returned (.bool (decide (r.size ≤ 1048576))) ∧ w = w' := by
  by_cases g0 : 1048576 < r.size
  · have H : Hid (decide (r.size ≤ 1048576) = false) := decide_eq_false (by omega)
    go_enter Tryd.func8, Tryd.ntmps8
    go_wp2
    go_ret
    exact ⟨congrArg (fun b => Ending.returned (.bool b)) H.out.symm, rfl⟩
  · have H : Hid (decide (r.size ≤ 1048576) = true) := decide_eq_true (by omega)
    go_enter Tryd.func8, Tryd.ntmps8
    go_wp2
    go_ret
    exact ⟨congrArg (fun b => Ending.returned (.bool b)) H.out.symm, rfl⟩

theorem rguard_no (t m : Int) (r : ByteArray) (w : World) (hr : r.size ≤ 9223372036854775807) (hg : ¬ r.size ≤ 1048576) :
    Calls Tryd.prog 4 #[.int .u64 t, .int .u32 m, .string r] w fun e w' => e = .returned (.bool true) ∧ Below w.heap.size w w' := by
  have hG := rguard_any t m r w hr
  rw [decide_eq_false hg] at hG
  go_enter Tryd.func4, Tryd.ntmps4
  go_wp2_with (go_at_call 8; refine hG.mono ?_; rintro e w' ⟨rfl, rfl⟩)
  go_ret
  exact ⟨rfl, Below.refl _ _⟩

set_option maxHeartbeats 2000000 in
theorem rmain_zero (l : List UInt8) (w : World) (hl : l.length ≤ 1048576) (htab : TabIs Tryd.prog w powName .u64 pow10Tab) :
    Calls Tryd.prog 4 #[.int .u64 0, .int .u32 0, .string (txt l)] w fun e w' => e = .returned (.bool true) ∧ Below w.heap.size w w' := by
  have hs : (txt l).size ≤ 1048576 := by rw [txt_size]; exact hl
  have hG := rguard_any 0 0 (txt l) w (by omega)
  rw [decide_eq_true hs] at hG
  have hR := zzreq_any 0 0 l (by omega) (by omega) hl w htab
  rw [show reqOut 0 0 l = txt l from if_pos ⟨rfl, rfl⟩] at hR
  clear htab hl
  generalize txt l = r at hs hG hR ⊢
  go_enter Tryd.func4, Tryd.ntmps4
  go_wp2_with (first | (go_at_call 8; refine hG.mono ?_; rintro e w' ⟨rfl, rfl⟩) | (go_at_call 9; refine hR.mono ?_; rintro e w1 ⟨rfl, hb⟩))
  go_ret
  exact ⟨rfl, hb⟩

set_option maxHeartbeats 4000000 in
theorem rmain_some (t m : Nat) (l : List UInt8) (ht : t < 18446744073709551616) (hm : m < 4294967296) (w : World) (hl : l.length ≤ 1048576) (h0 : ¬ (t = 0 ∧ m = 0)) (htab : TabIs Tryd.prog w powName .u64 pow10Tab) :
    Calls Tryd.prog 4 #[.int .u64 t, .int .u32 m, .string (txt l)] w fun e w' => e = .returned (.bool true) ∧ Below w.heap.size w w' := by
  have hs : (txt l).size ≤ 1048576 := by rw [txt_size]; exact hl
  have hG := rguard_any t m (txt l) w (by omega)
  rw [decide_eq_true hs] at hG
  have hR := zzreq_any t m l ht hm hl w htab
  rw [show reqOut t m l = txt (reqText t m l) from if_neg h0] at hR
  have hD := dec_of t m l
  have lt := digits_le20 t ht
  have lm := digits_le20 m (by omega)
  have p1 := dec_ne t
  have p2 := dec_ne m
  clear htab hl
  obtain ⟨i, j, hd⟩ : ∃ i j, Dec (txt (reqText t m l)) t m (txt l) i j := ⟨_, _, hD⟩
  clear hD
  generalize txt l = r at hs hG hR hd ⊢
  generalize txt (reqText t m l) = s at hR hd
  have hi := hd.i_eq
  have hj := hd.j_eq
  have hsz := hd.size
  have hin : i < s.size := by omega
  have hjn : j < s.size := by omega
  have hss : s.size ≤ 2000000 := by omega
  have hc : (s[i]'hin).toNat = 58 := hd.colon _
  have hsp : (s[j]'hjn).toNat = 32 := hd.space _
  have hR1 := fun w => read_any s 6 t w (by omega) ht hd.num1
  have hR2 := fun w => read_any s (i + 1) m w (by omega) (by omega) hd.num2
  rw [← hi] at hR1
  rw [← hj] at hR2
  have hx := hd.head
  have hrest := hd.rest
  have hb1 : i ≤ 26 := by omega
  have hb2 : i < j := by omega
  have hb3 : j ≤ 47 := by omega
  have hb4 : 6 < i := by omega
  clear hd hi hj lt lm p1 p2 hsz
  have hcase : ((t : Int) == 0) = false ∨ (((t : Int) == 0) = true ∧ ((m : Int) == 0) = false) := by
    by_cases ht0 : t = 0
    · exact .inr ⟨by simp [ht0], by simp; exact fun e => h0 ⟨ht0, e⟩⟩
    · exact .inl (by simp [ht0])
  clear h0
  rcases hcase with b1 | ⟨b1, b2⟩
  · go_enter Tryd.func4, Tryd.ntmps4
    go_wp2_with (first | (go_at_call 8; refine hG.mono ?_; rintro e w' ⟨rfl, rfl⟩) | (go_at_call 9; refine hR.mono ?_; rintro e w1 ⟨rfl, hb⟩) | (go_at_call_of 10 (Value.int .i64 6); refine (hR1 _).mono ?_; rintro e w' ⟨rfl, rfl⟩) | (go_at_call 10; refine (hR2 _).mono ?_; rintro e w' ⟨rfl, rfl⟩))
    go_ret
    exact ⟨rfl, hb⟩
  · go_enter Tryd.func4, Tryd.ntmps4
    go_wp2_with (first | (go_at_call 8; refine hG.mono ?_; rintro e w' ⟨rfl, rfl⟩) | (go_at_call 9; refine hR.mono ?_; rintro e w1 ⟨rfl, hb⟩) | (go_at_call_of 10 (Value.int .i64 6); refine (hR1 _).mono ?_; rintro e w' ⟨rfl, rfl⟩) | (go_at_call 10; refine (hR2 _).mono ?_; rintro e w' ⟨rfl, rfl⟩))
    go_ret
    exact ⟨rfl, hb⟩

/-- THE LAW's CALL, FOR EVERY STAMP AND EVERY REQUEST: true; nothing that was there has turned. -/
theorem rmain_any (t m : Nat) (l : List UInt8) (ht : t < 18446744073709551616) (hm : m < 4294967296) (w : World) (hl : l.length ≤ 9223372036854775807) (htab : TabIs Tryd.prog w powName .u64 pow10Tab) :
    Calls Tryd.prog 4 #[.int .u64 t, .int .u32 m, .string (txt l)] w fun e w' => e = .returned (.bool true) ∧ Below w.heap.size w w' := by
  by_cases hg : l.length ≤ 1048576
  · by_cases h0 : t = 0 ∧ m = 0
    · obtain ⟨rfl, rfl⟩ := h0
      exact rmain_zero l w hg htab
    · exact rmain_some t m l ht hm w hg h0 htab
  · exact rguard_no t m (txt l) w (by rw [txt_size]; exact hl) (by rw [txt_size]; exact hg)
end Go.Proofs.Qxb6003390aDoor.line
