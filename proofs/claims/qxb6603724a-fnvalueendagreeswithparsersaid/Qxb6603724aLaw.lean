/-
  Seat b6603724a. 'FnValueEndAgreesWithParser' walked: the law's call returns true.
-/
import Derived.Test.Qxb6603724aParse
import Derived.Test.Qxb6603724aVend
namespace Go.Proofs.Qxb6603724a.sl
open Go.RowKit

theorem guard14 (ad : Option Addr) (n c : Nat) (i : Int) (w : World) (_hm : n ≤ 9223372036854775807) :
    Calls Try.prog 14 #[.slice ad n c, .int .i64 i] w fun e w' => e = .returned (.bool (decide (n ≤ 1048576))) ∧ w = w' := by
  by_cases g0 : 1048576 < n
  · have H : Hid (decide (n ≤ 1048576) = false) := decide_eq_false (by omega)
    go_enter Try.func14, Try.ntmps14
    go_wp2
    go_ret
    exact ⟨ret_bool H.out.symm, rfl⟩
  · have H : Hid (decide (n ≤ 1048576) = true) := decide_eq_true (by omega)
    go_enter Try.func14, Try.ntmps14
    go_wp2
    go_ret
    exact ⟨ret_bool H.out.symm, rfl⟩

theorem vlaw_guard (ad : Option Addr) (n c : Nat) (i : Int) (w : World) (hm : n ≤ 9223372036854775807) (h : ¬ n ≤ 1048576 ∨ (n ≤ 1048576 ∧ i < 0) ∨ (n ≤ 1048576 ∧ 0 ≤ i ∧ (n : Int) ≤ i)) :
    Calls Try.prog 5 #[.slice ad n c, .int .i64 i] w fun e w' => e = .returned (.bool true) ∧ Below w.heap.size w w' := by
  have hG := guard14 ad n c i w hm
  rcases h with h | ⟨h, hi⟩ | ⟨h, hi, hi2⟩
  · rw [decide_eq_false h] at hG
    go_enter Try.func5, Try.ntmps5
    go_wp2_with (go_at_call 14; refine hG.mono ?_; rintro e w' ⟨rfl, rfl⟩)
    go_ret
    exact ⟨rfl, Below.refl _ _⟩
  · rw [decide_eq_true h] at hG
    go_enter Try.func5, Try.ntmps5
    go_wp2_with (go_at_call 14; refine hG.mono ?_; rintro e w' ⟨rfl, rfl⟩)
    go_ret
    exact ⟨rfl, Below.refl _ _⟩
  · rw [decide_eq_true h] at hG
    go_enter Try.func5, Try.ntmps5
    go_wp2_with (go_at_call 14; refine hG.mono ?_; rintro e w' ⟨rfl, rfl⟩)
    go_ret
    exact ⟨rfl, Below.refl _ _⟩

set_option maxHeartbeats 8000000 in
set_option maxRecDepth 100000 in
theorem vlaw_some (b off n c i : Nat) (D : List Int) (w : World) (hD : Dat w b off n D) (hi : i < n) :
    Calls Try.prog 5 #[.slice (some ⟨b, off, none⟩) n c, .int .i64 i] w fun e w' => e = .returned (.bool true) ∧ Below w.heap.size w w' := by
  have hf := hD.fits
  have hG := guard14 (some ⟨b, off, none⟩) n c i w (by omega)
  rw [decide_eq_true hf] at hG
  have hP := parse_any b off n c i D w hD hi
  have HD : Hid (Dat w b off n D) := hD
  clear hD
  go_enter Try.func5, Try.ntmps5
  go_wp2_with (go_at_call 14; refine hG.mono ?_; rintro e w' ⟨rfl, rfl⟩)
  refine hP.mono ?_
  rintro e w1 ⟨⟨q, ok, rfl, hV⟩, hb1⟩
  clear hP hG
  cases ok
  · clear hV
    go_wp2
    go_ret
    exact ⟨rfl, hb1⟩
  · have hv := hV rfl
    clear hV
    have hD1 := HD.out.step hb1
    have hq := hv.1
    have HV : Hid (VP D n i q) := hv
    have HD1 : Hid (Dat w1 b off n D) := hD1
    have hcell := hD1.cell i hi
    have hC := clone_any (some ⟨b, off, none⟩) n c D w1 (fun j hj => ⟨b, off, rfl, hD1.cell j (by have := hD1.len; omega)⟩) hD1.len (fun h => nomatch h) (by omega)
    clear hv hD1
    -- what is left, where the test lets by
    have fin : ∀ w2 (a2 : Option Addr) (c2 : Nat), IsB .u8 w2 a2 D → (D.getD i 0 ≠ 34 → ¬ isOpen (D.getD i 0) → q < n → endsSc (D.getD q 0) = true) → Calls Try.prog 17 #[.slice a2 n c2, .int .i64 i] w2 fun e w' => e = .returned (.int .i64 q) ∧ w2 = w' := by
      intro w2 a2 c2 hB he
      obtain ⟨b', off', e, hcell'⟩ := hB.at0 (by have := HD.out.len; omega)
      subst e
      exact zzve_any b' off' n c2 i q D w2 ⟨HD.out.len, fun j hj => hcell' j (by have := HD.out.len; omega), hf⟩ hi HV.out he
    have FIN : Hid (∀ w2 (a2 : Option Addr) (c2 : Nat), IsB .u8 w2 a2 D → (D.getD i 0 ≠ 34 → ¬ isOpen (D.getD i 0) → q < n → endsSc (D.getD q 0) = true) → Calls Try.prog 17 #[.slice a2 n c2, .int .i64 i] w2 fun e w' => e = .returned (.int .i64 q) ∧ w2 = w') := fin
    clear fin
    have hz := hb1.size
    by_cases x1 : D.getD i 0 = 34
    · have b1 : (D.getD i 0 != 34) = false := by rw [x1]; rfl
      have HE : Hid (D.getD i 0 ≠ 34 → ¬ isOpen (D.getD i 0) → q < n → endsSc (D.getD q 0) = true) := fun h => absurd x1 h
      clear x1
      generalize hx : D.getD i 0 = x at hcell b1
      clear hx
      go_wp2_with (first | (go_at_call 8; refine hC.mono ?_; rintro e w2 ⟨a2, c2, rfl, hB, hb2⟩) | (go_at_call 17; refine (FIN.out _ _ _ hB HE.out).mono ?_; rintro e w' ⟨rfl, rfl⟩))
      go_ret
      exact ⟨rfl, hb1.trans (hb2.mono hz)⟩
    · have b1 : (D.getD i 0 != 34) = true := by simpa using x1
      by_cases x2 : D.getD i 0 = 123
      · have b2 : (D.getD i 0 != 123) = false := by rw [x2]; rfl
        have HE : Hid (D.getD i 0 ≠ 34 → ¬ isOpen (D.getD i 0) → q < n → endsSc (D.getD q 0) = true) := fun _ h => absurd (Or.inl x2) h
        clear x1 x2
        generalize hx : D.getD i 0 = x at hcell b1 b2
        clear hx
        go_wp2_with (first | (go_at_call 8; refine hC.mono ?_; rintro e w2 ⟨a2, c2, rfl, hB, hb2⟩) | (go_at_call 17; refine (FIN.out _ _ _ hB HE.out).mono ?_; rintro e w' ⟨rfl, rfl⟩))
        go_ret
        exact ⟨rfl, hb1.trans (hb2.mono hz)⟩
      · have b2 : (D.getD i 0 != 123) = true := by simpa using x2
        by_cases x3 : D.getD i 0 = 91
        · have b3 : (D.getD i 0 != 91) = false := by rw [x3]; rfl
          have HE : Hid (D.getD i 0 ≠ 34 → ¬ isOpen (D.getD i 0) → q < n → endsSc (D.getD q 0) = true) := fun _ h => absurd (Or.inr x3) h
          clear x1 x2 x3
          generalize hx : D.getD i 0 = x at hcell b1 b2 b3
          clear hx
          go_wp2_with (first | (go_at_call 8; refine hC.mono ?_; rintro e w2 ⟨a2, c2, rfl, hB, hb2⟩) | (go_at_call 17; refine (FIN.out _ _ _ hB HE.out).mono ?_; rintro e w' ⟨rfl, rfl⟩))
          go_ret
          exact ⟨rfl, hb1.trans (hb2.mono hz)⟩
        · have b3 : (D.getD i 0 != 91) = true := by simpa using x3
          clear x1 x2 x3
          by_cases hqn : q < n
          · have hcq := HD1.out.cell q hqn
            cases hes : endsSc (D.getD q 0)
            · have hX := fun w => ends_any (D.getD q 0) w
              simp only [hes] at hX
              clear hes
              generalize hx : D.getD i 0 = x at hcell b1 b2 b3
              clear hx
              generalize hy : D.getD q 0 = y at hcq hX
              clear hy
              go_wp2_with (go_at_call 16; refine (hX _).mono ?_; rintro e w' ⟨rfl, rfl⟩)
              go_ret
              exact ⟨rfl, hb1⟩
            · have HE : Hid (D.getD i 0 ≠ 34 → ¬ isOpen (D.getD i 0) → q < n → endsSc (D.getD q 0) = true) := fun _ _ _ => hes
              have hX := fun w => ends_any (D.getD q 0) w
              simp only [hes] at hX
              clear hes
              generalize hx : D.getD i 0 = x at hcell b1 b2 b3
              clear hx
              generalize hy : D.getD q 0 = y at hcq hX
              clear hy
              go_wp2_with (first | (go_at_call 16; refine (hX _).mono ?_; rintro e w' ⟨rfl, rfl⟩) | (go_at_call 8; refine hC.mono ?_; rintro e w2 ⟨a2, c2, rfl, hB, hb2⟩) | (go_at_call 17; refine (FIN.out _ _ _ hB HE.out).mono ?_; rintro e w' ⟨rfl, rfl⟩))
              go_ret
              exact ⟨rfl, hb1.trans (hb2.mono hz)⟩
          · have HE : Hid (D.getD i 0 ≠ 34 → ¬ isOpen (D.getD i 0) → q < n → endsSc (D.getD q 0) = true) := fun _ _ h => absurd h hqn
            generalize hx : D.getD i 0 = x at hcell b1 b2 b3
            clear hx
            go_wp2_with (first | (go_at_call 8; refine hC.mono ?_; rintro e w2 ⟨a2, c2, rfl, hB, hb2⟩) | (go_at_call 17; refine (FIN.out _ _ _ hB HE.out).mono ?_; rintro e w' ⟨rfl, rfl⟩))
            go_ret
            exact ⟨rfl, hb1.trans (hb2.mono hz)⟩

/-- THE LAW's CALL: true, whatever the input. -/
theorem vlaw_any (ad : Option Addr) (n c : Nat) (i : Int) (D : List Int) (w : World) (h : IsB .u8 w ad D) (hn : n = D.length) (hm : n ≤ 9223372036854775807) :
    Calls Try.prog 5 #[.slice ad n c, .int .i64 i] w fun e w' => e = .returned (.bool true) ∧ Below w.heap.size w w' := by
  by_cases hg : n ≤ 1048576
  · by_cases hneg : i < 0
    · exact vlaw_guard ad n c i w hm (.inr (.inl ⟨hg, hneg⟩))
    · by_cases hin : (n : Int) ≤ i
      · exact vlaw_guard ad n c i w hm (.inr (.inr ⟨hg, by omega, hin⟩))
      · obtain ⟨k, rfl⟩ : ∃ k : Nat, i = k := ⟨i.toNat, by omega⟩
        obtain ⟨b, off, e, hcell⟩ := h.at0 (by omega)
        subst e
        exact vlaw_some b off n c k D w ⟨hn, fun j hj => hcell j (by omega), hg⟩ (by omega)
  · exact vlaw_guard ad n c i w hm (.inl hg)
end Go.Proofs.Qxb6603724a.sl
