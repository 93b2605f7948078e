/-
  Seat b6003390aD. '(Stamp).String' and 'requestAfter' by contracts.
-/
import Derived.Test.Qxb6003390aDoorParse
import Derived.WalkLawsBesides
namespace Go.Proofs.Qxb6003390aDoor.line
open Go.RowKit Go.Lib Go.Proofs.Qxb6003390aDoor.dec Go.Proofs.Qxb6003390aDoor.shelf

theorem digits_le20 (u : Nat) (h : u < 18446744073709551616) : (decDigits u).length ≤ 20 := by
  rw [decDigits_length]
  by_cases h1 : 1 ≤ u
  · have := numDigits_eq u h1 h
    split at this <;> omega
  · rw [nDigits_small (by omega)]; omega

/-- The text of a stamp. -/
def stampText (t m : Nat) : List UInt8 := decDigits t ++ ([58] ++ decDigits m)

theorem ret_txt {a b : List UInt8} (h : a = b) : Ending.returned (.string ⟨a.toArray⟩) = .returned (.string (txt b)) := by rw [h]; rfl

set_option maxHeartbeats 2000000 in
theorem stamp_any (t m : Nat) (ht : t < 18446744073709551616) (hm : m < 4294967296) (w : World) (htab : TabIs Tryd.prog w powName .u64 pow10Tab) :
    Calls Tryd.prog 6 #[.agg #[.int .u64 t, .int .u32 m]] w fun e w' => e = .returned (.string (txt (stampText t m))) ∧ Below w.heap.size w w' := by
  obtain ⟨i0, hi, hz0, hz1, hz2⟩ := info_parts info5
  have hT := tabBelow_of_tabIs (tabIs_alloc htab (.cells #[.int .u64 t, .int .u32 m] 25))
  simp only [World.size_alloc] at hT
  have TB : Hid (TabBelow Tryd.prog (w.heap.size + 1) (w.alloc (.cells #[.int .u64 t, .int .u32 m] 25)) powName .u64 pow10Tab) := hT
  clear hT htab
  go_enter Tryd.func6, Tryd.ntmps6
  go_wp2_with (at_make; refine wpList_make_own _ rfl _ _ 35 rfl (w.heap.size + 1) 5 i0 (.int .u8 0) 1 Tryd.underlying35 hi hz0 hz1 .i64 .i64 _ 31 rfl rfl rfl (by omega) (by unfold maxLen; omega) (by simp) ?_)
  intro w1 hown1 hgrow
  have hb0 : Below (w.heap.size + 1) (w.alloc (.cells #[.int .u64 t, .int .u32 m] 25)) w1 := (Below.refl _ _).grown hgrow (by simp) (by simp)
  have hbw : Below w.heap.size w (w.alloc (.cells #[.int .u64 t, .int .u32 m] 25)) := (Below.refl _ _).alloc (Nat.le_refl _) _
  have hs1 := hb0.size
  simp only [World.size_alloc] at hs1
  have c0 : (w.alloc (.cells #[.int .u64 t, .int .u32 m] 25)).cell? ⟨w.heap.size, 0, none⟩ = some (.int .u64 t) := by go_simp
  have c1 : (w.alloc (.cells #[.int .u64 t, .int .u32 m] 25)).cell? ⟨w.heap.size, 1, none⟩ = some (.int .u32 m) := by go_simp
  have TW : Hid (TabBelow Tryd.prog (w.heap.size + 1) w1 powName .u64 pow10Tab) := TB.out.on hb0
  have lt := digits_le20 t ht
  have lm := digits_le20 m (by omega)
  clear TB hgrow hi hz0 hz1 hz2
  generalize w.alloc (.cells #[.int .u64 t, .int .u32 m] 25) = W0 at hb0 hbw c0 c1
  have d0 : w1.cell? ⟨w.heap.size, 0, none⟩ = some (.int .u64 t) := (hb0.cell (by simp)).trans c0
  -- the first numeral
  have hS1 := sappend (w.heap.size + 1) 0 t (by omega) (.slice (some ⟨w.heap.size + 1, 0, none⟩) 0 31) [] w1 hown1 (by omega) (by omega) TW.out.here
  clear hown1
  go_wp2_with (go_at_call 13; refine hS1.mono ?_; rintro e w2 ⟨v2, rfl, hown2, hb2⟩; refine Hid.out ?_)
  refine Lib.hid ?_
  clear hS1 d0
  rw [Nat.zero_add, List.nil_append] at hown2
  have hs2 := hb2.size
  -- the colon
  obtain ⟨v3, w3, hrun, hown3, hb3⟩ := acc_push (.inl hown2) (by omega) (by omega) 58 58 rfl
  have hs3 := hb3.size
  have hb03 : Below (w.heap.size + 1) W0 w3 := (hb0.trans hb2).trans hb3
  have d1 : w3.cell? ⟨w.heap.size, 1, none⟩ = some (.int .u32 m) := (hb03.cell (by simp)).trans c1
  have hS2 := sappend (w.heap.size + 1) _ m (by omega) v3 _ w3 hown3 (by omega) (by simp; omega) ((TW.out.on (hb2.trans hb3)).here)
  clear hown2 hown3 c0 c1
  go_wp2_with (first | (at_builtin; refine wpList_append_run 35 35 hrun rfl _ _ rfl rfl rfl rfl ?_) | (go_at_call 13; refine hS2.mono ?_; rintro e w4 ⟨v4, rfl, hown4, hb4⟩; refine Hid.out ?_))
  refine Lib.hid ?_
  clear hS2 hrun d1
  rw [← byteCells_append, ← List.length_append] at hown4
  have hbel : Below w.heap.size w w4 := hbw.trans ((hb03.trans hb4).mono (by omega))
  clear hb03 hb0 hb2 hb3 hb4 hbw TW
  obtain ⟨l, hl⟩ : ∃ l, l = decDigits t ++ [58] ++ decDigits m := ⟨_, rfl⟩
  rw [← hl] at hown4
  have hpos : 0 < l.length := by rw [hl]; simp only [List.length_append, List.length_cons, List.length_nil]; omega
  have HL : Hid (l = decDigits t ++ [58] ++ decDigits m) := hl
  clear hl
  rcases hown4.2 with ⟨-, h0⟩ | ⟨g, cap, cur, hv, -, -, -, -, -, -⟩
  · omega
  · have hcv := run_convert_bytes_back (P := Tryd.prog) w4 35 9 5 ⟨g, 0, none⟩ cap l Tryd.underlying35 Tryd.underlying5 Tryd.underlying9 (fun j hj => hown4.cells (g := g) (by rw [hv]; rfl) j _ (by simp [byteCells, hj]))
    subst hv
    clear hown4
    go_wp2
    go_ret
    exact ⟨ret_txt (by rw [HL.out, List.append_assoc]; rfl), hbel⟩

/-! ### requestAfter -/
def after : List UInt8 := [97, 102, 116, 101, 114, 32]

set_option maxHeartbeats 2000000 in
theorem req_zero (r : ByteArray) (w : World) :
    Calls Tryd.prog 14 #[.agg #[.int .u64 0, .int .u32 0], .string r] w fun e w' => e = .returned (.string r) ∧ Below w.heap.size w w' := by
  go_enter Tryd.func14, Tryd.ntmps14
  go_wp2
  go_ret
  exact ⟨rfl, (Below.refl _ _).alloc (Nat.le_refl _) _⟩

theorem txt_append (a b : List UInt8) : txt a ++ txt b = txt (a ++ b) := by
  apply ByteArray.ext
  simp [txt, ByteArray.data_append]

/-- The request's line: 'after ', the stamp, a space, the request. -/
def reqText (t m : Nat) (l : List UInt8) : List UInt8 := after ++ (stampText t m ++ ([32] ++ l))

theorem req_eq (t m : Nat) (l : List UInt8) : ((txt after ++ txt (stampText t m)) ++ txt [32]) ++ txt l = txt (reqText t m l) := by
  rw [txt_append, txt_append, txt_append]
  simp [reqText]

theorem ret_ba {a b : ByteArray} (h : a = b) : Ending.returned (.string a) = .returned (.string b) := by rw [h]

set_option maxHeartbeats 2000000 in
theorem req_some (t m : Nat) (l : List UInt8) (ht : t < 18446744073709551616) (hm : m < 4294967296) (hl : l.length ≤ 1048576) (h0 : ¬ (t = 0 ∧ m = 0)) (w : World) (htab : TabIs Tryd.prog w powName .u64 pow10Tab) :
    Calls Tryd.prog 14 #[.agg #[.int .u64 t, .int .u32 m], .string (txt l)] w fun e w' => e = .returned (.string (txt (reqText t m l))) ∧ Below w.heap.size w w' := by
  have hS := stamp_any t m ht hm (w.alloc (.cells #[.int .u64 t, .int .u32 m] 25)) (tabIs_alloc htab _)
  have hb : Below w.heap.size w (w.alloc (.cells #[.int .u64 t, .int .u32 m] 25)) := (Below.refl _ _).alloc (Nat.le_refl _) _
  have hz := hb.size
  have lt := digits_le20 t ht
  have lm := digits_le20 m (by omega)
  have s1 : (txt (stampText t m)).size ≤ 41 := by rw [txt_size]; simp [stampText]; omega
  have s2 : (txt l).size ≤ 1048576 := by rw [txt_size]; exact hl
  have s3 : (txt after).size = 6 := rfl
  have s4 : (txt [32]).size = 1 := rfl
  have E := req_eq t m l
  have HE : Hid (((txt after ++ txt (stampText t m)) ++ txt [32]) ++ txt l = txt (reqText t m l)) := E
  clear E htab
  generalize txt (stampText t m) = st at hS s1 HE
  generalize txt l = r at s2 HE ⊢
  by_cases ht0 : t = 0
  · have hm0 : ¬ m = 0 := fun e => h0 ⟨ht0, e⟩
    have b1 : ((t : Int) == 0) = true := by simp [ht0]
    have b2 : ((m : Int) == 0) = false := by simp [hm0]
    clear h0 ht0 hm0
    go_enter Tryd.func14, Tryd.ntmps14
    go_wp2_with (go_at_call 6; refine hS.mono ?_; rintro e w1 ⟨rfl, hb1⟩)
    clear hS
    go_ret
    exact ⟨ret_ba HE.out, hb.trans (hb1.mono hz)⟩
  · have b1 : ((t : Int) == 0) = false := by simp [ht0]
    clear h0 ht0
    go_enter Tryd.func14, Tryd.ntmps14
    go_wp2_with (go_at_call 6; refine hS.mono ?_; rintro e w1 ⟨rfl, hb1⟩)
    clear hS
    go_ret
    exact ⟨ret_ba HE.out, hb.trans (hb1.mono hz)⟩

/-- What comes back: the request itself at the zero stamp, else the line. -/
def reqOut (t m : Nat) (l : List UInt8) : ByteArray := if t = 0 ∧ m = 0 then txt l else txt (reqText t m l)

theorem req_any (t m : Nat) (l : List UInt8) (ht : t < 18446744073709551616) (hm : m < 4294967296) (hl : l.length ≤ 1048576) (w : World) (htab : TabIs Tryd.prog w powName .u64 pow10Tab) :
    Calls Tryd.prog 14 #[.agg #[.int .u64 t, .int .u32 m], .string (txt l)] w fun e w' => e = .returned (.string (reqOut t m l)) ∧ Below w.heap.size w w' := by
  by_cases h0 : t = 0 ∧ m = 0
  · have e : reqOut t m l = txt l := if_pos h0
    rw [e]
    obtain ⟨rfl, rfl⟩ := h0
    exact req_zero (txt l) w
  · have e : reqOut t m l = txt (reqText t m l) := if_neg h0
    rw [e]
    exact req_some t m l ht hm hl h0 w htab

set_option maxHeartbeats 2000000 in
theorem zzreq_any (t m : Nat) (l : List UInt8) (ht : t < 18446744073709551616) (hm : m < 4294967296) (hl : l.length ≤ 1048576) (w : World) (htab : TabIs Tryd.prog w powName .u64 pow10Tab) :
    Calls Tryd.prog 9 #[.agg #[.int .u64 t, .int .u32 m], .string (txt l)] w fun e w' => e = .returned (.string (reqOut t m l)) ∧ Below w.heap.size w w' := by
  have hR := req_any t m l ht hm hl (w.alloc (.cells #[.int .u64 t, .int .u32 m] 25)) (tabIs_alloc htab _)
  have hb : Below w.heap.size w (w.alloc (.cells #[.int .u64 t, .int .u32 m] 25)) := (Below.refl _ _).alloc (Nat.le_refl _) _
  have hz := hb.size
  clear htab hl
  generalize reqOut t m l = o at hR ⊢
  generalize txt l = r at hR ⊢
  go_enter Tryd.func9, Tryd.ntmps9
  go_wp2_with (go_at_call 14; refine hR.mono ?_; rintro e w1 ⟨rfl, hb1⟩)
  clear hR
  go_ret
  exact ⟨rfl, hb.trans (hb1.mono hz)⟩

/-! ### What the law's decoder meets in the line -/
structure Dec (s : ByteArray) (t m : Nat) (r : ByteArray) (i j : Nat) : Prop where
  head : (s.extract 0 6).toList = [97, 102, 116, 101, 114, 32]
  num1 : NumAt s 6 t
  i_eq : i = 6 + (decDigits t).length
  colon : ∀ h : i < s.size, (s[i]'h).toNat = 58
  num2 : NumAt s (i + 1) m
  j_eq : j = i + 1 + (decDigits m).length
  space : ∀ h : j < s.size, (s[j]'h).toNat = 32
  rest : s.extract (j + 1) s.size = r
  size : s.size = j + 1 + r.size

theorem after_list : (txt after).toList = [97, 102, 116, 101, 114, 32] := by kernel_rfl

theorem txt_extract (a b : List UInt8) (n : Nat) (h : a.length = n) : (txt (a ++ b)).extract n (txt (a ++ b)).size = txt b := by
  apply ByteArray.ext
  subst h
  simp [txt, ByteArray.data_extract, ByteArray.size]

theorem dec_of (t m : Nat) (l : List UInt8) : Dec (txt (reqText t m l)) t m (txt l) (6 + (decDigits t).length) (6 + (decDigits t).length + 1 + (decDigits m).length) := by
  have e1 : reqText t m l = after ++ (decDigits t ++ ([58] ++ decDigits m ++ [32] ++ l)) := by simp [reqText, stampText]
  have e2 : reqText t m l = (after ++ decDigits t ++ [58]) ++ (decDigits m ++ ([32] ++ l)) := by simp [reqText, stampText]
  have e3 : reqText t m l = (after ++ decDigits t ++ [58] ++ decDigits m ++ [32]) ++ l := by simp [reqText, stampText]
  have e4 : reqText t m l = (after ++ decDigits t) ++ ([58] ++ (decDigits m ++ ([32] ++ l))) := by simp [reqText, stampText]
  have e5 : reqText t m l = (after ++ decDigits t ++ [58] ++ decDigits m) ++ ([32] ++ l) := by simp [reqText, stampText]
  have la : after.length = 6 := rfl
  refine ⟨?_, ?_, rfl, ?_, ?_, rfl, ?_, ?_, ?_⟩
  · have : (txt (reqText t m l)).extract 0 6 = txt after := by
      rw [e1]
      apply ByteArray.ext
      simp [txt, after, ByteArray.data_extract]
    rw [this]; exact after_list
  · rw [e1]
    exact numAt_of after t _ (by simp)
  · intro h
    rw [txt_getD, e4, getD_right _ _ _ (by simp [la])]
    simp [la]
  · have := numAt_of (after ++ decDigits t ++ [58]) m ([32] ++ l) (by simp)
    have hl2 : (after ++ decDigits t ++ [58]).length = 6 + (decDigits t).length + 1 := by simp [la]; omega
    rw [← e2, hl2] at this
    exact this
  · intro h
    have hl5 : (after ++ decDigits t ++ [58] ++ decDigits m).length = 6 + (decDigits t).length + 1 + (decDigits m).length := by simp [la]; omega
    rw [txt_getD, e5, getD_right _ _ _ (by omega), hl5, Nat.sub_self]
    simp
  · rw [e3]
    exact txt_extract _ l _ (by simp [la]; omega)
  · rw [txt_size, txt_size, e3]
    simp [la]
    omega
end Go.Proofs.Qxb6003390aDoor.line
