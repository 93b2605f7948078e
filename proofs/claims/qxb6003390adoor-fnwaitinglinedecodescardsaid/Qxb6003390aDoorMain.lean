/-
  Seat b6003390aD. 'FnWaitingLineDecodes' walked: the law's call returns true.
-/
import Derived.Test.Qxb6003390aDoorParse
import Derived.WalkLawsBesides
namespace Go.Proofs.Qxb6003390aDoor.line
open Go.RowKit Go.Lib Go.Proofs.Qxb6003390aDoor.dec Go.Proofs.Qxb6003390aDoor.shelf

theorem ret_bool {a b : Bool} (h : a = b) : Ending.returned (.bool a) = .returned (.bool b) := by rw [h]

/-- The guard. -/
theorem guard_any (ad : Option Addr) (n c : Nat) (w : World) (_hm : n ≤ 9223372036854775807) :
    Calls Tryd.prog 11 #[.slice ad n c] w fun e w' => e = .returned (.bool (decide (n ≤ 1048576))) ∧ w = w' := by
  by_cases g0 : 1048576 < n
  · have H : Hid (decide (n ≤ 1048576) = false) := decide_eq_false (by omega)
    go_enter Tryd.func11, Tryd.ntmps11
    go_wp2
    go_ret
    exact ⟨ret_bool H.out.symm, rfl⟩
  · have H : Hid (decide (n ≤ 1048576) = true) := decide_eq_true (by omega)
    go_enter Tryd.func11, Tryd.ntmps11
    go_wp2
    go_ret
    exact ⟨ret_bool H.out.symm, rfl⟩

theorem word_list : (txt word).toList = [119, 97, 105, 116, 105, 110, 103] := by kernel_rfl

/-- What the law's first tests ask of the line. -/
theorem line_facts (ns : List Nat) (s : ByteArray) (hs : s = txt (body ns ++ [10])) :
    ∃ N : Nat, 7 ≤ N ∧ N = (body ns).length ∧ s.size = N + 1 ∧ (s.extract 0 7).toList = [119, 97, 105, 116, 105, 110, 103] ∧ ∀ h : N < s.size, (s[N]'h).toNat = 10 := by
  subst hs
  refine ⟨(body ns).length, body_ge ns, rfl, by rw [txt_size]; simp, ?_, fun h => last_byte ns h⟩
  rw [head_word]
  exact word_list

set_option maxHeartbeats 2000000 in
theorem main_nil (w : World) (htab : TabIs Tryd.prog w powName .u64 pow10Tab) :
    Calls Tryd.prog 5 #[.slice none 0 0] w fun e w' => e = .returned (.bool true) ∧ Below w.heap.size w w' := by
  have hG := guard_any none 0 0 w (by omega)
  rw [decide_eq_true (by omega)] at hG
  have hL := zzline_any none 0 0 [] w (isN_nil _ _) rfl (by omega) (by simp) htab
  have hnil : ∀ W, (binOp .neq 32 (.slice none 0 0) (.slice none 0 0)).run Tryd.prog W = .ok (.bool false) W := fun W => run_neq_slice_nil_any W 32 23 none 0 0 0 0 Tryd.underlying32
  obtain ⟨s, hs⟩ : ∃ s, s = txt (body [] ++ [10]) := ⟨_, rfl⟩
  change Calls _ _ _ _ (fun e w' => e = .returned (.string (txt (body [] ++ [10]))) ∧ Below w.heap.size w w') at hL
  rw [← hs] at hL
  have hsz : s.size = 8 := by rw [hs]; rfl
  obtain ⟨N, h7, hN, hsN, hx, hl⟩ := line_facts [] s hs
  have hl10 : (s[7]'(by omega)).toNat = 10 := by
    have : N = 7 := by omega
    subst this
    exact hl _
  clear hs htab hl h7 hN hsN
  go_enter Tryd.func5, Tryd.ntmps5
  go_wp2_with (first | (go_at_call 11; refine hG.mono ?_; rintro e w' ⟨rfl, rfl⟩) | (go_at_call 12; refine hL.mono ?_; rintro e w1 ⟨rfl, hb⟩))
  clear hG hL hnil
  refine wp_loop_rounds 1 ?_
  rw [rounds_succ]
  go_wp2
  go_ret
  exact ⟨rfl, hb⟩

theorem info23 : (Tryd.prog.info? 23).map (fun i => (i.zero, i.size, i.bytes)) = some (some (.int .u32 0), 1, 4) := by kernel_rfl

set_option maxHeartbeats 2000000 in
theorem main_empty (x : Addr) (c : Nat) (w : World) (htab : TabIs Tryd.prog w powName .u64 pow10Tab) :
    Calls Tryd.prog 5 #[.slice (some x) 0 c] w fun e w' => e = .returned (.bool true) ∧ Below w.heap.size w w' := by
  have hG := guard_any (some x) 0 c w (by omega)
  rw [decide_eq_true (by omega)] at hG
  have hT := tabBelow_of_tabIs htab
  have hnil : ∀ W, (binOp .neq 32 (.slice (some x) 0 c) (.slice none 0 0)).run Tryd.prog W = .ok (.bool true) W := fun W => run_neq_slice_nil_any W 32 23 (some x) 0 c 0 0 Tryd.underlying32
  obtain ⟨i0, hi, hz0, hz1, hz2⟩ := info_parts info23
  obtain ⟨s, hs⟩ : ∃ s, s = txt (body [] ++ [10]) := ⟨_, rfl⟩
  have hsz : s.size = 8 := by rw [hs]; rfl
  obtain ⟨N, h7, hN, hsN, hx, hl⟩ := line_facts [] s hs
  have hl10 : (s[7]'(by omega)).toNat = 10 := by
    have : N = 7 := by omega
    subst this
    exact hl _
  have HS : Hid (s = txt (body [] ++ [10])) := hs
  have TB : Hid (TabBelow Tryd.prog w.heap.size w powName .u64 pow10Tab) := hT
  clear hs htab hl h7 hN hsN hT
  go_enter Tryd.func5, Tryd.ntmps5
  go_wp2_with (first | (go_at_call 11; refine hG.mono ?_; rintro e w' ⟨rfl, rfl⟩) | (at_make; refine wpList_make_full _ rfl _ _ 32 rfl w.heap.size 23 i0 (.int .u32 0) 1 Tryd.underlying32 hi hz0 hz1 .i64 .i64 _ _ 0 rfl rfl rfl rfl (by omega) (by unfold maxLen; omega) (Nat.le_refl _) ?_))
  intro w1 hown1 hgrow
  have hb1 : Below w.heap.size w w1 := (Below.refl _ _).grown hgrow (Nat.le_refl _) (by simp)
  have hL := zzline_any (some ⟨w.heap.size, 0, none⟩) 0 0 [] w1 (isN_nil _ _) rfl (by omega) (by simp) ((TB.out.on hb1).here)
  change Calls _ _ _ _ (fun e w' => e = .returned (.string (txt (body [] ++ [10]))) ∧ Below w1.heap.size w1 w') at hL
  rw [← HS.out] at hL
  have hz := hb1.size
  clear hown1 hgrow hG hi hz0 hz1 hz2 HS TB
  go_wp2
  refine wp_loop_rounds 1 ?_
  rw [rounds_succ]
  go_wp2_with (go_at_call 12; refine hL.mono ?_; rintro e w2 ⟨rfl, hb⟩)
  clear hL hnil
  refine wp_loop_rounds 1 ?_
  rw [rounds_succ]
  go_wp2
  go_ret
  exact ⟨rfl, hb1.trans (hb.mono hz)⟩

/-! ### The copy -/
def N32 (u : Nat) : Value := .int .u32 (u : Int)
/-- What is copied so far: the first k numbers, then zeros. -/
def cpy (ns : List Nat) (k : Nat) : List Value := (ns.take k).map N32 ++ List.replicate (ns.length - k) (N32 0)

theorem cpy_zero (ns : List Nat) : cpy ns 0 = List.replicate ns.length (Value.int .u32 0) := by simp [cpy, N32]
theorem cpy_all (ns : List Nat) (k : Nat) (h : ns.length ≤ k) : cpy ns k = ns.map N32 := by
  simp [cpy, List.take_of_length_le h, Nat.sub_eq_zero_of_le h]
theorem cpy_set (ns : List Nat) (k : Nat) (h : k < ns.length) : (cpy ns k).set k (Value.int .u32 (ns.getD k 0 : Nat)) = cpy ns (k + 1) := by
  unfold cpy
  have e : ns.length - k = (ns.length - (k + 1)) + 1 := by omega
  rw [e, List.replicate_succ, List.set_append_right _ _ (by simp; omega)]
  have : ((ns.take k).map N32).length = k := by simp; omega
  rw [this, Nat.sub_self, List.set_cons_zero, List.take_succ_eq_append_getElem h, List.map_append, List.append_assoc]
  simp [h, N32]
theorem cpy_cell {wr : World} {B g k n : Nat} {e : TypeId} {ns : List Nat} (hn : n = ns.length) (hk : k < n) (hown : wr.ownsRow B e 1 (.slice (some ⟨g, 0, none⟩) n n) n (cpy ns k)) : wr.cell? ⟨g, k, none⟩ = some (.int .u32 0) := by
  rw [hown.cellAt k (by omega)]
  subst hn
  have e : ns.length - k = (ns.length - (k + 1)) + 1 := by omega
  unfold cpy
  rw [List.getElem?_append_right (by simp; omega), e, List.replicate_succ]
  simp [Nat.min_eq_left (Nat.le_of_lt hk), N32]
theorem cpy_step {w wr : World} {g k n : Nat} {ns : List Nat} (hn : n = ns.length) (hk : k < n) (hB : w.heap.size ≤ g) (hown : wr.ownsRow w.heap.size 23 1 (.slice (some ⟨g, 0, none⟩) n n) n (cpy ns k)) (hb : Below w.heap.size w wr) :
    (wr.setCell ⟨g, k, none⟩ (.int .u32 (ns.getD k 0 : Nat))).ownsRow w.heap.size 23 1 (.slice (some ⟨g, 0, none⟩) n n) n (cpy ns (k + 1)) ∧ Below w.heap.size w (wr.setCell ⟨g, k, none⟩ (.int .u32 (ns.getD k 0 : Nat))) := by
  have := (hown.stored k (.int .u32 (ns.getD k 0 : Nat))).1
  rw [cpy_set ns k (by omega)] at this
  exact ⟨this, hb.setCell (by exact hB) _⟩
theorem isN_own {W : World} {B g n cap : Nat} {e : TypeId} {ns : List Nat} (h : W.ownsRow B e 1 (.slice (some ⟨g, 0, none⟩) n cap) n (ns.map N32)) : ∀ j, j < ns.length → W.cell? ⟨g, 0 + j, none⟩ = some (.int .u32 (ns.getD j 0 : Nat)) := by
  intro j hj
  have hl := h.1
  simp at hl
  rw [Nat.zero_add, h.cellAt j (by omega)]
  simp [hj, N32]

theorem guard_no (ad : Option Addr) (n c : Nat) (w : World) (hm : n ≤ 9223372036854775807) (hg : ¬ n ≤ 1048576) :
    Calls Tryd.prog 5 #[.slice ad n c] w fun e w' => e = .returned (.bool true) ∧ Below w.heap.size w w' := by
  have hG := guard_any ad n c w hm
  rw [decide_eq_false hg] at hG
  go_enter Tryd.func5, Tryd.ntmps5
  go_wp2_with (go_at_call 11; refine hG.mono ?_; rintro e w' ⟨rfl, rfl⟩)
  go_ret
  exact ⟨rfl, Below.refl _ _⟩

theorem guard_long (ad : Option Addr) (n c : Nat) (w : World) (hg : n ≤ 1048576) (h : 65536 < n) :
    Calls Tryd.prog 5 #[.slice ad n c] w fun e w' => e = .returned (.bool true) ∧ Below w.heap.size w w' := by
  have hG := guard_any ad n c w (by omega)
  rw [decide_eq_true hg] at hG
  go_enter Tryd.func5, Tryd.ntmps5
  go_wp2_with (go_at_call 11; refine hG.mono ?_; rintro e w' ⟨rfl, rfl⟩)
  go_ret
  exact ⟨rfl, Below.refl _ _⟩

set_option maxHeartbeats 4000000 in
theorem main_some (b off n c : Nat) (ns : List Nat) (w : World) (hn : n = ns.length) (hc : ∀ j, j < n → w.cell? ⟨b, off + j, none⟩ = some (.int .u32 (ns.getD j 0 : Nat))) (hm : n ≤ 65536) (hlt : ∀ u ∈ ns, u < 4294967296)
    (htab : TabIs Tryd.prog w powName .u64 pow10Tab) :
    Calls Tryd.prog 5 #[.slice (some ⟨b, off, none⟩) n c] w fun e w' => e = .returned (.bool true) ∧ Below w.heap.size w w' := by
  have hG := guard_any (some ⟨b, off, none⟩) n c w (by omega)
  rw [decide_eq_true (by omega)] at hG
  have hT := tabBelow_of_tabIs htab
  have hnil : ∀ W, (binOp .neq 32 (.slice (some ⟨b, off, none⟩) n c) (.slice none 0 0)).run Tryd.prog W = .ok (.bool true) W := fun W => run_neq_slice_nil_any W 32 23 (some ⟨b, off, none⟩) n c 0 0 Tryd.underlying32
  obtain ⟨i0, hi, hz0, hz1, hz2⟩ := info_parts info23
  have NN : Hid (n = ns.length) := hn
  have LT : Hid (∀ u ∈ ns, u < 4294967296) := hlt
  have TB : Hid (TabBelow Tryd.prog w.heap.size w powName .u64 pow10Tab) := hT
  clear htab hT hn hlt
  go_enter Tryd.func5, Tryd.ntmps5
  go_wp2_with (first | (go_at_call 11; refine hG.mono ?_; rintro e w' ⟨rfl, rfl⟩) | (at_make; refine wpList_make_full _ rfl _ _ 32 rfl w.heap.size 23 i0 (.int .u32 0) 1 Tryd.underlying32 hi hz0 hz1 .i64 .i64 _ _ n rfl rfl rfl rfl (by rw [hz2]; omega) (by unfold maxLen; omega) (Nat.le_refl _) ?_))
  intro w1 hown1 hgrow
  have hb1 : Below w.heap.size w w1 := (Below.refl _ _).grown hgrow (Nat.le_refl _) (by simp)
  rw [toList_madeCells_one] at hown1
  have hown : w1.ownsRow w.heap.size 23 1 (.slice (some ⟨w.heap.size, 0, none⟩) n n) n (cpy ns 0) := by
    rw [cpy_zero, ← NN.out]; exact hown1
  clear hown1 hgrow hG hi hz0 hz1 hz2
  go_wp2
  go_loopw [4] (fun i wr => ∃ k : Nat, k ≤ n ∧ i = .int .i64 k ∧ wr.ownsRow w.heap.size 23 1 (.slice (some ⟨w.heap.size, 0, none⟩) n n) n (cpy ns k) ∧ Below w.heap.size w wr) (fun i _ => n - (RowKit.intOf i).toNat)
  case atStart => exact ⟨0, Nat.zero_le _, rfl, hown, hb1⟩
  case round =>
    obtain ⟨k, hk, rfl, hownk, hbk⟩ := hrel
    clear hown hb1
    by_cases hlt : k < n
    · have hcw := hc k hlt
      have hcx : wr.cell? ⟨b, off + k, none⟩ = some (.int .u32 (ns.getD k 0 : Nat)) := (hbk.cell (World.block_lt_of_cell? _ _ hcw)).trans hcw
      have hcy := cpy_cell NN.out hlt hownk
      have hfr := hownk.frozenAt k
      have hst := cpy_step NN.out hlt (Nat.le_refl _) hownk hbk
      clear hc hcw hownk hbk
      generalize ns.getD k 0 = z at hcx hst
      go_wp2
      go_roundw
      case rel => exact ⟨k + 1, by omega, by go_num, hst.1, hst.2⟩
      case measure => simp [RowKit.intOf]; omega
    · have hkn : cpy ns k = ns.map N32 := cpy_all _ _ (by have := NN.out; omega)
      rw [hkn] at hownk
      have hB := isN_own hownk
      have hz := hbk.size
      have hL := zzline_any (some ⟨w.heap.size, 0, none⟩) n n ns wr (fun j hj => ⟨_, _, rfl, hB j hj⟩) NN.out hm LT.out ((TB.out.on hbk).here)
      obtain ⟨s, hs⟩ : ∃ s, s = txt (body ns ++ [10]) := ⟨_, rfl⟩
      change Calls _ _ _ _ (fun e w' => e = .returned (.string (txt (body ns ++ [10]))) ∧ Below wr.heap.size wr w') at hL
      rw [← hs] at hL
      have hent : ∀ k, k < n → At s ns k (body (ns.take k)).length := fun k hk => by rw [hs]; exact at_entry ns k (by have := NN.out; omega)
      have hbl := body_len ns LT.out n (by have := NN.out; omega)
      rw [show ns.take n = ns from List.take_of_length_le (by have := NN.out; omega)] at hbl
      obtain ⟨N, h7, hN, hsN, hx, hl⟩ := line_facts ns s hs
      have hl10 : (s[N]'(by omega)).toNat = 10 := hl _
      have hNb : N ≤ 1376263 := by omega
      have EN : Hid (N = (body ns).length) := hN
      have HE : Hid (∀ k, k < n → At s ns k (body (ns.take k)).length) := hent
      clear hs hl hN hbl hent hownk hkn hc TB hnil
      go_wp2_with (go_at_call 12; refine hL.mono ?_; rintro e w2 ⟨rfl, hb⟩)
      clear hL
      have hB2 : ∀ j, j < n → w2.cell? ⟨w.heap.size, j, none⟩ = some (.int .u32 (ns.getD j 0 : Nat)) := fun j hj => by
        have h1 := hB j (by have := NN.out; omega)
        rw [Nat.zero_add] at h1
        exact (hb.cell (World.block_lt_of_cell? _ _ h1)).trans h1
      have hbel : Below w.heap.size w w2 := hbk.trans (hb.mono hz)
      have EZ : Hid ((body (ns.take 0)).length = 7) := rfl
      have EA : Hid ((body (ns.take n)).length = N) := by
        show (body (ns.take n)).length = N
        rw [show ns.take n = ns from List.take_of_length_le (by have := NN.out; omega)]; exact EN.out.symm
      have ES : Hid (∀ k, k < n → (body (ns.take (k + 1))).length = (body (ns.take k)).length + 1 + (decDigits (ns.getD k 0)).length) := fun k hk => by
        rw [body_step ns k (by have := NN.out; omega)]; simp; omega
      have EU : Hid (∀ k, k < n → ns.getD k 0 < 4294967296) := fun k hk => LT.out _ (by rw [List.getD_eq_getElem?_getD, List.getElem?_eq_getElem (by have := NN.out; omega)]; exact List.getElem_mem _)
      clear hB hb hbk hz LT EN hx hl10 hk hlt
      go_loop [6, 7] (fun t q => ∃ k i : Nat, k ≤ n ∧ q = .int .i64 k ∧ t = .int .i64 i ∧ Hid (i = (body (ns.take k)).length)) (fun _ q => n - (RowKit.intOf q).toNat)
      case atStart => exact ⟨0, 7, Nat.zero_le _, rfl, rfl, EZ.out.symm⟩
      case round =>
        obtain ⟨k, i, hk, rfl, rfl, EI⟩ := hrel
        by_cases hlt : k < n
        · have hat : At s ns k i := by have := HE.out k hlt; rw [← EI.out] at this; exact this
          have hstep := ES.out k hlt
          rw [← EI.out] at hstep
          have hu := EU.out k hlt
          have hcell := hB2 k hlt
          have hin := hat.inn
          have hsp : (s[i]'(by omega)).toNat = 32 := hat.space _
          have hnum := hat.num
          have HST : Hid ((body (ns.take (k + 1))).length = i + 1 + (decDigits (ns.getD k 0)).length) := hstep
          clear hat hstep hB2
          have hR := fun w => read_any s (i + 1) (ns.getD k 0) w (by omega) (by omega) hnum
          have hfit := hnum.fits
          clear hnum EI
          generalize ns.getD k 0 = u at hu hcell hR HST hfit
          generalize (decDigits u).length = len at hR HST hfit
          go_wp2_with (go_at_call 10; refine (hR _).mono ?_; rintro e w' ⟨rfl, rfl⟩)
          go_round
          case rel => exact ⟨k + 1, i + 1 + len, by omega, by go_num, by go_num, HST.out.symm⟩
          case measure => simp [RowKit.intOf]; omega
        · have hkn : k = n := by omega
          have hiN : i = N := by rw [EI.out, hkn]; exact EA.out
          have hd1 : ((i : Int) == (N : Int)) = true := by simp [hiN]
          have hd2 : ((k : Int) == (n : Int)) = true := by simp [hkn]
          have hge : N ≤ i := by omega
          clear hkn hiN hB2 HE ES EU EA EZ EI
          go_wp2
          go_ret
          exact ⟨rfl, hbel⟩

/-- THE LAW's CALL, FOR EVERY SLICE: true; nothing that was there has turned. -/
theorem main_any (ad : Option Addr) (n c : Nat) (ns : List Nat) (w : World) (h : IsN w ad ns) (hn : n = ns.length) (hc : ad = none → c = 0) (hm : n ≤ 9223372036854775807) (hlt : ∀ u ∈ ns, u < 4294967296)
    (htab : TabIs Tryd.prog w powName .u64 pow10Tab) :
    Calls Tryd.prog 5 #[.slice ad n c] w fun e w' => e = .returned (.bool true) ∧ Below w.heap.size w w' := by
  by_cases hg : n ≤ 1048576
  · by_cases hL : 65536 < n
    · exact guard_long ad n c w hg hL
    · by_cases h0 : n = 0
      · have hz : ns = [] := by cases ns with | nil => rfl | cons z zs => simp at hn; omega
        subst hz; subst h0
        cases ad with
        | none => rw [hc rfl]; exact main_nil w htab
        | some x => exact main_empty x c w htab
      · obtain ⟨b, off, e, hcell⟩ := h.at0 (by omega)
        subst e
        exact main_some b off n c ns w hn (fun j hj => hcell j (by omega)) (by omega) hlt htab
  · exact guard_no ad n c w hm hg
end Go.Proofs.Qxb6003390aDoor.line
