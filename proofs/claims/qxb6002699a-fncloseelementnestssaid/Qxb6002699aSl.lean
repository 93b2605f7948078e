/-
  Seat b6002699a. Slices of bytes as lists of numbers; 'zzCopyBytes' by a contract.
-/
import Derived.Test.Qxb6002699aRows
import Derived.WalkKit
import Derived.WalkSpells
import Derived.Deep.QuietTactic
import Derived.BigQuiet
namespace Go.Proofs.Qxb6002699a.sl
open Go.RowKit

/-- The slice at 'ad' reads as the numbers zs: each element's cell holds its number. (No element: nothing is said of the address.) -/
def IsB (k : IntKind) (W : World) (ad : Option Addr) (zs : List Int) : Prop :=
  ∀ j, j < zs.length → ∃ b off, ad = some ⟨b, off, none⟩ ∧ W.cell? ⟨b, off + j, none⟩ = some (.int k (zs.getD j 0))

theorem IsB.step {k : IntKind} {W W' : World} {ad : Option Addr} {zs : List Int} (h : IsB k W ad zs) (hb : Below W.heap.size W W') : IsB k W' ad zs := by
  intro j hj
  obtain ⟨b, off, e, hc⟩ := h j hj
  exact ⟨b, off, e, (hb.cell (World.block_lt_of_cell? _ _ hc)).trans hc⟩

theorem IsB.drewN {k : IntKind} {W : World} {ad : Option Addr} {zs : List Int} (h : IsB k W ad zs) (n : Nat) : IsB k (W.drewN n) ad zs := h

theorem IsB.at0 {k : IntKind} {W : World} {ad : Option Addr} {zs : List Int} (h : IsB k W ad zs) (h0 : 0 < zs.length) :
    ∃ b off, ad = some ⟨b, off, none⟩ ∧ ∀ j, j < zs.length → W.cell? ⟨b, off + j, none⟩ = some (.int k (zs.getD j 0)) := by
  obtain ⟨b, off, e, _⟩ := h 0 h0
  refine ⟨b, off, e, fun j hj => ?_⟩
  obtain ⟨b', off', e', hc⟩ := h j hj
  rw [e] at e'
  cases e'
  exact hc

theorem IsB.nil {k : IntKind} {W : World} {zs : List Int} (h : IsB k W none zs) : zs = [] := by
  cases zs with
  | nil => rfl
  | cons z zs =>
    obtain ⟨b, off, e, _⟩ := h 0 (by simp)
    cases e

theorem isB_nil (k : IntKind) (W : World) (ad : Option Addr) : IsB k W ad [] := fun j hj => absurd hj (by simp)

theorem isB_row {k : IntKind} {W : World} {b off : Nat} {zs : List Int} (h : ∀ j, j < zs.length → W.cell? ⟨b, off + j, none⟩ = some (.int k (zs.getD j 0))) : IsB k W (some ⟨b, off, none⟩) zs :=
  fun j hj => ⟨b, off, rfl, h j hj⟩

/-- Out of a row that the call owns. -/
theorem isB_own {k : IntKind} {W : World} {B g n cap : Nat} {e : TypeId} {zs : List Int} (h : W.ownsRow B e 1 (.slice (some ⟨g, 0, none⟩) n cap) n (zs.map (Value.int k))) : IsB k W (some ⟨g, 0, none⟩) zs := by
  have hl := h.1
  simp at hl
  refine isB_row fun j hj => ?_
  have := h.cellAt j (by omega)
  rw [Nat.zero_add, this]
  simp [hj]

/-- What is copied so far: the first k numbers, then zeros. -/
def cpy (kd : IntKind) (zs : List Int) (k : Nat) : List Value := (zs.take k).map (Value.int kd) ++ List.replicate (zs.length - k) (Value.int kd 0)

theorem cpy_zero (kd : IntKind) (zs : List Int) : cpy kd zs 0 = List.replicate zs.length (Value.int kd 0) := by simp [cpy]
theorem cpy_all (kd : IntKind) (zs : List Int) (k : Nat) (h : zs.length ≤ k) : cpy kd zs k = zs.map (Value.int kd) := by
  simp [cpy, List.take_of_length_le h, Nat.sub_eq_zero_of_le h]
theorem cpy_set (kd : IntKind) (zs : List Int) (k : Nat) (h : k < zs.length) : (cpy kd zs k).set k (Value.int kd (zs.getD k 0)) = cpy kd zs (k + 1) := by
  unfold cpy
  have e : zs.length - k = (zs.length - (k + 1)) + 1 := by omega
  rw [e, List.replicate_succ, List.set_append_right _ _ (by simp; omega)]
  have : ((zs.take k).map (Value.int kd)).length = k := by simp; omega
  rw [this, Nat.sub_self, List.set_cons_zero, List.take_succ_eq_append_getElem h, List.map_append, List.append_assoc]
  simp [h]

theorem Try.info5 : (Try.prog.info? 5).map (fun i => (i.zero, i.size, i.bytes)) = some (some (.int .u8 0), 1, 1) := by kernel_rfl

/-- One round's store. -/
theorem clone_step {w wr : World} {g k n : Nat} {zs : List Int} (hn : n = zs.length) (hk : k < n) (hB : w.heap.size ≤ g) (hown : wr.ownsRow w.heap.size 5 1 (.slice (some ⟨g, 0, none⟩) n n) n (cpy .u8 zs k)) (hb : Below w.heap.size w wr) :
    (wr.setCell ⟨g, k, none⟩ (.int .u8 (zs.getD k 0))).ownsRow w.heap.size 5 1 (.slice (some ⟨g, 0, none⟩) n n) n (cpy .u8 zs (k + 1)) ∧ Below w.heap.size w (wr.setCell ⟨g, k, none⟩ (.int .u8 (zs.getD k 0))) := by
  have := (hown.stored k (.int .u8 (zs.getD k 0))).1
  rw [cpy_set .u8 zs k (by omega)] at this
  exact ⟨this, hb.setCell (by exact hB) _⟩

theorem cpy_cell {wr : World} {B g k n : Nat} {e : TypeId} {kd : IntKind} {zs : List Int} (hn : n = zs.length) (hk : k < n) (hown : wr.ownsRow B e 1 (.slice (some ⟨g, 0, none⟩) n n) n (cpy kd zs k)) : wr.cell? ⟨g, k, none⟩ = some (.int kd 0) := by
  rw [hown.cellAt k (by omega)]
  subst hn
  have e : zs.length - k = (zs.length - (k + 1)) + 1 := by omega
  unfold cpy
  rw [List.getElem?_append_right (by simp; omega)]
  rw [e, List.replicate_succ]
  simp [Nat.min_eq_left (Nat.le_of_lt hk)]

set_option maxHeartbeats 1000000 in
theorem clone_some (b off n c : Nat) (zs : List Int) (w : World) (hn : n = zs.length) (h : ∀ j, j < n → w.cell? ⟨b, off + j, none⟩ = some (.int .u8 (zs.getD j 0))) (hm : n ≤ 1073741824) :
    Calls Try.prog 16 #[.slice (some ⟨b, off, none⟩) n c] w fun e w' => ∃ ad c', e = .returned (.slice ad n c') ∧ (ad = none → c' = 0) ∧ IsB .u8 w' ad zs ∧ Below w.heap.size w w' := by
  have hnil : ∀ W, (binOp .eql 26 (.slice (some ⟨b, off, none⟩) n c) (.slice none 0 0)).run Try.prog W = .ok (.bool false) W := fun W => Lib.run_eql_slice_nil W 26 5 _ n c 0 0 Try.underlying26
  obtain ⟨i0, hi, hz0, hz1, hz2⟩ := info_parts Try.info5
  have hN : Hid (n = zs.length) := hn
  clear hn
  go_enter Try.func16, Try.ntmps16
  go_wp2_with (at_make; refine wpList_make_full _ rfl _ _ 26 rfl w.heap.size 5 i0 (.int .u8 0) 1 Try.underlying26 hi hz0 hz1 .i64 .i64 _ _ n rfl rfl rfl rfl (by rw [hz2]; omega) (by unfold maxLen; omega) (Nat.le_refl _) ?_)
  intro w1 hown1 hgrow
  have hs1 := hgrow.size
  have hb1 : Below w.heap.size w w1 := (Below.refl _ _).grown hgrow (Nat.le_refl _) (by simp)
  rw [toList_madeCells_one] at hown1
  have hown : w1.ownsRow w.heap.size 5 1 (.slice (some ⟨w.heap.size, 0, none⟩) n n) n (cpy .u8 zs 0) := by
    rw [cpy_zero, ← hN.out]; exact hown1
  clear hown1 hgrow hi hz0 hz1 hz2
  go_wp2
  go_loopw [4] (fun i wr => ∃ k : Nat, k ≤ n ∧ i = .int .i64 k ∧ wr.ownsRow w.heap.size 5 1 (.slice (some ⟨w.heap.size, 0, none⟩) n n) n (cpy .u8 zs k) ∧ Below w.heap.size w wr) (fun i _ => n - (intOf i).toNat)
  case atStart => exact ⟨0, Nat.zero_le _, rfl, hown, hb1⟩
  case round =>
    obtain ⟨k, hk, rfl, hownk, hbk⟩ := hrel
    clear hown hb1 hs1
    by_cases hlt : k < n
    · have hc := h k hlt
      have hcx : wr.cell? ⟨b, off + k, none⟩ = some (.int .u8 (zs.getD k 0)) := (hbk.cell (World.block_lt_of_cell? _ _ hc)).trans hc
      have hcy := cpy_cell hN.out hlt hownk
      have hfr := hownk.frozenAt k
      have hst := clone_step hN.out hlt (Nat.le_refl _) hownk hbk
      clear h hc hownk hbk
      generalize zs.getD k 0 = z at hcx hst
      go_wp2
      go_roundw
      case rel => exact ⟨k + 1, by omega, by go_num, hst.1, hst.2⟩
      case measure => simp [intOf]; omega
    · have hkn : cpy .u8 zs k = zs.map (Value.int .u8) := cpy_all _ _ _ (by have := hN.out; omega)
      rw [hkn] at hownk
      have hB := isB_own hownk
      clear h hownk hkn hnil
      go_wp2
      go_ret
      exact ⟨_, _, rfl, (fun h => nomatch h), hB, hbk⟩

set_option maxHeartbeats 1000000 in
theorem clone_empty (x : Addr) (c : Nat) (w : World) :
    Calls Try.prog 16 #[.slice (some x) 0 c] w fun e w' => ∃ ad c', e = .returned (.slice ad 0 c') ∧ (ad = none → c' = 0) ∧ IsB .u8 w' ad [] ∧ Below w.heap.size w w' := by
  have hnil : ∀ W, (binOp .eql 26 (.slice (some x) 0 c) (.slice none 0 0)).run Try.prog W = .ok (.bool false) W := fun W => Lib.run_eql_slice_nil W 26 5 _ 0 c 0 0 Try.underlying26
  obtain ⟨i0, hi, hz0, hz1, hz2⟩ := info_parts Try.info5
  go_enter Try.func16, Try.ntmps16
  go_wp2_with (at_make; refine wpList_make_full _ rfl _ _ 26 rfl w.heap.size 5 i0 (.int .u8 0) 1 Try.underlying26 hi hz0 hz1 .i64 .i64 _ _ 0 rfl rfl rfl rfl (by omega) (by unfold maxLen; omega) (Nat.le_refl _) ?_)
  intro w1 hown1 hgrow
  have hb1 : Below w.heap.size w w1 := (Below.refl _ _).grown hgrow (Nat.le_refl _) (by simp)
  clear hown1 hgrow hi hz0 hz1 hz2
  go_wp2
  refine wp_loop_rounds 1 ?_
  rw [rounds_succ]
  go_wp2
  go_ret
  exact ⟨_, _, rfl, (fun h => nomatch h), isB_nil _ _ _, hb1⟩

theorem clone_nil (w : World) :
    Calls Try.prog 16 #[.slice none 0 0] w fun e w' => ∃ ad c', e = .returned (.slice ad 0 c') ∧ (ad = none → c' = 0) ∧ IsB .u8 w' ad [] ∧ Below w.heap.size w w' := by
  have hnil : ∀ W, (binOp .eql 26 (.slice none 0 0) (.slice none 0 0)).run Try.prog W = .ok (.bool true) W := fun W => Lib.run_eql_slice_nil W 26 5 none 0 0 0 0 Try.underlying26
  go_enter Try.func16, Try.ntmps16
  go_wp2
  go_ret
  exact ⟨none, 0, rfl, fun _ => rfl, isB_nil _ _ _, Below.refl _ _⟩

/-- zzCopyBytes: a slice that reads as the same numbers; nothing old has turned. -/
theorem clone_any (ad : Option Addr) (n c : Nat) (zs : List Int) (w : World) (h : IsB .u8 w ad zs) (hn : n = zs.length) (hc : ad = none → c = 0) (hm : n ≤ 1073741824) :
    Calls Try.prog 16 #[.slice ad n c] w fun e w' => ∃ ad c', e = .returned (.slice ad n c') ∧ (ad = none → c' = 0) ∧ IsB .u8 w' ad zs ∧ Below w.heap.size w w' := by
  cases ad with
  | none =>
    have hz := h.nil
    subst hz
    have h0 : n = 0 := hn
    subst h0
    rw [hc rfl]
    exact clone_nil w
  | some x =>
    by_cases h0 : n = 0
    · have hz : zs = [] := by cases zs with | nil => rfl | cons z zs => simp at hn; omega
      subst hz; subst h0
      exact clone_empty x c w
    · obtain ⟨b, off, e, hcell⟩ := h.at0 (by omega)
      cases e
      exact clone_some b off n c zs w hn (fun j hj => hcell j (by omega)) hm
end Go.Proofs.Qxb6002699a.sl
