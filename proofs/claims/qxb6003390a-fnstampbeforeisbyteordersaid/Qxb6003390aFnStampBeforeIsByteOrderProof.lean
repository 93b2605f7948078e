/-
  Seat b6003390a: 'Rows.FnStampBeforeIsByteOrderSaid' proved. The frame is the given shell's (the end turned to 'Below').
-/
import Derived.Test.Qxb6003390aRows
import Derived.Test.Qxb6003390aBytes
import Derived.Deep.RegionHeld3
import Derived.Deep.MidRow
import Derived.WalkKit
import Derived.ProofKit
import Derived.OpenShut
import Derived.ShutString
namespace Go.Proofs.Qxb6003390a.fnStampBeforeIsByteOrder
open Go.ChangeShapes Go.WideShapes Go.ChangeAt Go.RowKit
open Go.ChangeMaps (open_string shut_string)
open Go.Proofs.Qxb6003390a.stamp
set_option linter.unusedVariables false      -- a walk need not use every 'w<i>' (that an integer argument fits its kind)

theorem own : ownKnob Try.prog.godebug = none := by kernel_rfl

/-! ### STEP 1: THE WALK -/
structure Four (w W : World) (a0 a1 a2 a3 : Int) (b1 b2 : Nat) (xs ys : List Int) : Prop where
  c0 : W.cell? ⟨w.heap.size, 0, none⟩ = some (.int .u64 a0)
  c1 : W.cell? ⟨w.heap.size, 1, none⟩ = some (.int .u32 a1)
  c2 : W.cell? ⟨w.heap.size + 1, 0, none⟩ = some (.int .u64 a2)
  c3 : W.cell? ⟨w.heap.size + 1, 1, none⟩ = some (.int .u32 a3)
  r1 : W.rangeAt b1 0 (xs.map (Value.int .u8))
  r2 : W.rangeAt b2 0 (ys.map (Value.int .u8))
  size : w.heap.size + 1 < W.heap.size
  s1 : b1 < W.heap.size
  s2 : b2 < W.heap.size
  below : Below w.heap.size w W

theorem rangeAt_below {W W' : World} {b o : Nat} {cs : List Value} (h : W.rangeAt b o cs) (hb : Below W.heap.size W W') (hl : b < W.heap.size) : W'.rangeAt b o cs :=
  fun j v hv => (hb.cell (by exact hl)).trans (h j v hv)

theorem four_step {w W W' : World} {a0 a1 a2 a3 : Int} {b1 b2 : Nat} {xs ys : List Int} (h : Four w W a0 a1 a2 a3 b1 b2 xs ys) (hb : Below W.heap.size W W') : Four w W' a0 a1 a2 a3 b1 b2 xs ys := by
  have hs := h.size
  have hz := hb.size
  have h1 := h.s1
  have h2 := h.s2
  exact ⟨(hb.cell (by simp; omega)).trans h.c0, (hb.cell (by simp; omega)).trans h.c1, (hb.cell (by simp; omega)).trans h.c2, (hb.cell (by simp; omega)).trans h.c3, rangeAt_below h.r1 hb h1, rangeAt_below h.r2 hb h2, by omega, by omega, by omega, h.below.trans (hb.mono (by omega))⟩

theorem four_drew {w W : World} {a0 a1 a2 a3 : Int} {g1 g2 : Nat} {xs ys : List Int} (h : Four w W a0 a1 a2 a3 g1 g2 xs ys) : Four w W.drew a0 a1 a2 a3 g1 g2 xs ys :=
  four_step h ((Below.refl _ _).drew)

theorem before_four {w W : World} {a0 a1 a2 a3 : Int} {g1 g2 : Nat} {xs ys : List Int} (h : Four w W a0 a1 a2 a3 g1 g2 xs ys) (a b c d : Int) :
    Calls Try.prog 8 #[.agg #[.int .u64 a, .int .u32 b], .agg #[.int .u64 c, .int .u32 d]] W fun e w' => e = .returned (.bool (bef a b c d)) ∧ Four w w' a0 a1 a2 a3 g1 g2 xs ys := by
  refine (before_any a b c d W).mono ?_
  rintro e w' ⟨rfl, rfl⟩
  exact ⟨rfl, four_step h (((Below.refl _ _).alloc (Nat.le_refl _) _).alloc (by simp) _)⟩

theorem size28 : (Try.prog.info? 28).map (·.size) = some 12 := by kernel_rfl

set_option maxHeartbeats 1000000 in
theorem walk_order (a0 a1 a2 a3 : Int) (w : World) (h0 : 0 ≤ a0 ∧ a0 < 18446744073709551616) (h1 : 0 ≤ a1 ∧ a1 < 4294967296) (h2 : 0 ≤ a2 ∧ a2 < 18446744073709551616) (h3 : 0 ≤ a3 ∧ a3 < 4294967296) :
    Calls Try.prog 4 #[.int .u64 a0, .int .u32 a1, .int .u64 a2, .int .u32 a3] w fun e w' => e = .returned (.bool true) ∧ Below w.heap.size w w' := by
  go_enter Try.func4, Try.ntmps4
  go_wp2_with fail
  refine (be_any a0 a1 _ h0.1 h0.2 h1.1 h1.2).mono ?_
  rintro e W1 ⟨xs, hxs, rfl, hb1⟩
  obtain ⟨x0, x1, x2, x3, x4, x5, x6, x7, x8, x9, x10, x11, rfl⟩ : ∃ x0 x1 x2 x3 x4 x5 x6 x7 x8 x9 x10 x11, xs = [x0, x1, x2, x3, x4, x5, x6, x7, x8, x9, x10, x11] := by
    match xs, hxs.len with
    | [x0, x1, x2, x3, x4, x5, x6, x7, x8, x9, x10, x11], _ => exact ⟨_, _, _, _, _, _, _, _, _, _, _, _, rfl⟩
  simp only [List.map_cons, List.map_nil]
  go_wp2_with fail
  refine (be_any a2 a3 _ h2.1 h2.2 h3.1 h3.2).mono ?_
  rintro e W2 ⟨ys, hys, rfl, hb2⟩
  obtain ⟨y0, y1, y2, y3, y4, y5, y6, y7, y8, y9, y10, y11, rfl⟩ : ∃ x0 x1 x2 x3 x4 x5 x6 x7 x8 x9 x10 x11, ys = [x0, x1, x2, x3, x4, x5, x6, x7, x8, x9, x10, x11] := by
    match ys, hys.len with
    | [x0, x1, x2, x3, x4, x5, x6, x7, x8, x9, x10, x11], _ => exact ⟨_, _, _, _, _, _, _, _, _, _, _, _, rfl⟩
  simp only [List.map_cons, List.map_nil]
  go_wp2_with fail
  have hF : Four w (W2.alloc (.cells #[.int .u8 y0, .int .u8 y1, .int .u8 y2, .int .u8 y3, .int .u8 y4, .int .u8 y5, .int .u8 y6, .int .u8 y7, .int .u8 y8, .int .u8 y9, .int .u8 y10, .int .u8 y11] 28)) a0 a1 a2 a3 W1.heap.size W2.heap.size [x0, x1, x2, x3, x4, x5, x6, x7, x8, x9, x10, x11] [y0, y1, y2, y3, y4, y5, y6, y7, y8, y9, y10, y11] := by
    have z1 := hb1.size
    have z2 := hb2.size
    simp at z1 z2
    have q : ∀ p : Addr, p.block < w.heap.size + 2 → (W2.alloc (.cells #[.int .u8 y0, .int .u8 y1, .int .u8 y2, .int .u8 y3, .int .u8 y4, .int .u8 y5, .int .u8 y6, .int .u8 y7, .int .u8 y8, .int .u8 y9, .int .u8 y10, .int .u8 y11] 28)).cell? p = ((w.alloc (Obj.cells #[Value.int IntKind.u64 a0, Value.int IntKind.u32 a1] 25)).alloc
        (Obj.cells #[Value.int IntKind.u64 a2, Value.int IntKind.u32 a3] 25)).cell? p := by
      intro p hp
      have e1 := ((Below.refl W2.heap.size W2).alloc (Nat.le_refl _) (.cells #[.int .u8 y0, .int .u8 y1, .int .u8 y2, .int .u8 y3, .int .u8 y4, .int .u8 y5, .int .u8 y6, .int .u8 y7, .int .u8 y8, .int .u8 y9, .int .u8 y10, .int .u8 y11] 28)).cell (p := p) (by omega)
      have e2 := hb2.cell (p := p) (by simp; omega)
      have e3 := ((Below.refl W1.heap.size W1).alloc (Nat.le_refl _) (.cells #[.int .u8 x0, .int .u8 x1, .int .u8 x2, .int .u8 x3, .int .u8 x4, .int .u8 x5, .int .u8 x6, .int .u8 x7, .int .u8 x8, .int .u8 x9, .int .u8 x10, .int .u8 x11] 28)).cell (p := p) (by omega)
      have e4 := hb1.cell (p := p) (by simp; omega)
      rw [e1, e2, e3, e4]
    refine ⟨?_, ?_, ?_, ?_, ?_, ?_, by simp; omega, by simp; omega, by simp, ?_⟩
    · rw [q _ (by simp)]; go_simp
    · rw [q _ (by simp)]; go_simp
    · rw [q _ (by simp)]; go_simp
    · rw [q _ (by simp)]; go_simp
    · refine rangeAt_below ?_ ((Below.refl W2.heap.size W2).alloc (Nat.le_refl _) _) (by omega)
      refine rangeAt_below ?_ hb2 (by simp)
      exact World.rangeAt_of_block (heap_alloc_new _ _) 0 12
    · exact World.rangeAt_of_block (heap_alloc_new _ _) 0 12
    · have b1 : Below w.heap.size w W1 := (((Below.refl w.heap.size w).alloc (Nat.le_refl _) _).alloc (by simp) _).trans (hb1.mono (by simp; omega))
      have b2 : Below w.heap.size w W2 := (b1.alloc (by omega) _).trans (hb2.mono (by simp; omega))
      exact b2.alloc (by omega) _
  have hor := enc_order hxs hys h1 h3
  have hl1 := hxs.len
  have hl2 := hys.len
  generalize (W2.alloc (.cells #[.int .u8 y0, .int .u8 y1, .int .u8 y2, .int .u8 y3, .int .u8 y4, .int .u8 y5, .int .u8 y6, .int .u8 y7, .int .u8 y8, .int .u8 y9, .int .u8 y10, .int .u8 y11] 28)) = W4 at hF ⊢
  generalize W2.heap.size = g2 at hF ⊢
  generalize W1.heap.size = g1 at hF ⊢
  clear hb1 hb2 hxs hys h0 h1 h2 h3
  generalize [x0, x1, x2, x3, x4, x5, x6, x7, x8, x9, x10, x11] = xs at *
  generalize [y0, y1, y2, y3, y4, y5, y6, y7, y8, y9, y10, y11] = ys at *
  have c0 := hF.c0; have c1 := hF.c1; have c2 := hF.c2; have c3 := hF.c3; have r1 := hF.r1; have r2 := hF.r2
  have hu := Try.underlying28
  have lm1 : (xs.map (Value.int .u8)).length = 12 := by simpa using hl1
  have lm2 : (ys.map (Value.int .u8)).length = 12 := by simpa using hl2
  have hi1 : (Try.prog.info? 28).map (·.size) = some (xs.map (Value.int .u8)).length := by rw [size28, lm1]
  have hi2 : (Try.prog.info? 28).map (·.size) = some (ys.map (Value.int .u8)).length := by rw [size28, lm2]
  have o1 : ∀ v ∈ xs.map (Value.int .u8), v.oneCell' = true := by intro v hv; simp only [List.mem_map] at hv; obtain ⟨x, _, rfl⟩ := hv; rfl
  have o2 : ∀ v ∈ ys.map (Value.int .u8), v.oneCell' = true := by intro v hv; simp only [List.mem_map] at hv; obtain ⟨x, _, rfl⟩ := hv; rfl
  have hOr : Hid (bef a0 a1 a2 a3 = decide (cmpL xs ys < 0)) := hor
  clear hor
  refine wp_region_held_drew (S := fun w' => Four w w' a0 a1 a2 a3 g1 g2 xs ys) (by kernel_rfl) (four_drew hF) (fun hHeld => ?_)
  clear c0 c1 c2 c3 r1 r2 hF o1 o2 lm1 lm2
  refine wpAnyH_take (i := 0) (v := .agg #[.int .u64 a0, .int .u32 a1]) rfl (by kernel_rfl) (by kernel_rfl) (by kernel_rfl) (fun _ _ _ h => h) (Or.inl ⟨by rfl, ?_⟩) hHeld ?_
  · intro w' hw
    have q0 := hw.c0; have q1 := hw.c1
    clear hHeld hw
    go_simp
  refine wpAnyH_take (i := 1) (v := .agg #[.int .u64 a2, .int .u32 a3]) rfl (by kernel_rfl) (by kernel_rfl) (by kernel_rfl) (fun _ _ _ h => h) (Or.inl ⟨by rfl, ?_⟩) hHeld ?_
  · intro w' hw
    have q0 := hw.c2; have q1 := hw.c3
    clear hHeld hw
    go_simp
  refine wpAnyH_take (i := 3) rfl (by kernel_rfl) (by kernel_rfl) (by kernel_rfl) (fun _ _ _ h => h) (yieldsIf_load_mid (by rfl) _ _ rfl g1 0 rfl (xs.map (Value.int .u8)) _ (fun _ hw => hw.r1) hu rfl hi1) hHeld ?_
  refine wpAnyH_take (i := 4) rfl (by kernel_rfl) (by kernel_rfl) (by kernel_rfl) (fun _ _ _ h => h) (yieldsIf_load_mid (by rfl) _ _ rfl g2 0 rfl (ys.map (Value.int .u8)) _ (fun _ hw => hw.r2) hu rfl hi2) hHeld ?_
  clear hu hi1 hi2
  refine wpAnyH_ready (rs := [2]) (by kernel_rfl) (by simp) ?_
  refine AllReadyH.cons rfl (fun K hK => ?_) AllReadyH.nil
  go_simp
  refine (before_four hHeld _ _ _ _).mono ?_
  rintro e w1 ⟨rfl, hG⟩
  refine hK.out _ _ hG (fun hHeld' => ?_)
  clear hK K hG hHeld
  refine wpAnyH_ready (rs := [5]) (by kernel_rfl) (by simp) ?_
  refine AllReadyH.cons rfl (fun K hK => ?_) AllReadyH.nil
  go_simp
  refine (cmp_any xs ys _ hl1 hl2).mono ?_
  rintro e w2 ⟨rfl, hb⟩
  refine hK.out _ _ (four_step hHeld' hb) (fun hHeld => ?_)
  clear hK K hHeld' hb
  refine wpAnyH_take (i := 6) (v := .bool (decide (cmpL xs ys < 0))) rfl (by kernel_rfl) (by kernel_rfl) (by kernel_rfl) (fun _ _ _ h => h) (Or.inl ⟨by rfl, ?_⟩) hHeld ?_
  · intro w' hw
    clear hHeld hw
    go_simp
  have hor := hOr.out
  rw [hor]
  clear hor hOr
  generalize decide (cmpL xs ys < 0) = bb
  refine wpAnyH_take (i := 7) (v := .bool true) rfl (by kernel_rfl) (by kernel_rfl) (by kernel_rfl) (fun _ _ _ h => h) (Or.inl ⟨by rfl, ?_⟩) hHeld ?_
  · intro w' hw
    clear hHeld hw
    go_simp
  refine wpAnyH_take (i := 8) (v := .bool true) rfl (by kernel_rfl) (by kernel_rfl) (by kernel_rfl) (fun _ _ _ h => h) (Or.inl ⟨by rfl, ?_⟩) hHeld ?_
  · intro w' hw
    clear hHeld hw
    go_simp
  have hbel := hHeld.below
  clear hHeld
  refine wpAnyH_done (by kernel_rfl) ?_ _
  go_wp2
  go_ret
  exact ⟨rfl, hbel⟩

/-! ### THE ROW's STEP: WRITTEN OUT: LEAVE IT -/
set_option maxRecDepth 100000 in
theorem lifted (os : Os) (started : os.Started) (H : Type) (enc : TypeId × Value → H) :
    ReturnsInHanded {} Try.checked os 4 .any (Rows.fnStampBeforeIsByteOrderSpec.pre6 enc Try.prog Try.f4 Rows.fnStampBeforeIsByteOrderRow.domain false) (Rows.fnStampBeforeIsByteOrderSpec.post enc Try.prog Try.f4 false true false false) := by
  refine returnsInHanded_of_change (C := Try.checked) own started (by kernel_rfl) Try.func4
    (ChangeSpec.witness6 (enc := enc) (C := Try.checked) false ⟨#[], #[.int .u64 0, .int .u32 0, .int .u64 0, .int .u32 0], []⟩ 8 (by kernel_rfl) (by kernel_rfl) (by kernel_rfl) (by kernel_rfl)) ?_
  intro W base args ds gs before hval0 hW hcnd _
  have hval : ∀ (j : Nat) t v, Try.f4.params[j]? = some t → args[j]? = some v → Value.okWide Try.prog W .any base t v := hval0
  have hW' := hW
  obtain ⟨p, q, hA0, hV, rfl, hfz, hnd⟩ := hW
  have hA : DataW.TrodAll enc Try.prog W 0 (fun _ => true) true Try.f4.params.toList args.toList ds p := hA0
  rw [Try.params4] at hA hval
  obtain ⟨v0, vs0, d0, ds0, p0, q0, hargs, rfl, rfl, h0, r0⟩ := trodAll_cons hA
  obtain ⟨v1, vs1, d1, ds1, p1, q1, rfl, rfl, rfl, h1, r1⟩ := trodAll_cons r0
  obtain ⟨v2, vs2, d2, ds2, p2, q2, rfl, rfl, rfl, h2, r2⟩ := trodAll_cons r1
  obtain ⟨v3, vs3, d3, ds3, p3, q3, rfl, rfl, rfl, h3, r3⟩ := trodAll_cons r2
  obtain ⟨rfl, rfl, rfl⟩ := trodAll_nil r3
  obtain rfl : args = #[v0, v1, v2, v3] := by cases args; simp_all
  obtain ⟨rfl, rfl⟩ := trodVars_none hV
  obtain ⟨a0, rfl, rfl, rfl, w0⟩ := open_int Try.underlying22 (hval 0 22 v0 rfl rfl) h0
  obtain ⟨a1, rfl, rfl, rfl, w1⟩ := open_int Try.underlying23 (hval 1 23 v1 rfl rfl) h1
  obtain ⟨a2, rfl, rfl, rfl, w2⟩ := open_int Try.underlying22 (hval 2 22 v2 rfl rfl) h2
  obtain ⟨a3, rfl, rfl, rfl, w3⟩ := open_int Try.underlying23 (hval 3 23 v3 rfl rfl) h3
  clear hA0 hval0
  simp only [List.append_nil] at hW'
  refine (walk_order a0 a1 a2 a3 W (by have := bounds_u64 w0; omega) (by have := bounds_u32 w1; omega) (by have := bounds_u64 w2; omega) (by have := bounds_u32 w3; omega)).mono fun e W' ⟨he, bel⟩ => ?_
  subst he
  exact ⟨_, rfl, _, _, _, [], _, [], hW', trodAll_mk1 (shut_bool Try.underlying4 _), (trodAll_cons_mk (shut_int Try.underlying22 w0) (trodAll_cons_mk (shut_int Try.underlying23 w1) (trodAll_cons_mk (shut_int Try.underlying22 w2) (trodAll_cons_mk (shut_int Try.underlying23 w3) trodAll_mk0)))), rfl, bel.frame _, fun h => by cases h⟩

theorem over : Rows.fnStampBeforeIsByteOrderRow.holds Try.pinned (OpenSpec.ofChange Rows.fnStampBeforeIsByteOrderSpec) :=
  OpenClaim.holds_of_wide 4 Try.f4 rfl rfl rfl rfl rfl rfl rfl ⟨rfl, rfl, rfl, rfl, rfl⟩ rfl rfl rfl rfl rfl (by kernel_rfl) Try.func4 (by kernel_rfl)
    (of_decide_eq_true (by kernel_rfl)) (by unfold Func.isWrapper; first | (rw [if_pos (by decide +kernel)]; kernel_rfl) | (rw [if_neg (by decide +kernel)]; exact ⟨rfl, rfl⟩))
    (fun os started H enc _ => lifted os started H enc)

/-- ████ THE STATEMENT ████ -/
theorem proved : Rows.FnStampBeforeIsByteOrderSaid :=
  over
end Go.Proofs.Qxb6003390a.fnStampBeforeIsByteOrder
