/-
  Seat b6002699a. The walk of 'FnCloseElementNests'.
-/
import Derived.Test.Qxb6002699aRead
namespace Go.Proofs.Qxb6002699a.sl
open Go.RowKit

theorem isB_sub {k : IntKind} {W : World} {g o : Nat} (P Q S : List Int) (h : IsB k W (some ⟨g, o, none⟩) (P ++ (Q ++ S))) (p : Nat) (hp : p = o + P.length) : IsB k W (some ⟨g, p, none⟩) Q := by
  subst hp
  refine isB_row fun j hj => ?_
  obtain ⟨b, o', e, hc⟩ := h (P.length + j) (by simp; omega)
  cases e
  rw [getD_app] at hc
  rw [Nat.add_assoc, hc]
  simp [List.getD_eq_getElem?_getD, List.getElem?_append_left hj]

theorem lenB_length (m : Nat) : 1 ≤ (lenB m).length ∧ (lenB m).length ≤ 4 := by
  unfold lenB
  split
  · simp
  · split
    · simp
    · split <;> simp

set_option maxHeartbeats 4000000 in
set_option maxRecDepth 100000 in
theorem main_walk (a0 a1 a2 a3 : Option Addr) (n0 c0 n1 c1 n2 c2 n3 c3 : Nat) (x0 x1 x2 x3 : List Int) (w : World) (h0 : IsB .u8 w a0 x0) (h1 : IsB .u8 w a1 x1) (h2 : IsB .u8 w a2 x2) (h3 : IsB .u8 w a3 x3)
    (e0 : n0 = x0.length) (e1 : n1 = x1.length) (e2 : n2 = x2.length) (e3 : n3 = x3.length) (k0 : a0 = none → c0 = 0) (k1 : a1 = none → c1 = 0) (k2 : a2 = none → c2 = 0) (k3 : a3 = none → c3 = 0) (hs : n0 + n1 + n2 + n3 ≤ 1048576) :
    Calls Try.prog 7 #[.slice a0 n0 c0, .slice a1 n1 c1, .slice a2 n2 c2, .slice a3 n3 c3] w fun e w' => e = .returned (.bool true) ∧ Below w.heap.size w w' := by
  have hg := guard_any a0 a1 a2 a3 n0 c0 n1 c1 n2 c2 n3 c3 w (by omega) (by omega) (by omega) (by omega)
  rw [decide_eq_true hs] at hg
  have hC0 := clone_any a0 n0 c0 x0 w h0 e0 k0 (by omega)
  have E0 : Hid (n0 = x0.length) := e0
  have E1 : Hid (n1 = x1.length) := e1
  have E2 : Hid (n2 = x2.length) := e2
  have E3 : Hid (n3 = x3.length) := e3
  clear h0 k0 e0 e1 e2 e3
  go_enter Try.func7, Try.ntmps7
  go_wp2_with fail
  refine hg.mono ?_
  rintro _ _ ⟨rfl, rfl⟩
  clear hg
  go_wp2_with fail
  refine hC0.mono ?_
  rintro _ w1 ⟨b0, d0, rfl, z0, i0, hb0⟩
  clear hC0
  have hC1 := clone_any a1 n1 c1 x1 w1 (h1.step hb0) E1.out k1 (by omega)
  clear h1 k1
  go_wp2_with fail
  refine hC1.mono ?_
  rintro _ w2 ⟨b1, d1, rfl, z1, i1, hb1⟩
  clear hC1
  have hb1' := hb0.trans (hb1.mono hb0.size)
  have hC2 := clone_any a2 n2 c2 x2 w2 (h2.step hb1') E2.out k2 (by omega)
  clear h2 k2
  go_wp2_with fail
  refine hC2.mono ?_
  rintro _ w3 ⟨b2, d2, rfl, z2, i2, hb2⟩
  clear hC2
  have hb2' := hb1'.trans (hb2.mono hb1'.size)
  have hC3 := clone_any a3 n3 c3 x3 w3 (h3.step hb2') E3.out k3 (by omega)
  clear h3 k3
  go_wp2_with fail
  refine hC3.mono ?_
  rintro _ w4 ⟨b3, d3, rfl, z3, i3, hb3⟩
  clear hC3
  have HB4 : Hid (Below w.heap.size w w4) := hb2'.trans (hb3.mono hb2'.size)
  have I0 : IsB .u8 w4 b0 x0 := ((i0.step hb1).step hb2).step hb3
  have I1 : IsB .u8 w4 b1 x1 := (i1.step hb2).step hb3
  have I2 : IsB .u8 w4 b2 x2 := i2.step hb3
  have I3 : IsB .u8 w4 b3 x3 := i3
  clear i0 i1 i2 i3 hb0 hb1 hb2 hb3 hb1' hb2'
  obtain ⟨q0, hi, hz0, hz1, hz2⟩ := info_parts Try.info5
  go_wp2_with (at_make; refine wpList_make_own _ rfl _ _ 26 rfl w4.heap.size 5 q0 (.int .u8 0) 1 Try.underlying26 hi hz0 hz1 .i64 .i64 _ (n0 + n1 + n2 + 2) rfl rfl (by omega) (by rw [hz2]; omega) (by unfold maxLen; omega) (Nat.le_refl _) ?_)
  intro w5 hown hgrow
  have hb5 : Below w4.heap.size w4 w5 := (Below.refl _ _).grown hgrow (Nat.le_refl _) (by simp)
  have R0 : Row w4.heap.size w5 (.slice (some ⟨w4.heap.size, 0, none⟩) 0 (n0 + n1 + n2 + 2)) [] := hown
  clear hown hgrow hi hz0 hz1 hz2 q0
  have l0 := E0.out
  have l1 := E1.out
  have l2 := E2.out
  have l3 := E3.out
  generalize hv0 : Value.slice (some ⟨w4.heap.size, 0, none⟩) 0 (n0 + n1 + n2 + 2) = v0 at R0 ⊢
  clear hv0
  obtain ⟨v1, u1, r1, R1, g1⟩ := R0.app hb5.size (by simp) b0 n0 d0 x0 (I0.step hb5) E0.out z0 (by omega)
  rw [List.nil_append] at R1
  have G1 := hb5.trans g1
  obtain ⟨v2, u2, r2, R2, g2⟩ := R1.push G1.size (by omega) 0
  have G2 := G1.trans g2
  obtain ⟨v3, u3, r3, R3, g3⟩ := R2.app G2.size (by simp; omega) b1 n1 d1 x1 (I1.step G2) E1.out z1 (by omega)
  have G3 := G2.trans g3
  obtain ⟨v4, u4, r4, R4, g4⟩ := R3.push G3.size (by simp; omega) 0
  have G4 := G3.trans g4
  obtain ⟨v5, u5, r5, R5, g5⟩ := R4.app G4.size (by simp; omega) b2 n2 d2 x2 (I2.step G4) E2.out z2 (by omega)
  have G5 := G4.trans g5
  have eL : x0 ++ [(0 : Int)] ++ x1 ++ [0] ++ x2 = (x0 ++ (0 : Int) :: x1) ++ 0 :: x2 := by simp
  rw [eL] at R5
  have hK := zzclose_any w4.heap.size v5 _ _ 0 u5 R5 G5.size (by simp; omega) (by omega) ((n0 : Int) + 1 + (n1 : Int) + 1) (by simp; omega)
  have HG5 : Hid (Below w4.heap.size w4 u5) := G5
  clear eL R0 R1 R2 R3 R4 R5 g1 g2 g3 g4 g5 G1 G2 G3 G4 G5 l0 l1 l2 l3
  go_wp2_with (at_builtin; first | refine Lib.wpList_append_run _ rfl _ _ 26 26 rfl _ _ rfl rfl _ _ r1 ?_ | refine Lib.wpList_append_run _ rfl _ _ 26 26 rfl _ _ rfl rfl _ _ r2 ?_ | refine Lib.wpList_append_run _ rfl _ _ 26 26 rfl _ _ rfl rfl _ _ r3 ?_ | refine Lib.wpList_append_run _ rfl _ _ 26 26 rfl _ _ rfl rfl _ _ r4 ?_ | refine Lib.wpList_append_run _ rfl _ _ 26 26 rfl _ _ rfl rfl _ _ r5 ?_)
  refine hK.mono ?_
  rintro _ w6 ⟨v6, rfl, R6, g6⟩
  clear hK r1 r2 r3 r4 r5
  have G6 := HG5.out.trans g6
  clear HG5 g6 hb5
  have l0 := E0.out
  have l1 := E1.out
  have l2 := E2.out
  have l3 := E3.out
  rw [← l2] at R6
  have hH2 := lenB_length n2
  obtain ⟨v7, u7, r7, R7, g7⟩ := R6.app G6.size (by simp; omega) b3 n3 d3 x3 (I3.step G6) E3.out z3 (by omega)
  have G7 := G6.trans g7
  have eL : x0 ++ 0 :: x1 ++ (lenB n2 ++ x2) ++ x3 = x0 ++ 0 :: (x1 ++ (lenB n2 ++ (x2 ++ x3))) := by simp
  rw [eL] at R7
  have hK := zzclose_any w4.heap.size v7 _ _ 0 u7 R7 G7.size (by omega) (by simp; omega) ((n0 : Int) + 1) (by omega)
  have HG7 : Hid (Below w4.heap.size w4 u7) := G7
  clear eL R6 R7 g7 G6 G7 l0 l1 l2 l3 z0 z1 z2 z3
  go_wp2_with (at_builtin; refine Lib.wpList_append_run _ rfl _ _ 26 26 rfl _ _ rfl rfl _ _ r7 ?_)
  refine hK.mono ?_
  rintro _ w8 ⟨v8, rfl, R8, g8⟩
  clear hK r7
  have G8 := HG7.out.trans g8
  clear HG7 g8
  have l0 := E0.out
  have l1 := E1.out
  have l2 := E2.out
  have l3 := E3.out
  obtain ⟨H2, hH2e⟩ : ∃ H2, (lenB n2).length = H2 := ⟨_, rfl⟩
  obtain ⟨M, hMe⟩ : ∃ M, n1 + (H2 + (n2 + n3)) = M := ⟨_, rfl⟩
  obtain ⟨H, hHe⟩ : ∃ H, (lenB M).length = H := ⟨_, rfl⟩
  have hM : (x1 ++ (lenB n2 ++ (x2 ++ x3))).length = M := by simp; omega
  rw [hM] at R8
  have hH := lenB_length M
  rw [hH2e] at hH2
  rw [hHe] at hH
  obtain ⟨g, cap, hv, hc, hcm, hBg⟩ := R8.shape (by simp; omega)
  subst hv
  have IB := R8.isB rfl
  have hN : (x0 ++ (lenB M ++ (x1 ++ (lenB n2 ++ (x2 ++ x3))))).length = n0 + (H + M) := by
    rw [List.length_append, List.length_append, hM]; omega
  rw [hN] at hc ⊢
  have S0 := same_any (some ⟨g, 0, none⟩) b0 n0 cap d0 x0 w8 (isB_sub [] x0 _ IB 0 (by simp)) (I0.step G8) l0 (by omega)
  have HIB : Hid (IsB .u8 w8 (some ⟨g, 0, none⟩) (x0 ++ (lenB M ++ (x1 ++ (lenB n2 ++ (x2 ++ x3)))))) := IB
  have HG8 : Hid (Below w4.heap.size w4 w8) := G8
  have HN : Hid (_ = _) := hN
  have HM : Hid (_ = _) := hM
  have HHe : Hid (_ = _) := hHe
  have HH2e : Hid (_ = _) := hH2e
  have HMe : Hid (_ = _) := hMe
  have hM1 : 1 ≤ M := by omega
  have hM2 : M ≤ 1100000 := by omega
  clear IB G8 hN hM l0 l1 l2 l3 R8 hBg hHe hH2e hMe
  unfold maxLen at hcm
  go_wp2_with fail
  refine S0.mono ?_
  rintro _ _ ⟨rfl, k, rfl⟩
  clear S0
  have IB : IsB .u8 (w8.drewN k) (some ⟨g, 0, none⟩) (x0 ++ (lenB M ++ (x1 ++ (lenB n2 ++ (x2 ++ x3))))) := HIB.out.drewN k
  have G9 : Below w4.heap.size w4 (w8.drewN k) := HG8.out.trans ⟨rfl, rfl, rfl, Nat.le_refl _, fun _ _ => rfl⟩
  clear HIB HG8
  generalize w8.drewN k = w9 at IB G9 ⊢
  clear k
  have RD := read_any g 0 (n0 + (H + M)) cap n0 M x0 _ w9 IB E0.out HN.out.symm (by omega) (by omega)
  rw [HHe.out] at RD
  have HIB : Hid (IsB .u8 w9 (some ⟨g, 0, none⟩) (x0 ++ (lenB M ++ (x1 ++ (lenB n2 ++ (x2 ++ x3)))))) := IB
  have HG9 : Hid (Below w4.heap.size w4 w9) := G9
  clear IB G9
  go_wp2_with fail
  refine RD.mono ?_
  rintro _ _ ⟨rfl, rfl⟩
  clear RD
  have t1 : (((n0 : Int) + ((H : Int) + (M : Int))) != (n0 : Int) + (H : Int) + (M : Int)) = false := by simp; omega
  have t2 : n0 + (H + M) - (n0 + H) = M := by omega
  have t3 : ¬ cap = n0 + H := by omega
  have m4 : n1 ≤ M := by have := HMe.out; omega
  have S1 := same_any (some ⟨g, n0 + H, none⟩) b1 n1 (cap - (n0 + H)) d1 x1 w9 (isB_sub (x0 ++ lenB M) x1 (lenB n2 ++ (x2 ++ x3)) (by rw [List.append_assoc]; exact HIB.out) _ (by rw [List.length_append, HHe.out, ← E0.out]; omega)) (I1.step HG9.out) E1.out (by omega)
  go_wp2_with fail
  refine S1.mono ?_
  rintro _ _ ⟨rfl, k, rfl⟩
  clear S1 t1 t2 t3
  have IB : IsB .u8 (w9.drewN k) (some ⟨g, 0, none⟩) (x0 ++ (lenB M ++ (x1 ++ (lenB n2 ++ (x2 ++ x3))))) := HIB.out.drewN k
  have G10 : Below w4.heap.size w4 (w9.drewN k) := HG9.out.trans ⟨rfl, rfl, rfl, Nat.le_refl _, fun _ _ => rfl⟩
  clear HIB HG9
  generalize w9.drewN k = w10 at IB G10 ⊢
  clear k
  have RD := read_any g (n0 + H) M (cap - (n0 + H)) n1 n2 x1 (x2 ++ x3) w10 (isB_sub (x0 ++ lenB M) _ [] (by rw [List.append_assoc, List.append_nil]; exact IB) _ (by rw [List.length_append, HHe.out, ← E0.out]; omega)) E1.out HM.out.symm (by omega) (by omega)
  rw [HH2e.out] at RD
  have HIB : Hid (IsB .u8 w10 (some ⟨g, 0, none⟩) (x0 ++ (lenB M ++ (x1 ++ (lenB n2 ++ (x2 ++ x3)))))) := IB
  have HG10 : Hid (Below w4.heap.size w4 w10) := G10
  clear IB G10
  go_wp2_with fail
  refine RD.mono ?_
  rintro _ _ ⟨rfl, rfl⟩
  clear RD
  have t1 : ((M : Int) != (n1 : Int) + (H2 : Int) + (n2 : Int) + (n3 : Int)) = false := by have := HMe.out; simp; omega
  have t2 : n1 + H2 + n2 - (n1 + H2) = n2 := by omega
  have t3 : n1 + H2 + n2 ≤ cap - (n0 + H) := by have := HMe.out; omega
  by_cases t4 : cap - (n0 + H) = n1 + H2
  · have y2 : n2 = 0 := by have := HMe.out; omega
    have y3 : n3 = 0 := by have := HMe.out; omega
    have X2 : x2 = [] := List.eq_nil_of_length_eq_zero (by rw [← E2.out]; exact y2)
    have X3 : x3 = [] := List.eq_nil_of_length_eq_zero (by rw [← E3.out]; exact y3)
    have S2 := same_any (some ⟨g, n0 + H, none⟩) b2 n2 0 d2 x2 w10 (by rw [X2]; exact isB_nil _ _ _) (I2.step HG10.out) E2.out (by omega)
    have Y2 : Hid (n2 = 0) := y2
    have Y3 : Hid (n3 = 0) := y3
    clear y2 y3
    go_wp2_with fail
    refine S2.mono ?_
    rintro _ _ ⟨rfl, k, rfl⟩
    clear S2
    have IB : IsB .u8 (w10.drewN k) (some ⟨g, 0, none⟩) (x0 ++ (lenB M ++ (x1 ++ (lenB n2 ++ (x2 ++ x3))))) := HIB.out.drewN k
    have G11 : Below w4.heap.size w4 (w10.drewN k) := HG10.out.trans ⟨rfl, rfl, rfl, Nat.le_refl _, fun _ _ => rfl⟩
    clear HIB HG10
    generalize w10.drewN k = w11 at IB G11 ⊢
    clear k
    have y2 := Y2.out
    have t5 : M - (n1 + H2) = n3 := by have := HMe.out; omega
    have t7 : n1 + H2 + n2 ≤ M := by have := HMe.out; omega
    have S3 := same_any (some ⟨g, n0 + H, none⟩) b3 n3 0 d3 x3 w11 (by rw [X3]; exact isB_nil _ _ _) (I3.step G11) E3.out (by omega)
    go_wp2_with fail
    refine S3.mono ?_
    rintro _ _ ⟨rfl, k, rfl⟩
    go_wp2
    go_ret
    exact ⟨rfl, HB4.out.trans ((G11.mono HB4.out.size).trans ⟨rfl, rfl, rfl, Nat.le_refl _, fun _ _ => rfl⟩)⟩
  · have S2 := same_any (some ⟨g, n0 + H + (n1 + H2), none⟩) b2 n2 (cap - (n0 + H) - (n1 + H2)) d2 x2 w10 (isB_sub (x0 ++ (lenB M ++ (x1 ++ lenB n2))) x2 x3 (by simp only [List.append_assoc]; exact HIB.out) _ (by simp only [List.length_append, HHe.out, HH2e.out, ← E0.out, ← E1.out]; omega)) (I2.step HG10.out) E2.out (by omega)
    go_wp2_with fail
    refine S2.mono ?_
    rintro _ _ ⟨rfl, k, rfl⟩
    clear S2
    have IB : IsB .u8 (w10.drewN k) (some ⟨g, 0, none⟩) (x0 ++ (lenB M ++ (x1 ++ (lenB n2 ++ (x2 ++ x3))))) := HIB.out.drewN k
    have G11 : Below w4.heap.size w4 (w10.drewN k) := HG10.out.trans ⟨rfl, rfl, rfl, Nat.le_refl _, fun _ _ => rfl⟩
    clear HIB HG10
    generalize w10.drewN k = w11 at IB G11 ⊢
    clear k
    have t5 : M - (n1 + H2 + n2) = n3 := by have := HMe.out; omega
    have t7 : n1 + H2 + n2 ≤ M := by have := HMe.out; omega
    by_cases t6 : cap - (n0 + H) = n1 + H2 + n2
    · have X3 : x3 = [] := List.eq_nil_of_length_eq_zero (by rw [← E3.out]; have := HMe.out; omega)
      have S3 := same_any (some ⟨g, n0 + H, none⟩) b3 n3 0 d3 x3 w11 (by rw [X3]; exact isB_nil _ _ _) (I3.step G11) E3.out (by omega)
      go_wp2_with fail
      refine S3.mono ?_
      rintro _ _ ⟨rfl, k, rfl⟩
      go_wp2
      go_ret
      exact ⟨rfl, HB4.out.trans ((G11.mono HB4.out.size).trans ⟨rfl, rfl, rfl, Nat.le_refl _, fun _ _ => rfl⟩)⟩
    · have S3 := same_any (some ⟨g, n0 + H + (n1 + H2 + n2), none⟩) b3 n3 (cap - (n0 + H) - (n1 + H2 + n2)) d3 x3 w11 (isB_sub (x0 ++ (lenB M ++ (x1 ++ (lenB n2 ++ x2)))) x3 [] (by simp only [List.append_assoc, List.append_nil]; exact IB) _ (by simp only [List.length_append, HHe.out, HH2e.out, ← E0.out, ← E1.out, ← E2.out]; omega)) (I3.step G11) E3.out (by omega)
      go_wp2_with fail
      refine S3.mono ?_
      rintro _ _ ⟨rfl, k, rfl⟩
      go_wp2
      go_ret
      exact ⟨rfl, HB4.out.trans ((G11.mono HB4.out.size).trans ⟨rfl, rfl, rfl, Nat.le_refl _, fun _ _ => rfl⟩)⟩
end Go.Proofs.Qxb6002699a.sl
