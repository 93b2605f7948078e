/-
  Seat b6002699a. 'closeElement' by a contract.
-/
import Derived.Test.Qxb6002699aRow
import Derived.Deep.RegionLaw
import Derived.Outline
namespace Go.Proofs.Qxb6002699a.sl
open Go.RowKit

/-- The definite length of m octets in its shortest form (m below 2^24). -/
def lenB (m : Nat) : List Int :=
  if m < 128 then [(m : Int)] else if m < 256 then [129, (m : Int)] else if m < 65536 then [130, (m : Int) / 256, (m : Int) % 256] else [131, (m : Int) / 256 / 256, (m : Int) / 256 % 256, (m : Int) % 256]

theorem set_app (A L : List Int) (j : Nat) (y : Int) : (A ++ L).set (A.length + j) y = A ++ L.set j y := by
  rw [List.set_append_right _ _ (by omega)]; congr 2; omega

/-- A store into the row. -/
theorem Row.store {B : Nat} {W : World} {g n cap : Nat} {l : List Int} (h : Row B W (.slice (some ⟨g, 0, none⟩) n cap) l) (hn : n = l.length) (hB : B ≤ g) (j : Nat) (y : Int) :
    Row B (W.setCell ⟨g, j, none⟩ (.int .u8 y)) (.slice (some ⟨g, 0, none⟩) n cap) (l.set j y) ∧ Below B W (W.setCell ⟨g, j, none⟩ (.int .u8 y)) := by
  subst hn
  have := (World.ownsRow.stored h j (.int .u8 y)).1
  refine ⟨?_, (Below.refl B W).setCell (by exact hB) _⟩
  unfold Row
  rw [List.length_set, List.map_set]
  exact this

theorem Row.cellAt {B : Nat} {W : World} {g n cap : Nat} {l : List Int} (h : Row B W (.slice (some ⟨g, 0, none⟩) n cap) l) (hn : n = l.length) (j : Nat) (hj : j < n) : W.cell? ⟨g, j, none⟩ = some (.int .u8 (l.getD j 0)) := by
  subst hn
  rw [World.ownsRow.cellAt h j (by omega)]
  simp [hj]
theorem Row.free {B : Nat} {W : World} {g n cap : Nat} {l : List Int} (h : Row B W (.slice (some ⟨g, 0, none⟩) n cap) l) (hn : n = l.length) (j : Nat) : W.frozen? ⟨g, j, none⟩ = false := by
  subst hn
  exact World.ownsRow.frozenAt h j

set_option maxHeartbeats 2000000 in
set_option maxRecDepth 100000 in
theorem close_short (B g a m cap : Nat) (A C : List Int) (x : Int) (W : World) (h : Row B W (.slice (some ⟨g, 0, none⟩) (a + 1 + m) cap) (A ++ x :: C)) (ha : a = A.length) (hm : m = C.length) (hB : B ≤ g) (h128 : m < 128) (hl : a ≤ 2000000) :
    Calls Try.prog 29 #[.slice (some ⟨g, 0, none⟩) (a + 1 + m) cap, .int .i64 (a + 1 : Nat)] W fun e w' => ∃ v', e = .returned v' ∧ Row B w' v' (A ++ (lenB m ++ C)) ∧ Below B W w' := by
  have hn : a + 1 + m = (A ++ x :: C).length := by simp; omega
  have hcell := h.cellAt hn a (by omega)
  have hfr := h.free hn a
  obtain ⟨hst, hb⟩ := h.store hn hB a (m : Int)
  have e : (A ++ x :: C).set a (m : Int) = A ++ (lenB m ++ C) := by
    have := set_app A (x :: C) 0 (m : Int)
    rw [Nat.add_zero, ← ha] at this
    rw [this]
    simp [lenB, h128]
  rw [e] at hst
  have HST : Hid (Row B (W.setCell ⟨g, a, none⟩ (.int .u8 (m : Int))) (.slice (some ⟨g, 0, none⟩) (a + 1 + m) cap) (A ++ (lenB m ++ C))) := hst
  clear h hn e hst ha hm
  generalize (A ++ x :: C).getD a 0 = y at hcell
  have e2 : (a : Int) + 1 + (m : Int) - ((a : Int) + 1) = (m : Int) := by omega
  go_enter Try.func29, Try.ntmps29
  go_wp2
  go_ret
  exact ⟨_, rfl, HST.out, hb⟩

theorem moved (A C : List Int) (x : Int) (a m k : Nat) (ha : a = A.length) (hm : m = C.length) :
    ((A ++ x :: C) ++ List.replicate k (0 : Int)).take (a + 1 + k) ++ ((((A ++ x :: C) ++ List.replicate k (0 : Int)).drop (a + 1)).take m ++ ((A ++ x :: C) ++ List.replicate k (0 : Int)).drop (a + 1 + k + m)) = A ++ x :: ((C ++ List.replicate k (0 : Int)).take k ++ C) := by
  subst ha; subst hm
  have e : (A ++ x :: C) ++ List.replicate k (0 : Int) = (A ++ [x]) ++ (C ++ List.replicate k (0 : Int)) := by simp
  have hA : (A ++ [x]).length = A.length + 1 := by simp
  rw [e, ← hA, List.take_length_add_append, List.drop_left, List.take_left, List.drop_of_length_le (by simp; omega)]
  simp

set_option maxHeartbeats 4000000 in
set_option maxRecDepth 100000 in
theorem close_long1 (B g a m cap : Nat) (A C : List Int) (x : Int) (W : World) (h : Row B W (.slice (some ⟨g, 0, none⟩) (a + 1 + m) cap) (A ++ x :: C)) (ha : a = A.length) (hm : m = C.length) (hB : B ≤ W.heap.size) (hlo : 128 ≤ m) (hhi : m < 256) (hl : a ≤ 1800000) :
    Calls Try.prog 29 #[.slice (some ⟨g, 0, none⟩) (a + 1 + m) cap, .int .i64 (a + 1 : Nat)] W fun e w' => ∃ v', e = .returned v' ∧ Row B w' v' (A ++ (lenB m ++ C)) ∧ Below B W w' := by
  have hn : a + 1 + m = (A ++ x :: C).length := by simp; omega
  obtain ⟨v1, w1, hrun, hr1, hb1⟩ := h.zeros (by omega) hB (by omega) 1 (by omega) (by omega)
  obtain ⟨g1, cap1, hv1, hc1, hcm1, hBg1⟩ := hr1.shape (by simp; omega)
  have hn1 : ((A ++ x :: C) ++ List.replicate 1 (0 : Int)).length = a + 1 + m + 1 := by simp; omega
  rw [hn1] at hv1 hc1
  subst hv1
  obtain ⟨w2, hcopy, hr2, hb2⟩ := hr1.copy hn1.symm hBg1 (a + 2) (a + 1) m (cap1 - (a + 2)) (cap1 - (a + 1)) (by omega) (by omega) (by omega)
  have hmv := moved A C x a m 1 ha hm
  rw [show a + 1 + 1 = a + 2 by omega] at hmv
  rw [hmv] at hr2
  have hT : ((C ++ List.replicate 1 (0 : Int)).take 1).length = 1 := by simp
  obtain ⟨t0, hT'⟩ : ∃ t0, (C ++ List.replicate 1 (0 : Int)).take 1 = [t0] := by
    match (C ++ List.replicate 1 (0 : Int)).take 1, hT with
    | [t0], _ => exact ⟨_, rfl⟩
  rw [hT'] at hr2
  have hn2 : a + 1 + m + 1 = (A ++ x :: ([t0] ++ C)).length := by simp; omega
  have y0 := hr2.cellAt hn2 (a) (by omega)
  have f0 := hr2.free hn2 (a)
  generalize (A ++ x :: ([t0] ++ C)).getD (a) 0 = z0 at y0
  have y1 := hr2.cellAt hn2 (a + 1) (by omega)
  have f1 := hr2.free hn2 (a + 1)
  generalize (A ++ x :: ([t0] ++ C)).getD (a + 1) 0 = z1 at y1
  obtain ⟨s0, p0⟩ := hr2.store hn2 hBg1 a (129 : Int)
  obtain ⟨s1, p1⟩ := s0.store (by simp only [List.length_set]; exact hn2) hBg1 (a + 1) ((m : Int))
  have eF : ((A ++ x :: ([t0] ++ C)).set a (129 : Int)).set (a + 1) ((m : Int)) = A ++ (lenB m ++ C) := by
    have q0 := set_app A (x :: ([t0] ++ C)) 0 (129 : Int)
    rw [Nat.add_zero, ← ha] at q0
    rw [q0]
    rw [ha, set_app]
    simp [lenB, show ¬ m < 128 by omega, hhi]
  rw [eF] at s1
  have HS : Hid (Row B _ (.slice (some ⟨g1, 0, none⟩) (a + 1 + m + 1) cap1) (A ++ (lenB m ++ C))) := s1
  have HB : Hid (Below B W _) := (hb1.trans hb2).trans ((p0).trans p1)
  clear eF hmv hT hT' hn2 hn1 hr1 hr2 h hn ha hm s0 p0 s1 p1
  have e2 : (a : Int) + 1 + (m : Int) - ((a : Int) + 1) = (m : Int) := by omega
  unfold maxLen at hcm1
  go_enter Try.func29, Try.ntmps29
  go_wp2
  refine wp_loop_rounds 2 ?_
  iterate 2 (rw [rounds_succ]; go_wp2_with (at_builtin; refine Lib.wpList_append_run _ rfl _ _ 26 3 rfl _ _ rfl rfl _ _ hrun ?_))
  clear hrun
  have k1 : (0 : Int) ≤ (a : Int) + 1 + 1 := by omega
  have k2 : (a : Int) + 1 + 1 ≤ (a : Int) + 1 + (m : Int) + 1 := by omega
  have k3 : (0 : Int) ≤ (a : Int) + 1 := by omega
  have k4 : (a : Int) + 1 ≤ (a : Int) + 1 + (m : Int) := by omega
  have k5 : (a : Int) + 1 + (m : Int) ≤ (cap1 : Int) := by omega
  have k6 : (a : Int) + 1 + (m : Int) + 1 ≤ (cap1 : Int) := by omega
  have q1 : IntKind.i64.wrap ((a : Int) + 1 + 1) = (a : Int) + 1 + 1 := by rw [IntKind.wrap_i64]; omega
  have q2 : IntKind.i64.wrap ((a : Int) + 1 + (m : Int)) = (a : Int) + 1 + (m : Int) := by rw [IntKind.wrap_i64]; omega
  have q3 : ((a : Int) + 1 + 1).toNat = a + 2 := by omega
  have q4 : ((a : Int) + 1).toNat = a + 1 := by omega
  have q5 : ((a : Int) + 1 + (m : Int)).toNat = a + 1 + m := by omega
  have q6 : ¬ cap1 = a + 2 := by omega
  have q7 : ¬ cap1 = a + 1 := by omega
  have q8 : a + 1 + m + 1 - (a + 2) = m := by omega
  have q9 : a + 1 + m - (a + 1) = m := by omega
  go_region_law (fail)
  clear hcopy k1 k2 k3 k4 k5 k6 q1 q2 q3 q4 q5 q6 q7 q8 q9
  go_wp2
  refine wp_loop_rounds 2 ?_
  iterate 2 (rw [rounds_succ]; go_wp2)
  go_ret
  exact ⟨_, rfl, HS.out, HB.out⟩

set_option maxHeartbeats 4000000 in
set_option maxRecDepth 100000 in
theorem close_long2 (B g a m cap : Nat) (A C : List Int) (x : Int) (W : World) (h : Row B W (.slice (some ⟨g, 0, none⟩) (a + 1 + m) cap) (A ++ x :: C)) (ha : a = A.length) (hm : m = C.length) (hB : B ≤ W.heap.size) (hlo : 256 ≤ m) (hhi : m < 65536) (hl : a ≤ 1800000) :
    Calls Try.prog 29 #[.slice (some ⟨g, 0, none⟩) (a + 1 + m) cap, .int .i64 (a + 1 : Nat)] W fun e w' => ∃ v', e = .returned v' ∧ Row B w' v' (A ++ (lenB m ++ C)) ∧ Below B W w' := by
  have hn : a + 1 + m = (A ++ x :: C).length := by simp; omega
  obtain ⟨v1, w1, hrun, hr1, hb1⟩ := h.zeros (by omega) hB (by omega) 2 (by omega) (by omega)
  obtain ⟨g1, cap1, hv1, hc1, hcm1, hBg1⟩ := hr1.shape (by simp; omega)
  have hn1 : ((A ++ x :: C) ++ List.replicate 2 (0 : Int)).length = a + 1 + m + 2 := by simp; omega
  rw [hn1] at hv1 hc1
  subst hv1
  obtain ⟨w2, hcopy, hr2, hb2⟩ := hr1.copy hn1.symm hBg1 (a + 3) (a + 1) m (cap1 - (a + 3)) (cap1 - (a + 1)) (by omega) (by omega) (by omega)
  have hmv := moved A C x a m 2 ha hm
  rw [show a + 1 + 2 = a + 3 by omega] at hmv
  rw [hmv] at hr2
  have hT : ((C ++ List.replicate 2 (0 : Int)).take 2).length = 2 := by simp
  obtain ⟨t0, t1, hT'⟩ : ∃ t0 t1, (C ++ List.replicate 2 (0 : Int)).take 2 = [t0, t1] := by
    match (C ++ List.replicate 2 (0 : Int)).take 2, hT with
    | [t0, t1], _ => exact ⟨_, _, rfl⟩
  rw [hT'] at hr2
  have hn2 : a + 1 + m + 2 = (A ++ x :: ([t0, t1] ++ C)).length := by simp; omega
  have y0 := hr2.cellAt hn2 (a) (by omega)
  have f0 := hr2.free hn2 (a)
  generalize (A ++ x :: ([t0, t1] ++ C)).getD (a) 0 = z0 at y0
  have y1 := hr2.cellAt hn2 (a + 1) (by omega)
  have f1 := hr2.free hn2 (a + 1)
  generalize (A ++ x :: ([t0, t1] ++ C)).getD (a + 1) 0 = z1 at y1
  have y2 := hr2.cellAt hn2 (a + 2) (by omega)
  have f2 := hr2.free hn2 (a + 2)
  generalize (A ++ x :: ([t0, t1] ++ C)).getD (a + 2) 0 = z2 at y2
  obtain ⟨s0, p0⟩ := hr2.store hn2 hBg1 a (130 : Int)
  obtain ⟨s1, p1⟩ := s0.store (by simp only [List.length_set]; exact hn2) hBg1 (a + 2) ((m : Int) % 256)
  obtain ⟨s2, p2⟩ := s1.store (by simp only [List.length_set]; exact hn2) hBg1 (a + 1) ((m : Int) / 256)
  have eF : (((A ++ x :: ([t0, t1] ++ C)).set a (130 : Int)).set (a + 2) ((m : Int) % 256)).set (a + 1) ((m : Int) / 256) = A ++ (lenB m ++ C) := by
    have q0 := set_app A (x :: ([t0, t1] ++ C)) 0 (130 : Int)
    rw [Nat.add_zero, ← ha] at q0
    rw [q0]
    rw [ha, set_app, set_app]
    simp [lenB, show ¬ m < 128 by omega, show ¬ m < 256 by omega, hhi]
  rw [eF] at s2
  have HS : Hid (Row B _ (.slice (some ⟨g1, 0, none⟩) (a + 1 + m + 2) cap1) (A ++ (lenB m ++ C))) := s2
  have HB : Hid (Below B W _) := (hb1.trans hb2).trans (((p0).trans p1).trans p2)
  clear eF hmv hT hT' hn2 hn1 hr1 hr2 h hn ha hm s0 p0 s1 p1 s2 p2
  have e2 : (a : Int) + 1 + (m : Int) - ((a : Int) + 1) = (m : Int) := by omega
  unfold maxLen at hcm1
  go_enter Try.func29, Try.ntmps29
  go_wp2
  refine wp_loop_rounds 3 ?_
  iterate 3 (rw [rounds_succ]; go_wp2_with (at_builtin; refine Lib.wpList_append_run _ rfl _ _ 26 3 rfl _ _ rfl rfl _ _ hrun ?_))
  clear hrun
  have k1 : (0 : Int) ≤ (a : Int) + 1 + 2 := by omega
  have k2 : (a : Int) + 1 + 2 ≤ (a : Int) + 1 + (m : Int) + 2 := by omega
  have k3 : (0 : Int) ≤ (a : Int) + 1 := by omega
  have k4 : (a : Int) + 1 ≤ (a : Int) + 1 + (m : Int) := by omega
  have k5 : (a : Int) + 1 + (m : Int) ≤ (cap1 : Int) := by omega
  have k6 : (a : Int) + 1 + (m : Int) + 2 ≤ (cap1 : Int) := by omega
  have q1 : IntKind.i64.wrap ((a : Int) + 1 + 2) = (a : Int) + 1 + 2 := by rw [IntKind.wrap_i64]; omega
  have q2 : IntKind.i64.wrap ((a : Int) + 1 + (m : Int)) = (a : Int) + 1 + (m : Int) := by rw [IntKind.wrap_i64]; omega
  have q3 : ((a : Int) + 1 + 2).toNat = a + 3 := by omega
  have q4 : ((a : Int) + 1).toNat = a + 1 := by omega
  have q5 : ((a : Int) + 1 + (m : Int)).toNat = a + 1 + m := by omega
  have q6 : ¬ cap1 = a + 3 := by omega
  have q7 : ¬ cap1 = a + 1 := by omega
  have q8 : a + 1 + m + 2 - (a + 3) = m := by omega
  have q9 : a + 1 + m - (a + 1) = m := by omega
  go_region_law (fail)
  clear hcopy k1 k2 k3 k4 k5 k6 q1 q2 q3 q4 q5 q6 q7 q8 q9
  go_wp2
  refine wp_loop_rounds 3 ?_
  iterate 3 (rw [rounds_succ]; go_wp2)
  go_ret
  exact ⟨_, rfl, HS.out, HB.out⟩

set_option maxHeartbeats 4000000 in
set_option maxRecDepth 100000 in
theorem close_long3 (B g a m cap : Nat) (A C : List Int) (x : Int) (W : World) (h : Row B W (.slice (some ⟨g, 0, none⟩) (a + 1 + m) cap) (A ++ x :: C)) (ha : a = A.length) (hm : m = C.length) (hB : B ≤ W.heap.size) (hlo : 65536 ≤ m) (hhi : m < 16777216) (hl : a ≤ 1800000) (hl2 : m ≤ 1800000) :
    Calls Try.prog 29 #[.slice (some ⟨g, 0, none⟩) (a + 1 + m) cap, .int .i64 (a + 1 : Nat)] W fun e w' => ∃ v', e = .returned v' ∧ Row B w' v' (A ++ (lenB m ++ C)) ∧ Below B W w' := by
  have hn : a + 1 + m = (A ++ x :: C).length := by simp; omega
  obtain ⟨v1, w1, hrun, hr1, hb1⟩ := h.zeros (by omega) hB (by omega) 3 (by omega) (by omega)
  obtain ⟨g1, cap1, hv1, hc1, hcm1, hBg1⟩ := hr1.shape (by simp; omega)
  have hn1 : ((A ++ x :: C) ++ List.replicate 3 (0 : Int)).length = a + 1 + m + 3 := by simp; omega
  rw [hn1] at hv1 hc1
  subst hv1
  obtain ⟨w2, hcopy, hr2, hb2⟩ := hr1.copy hn1.symm hBg1 (a + 4) (a + 1) m (cap1 - (a + 4)) (cap1 - (a + 1)) (by omega) (by omega) (by omega)
  have hmv := moved A C x a m 3 ha hm
  rw [show a + 1 + 3 = a + 4 by omega] at hmv
  rw [hmv] at hr2
  have hT : ((C ++ List.replicate 3 (0 : Int)).take 3).length = 3 := by simp
  obtain ⟨t0, t1, t2, hT'⟩ : ∃ t0 t1 t2, (C ++ List.replicate 3 (0 : Int)).take 3 = [t0, t1, t2] := by
    match (C ++ List.replicate 3 (0 : Int)).take 3, hT with
    | [t0, t1, t2], _ => exact ⟨_, _, _, rfl⟩
  rw [hT'] at hr2
  have hn2 : a + 1 + m + 3 = (A ++ x :: ([t0, t1, t2] ++ C)).length := by simp; omega
  have y0 := hr2.cellAt hn2 (a) (by omega)
  have f0 := hr2.free hn2 (a)
  generalize (A ++ x :: ([t0, t1, t2] ++ C)).getD (a) 0 = z0 at y0
  have y1 := hr2.cellAt hn2 (a + 1) (by omega)
  have f1 := hr2.free hn2 (a + 1)
  generalize (A ++ x :: ([t0, t1, t2] ++ C)).getD (a + 1) 0 = z1 at y1
  have y2 := hr2.cellAt hn2 (a + 2) (by omega)
  have f2 := hr2.free hn2 (a + 2)
  generalize (A ++ x :: ([t0, t1, t2] ++ C)).getD (a + 2) 0 = z2 at y2
  have y3 := hr2.cellAt hn2 (a + 3) (by omega)
  have f3 := hr2.free hn2 (a + 3)
  generalize (A ++ x :: ([t0, t1, t2] ++ C)).getD (a + 3) 0 = z3 at y3
  obtain ⟨s0, p0⟩ := hr2.store hn2 hBg1 a (131 : Int)
  obtain ⟨s1, p1⟩ := s0.store (by simp only [List.length_set]; exact hn2) hBg1 (a + 3) ((m : Int) % 256)
  obtain ⟨s2, p2⟩ := s1.store (by simp only [List.length_set]; exact hn2) hBg1 (a + 2) ((m : Int) / 256 % 256)
  obtain ⟨s3, p3⟩ := s2.store (by simp only [List.length_set]; exact hn2) hBg1 (a + 1) ((m : Int) / 256 / 256)
  have eF : ((((A ++ x :: ([t0, t1, t2] ++ C)).set a (131 : Int)).set (a + 3) ((m : Int) % 256)).set (a + 2) ((m : Int) / 256 % 256)).set (a + 1) ((m : Int) / 256 / 256) = A ++ (lenB m ++ C) := by
    have q0 := set_app A (x :: ([t0, t1, t2] ++ C)) 0 (131 : Int)
    rw [Nat.add_zero, ← ha] at q0
    rw [q0]
    rw [ha, set_app, set_app, set_app]
    simp [lenB, show ¬ m < 128 by omega, show ¬ m < 256 by omega, show ¬ m < 65536 by omega]
  rw [eF] at s3
  have HS : Hid (Row B _ (.slice (some ⟨g1, 0, none⟩) (a + 1 + m + 3) cap1) (A ++ (lenB m ++ C))) := s3
  have HB : Hid (Below B W _) := (hb1.trans hb2).trans ((((p0).trans p1).trans p2).trans p3)
  clear eF hmv hT hT' hn2 hn1 hr1 hr2 h hn ha hm s0 p0 s1 p1 s2 p2 s3 p3
  have e2 : (a : Int) + 1 + (m : Int) - ((a : Int) + 1) = (m : Int) := by omega
  unfold maxLen at hcm1
  go_enter Try.func29, Try.ntmps29
  go_wp2
  refine wp_loop_rounds 4 ?_
  iterate 4 (rw [rounds_succ]; go_wp2_with (at_builtin; refine Lib.wpList_append_run _ rfl _ _ 26 3 rfl _ _ rfl rfl _ _ hrun ?_))
  clear hrun
  have k1 : (0 : Int) ≤ (a : Int) + 1 + 3 := by omega
  have k2 : (a : Int) + 1 + 3 ≤ (a : Int) + 1 + (m : Int) + 3 := by omega
  have k3 : (0 : Int) ≤ (a : Int) + 1 := by omega
  have k4 : (a : Int) + 1 ≤ (a : Int) + 1 + (m : Int) := by omega
  have k5 : (a : Int) + 1 + (m : Int) ≤ (cap1 : Int) := by omega
  have k6 : (a : Int) + 1 + (m : Int) + 3 ≤ (cap1 : Int) := by omega
  have q1 : IntKind.i64.wrap ((a : Int) + 1 + 3) = (a : Int) + 1 + 3 := by rw [IntKind.wrap_i64]; omega
  have q2 : IntKind.i64.wrap ((a : Int) + 1 + (m : Int)) = (a : Int) + 1 + (m : Int) := by rw [IntKind.wrap_i64]; omega
  have q3 : ((a : Int) + 1 + 3).toNat = a + 4 := by omega
  have q4 : ((a : Int) + 1).toNat = a + 1 := by omega
  have q5 : ((a : Int) + 1 + (m : Int)).toNat = a + 1 + m := by omega
  have q6 : ¬ cap1 = a + 4 := by omega
  have q7 : ¬ cap1 = a + 1 := by omega
  have q8 : a + 1 + m + 3 - (a + 4) = m := by omega
  have q9 : a + 1 + m - (a + 1) = m := by omega
  go_region_law (fail)
  clear hcopy k1 k2 k3 k4 k5 k6 q1 q2 q3 q4 q5 q6 q7 q8 q9
  go_wp2
  refine wp_loop_rounds 4 ?_
  iterate 4 (rw [rounds_succ]; go_wp2)
  go_ret
  exact ⟨_, rfl, HS.out, HB.out⟩

/-- 'closeElement' writes the length of what stands behind the one byte left for it. -/
theorem close_any (B : Nat) (v : Value) (A C : List Int) (x : Int) (W : World) (h : Row B W v (A ++ x :: C)) (hB : B ≤ W.heap.size) (hl : A.length ≤ 1800000) (hl2 : C.length ≤ 1800000) :
    Calls Try.prog 29 #[v, .int .i64 (A.length + 1 : Nat)] W fun e w' => ∃ v', e = .returned v' ∧ Row B w' v' (A ++ (lenB C.length ++ C)) ∧ Below B W w' := by
  obtain ⟨g, cap, hv, hc, hcm, hBg⟩ := h.shape (by simp; omega)
  subst hv
  have hn : (A ++ x :: C).length = A.length + 1 + C.length := by simp; omega
  rw [hn] at h ⊢
  by_cases h1 : C.length < 128
  · exact close_short B g _ _ cap A C x W h rfl rfl hBg h1 (by omega)
  by_cases h2 : C.length < 256
  · exact close_long1 B g _ _ cap A C x W h rfl rfl hB (by omega) h2 hl
  by_cases h3 : C.length < 65536
  · exact close_long2 B g _ _ cap A C x W h rfl rfl hB (by omega) h3 hl
  · exact close_long3 B g _ _ cap A C x W h rfl rfl hB (by omega) (by omega) hl hl2

set_option maxRecDepth 100000 in
theorem zzclose_any (B : Nat) (v : Value) (A C : List Int) (x : Int) (W : World) (h : Row B W v (A ++ x :: C)) (hB : B ≤ W.heap.size) (hl : A.length ≤ 1800000) (hl2 : C.length ≤ 1800000) (st : Int) (hst : st = (A.length : Int) + 1) :
    Calls Try.prog 17 #[v, .int .i64 st] W fun e w' => ∃ v', e = .returned v' ∧ Row B w' v' (A ++ (lenB C.length ++ C)) ∧ Below B W w' := by
  have hC := close_any B v A C x W h hB hl hl2
  have e : ((A.length + 1 : Nat) : Int) = st := by omega
  rw [e] at hC
  clear h hst e
  go_enter Try.func17, Try.ntmps17
  go_wp2_with fail
  refine hC.mono ?_
  rintro _ w' ⟨v', rfl, hr, hb⟩
  go_wp2
  go_ret
  exact ⟨_, rfl, hr, hb⟩

end Go.Proofs.Qxb6002699a.sl
