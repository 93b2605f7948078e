/-
  Seat b6002699a. A row of bytes that the call itself made: what append, the append of a make, a store and a copy do to it.
-/
import Derived.Test.Qxb6002699aSl
import Derived.Lib.AppendZerosOnto
import Derived.Laws.CopyOwn
namespace Go.Proofs.Qxb6002699a.sl
open Go.RowKit

/-- The value v owns, in memory of the call's own from block B on, a row that reads as the numbers l. -/
def Row (B : Nat) (W : World) (v : Value) (l : List Int) : Prop := W.ownsRow B 5 1 v l.length (l.map (Value.int .u8))

theorem Row.shape {B : Nat} {W : World} {v : Value} {l : List Int} (h : Row B W v l) (h0 : 0 < l.length) : ∃ g cap, v = .slice (some ⟨g, 0, none⟩) l.length cap ∧ l.length ≤ cap ∧ cap ≤ maxLen ∧ B ≤ g := by
  rcases h.2 with ⟨_, h1⟩ | ⟨g, cap, cur, hv, hB, _, h1, h2, _, _⟩
  · omega
  · exact ⟨g, cap, hv, h1, h2, hB⟩

theorem Row.isB {B : Nat} {W : World} {g cap n : Nat} {l : List Int} (h : Row B W (.slice (some ⟨g, 0, none⟩) n cap) l) (hn : n = l.length) : IsB .u8 W (some ⟨g, 0, none⟩) l := by
  subst hn
  exact isB_own h

theorem Row.below {B : Nat} {W W' : World} {v : Value} {l : List Int} (h : Row B W v l) (hb : Below W.heap.size W W') : Row B W' v l := by
  refine ⟨h.1, ?_⟩
  rcases h.2 with h1 | ⟨g, cap', cur, hv, hB, hg, r⟩
  · exact .inl h1
  · refine .inr ⟨g, cap', cur, hv, hB, ?_, r⟩
    have : g < W.heap.size := by
      rcases Nat.lt_or_ge g W.heap.size with h' | h'
      · exact h'
      · rw [Array.getElem?_eq_none h'] at hg; cases hg
    rw [hb.block g this]; exact hg

theorem adr_plain (b o j : Nat) : (⟨b, o, none⟩ : Addr).add j = ⟨b, o + j, none⟩ := by
  unfold Addr.add; split <;> simp_all

/-- 'append(b, k)' of one byte. -/
theorem Row.push {B : Nat} {W : World} {v : Value} {l : List Int} (h : Row B W v l) (hB : B ≤ W.heap.size) (hl : l.length ≤ 4000000) (k : Int) :
    ∃ v' w1, (Builtin.append_ #[26, 26] 26 #[v, .slice (some ⟨W.heap.size, 0, none⟩) 1 1]).run Try.prog (W.alloc (.cells #[.int .u8 k] 5)) = .ok v' w1 ∧ Row B w1 v' (l ++ [k]) ∧ Below B W w1 := by
  obtain ⟨i0, hi, hz0, hz1, hz2⟩ := info_parts Try.info5
  obtain ⟨v', w1, hrun, hown', hg, _⟩ := run_append_own (P := Try.prog) (W.alloc (.cells #[.int .u8 k] 5)) B 26 26 5 i0 (.int .u8 0) 1 1 Try.underlying26 hi hz0 hz1 hz2 rfl (by decide) v l.length (l.map (Value.int .u8)) (h.alloc _) ⟨W.heap.size, 0, none⟩ 1 1 [.int .u8 k] rfl
    (by intro j u hj
        match j, hj with
        | 0, hj => simp at hj; subst hj; simp [Addr.add])
    (by intro u hu; simp at hu; subst hu; rfl) (by unfold maxLen; omega) (by omega) (by simp; omega)
  have eL : l.map (Value.int .u8) ++ [Value.int IntKind.u8 k] = (l ++ [k]).map (Value.int .u8) := by simp
  have eN : l.length + 1 = (l ++ [k]).length := by simp
  rw [eL, eN] at hown'
  exact ⟨v', w1, hrun, hown', ((Below.refl B W).alloc hB _).grown hg (by simp; omega) (fun k hk => (World.ownsRow.lt h k hk).1)⟩

/-- 'append(b, src...)'. -/
theorem Row.app {B : Nat} {W : World} {v : Value} {l : List Int} (h : Row B W v l) (hB : B ≤ W.heap.size) (hl : l.length ≤ 4000000) (ad : Option Addr) (n c : Nat) (zs : List Int) (hz : IsB .u8 W ad zs) (hn : n = zs.length) (hc : ad = none → c = 0) (hm : n ≤ 4000000) :
    ∃ v' w1, (Builtin.append_ #[26, 26] 26 #[v, .slice ad n c]).run Try.prog W = .ok v' w1 ∧ Row B w1 v' (l ++ zs) ∧ Below B W w1 := by
  obtain ⟨i0, hi, hz0, hz1, hz2⟩ := info_parts Try.info5
  cases ad with
  | none =>
    have e := hz.nil
    subst e
    have e0 : n = 0 := hn
    subst e0
    rw [hc rfl, List.append_nil]
    exact ⟨v, W, run_append_owned_none (P := Try.prog) W B 26 26 5 i0 1 Try.underlying26 hi v l.length _ h, h, Below.refl _ _⟩
  | some x =>
    obtain ⟨v', w1, hrun, hown', hg, _⟩ := run_append_own (P := Try.prog) W B 26 26 5 i0 (.int .u8 0) 1 1 Try.underlying26 hi hz0 hz1 hz2 rfl (by decide) v l.length (l.map (Value.int .u8)) h x n c (zs.map (Value.int .u8)) (by simp [hn])
      (by intro j u hj
          have hj' : j < zs.length := by have := (List.getElem?_eq_some_iff.1 hj).1; simpa using this
          obtain ⟨b, off, e, hcell⟩ := hz j hj'
          cases e
          rw [adr_plain, hcell]
          simp [hj'] at hj
          simp [← hj, hj'])
      (by intro u hu; simp only [List.mem_map] at hu; obtain ⟨z, _, rfl⟩ := hu; rfl) (by unfold maxLen; omega) (by omega) hB
    rw [← List.map_append, hn, ← List.length_append] at hown'
    exact ⟨v', w1, hrun, hown', (Below.refl B W).grown hg hB (fun k hk => (World.ownsRow.lt h k hk).1)⟩

theorem zeroCells_one (k : Nat) : Builtin.zeroCells #[Value.int .u8 0] k = (List.replicate k (Value.int .u8 0)).toArray := by
  apply Array.ext'
  simp only [Builtin.zeroCells]
  apply List.ext_getElem?
  intro j
  by_cases hj : j < k
  · simp [hj, Nat.mod_one]
  · simp [hj]

/-- 'append(b, make([]byte, k)...)'. -/
theorem Row.zeros {B : Nat} {W : World} {v : Value} {l : List Int} (h : Row B W v l) (h0 : 0 < l.length) (hB : B ≤ W.heap.size) (hl : l.length ≤ 4000000) (k : Nat) (hk0 : 0 < k) (hk : k ≤ 4) :
    ∃ v' w1, (Builtin.append_ #[26, 3] 26 #[v, .int .i64 k]).run Try.prog W = .ok v' w1 ∧ Row B w1 v' (l ++ List.replicate k 0) ∧ Below B W w1 := by
  obtain ⟨i0, hi, hz0, hz1, hz2⟩ := info_parts Try.info5
  have eL : l.map (Value.int .u8) ++ List.replicate k (Value.int IntKind.u8 0) = (l ++ List.replicate k 0).map (Value.int .u8) := by simp
  have eN : l.length + k = (l ++ List.replicate k (0 : Int)).length := by simp
  have hlen : ((l ++ List.replicate k (0 : Int)).map (Value.int .u8)).length = (l ++ List.replicate k (0 : Int)).length * 1 := by simp
  have hlt := World.ownsRow.lt h
  rcases h.2 with ⟨_, h1⟩ | ⟨g, cap, cur, hv, hBg, hg, hnc, hcm, hcs, htake⟩
  · omega
  · subst hv
    by_cases hroom : l.length + k ≤ cap
    · have hst := run_storeCells_at Try.prog g l.length 5 (List.replicate k (Value.int .u8 0)) 0 cur W hg (by simp; omega) (by intro u hu; rw [List.mem_replicate] at hu; rw [hu.2]; rfl)
      simp only [Nat.add_zero] at hst
      have hw : IntKind.i64.wrap (k : Int) = k := by rw [IntKind.wrap_i64]; omega
      have hneg : ¬ ((k : Int) < 0) := by omega
      have h48 : ¬ (281474976710656 < (k : Int)) := by omega
      have hk0' : k ≠ 0 := by omega
      have hc1 : (Value.int IntKind.u8 0).cells = #[Value.int IntKind.u8 0] := rfl
      refine ⟨.slice (some ⟨g, 0, none⟩) (l.length + k) cap, W.setRow g (cur.toList.take l.length ++ List.replicate k (Value.int .u8 0) ++ cur.toList.drop (l.length + (List.replicate k (Value.int IntKind.u8 0)).length)).toArray, ?_, ?_, ?_⟩
      · simp [Builtin.append_, run_underlying Try.underlying26, run_underlying Try.underlying3, sizeOf, typeInfo, zeroValue, hi, hz0, hz1, hz2, asInt, asIntOf, hw, hneg, h48, hk0', hroom, hc1, zeroCells_one, Addr.add_lit]
        have hst' : (storeCells ⟨g, l.length, none⟩ (List.replicate k (Value.int IntKind.u8 0)) 0).run Try.prog W = .ok () (W.setRow g (List.take l.length cur.toList ++ (List.replicate k (Value.int IntKind.u8 0) ++ List.drop (l.length + k) cur.toList)).toArray) := by simpa using hst
        rw [hst']
        rfl
      · refine ⟨hlen, .inr ⟨g, cap, _, by rw [eN], hBg, setRow_heap W g cur _ 5 _ hg, by rw [← eN]; exact hroom, hcm, ?_, ?_⟩⟩
        · simp
          omega
        · have ht : cur.toList.take l.length = l.map (Value.int .u8) := by rw [Nat.mul_one] at htake; exact htake
          rw [ht, eL]
          simp only [Nat.mul_one]
          exact List.take_left' (by simp)
      · exact (Below.refl B W).trans ⟨rfl, rfl, rfl, by simp, fun j hj => setRow_other W g j _ (by omega)⟩
    · have hold : (Builtin.firstCells i0.size l.length (.slice (some ⟨g, 0, none⟩) l.length cap)).run Try.prog W.drew = .ok (l.map (Value.int .u8)).toArray W.drew := by
        rw [hz1]
        exact run_firstCells_some (P := Try.prog) W.drew 1 l.length ⟨g, 0, none⟩ l.length cap (l.map (Value.int .u8)) (by simp) (World.ownsRow.cells h (g := g) rfl)
      have hnx : Builtin.nextslicecap (l.length + k) cap * i0.bytes ≤ 281474976710656 := by
        rw [hz2, Nat.mul_one]
        unfold Builtin.nextslicecap
        split
        · omega
        · split
          · omega
          · unfold Builtin.growBy Builtin.growBy Builtin.growBy Builtin.growBy Builtin.growBy
            split <;> (try split) <;> (try split) <;> (try split) <;> omega
      have hr := Lib.run_append_grow_zeros (P := Try.prog) W 26 3 26 5 i0 (.int .u8 0) .i64 .i64 Try.underlying26 Try.underlying3 hi hz0 (some ⟨g, 0, none⟩) l.length cap (l.map (Value.int .u8)) hold k hk0 (by rw [hz1]; omega) (by omega) (by omega) (by rw [hz2]; omega) hnx
      refine ⟨_, _, hr, ?_, ?_⟩
      · have hge := grownCap_ge W (l.length + k) cap 5
        have hcm2 : grownCap W (l.length + k) cap 5 ≤ maxLen := grownCap_le_maxLen W (l.length + k) cap 5 (by unfold maxLen; omega)
        refine ⟨hlen, .inr ⟨W.heap.size, _, _, by rw [eN], hB, heap_alloc_new W.drew _, by rw [← eN]; exact hge, hcm2, ?_, ?_⟩⟩
        · simp only [show (Value.int IntKind.u8 0).cells = #[Value.int IntKind.u8 0] from rfl, zeroCells_one]
          simp
          omega
        · simp only [show (Value.int IntKind.u8 0).cells = #[Value.int IntKind.u8 0] from rfl, zeroCells_one]
          simp only [Array.toList_append, Nat.mul_one]
          rw [eL]
          exact List.take_left' (by simp)
      · exact (Below.refl B W).trans ⟨rfl, rfl, rfl, by simp, fun j hj => Below.heap_alloc W.drew _ j (by show j < W.heap.size; omega)⟩

/-- A copy within the row. -/
theorem Row.copy {B : Nat} {W : World} {g n cap : Nat} {l : List Int} (h : Row B W (.slice (some ⟨g, 0, none⟩) n cap) l) (hn : n = l.length) (hB : B ≤ g) (d s m c1 c2 : Nat) (hd : d + m ≤ n) (hs : s + m ≤ n) (hm0 : 0 < m) :
    ∃ w2, (Builtin.copy_ #[26, 26] 3 #[.slice (some ⟨g, d, none⟩) m c1, .slice (some ⟨g, s, none⟩) m c2]).run Try.prog W.drew = .ok (.int .i64 m) w2 ∧ Row B w2 (.slice (some ⟨g, 0, none⟩) n cap) (l.take d ++ ((l.drop s).take m ++ l.drop (d + m))) ∧ Below B W w2 := by
  subst hn
  have hcells := World.ownsRow.cells h (g := g) rfl
  rcases h.2 with ⟨h1, _⟩ | ⟨g', cap', cur, hv, hBg, hg, hnc, hcm, hcs, htake⟩
  · simp at h1
  · simp only [Value.slice.injEq, Option.some.injEq, Addr.mk.injEq, and_true, true_and] at hv
    obtain ⟨rfl, rfl⟩ := hv
    have hlm : (((l.drop s).take m).map (Value.int .u8)).length = m := by simp; omega
    have hsz : (Try.prog.info? 5).map (·.size) = some 1 := by kernel_rfl
    have hrun := run_copy_row (P := Try.prog) W.drew 26 26 3 5 g d m c1 ⟨g, s, none⟩ m c2 cur 5 (((l.drop s).take m).map (Value.int .u8)) Try.underlying26 hsz hg (by rw [hlm]; simp)
      (by intro j u hj
          rw [adr_plain]
          have hj' : j < m := by have := (List.getElem?_eq_some_iff.1 hj).1; omega
          have hx : (l.map (Value.int .u8))[s + j]? = some u := by
            rw [← hj]
            simp [hj', List.getElem?_drop]
          have := hcells (s + j) u hx
          rw [adr_plain, Nat.zero_add] at this
          exact this)
      (by rw [hlm]; omega) (by intro u hu; simp only [List.mem_map] at hu; obtain ⟨z, _, rfl⟩ := hu; rfl)
    rw [hlm] at hrun
    refine ⟨_, hrun, ?_, (Below.refl B W).trans ⟨rfl, rfl, rfl, by simp, fun j hj => setRow_other W.drew g j _ (by omega)⟩⟩
    have ht : cur.toList.take l.length = l.map (Value.int .u8) := by rw [Nat.mul_one] at htake; exact htake
    have hll : (l.take d ++ ((l.drop s).take m ++ l.drop (d + m))).length = l.length := by simp; omega
    refine ⟨by simp, .inr ⟨g, cap, _, by rw [hll], hBg, setRow_heap W.drew g cur _ 5 _ hg, by rw [hll]; exact hnc, hcm, ?_, ?_⟩⟩
    · simp
      omega
    · rw [hll, Nat.mul_one]
      have e1 : cur.toList.take d = (l.take d).map (Value.int .u8) := by
        rw [List.map_take, ← ht, List.take_take, Nat.min_eq_left (by omega)]
      have e2 : (l.drop (d + m)).map (Value.int .u8) = (cur.toList.drop (d + m)).take (l.length - (d + m)) := by
        rw [List.map_drop, ← ht, List.drop_take]
      have hld : ((l.take d).map (Value.int .u8)).length = d := by simp; omega
      rw [List.map_append, List.map_append, e2, e1]
      generalize (l.take d).map (Value.int .u8) = X at hld
      generalize ((l.drop s).take m).map (Value.int .u8) = Y at hlm
      have hXY : (X ++ Y).length = d + m := by simp [hld, hlm]
      show ((X ++ Y) ++ cur.toList.drop (d + m)).take l.length = _
      rw [List.take_append, List.take_of_length_le (by omega), hXY, List.append_assoc]
end Go.Proofs.Qxb6002699a.sl
