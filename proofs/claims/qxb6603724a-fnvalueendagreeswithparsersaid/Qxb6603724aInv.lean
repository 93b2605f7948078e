/-
  Seat b6603724a. What the parser's loops carry, as plain facts.
-/
import Derived.Test.Qxb6603724aKey
namespace Go.Proofs.Qxb6603724a.sl
open Go.RowKit

def isCl (c : Int) : Prop := c = 125 ∨ c = 93
theorem isCl_close {c : Int} (h : isCl c) : isClose c := h

/-- A whole value stands from i up to q. -/
def VP (D : List Int) (n i q : Nat) : Prop := q ≤ n ∧ ((D.getD i 0 = 34 ∧ St D (i + 1) q) ∨ (isOpen (D.getD i 0) ∧ Ev D i 0 q) ∨ (D.getD i 0 ≠ 34 ∧ ¬ isOpen (D.getD i 0) ∧ i < q ∧ Plain D i q))

/-- Whatever end the scan finds from p at depth d is the end of the value at i. -/
def Kp (D : List Int) (i p d : Nat) : Prop := isOpen (D.getD i 0) ∧ ∀ r, Ev D p d r → Ev D i 0 r
theorem Kp.thru {D : List Int} {i p q d : Nat} (h : Kp D i p d) (t : Thru D p q) : Kp D i q d := ⟨h.1, fun r hv => h.2 r (t d r hv)⟩

/-- Ahead of a value: at the very start, or inside d containers. -/
def Head (D : List Int) (i p d : Nat) : Prop := (p = i ∧ d = 0) ∨ (1 ≤ d ∧ Kp D i p d)
/-- Behind a value. -/
def After (D : List Int) (n i p d : Nat) : Prop := (d = 0 ∧ VP D n i p) ∨ (1 ≤ d ∧ Kp D i p d)

theorem head_open {D : List Int} {i p d : Nat} (h : Head D i p d) (hp : p < D.length) (hc : isOpen (D.getD p 0)) : Kp D i (wsEnd D (p + 1)) (d + 1) := by
  have t := thru_ws (D := D) (p := p + 1) (by omega)
  rcases h with ⟨rfl, rfl⟩ | ⟨_, hk⟩
  · exact ⟨hc, fun r hv => Ev.opn hp hc (t _ _ hv)⟩
  · exact ⟨hk.1, fun r hv => hk.2 r (Ev.opn hp hc (t _ _ hv))⟩

theorem after_close {D : List Int} {n i q d : Nat} (h : Kp D i q (d + 1)) (hn : n = D.length) (hq : q < n) (hc : isCl (D.getD q 0)) : After D n i (q + 1) d := by
  cases d with
  | zero => exact .inl ⟨rfl, by omega, .inr (.inl ⟨h.1, h.2 _ (Ev.last (by omega) (isCl_close hc))⟩)⟩
  | succ d => exact .inr ⟨by omega, h.1, fun r hv => h.2 r (Ev.cls (by omega) (isCl_close hc) hv)⟩

theorem after_scalar {D : List Int} {n i p q d : Nat} (h : Head D i p d) (hn : n = D.length) (hs : IsScalar D n p q) (ho : ¬ isOpen (D.getD p 0)) : After D n i q d := by
  rcases h with ⟨rfl, rfl⟩ | ⟨hd, hk⟩
  · obtain ⟨h1, h2, h3 | h3⟩ := hs
    · exact .inl ⟨rfl, h2, .inl h3⟩
    · exact .inl ⟨rfl, h2, .inr (.inr ⟨h3.1, ho, h1, h3.2⟩)⟩
  · exact .inr ⟨hd, hk.thru (thru_scalar hn hs)⟩

theorem after_ws {D : List Int} {n i p d : Nat} (h : After D n i p (d + 1)) (hp : p ≤ D.length) : Kp D i (wsEnd D p) (d + 1) := by
  rcases h with ⟨h0, _⟩ | ⟨_, hk⟩
  · omega
  · exact hk.thru (thru_ws hp)

theorem kp_comma {D : List Int} {i q d : Nat} (h : Kp D i q d) (hq : q < D.length) (hc : D.getD q 0 = 44) : Kp D i (wsEnd D (q + 1)) d :=
  (h.thru (thru_one hq (by rw [hc]; unfold passed isOpen isClose; omega))).thru (thru_ws (by omega))

theorem kp_key {D : List Int} {n i p q d : Nat} (h : Kp D i p d) (hk : IsKey D n p q) : Kp D i q d := h.thru hk.2.2

/-- The stack in memory. -/
theorem Dat.step {w w' : World} {b off n : Nat} {D : List Int} (h : Dat w b off n D) (hb : Below w.heap.size w w') : Dat w' b off n D :=
  ⟨h.len, fun j hj => (hb.cell (World.block_lt_of_cell? _ _ (h.cell j hj))).trans (h.cell j hj), h.fits⟩

/-- The stack: its value and its cells. -/
structure Stk (B : Nat) (W : World) (ad : Option Addr) (cap : Nat) (stk : List Int) : Prop where
  own : W.ownsRow B 5 1 (.slice ad stk.length cap) stk.length (stk.map (Value.int .u8))
  cls : ∀ c ∈ stk, isCl c

theorem Stk.nil (B : Nat) (W : World) : Stk B W none 0 [] := ⟨World.ownsRow_nil _ _ _ _, by simp⟩

theorem Stk.shape {B : Nat} {W : World} {ad : Option Addr} {cap : Nat} {stk : List Int} (h : Stk B W ad cap stk) (h0 : 0 < stk.length) : ∃ g, ad = some ⟨g, 0, none⟩ ∧ stk.length ≤ cap ∧ cap ≤ maxLen := by
  rcases h.own.2 with ⟨_, h1⟩ | ⟨g, cap', cur, hv, _, _, h1, h2, _, _⟩
  · omega
  · simp only [Value.slice.injEq] at hv
    obtain ⟨rfl, _, rfl⟩ := hv
    exact ⟨g, rfl, h1, h2⟩

/-- The top of the stack. -/
def top (stk : List Int) : Int := stk.getD (stk.length - 1) 0
theorem top_cls {stk : List Int} (h : ∀ c ∈ stk, isCl c) (h0 : 0 < stk.length) : isCl (top stk) := by
  apply h
  unfold top
  rw [List.getD_eq_getElem?_getD, List.getElem?_eq_getElem (by omega)]
  exact List.getElem_mem _

theorem Stk.cell {B : Nat} {W : World} {g cap : Nat} {stk : List Int} (h : Stk B W (some ⟨g, 0, none⟩) cap stk) (h0 : 0 < stk.length) : W.cell? ⟨g, stk.length - 1, none⟩ = some (.int .u8 (top stk)) := by
  rw [h.own.cellAt (stk.length - 1) (by omega)]
  unfold top
  have : stk.length - 1 < stk.length := by omega
  simp [this]

/-- 's = s[:len(s)-1]'. -/
theorem Stk.pop {B : Nat} {W : World} {g cap : Nat} {stk : List Int} (h : Stk B W (some ⟨g, 0, none⟩) cap stk) (h0 : 0 < stk.length) : Stk B W (some ⟨g, 0, none⟩) cap (stk.take (stk.length - 1)) := by
  refine ⟨?_, fun c hc => h.cls c (List.mem_of_mem_take hc)⟩
  have hl : (stk.take (stk.length - 1)).length = stk.length - 1 := by simp
  rcases h.own.2 with ⟨_, h1⟩ | ⟨g', cap', cur, hv, hB, hg, h1, h2, h3, h4⟩
  · omega
  · simp only [Value.slice.injEq, Option.some.injEq, Addr.mk.injEq, and_true, true_and] at hv
    obtain ⟨rfl, rfl⟩ := hv
    refine ⟨by simp, .inr ⟨g, cap, cur, rfl, hB, hg, by omega, h2, h3, ?_⟩⟩
    rw [hl, List.map_take, ← h4, List.take_take]
    congr 1
    omega

theorem Stk.len_pop {stk : List Int} : (stk.take (stk.length - 1)).length = stk.length - 1 := by simp

theorem Stk.below {B : Nat} {W W' : World} {ad : Option Addr} {cap : Nat} {stk : List Int} (h : Stk B W ad cap stk) (hb : Below W.heap.size W W') : Stk B W' ad cap stk := by
  refine ⟨⟨h.own.1, ?_⟩, h.cls⟩
  rcases h.own.2 with h1 | ⟨g, cap', cur, hv, hB, hg, r⟩
  · exact .inl h1
  · refine .inr ⟨g, cap', cur, hv, hB, ?_, r⟩
    have : g < W.heap.size := by
      rcases Nat.lt_or_ge g W.heap.size with h' | h'
      · exact h'
      · rw [Array.getElem?_eq_none h'] at hg; cases hg
    rw [hb.block g this]; exact hg

/-- 'stack = append(stack, closer)': the run's own equation. -/
theorem Stk.push {B : Nat} {W : World} {ad : Option Addr} {cap : Nat} {stk : List Int} (h : Stk B W ad cap stk) (hB : B ≤ W.heap.size) (hl : stk.length ≤ 2000000) (c : Int) (hc : isCl c) :
    ∃ ad' cap' w1, (Builtin.append_ #[22, 22] 22 #[.slice ad stk.length cap, .slice (some ⟨W.heap.size, 0, none⟩) 1 1]).run Try.prog (W.alloc (.cells #[.int .u8 c] 5)) = .ok (.slice ad' (stk ++ [c]).length cap') w1 ∧ Stk B w1 ad' cap' (stk ++ [c]) ∧ Below B W w1 := by
  obtain ⟨i0, hi, hz0, hz1, hz2⟩ := info_parts Try.info5
  obtain ⟨v', w1, hrun, hown', hg, _⟩ := run_append_own (P := Try.prog) (W.alloc (.cells #[.int .u8 c] 5)) B 22 22 5 i0 (.int .u8 0) 1 1 Try.underlying22 hi hz0 hz1 hz2 rfl (by decide) (.slice ad stk.length cap) stk.length (stk.map (Value.int .u8)) (h.own.alloc _) ⟨W.heap.size, 0, none⟩ 1 1 [.int .u8 c] rfl
    (by intro j u hj
        match j, hj with
        | 0, hj => simp at hj; subst hj; simp [Addr.add])
    (by intro u hu; simp at hu; subst hu; rfl) (by unfold maxLen; omega) (by omega) (by simp; omega)
  have eL : stk.map (Value.int .u8) ++ [Value.int IntKind.u8 c] = (stk ++ [c]).map (Value.int .u8) := by simp
  have eN : stk.length + 1 = (stk ++ [c]).length := by simp
  rw [eL, eN] at hown'
  have hb : Below B W w1 := ((Below.refl B W).alloc hB _).grown hg (by simp; omega) (fun k hk => (h.own.lt k hk).1)
  rcases hown'.2 with ⟨_, h1⟩ | ⟨g, cap', cur, hv, _⟩
  · simp at h1
  · subst hv
    exact ⟨_, cap', w1, hrun, ⟨hown', fun x hx => by rcases List.mem_append.1 hx with h1 | h1; exact h.cls x h1; simp at h1; subst h1; exact hc⟩, hb⟩

/-- An append whose run is known. -/
theorem wpList_append_run {P : Program} {ops : Array Oper} {rest : List Oper} {o : Oper} {a : Act} {Q : Exit → Act → World → Prop} {w w' : World} {v y v' : Value} (t ty : TypeId)
    (hrun : (Builtin.append_ #[t, t] ty #[v, y]).run P w = .ok v' w') (hg : o.guard = none) (s x : Operand) (hop : o.op = Op.call { callee := Callee.builtin Builtin.append, args := #[s, x], argTypes := #[t, t] }) (hty : o.type = ty)
    (hs : a.eval s = v) (hx : a.eval x = y) (hK : wpList P ops Q rest (a.put o.dst v') w') : wpList P ops Q (o :: rest) a w := by
  refine wpList_plain hg fun K hK' => ?_
  unfold Oper.wp
  simp [execOp, hop, resolve, invoke, builtin, hs, hx, hty, hrun, Result.andThen]
  exact hK' _ _ hK
end Go.Proofs.Qxb6603724a.sl
