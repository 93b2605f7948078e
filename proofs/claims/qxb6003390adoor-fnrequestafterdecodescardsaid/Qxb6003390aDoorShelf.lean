/-
  Seat b6003390aD. The shelf's contract of internal/strconv.AppendUint at base 10, laid at this program (written by the kit's lay-shelf.mjs and lay-plain.mjs for this program), and strconv.AppendUint out of it.
-/
import Derived.Shelf.LaysM
import Derived.Shelf.Strconv.AppendUint10
import Derived.Test.Qxb6003390aDoorRows
import Derived.WalkKit
import Derived.WalkSpells
namespace Go.Proofs.Qxb6003390aDoor.shelf
open Go.Shelf Go.RowKit Go.Sort Go.Lib
def laysM288_ren : Go.Shelf.Ren := ⟨fun | 288 => 16 | 283 => 17 | 284 => 18 | 285 => 19 | 286 => 20 | 129 => 22 | 317 => 21 | 318 => 23 | 319 => 24 | 320 => 25 | 337 => 26 | 338 => 27 | n => n, fun | 37 => 35 | 53 => 22 | 3 => 3 | 4 => 4 | 9 => 9 | 171 => 38 | 0 => 0 | 173 => 41 | 212 => 45 | 51 => 23 | 5 => 5 | 20 => 20 | 213 => 46 | 46 => 48 | 232 => 51 | 233 => 52 | n => n, fun | 17 => 0 | 18 => 1 | 19 => 2 | n => n⟩
theorem laysM288 : Go.Proofs.LaysM.n288 Tryd.prog laysM288_ren := {
  mixed := by kernel_rfl
  f129 := Tryd.func22.trans (congrArg some (by kernel_rfl))
  f283 := Tryd.func17.trans (congrArg some (by kernel_rfl))
  f284 := Tryd.func18.trans (congrArg some (by kernel_rfl))
  f285 := Tryd.func19.trans (congrArg some (by kernel_rfl))
  f286 := Tryd.func20.trans (congrArg some (by kernel_rfl))
  f288 := Tryd.func16.trans (congrArg some (by kernel_rfl))
  f317 := Tryd.func21.trans (congrArg some (by kernel_rfl))
  f318 := Tryd.func23.trans (congrArg some (by kernel_rfl))
  f319 := Tryd.func24.trans (congrArg some (by kernel_rfl))
  f320 := Tryd.func25.trans (congrArg some (by kernel_rfl))
  f337 := Tryd.func26.trans (congrArg some (by kernel_rfl))
  f338 := Tryd.func27.trans (congrArg some (by kernel_rfl))
  t0 := Tryd.underlying0
  a0 := Tryd.isAgg0
  z0 := Tryd.sizeOf0
  v0 := Tryd.zeroValue0
  t3 := Tryd.underlying3
  a3 := Tryd.isAgg3
  z3 := Tryd.sizeOf3
  v3 := Tryd.zeroValue3
  t4 := Tryd.underlying4
  a4 := Tryd.isAgg4
  z4 := Tryd.sizeOf4
  v4 := Tryd.zeroValue4
  t5 := Tryd.underlying5
  a5 := Tryd.isAgg5
  z5 := Tryd.sizeOf5
  v5 := Tryd.zeroValue5
  t9 := Tryd.underlying9
  a9 := Tryd.isAgg9
  z9 := Tryd.sizeOf9
  v9 := Tryd.zeroValue9
  t20 := Tryd.underlying20
  a20 := Tryd.isAgg20
  z20 := Tryd.sizeOf20
  v20 := Tryd.zeroValue20
  t37 := Tryd.underlying35
  a37 := Tryd.isAgg35
  z37 := Tryd.sizeOf35
  v37 := Tryd.zeroValue35
  t46 := Tryd.underlying48
  a46 := Tryd.isAgg48
  z46 := Tryd.sizeOf48
  v46 := Tryd.zeroValue48
  t51 := Tryd.underlying23
  a51 := Tryd.isAgg23
  z51 := Tryd.sizeOf23
  v51 := Tryd.zeroValue23
  t53 := Tryd.underlying22
  a53 := Tryd.isAgg22
  z53 := Tryd.sizeOf22
  v53 := Tryd.zeroValue22
  t171 := Tryd.underlying38
  a171 := Tryd.isAgg38
  z171 := Tryd.sizeOf38
  v171 := Tryd.zeroValue38
  t173 := Tryd.underlying41
  a173 := Tryd.isAgg41
  z173 := Tryd.sizeOf41
  v173 := Tryd.zeroValue41
  t212 := Tryd.underlying45
  a212 := Tryd.isAgg45
  z212 := Tryd.sizeOf45
  v212 := Tryd.zeroValue45
  t213 := Tryd.underlying46
  a213 := Tryd.isAgg46
  z213 := Tryd.sizeOf46
  t232 := Tryd.underlying51
  a232 := Tryd.isAgg51
  z232 := Tryd.sizeOf51
  v232 := Tryd.zeroValue51
  t233 := Tryd.underlying52
  a233 := Tryd.isAgg52
  z233 := Tryd.sizeOf52
  v233 := Tryd.zeroValue52
  g17 := by kernel_rfl
  g18 := by kernel_rfl
  g19 := by kernel_rfl
  i0 := by kernel_rfl
  i3 := by kernel_rfl
  i4 := by kernel_rfl
  i5 := by kernel_rfl
  i9 := by kernel_rfl
  i20 := by kernel_rfl
  i37 := by kernel_rfl
  i46 := by kernel_rfl
  i51 := by kernel_rfl
  i53 := by kernel_rfl
  i171 := by kernel_rfl
  i173 := by kernel_rfl
  i212 := by kernel_rfl
  i232 := by kernel_rfl
  i233 := by kernel_rfl
  m17 := by kernel_rfl
  m18 := by kernel_rfl
  m19 := by kernel_rfl }
/-- The name of the table that numDigits reads. -/
def powName : String := Rows.fnWaitingLineDecodesRow.named.headD ""

/-- internal/strconv.AppendUint(dst, u, 10): what comes back owns dst's cells and, behind them, u's decimal numeral. -/
theorem iappend (B n u : Nat) (hu64 : u < 18446744073709551616) (sv : Value) (xs : List Value) (w : World) (hown : w.ownsRow B 5 1 sv n xs) (hBw : B ≤ w.heap.size) (hlim : n + 20 ≤ 140737488355328)
    (htab : Lib.TabIs Tryd.prog w powName .u64 Lib.pow10Tab) :
    Calls Tryd.prog 16 #[sv, .int .u64 u, .int .i64 10] w fun e w' => ∃ v', e = .returned v' ∧ w'.ownsRow B 5 1 v' (n + (Lib.decDigits u).length) (xs ++ Lib.byteCells (Lib.decDigits u)) ∧ Below B w w' ∧ Lib.OthersKept 5 none w w' := by
  by_cases hu : u < 100
  · exact Any.internal_strconv_AppendUint_10_small laysM288 B n u hu sv xs w hown hBw hlim
  · exact Any.internal_strconv_AppendUint_10_big laysM288 B n u (by omega) hu64 sv xs w hown hBw hlim htab

/-- strconv.AppendUint(dst, u, 10): the same. -/
theorem sappend (B n u : Nat) (hu64 : u < 18446744073709551616) (sv : Value) (xs : List Value) (w : World) (hown : w.ownsRow B 5 1 sv n xs) (hBw : B ≤ w.heap.size) (hlim : n + 20 ≤ 140737488355328)
    (htab : Lib.TabIs Tryd.prog w powName .u64 Lib.pow10Tab) :
    Calls Tryd.prog 13 #[sv, .int .u64 u, .int .i64 10] w fun e w' => ∃ v', e = .returned v' ∧ w'.ownsRow B 5 1 v' (n + (Lib.decDigits u).length) (xs ++ Lib.byteCells (Lib.decDigits u)) ∧ Below B w w' := by
  have hI := iappend B n u hu64 sv xs w hown hBw hlim htab
  clear hown hBw hlim htab
  go_enter Tryd.func13, Tryd.ntmps13
  go_wp2_with fail
  refine hI.mono ?_
  rintro e w' ⟨v', rfl, h1, h2, _⟩
  clear hI
  go_wp2
  go_ret
  exact ⟨v', rfl, h1, h2⟩

/-- The row's base may be taken lower. -/
theorem ownsRow_mono {w : World} {B B' : Nat} {e : TypeId} {size : Nat} {v : Value} {n : Nat} {xs : List Value} (h : w.ownsRow B e size v n xs) (hB : B' ≤ B) : w.ownsRow B' e size v n xs := by
  refine ⟨h.1, ?_⟩
  rcases h.2 with h2 | ⟨g, cap, cur, hv, hg, r⟩
  · exact .inl h2
  · exact .inr ⟨g, cap, cur, hv, Nat.le_trans hB hg, r⟩

theorem info5 : (Tryd.prog.info? 5).map (fun i => (i.zero, i.size, i.bytes)) = some (some (.int .u8 0), 1, 1) := by kernel_rfl

/-- An append whose run is known. -/
theorem wpList_append_run {P : Program} {ops : Array Oper} {rest : List Oper} {o : Oper} {a : Act} {Q : Exit → Act → World → Prop} {w w' : World} {v y v' : Value} (t ty : TypeId)
    (hrun : (Builtin.append_ #[t, t] ty #[v, y]).run P w = .ok v' w') (hg : o.guard = none) (s x : Operand) (hop : o.op = Op.call { callee := Callee.builtin Builtin.append, args := #[s, x], argTypes := #[t, t] }) (hty : o.type = ty)
    (hs : a.eval s = v) (hx : a.eval x = y) (hK : wpList P ops Q rest (a.put o.dst v') w') : wpList P ops Q (o :: rest) a w := by
  refine wpList_plain hg fun K hK' => ?_
  unfold Oper.wp
  simp [execOp, hop, resolve, invoke, builtin, hs, hx, hty, hrun, Result.andThen]
  exact hK' _ _ hK

/-- What has been gathered: the bytes l, in a row of the call's own that may grow, or in a full row that must move. -/
def Acc (B : Nat) (W : World) (v : Value) (l : List UInt8) : Prop :=
  W.ownsRow B 5 1 v l.length (Lib.byteCells l) ∨ ∃ g, v = .slice (some ⟨g, 0, none⟩) l.length l.length ∧ ∀ j u, (Lib.byteCells l)[j]? = some u → W.cell? ⟨g, j, none⟩ = some u

/-- 'append(b, c)': one byte more; the run's own equation. -/
theorem acc_push {B : Nat} {W : World} {v : Value} {l : List UInt8} (h : Acc B W v l) (hB : B ≤ W.heap.size) (hl : l.length + 1 ≤ 140737488355328) (c : UInt8) (k : Int) (hk : k = (c.toNat : Int)) :
    ∃ v' w1, (Builtin.append_ #[35, 35] 35 #[v, .slice (some ⟨W.heap.size, 0, none⟩) 1 1]).run Tryd.prog (W.alloc (.cells #[.int .u8 k] 5)) = .ok v' w1 ∧ w1.ownsRow B 5 1 v' (l ++ [c]).length (Lib.byteCells (l ++ [c])) ∧ Below B W w1 := by
  subst hk
  obtain ⟨i0, hi, hz0, hz1, hz2⟩ := info_parts info5
  have hnews : ∀ j u, [Value.int IntKind.u8 (c.toNat : Int)][j]? = some u → (W.alloc (.cells #[.int .u8 (c.toNat : Int)] 5)).cell? ((⟨W.heap.size, 0, none⟩ : Addr).add j) = some u := by
    intro j u hj
    match j, hj with
    | 0, hj => simp at hj; subst hj; simp [Addr.add]
  have hone : ∀ u ∈ [Value.int IntKind.u8 (c.toNat : Int)], u.oneCell' = true := by intro u hu; simp at hu; subst hu; rfl
  have eL : Lib.byteCells l ++ [Value.int IntKind.u8 (c.toNat : Int)] = Lib.byteCells (l ++ [c]) := by simp [Lib.byteCells]
  have eN : l.length + 1 = (l ++ [c]).length := by simp
  have hm : l.length + 1 ≤ maxLen := by unfold maxLen; omega
  have bal : Below B W (W.alloc (.cells #[.int .u8 (c.toNat : Int)] 5)) := (Below.refl _ _).alloc hB _
  rcases h with hown | ⟨g, rfl, hcells⟩
  · obtain ⟨v', w1, hrun, hown', hg, _⟩ := run_append_own (P := Tryd.prog) (W.alloc (.cells #[.int .u8 (c.toNat : Int)] 5)) B 35 35 5 i0 (.int .u8 0) 1 1 Tryd.underlying35 hi hz0 hz1 hz2 rfl (by decide) v l.length (Lib.byteCells l) (hown.alloc _) ⟨W.heap.size, 0, none⟩ 1 1 [.int .u8 (c.toNat : Int)] rfl hnews hone hm (by omega) (by simp; omega)
    rw [eL, eN] at hown'
    exact ⟨v', w1, hrun, hown', bal.grown hg (by simp; omega) (fun k hk => (hown.lt k hk).1)⟩
  · obtain ⟨v', w1, hrun, hown', hg⟩ := run_append_arg_grows (P := Tryd.prog) (W.alloc (.cells #[.int .u8 (c.toNat : Int)] 5)) 35 35 5 i0 (.int .u8 0) 1 1 Tryd.underlying35 hi hz0 hz1 hz2 rfl (by decide) ⟨g, 0, none⟩ l.length l.length (Lib.byteCells l) (by simp [Lib.byteCells]) (fun j u hj => by
        have hc := hcells j u hj
        have hlt := World.block_lt_of_cell? _ _ hc
        have : (W.alloc (.cells #[.int .u8 (c.toNat : Int)] 5)).cell? ⟨g, j, none⟩ = some u := (((Below.refl W.heap.size W).alloc (Nat.le_refl _) _).cell (p := ⟨g, j, none⟩) hlt).trans hc
        rw [Lib.add_plain, Nat.zero_add]
        exact this) ⟨W.heap.size, 0, none⟩ 1 1 [.int .u8 (c.toNat : Int)] rfl hnews (by omega) hm (by omega)
    rw [eL, eN] at hown'
    exact ⟨v', w1, hrun, ownsRow_mono hown' (by simp; omega), bal.grown hg (by simp; omega) (by simp)⟩
end Go.Proofs.Qxb6003390aDoor.shelf
