/-
  Seat b6003390aD. 'waitingLine' by a contract: the bytes that it writes.
-/
import Derived.Test.Qxb6003390aDoorShelf
import Derived.Lib.AppendIntMem
import Derived.Lib.SlBytesConst
import Derived.Lib.Hide
import Derived.Laws.IdiomStrings
import Derived.Deep.MidRow
import Derived.Outline
namespace Go.Proofs.Qxb6003390aDoor.line
open Go.RowKit Go.Lib Go.Proofs.Qxb6003390aDoor.shelf

/-- The slice at 'ad' reads as the numbers ns (each a uint32). -/
def IsN (W : World) (ad : Option Addr) (ns : List Nat) : Prop :=
  ∀ j, j < ns.length → ∃ b off, ad = some ⟨b, off, none⟩ ∧ W.cell? ⟨b, off + j, none⟩ = some (.int .u32 (ns.getD j 0 : Nat))

theorem IsN.step {W W' : World} {ad : Option Addr} {ns : List Nat} (h : IsN W ad ns) (hb : Below W.heap.size W W') : IsN W' ad ns := by
  intro j hj
  obtain ⟨b, off, e, hc⟩ := h j hj
  exact ⟨b, off, e, (hb.cell (World.block_lt_of_cell? _ _ hc)).trans hc⟩

theorem IsN.at0 {W : World} {ad : Option Addr} {ns : List Nat} (h : IsN W ad ns) (h0 : 0 < ns.length) :
    ∃ b off, ad = some ⟨b, off, none⟩ ∧ ∀ j, j < ns.length → W.cell? ⟨b, off + j, none⟩ = some (.int .u32 (ns.getD j 0 : Nat)) := by
  obtain ⟨b, off, e, _⟩ := h 0 h0
  refine ⟨b, off, e, fun j hj => ?_⟩
  obtain ⟨b', off', e', hc⟩ := h j hj
  rw [e] at e'
  cases e'
  exact hc

theorem isN_nil (W : World) (ad : Option Addr) : IsN W ad [] := fun j hj => absurd hj (by simp)

/-! ### The plain text -/
def word : List UInt8 := [119, 97, 105, 116, 105, 110, 103]
/-- One entry: a space and the numeral. -/
def entry (u : Nat) : List UInt8 := 32 :: decDigits u
/-- The line without its last byte. -/
def body (ns : List Nat) : List UInt8 := word ++ ns.flatMap entry

theorem body_step (ns : List Nat) (k : Nat) (h : k < ns.length) : body (ns.take (k + 1)) = body (ns.take k) ++ [32] ++ decDigits (ns.getD k 0) := by
  rw [List.take_succ_eq_append_getElem h, body, body, List.flatMap_append]
  simp [entry, h]

theorem digits_le (u : Nat) (h : u < 4294967296) : (decDigits u).length ≤ 20 := by
  rw [decDigits_length]
  by_cases h1 : 1 ≤ u
  · have := numDigits_eq u h1 (by omega)
    split at this <;> omega
  · rw [nDigits_small (by omega)]; omega

theorem body_len (ns : List Nat) (hlt : ∀ u ∈ ns, u < 4294967296) (k : Nat) (hk : k ≤ ns.length) : (body (ns.take k)).length ≤ 7 + 21 * k := by
  induction k with
  | zero => simp [body, word]
  | succ k ih =>
    rw [body_step ns k (by omega)]
    have := ih (by omega)
    have h2 := digits_le (ns.getD k 0) (hlt _ (by rw [List.getD_eq_getElem?_getD, List.getElem?_eq_getElem (by omega)]; exact List.getElem_mem _))
    simp only [List.length_append, List.length_cons, List.length_nil]
    omega

theorem acc_own {B : Nat} {W : World} {v : Value} {l : List UInt8} (h : W.ownsRow B 5 1 v l.length (byteCells l)) : Acc B W v l := .inl h

theorem ret_str {a b : List UInt8} (h : a = b) : Ending.returned (.string ⟨a.toArray⟩) = .returned (.string ⟨b.toArray⟩) := by rw [h]

set_option maxHeartbeats 2000000 in
theorem line_some (b off n c : Nat) (ns : List Nat) (w : World) (hn : n = ns.length) (hc : ∀ j, j < n → w.cell? ⟨b, off + j, none⟩ = some (.int .u32 (ns.getD j 0 : Nat))) (hm : n ≤ 65536) (hlt : ∀ u ∈ ns, u < 4294967296)
    (htab : TabIs Tryd.prog w powName .u64 pow10Tab) :
    Calls Tryd.prog 15 #[.slice (some ⟨b, off, none⟩) n c] w fun e w' => e = .returned (.string ⟨(body ns ++ [10]).toArray⟩) ∧ Below w.heap.size w w' := by
  have hT := tabBelow_of_tabIs htab
  have kc := fun (w : World) (C : Array Value) (n c : Nat) => Lib.run_convert_bytes_const (P := Tryd.prog) w 35 5 C n c Tryd.underlying35 Tryd.underlying5
  have N : Hid (n = ns.length) := hn
  have LT : Hid (∀ u ∈ ns, u < 4294967296) := hlt
  have TB : Hid (TabBelow Tryd.prog w.heap.size w powName .u64 pow10Tab) := hT
  clear htab hn hlt hT
  go_enter Tryd.func15, Tryd.ntmps15
  go_wp2
  have hA0 : Acc w.heap.size (w.alloc (.cells #[.int .u8 119, .int .u8 97, .int .u8 105, .int .u8 116, .int .u8 105, .int .u8 110, .int .u8 103] 5 (7, 8))) (.slice (some ⟨w.heap.size, 0, none⟩) 7 7) (body (ns.take 0)) := by
    refine .inr ⟨w.heap.size, rfl, fun j u hj => ?_⟩
    have e : byteCells (body (ns.take 0)) = (#[Value.int IntKind.u8 119, .int .u8 97, .int .u8 105, .int .u8 116, .int .u8 105, .int .u8 110, .int .u8 103].extract 0 (0 + 7)).toList := rfl
    rw [e] at hj
    have := World.rangeAt_of_block (heap_alloc_new w (.cells #[.int .u8 119, .int .u8 97, .int .u8 105, .int .u8 116, .int .u8 105, .int .u8 110, .int .u8 103] 5 (7, 8))) 0 7 j u hj
    simpa using this
  have hb0 : Below w.heap.size w (w.alloc (.cells #[.int .u8 119, .int .u8 97, .int .u8 105, .int .u8 116, .int .u8 105, .int .u8 110, .int .u8 103] 5 (7, 8))) := (Below.refl _ _).alloc (Nat.le_refl _) _
  clear kc
  go_loopw [3, 10] (fun v i wr => ∃ k : Nat, k ≤ n ∧ i = .int .i64 k ∧ Acc w.heap.size wr v (body (ns.take k)) ∧ Below w.heap.size w wr) (fun _ i _ => n - (RowKit.intOf i).toNat)
  case atStart => exact ⟨0, Nat.zero_le _, rfl, hA0, hb0⟩
  case round =>
    obtain ⟨k, hk, rfl, hA, hb⟩ := hrel
    clear hA0 hb0
    have hlen := body_len ns LT.out k (by have := N.out; omega)
    have hsz := hb.size
    by_cases hlt : k < n
    · have hcw := hc k hlt
      have hcell : wr.cell? ⟨b, off + k, none⟩ = some (.int .u32 (ns.getD k 0 : Nat)) := (hb.cell (World.block_lt_of_cell? _ _ hcw)).trans hcw
      have hst := body_step ns k (by have := N.out; omega)
      have hu : ns.getD k 0 < 4294967296 := LT.out _ (by rw [List.getD_eq_getElem?_getD, List.getElem?_eq_getElem (by have := N.out; omega)]; exact List.getElem_mem _)
      have HST : Hid (body (ns.take (k + 1)) = body (ns.take k) ++ [32] ++ decDigits (ns.getD k 0)) := hst
      clear hst hc hcw
      generalize ns.getD k 0 = u at hcell hu HST
      obtain ⟨v1, w1, hrun, hown, hb1⟩ := acc_push hA hsz (by omega) 32 32 rfl
      have hs1 := hb1.size
      have hS := sappend w.heap.size _ u (by omega) v1 _ w1 hown (by omega) (by simp; omega) ((TB.out.on (hb.trans hb1)).here)
      rw [← List.length_append, ← byteCells_append, ← HST.out] at hS
      go_wp2_with (first | (at_builtin; refine wpList_append_run 35 35 hrun rfl _ _ rfl rfl rfl rfl ?_) | (go_at_call 13; refine hS.mono ?_; rintro e w2 ⟨v2, rfl, hown2, hb2⟩))
      go_roundw
      case rel => exact ⟨k + 1, by omega, by go_num, acc_own hown2, (hb.trans hb1).trans hb2⟩
      case measure => simp [RowKit.intOf]; omega
    · have hkn : ns.take k = ns := List.take_of_length_le (by have := N.out; omega)
      rw [hkn] at hA hlen
      obtain ⟨v1, w1, hrun, hown, hb1⟩ := acc_push hA hsz (by omega) 10 10 rfl
      have hbel := hb.trans hb1
      clear hkn hA hc TB LT N hlen
      obtain ⟨l, hl⟩ : ∃ l, l = body ns ++ [10] := ⟨_, rfl⟩
      rw [← hl] at hown
      have hpos : 0 < l.length := by rw [hl]; simp
      have HL : Hid (l = body ns ++ [10]) := hl
      clear hl
      rcases hown.2 with ⟨-, h0⟩ | ⟨g, cap, cur, hv, -, -, -, -, -, -⟩
      · omega
      · have hcv := run_convert_bytes_back (P := Tryd.prog) w1 35 9 5 ⟨g, 0, none⟩ cap l Tryd.underlying35 Tryd.underlying5 Tryd.underlying9 (fun j hj => hown.cells (g := g) (by rw [hv]; rfl) j _ (by simp [byteCells, hj]))
        subst hv
        clear hown
        go_wp2_with (at_builtin; refine wpList_append_run 35 35 hrun rfl _ _ rfl rfl rfl rfl ?_)
        go_ret
        exact ⟨ret_str HL.out, hbel⟩

theorem acc_word (w : World) : Acc w.heap.size (w.alloc (.cells #[.int .u8 119, .int .u8 97, .int .u8 105, .int .u8 116, .int .u8 105, .int .u8 110, .int .u8 103] 5 (7, 8))) (.slice (some ⟨w.heap.size, 0, none⟩) 7 7) (body []) := by
  refine .inr ⟨w.heap.size, rfl, fun j u hj => ?_⟩
  have e : byteCells (body []) = (#[Value.int IntKind.u8 119, .int .u8 97, .int .u8 105, .int .u8 116, .int .u8 105, .int .u8 110, .int .u8 103].extract 0 (0 + 7)).toList := rfl
  rw [e] at hj
  have := World.rangeAt_of_block (heap_alloc_new w (.cells #[.int .u8 119, .int .u8 97, .int .u8 105, .int .u8 116, .int .u8 105, .int .u8 110, .int .u8 103] 5 (7, 8))) 0 7 j u hj
  simpa using this

set_option maxHeartbeats 2000000 in
theorem line_empty (ad : Option Addr) (c : Nat) (w : World) :
    Calls Tryd.prog 15 #[.slice ad 0 c] w fun e w' => e = .returned (.string ⟨(body [] ++ [10]).toArray⟩) ∧ Below w.heap.size w w' := by
  have kc := fun (w : World) (C : Array Value) (n c : Nat) => Lib.run_convert_bytes_const (P := Tryd.prog) w 35 5 C n c Tryd.underlying35 Tryd.underlying5
  have hA := acc_word w
  have hb : Below w.heap.size w (w.alloc (.cells #[.int .u8 119, .int .u8 97, .int .u8 105, .int .u8 116, .int .u8 105, .int .u8 110, .int .u8 103] 5 (7, 8))) := (Below.refl _ _).alloc (Nat.le_refl _) _
  go_enter Tryd.func15, Tryd.ntmps15
  go_wp2
  generalize (w.alloc (.cells #[.int .u8 119, .int .u8 97, .int .u8 105, .int .u8 116, .int .u8 105, .int .u8 110, .int .u8 103] 5 (7, 8))) = wr at hA hb ⊢
  have hsz := hb.size
  obtain ⟨v1, w1, hrun, hown, hb1⟩ := acc_push hA hsz (by decide) 10 10 rfl
  have hbel := hb.trans hb1
  clear hA kc
  obtain ⟨l, hl⟩ : ∃ l, l = body [] ++ [10] := ⟨_, rfl⟩
  rw [← hl] at hown
  have hpos : 0 < l.length := by rw [hl]; simp
  have HL : Hid (l = body [] ++ [10]) := hl
  clear hl
  rcases hown.2 with ⟨-, h0⟩ | ⟨g, cap, cur, hv, -, -, -, -, -, -⟩
  · omega
  · have hcv := run_convert_bytes_back (P := Tryd.prog) w1 35 9 5 ⟨g, 0, none⟩ cap l Tryd.underlying35 Tryd.underlying5 Tryd.underlying9 (fun j hj => hown.cells (g := g) (by rw [hv]; rfl) j _ (by simp [byteCells, hj]))
    subst hv
    clear hown
    refine wp_loop_rounds 1 ?_
    rw [rounds_succ]
    go_wp2_with (at_builtin; refine wpList_append_run 35 35 hrun rfl _ _ rfl rfl rfl rfl ?_)
    go_ret
    exact ⟨ret_str HL.out, hbel⟩

theorem line_any (ad : Option Addr) (n c : Nat) (ns : List Nat) (w : World) (h : IsN w ad ns) (hn : n = ns.length) (hm : n ≤ 65536) (hlt : ∀ u ∈ ns, u < 4294967296)
    (htab : TabIs Tryd.prog w powName .u64 pow10Tab) :
    Calls Tryd.prog 15 #[.slice ad n c] w fun e w' => e = .returned (.string ⟨(body ns ++ [10]).toArray⟩) ∧ Below w.heap.size w w' := by
  by_cases h0 : n = 0
  · have hz : ns = [] := by cases ns with | nil => rfl | cons z zs => simp at hn; omega
    subst hz; subst h0
    exact line_empty ad c w
  · obtain ⟨b, off, e, hcell⟩ := h.at0 (by omega)
    subst e
    exact line_some b off n c ns w hn (fun j hj => hcell j (by omega)) hm hlt htab

theorem zzline_any (ad : Option Addr) (n c : Nat) (ns : List Nat) (w : World) (h : IsN w ad ns) (hn : n = ns.length) (hm : n ≤ 65536) (hlt : ∀ u ∈ ns, u < 4294967296)
    (htab : TabIs Tryd.prog w powName .u64 pow10Tab) :
    Calls Tryd.prog 12 #[.slice ad n c] w fun e w' => e = .returned (.string ⟨(body ns ++ [10]).toArray⟩) ∧ Below w.heap.size w w' := by
  have hL := line_any ad n c ns w h hn hm hlt htab
  clear h hn hlt htab
  obtain ⟨l, hl⟩ : ∃ l, l = body ns ++ [10] := ⟨_, rfl⟩
  rw [← hl] at hL ⊢
  clear hl
  go_enter Tryd.func12, Tryd.ntmps12
  go_wp2_with fail
  refine hL.mono ?_
  rintro e w' ⟨rfl, hb⟩
  clear hL
  go_wp2
  go_ret
  exact ⟨rfl, hb⟩
end Go.Proofs.Qxb6003390aDoor.line
