/-
  Seat b6003390a. 'bigEndian12' and 'compare12' by contracts; the plain law on twelve bytes.
-/
import Derived.Test.Qxb6003390aBefore
import Derived.Deep.QuietTactic
import Derived.BigQuiet
namespace Go.Proofs.Qxb6003390a.stamp
open Go.RowKit

theorem ret_int {k : IntKind} {a b : Int} (h : a = b) : Ending.returned (.int k a) = .returned (.int k b) := by rw [h]

/-- The comparison as compare12 makes it. -/
def cmpL : List Int → List Int → Int
  | x :: xs, y :: ys => if x < y then -1 else if y < x then 1 else cmpL xs ys
  | _, _ => 0

theorem cmpL_drop_lt (xs ys : List Int) (k : Nat) (hx : k < xs.length) (hy : k < ys.length) (h : cmpL xs ys = cmpL (xs.drop k) (ys.drop k)) (h1 : xs.getD k 0 < ys.getD k 0) : cmpL xs ys = -1 := by
  rw [h, List.drop_eq_getElem_cons hx, List.drop_eq_getElem_cons hy, cmpL]
  simp [hx, hy] at h1
  rw [if_pos h1]

theorem cmpL_drop_gt (xs ys : List Int) (k : Nat) (hx : k < xs.length) (hy : k < ys.length) (h : cmpL xs ys = cmpL (xs.drop k) (ys.drop k)) (h1 : ys.getD k 0 < xs.getD k 0) : cmpL xs ys = 1 := by
  rw [h, List.drop_eq_getElem_cons hx, List.drop_eq_getElem_cons hy, cmpL]
  simp [hx, hy] at h1
  rw [if_neg (by omega), if_pos h1]

theorem cmpL_drop_eq (xs ys : List Int) (k : Nat) (hx : k < xs.length) (hy : k < ys.length) (h : cmpL xs ys = cmpL (xs.drop k) (ys.drop k)) (h1 : ¬ xs.getD k 0 < ys.getD k 0) (h2 : ¬ ys.getD k 0 < xs.getD k 0) : cmpL xs ys = cmpL (xs.drop (k + 1)) (ys.drop (k + 1)) := by
  rw [h, List.drop_eq_getElem_cons hx, List.drop_eq_getElem_cons hy, cmpL]
  simp [hx, hy] at h1 h2
  rw [if_neg (by omega), if_neg (by omega)]

/-- Two rows of twelve bytes lie in the call's first two blocks. -/
structure Two (w W : World) (xs ys : List Int) : Prop where
  x : ∀ j, j < 12 → W.cell? ⟨w.heap.size, j, none⟩ = some (.int .u8 (xs.getD j 0))
  y : ∀ j, j < 12 → W.cell? ⟨w.heap.size + 1, j, none⟩ = some (.int .u8 (ys.getD j 0))
  below : Below w.heap.size w W

theorem two_start (w : World) (xs ys : List Int) (hx : xs.length = 12) (hy : ys.length = 12) : Two w ((w.alloc (.cells (xs.map (Value.int .u8)).toArray 28)).alloc (.cells (ys.map (Value.int .u8)).toArray 28)) xs ys := by
  constructor
  · intro j hj
    go_simp
  · intro j hj
    go_simp
  · exact ((Below.refl _ _).alloc (Nat.le_refl _) _).alloc (by simp) _

theorem two_drewN {w W : World} {xs ys : List Int} (h : Two w W xs ys) (n : Nat) : Two w (W.drewN n) xs ys :=
  ⟨fun j hj => (World.cell?_drewN ..).trans (h.x j hj), fun j hj => (World.cell?_drewN ..).trans (h.y j hj), h.below.trans ⟨rfl, rfl, rfl, Nat.le_refl _, fun _ _ => rfl⟩⟩

set_option maxHeartbeats 1000000 in
theorem cmp_any (xs ys : List Int) (w : World) (hx : xs.length = 12) (hy : ys.length = 12) :
    Calls Try.prog 10 #[.agg (xs.map (Value.int .u8)).toArray, .agg (ys.map (Value.int .u8)).toArray] w fun e w' => e = .returned (.int .i64 (cmpL xs ys)) ∧ Below w.heap.size w w' := by
  have h2 := two_start w xs ys hx hy
  go_enter Try.func10, Try.ntmps10
  go_wp2
  go_loopw [5] (fun i wr => ∃ k : Nat, k ≤ 12 ∧ i = .int .i64 k ∧ cmpL xs ys = cmpL (xs.drop k) (ys.drop k) ∧ Two w wr xs ys) (fun i _ => 12 - (intOf i).toNat)
  case atStart => exact ⟨0, by omega, rfl, rfl, h2⟩
  case round =>
    obtain ⟨k, hk, rfl, hc0, hT⟩ := hrel
    have hc : Hid (cmpL xs ys = cmpL (xs.drop k) (ys.drop k)) := hc0
    clear hc0 h2
    by_cases hlt : k < 12
    · have cx := hT.x k hlt
      have cy := hT.y k hlt
      have b0 : (0 : Int) ≤ (k : Int) := by omega
      have b1 : (k : Int) < 12 := by omega
      have ll := cmpL_drop_lt xs ys k (by omega) (by omega) hc.out
      have lg := cmpL_drop_gt xs ys k (by omega) (by omega) hc.out
      have le := cmpL_drop_eq xs ys k (by omega) (by omega) hc.out
      generalize xs.getD k 0 = x at cx ll lg le
      generalize ys.getD k 0 = y at cy ll lg le
      by_cases h1 : x < y
      · have hr : Hid (cmpL xs ys = -1) := ll h1
        clear ll lg le hx hy
        go_wp2
        go_quiet (fail)
        go_wp2
        go_ret
        exact ⟨ret_int hr.out.symm, (two_drewN hT _).below⟩
      · by_cases h2 : y < x
        · have hr : Hid (cmpL xs ys = 1) := lg h2
          clear ll lg le hx hy
          go_wp2
          go_quiet (fail)
          go_wp2
          go_quiet (fail)
          go_wp2
          go_ret
          exact ⟨ret_int hr.out.symm, (two_drewN (two_drewN hT _) _).below⟩
        · have hr : Hid (cmpL xs ys = cmpL (xs.drop (k + 1)) (ys.drop (k + 1))) := le h1 h2
          clear ll lg le hx hy
          go_wp2
          go_quiet (fail)
          go_wp2
          go_quiet (fail)
          go_wp2
          go_roundw
          case rel => exact ⟨k + 1, by omega, by go_num, hr.out, two_drewN hT _⟩
          case measure => simp [intOf]; omega
    · have hk12 : k = 12 := by omega
      have hr : Hid (cmpL xs ys = 0) := by
        have := hc.out
        rw [hk12, List.drop_of_length_le (by omega), List.drop_of_length_le (by omega)] at this
        exact this
      clear hk12 hx hy
      go_wp2
      go_ret
      exact ⟨ret_int hr.out.symm, hT.below⟩

/-- The twelve bytes of a stamp: what they are, most significant first. -/
structure Enc (t m : Int) (xs : List Int) : Prop where
  len : xs.length = 12
  byte : ∀ x ∈ xs, 0 ≤ x ∧ x < 256
  val : xs.foldl (fun a x => a * 256 + x) 0 = t * 4294967296 + m

theorem enc_mk (t m : Int) (h0 : 0 ≤ t) (h1 : t < 18446744073709551616) (h2 : 0 ≤ m) (h3 : m < 4294967296) :
    Enc t m [t / 72057594037927936, t / 281474976710656 % 256, t / 1099511627776 % 256, t / 4294967296 % 256, t / 16777216 % 256, t / 65536 % 256, t / 256 % 256, t % 256, m / 16777216, m / 65536 % 256, m / 256 % 256, m % 256] := by
  refine ⟨rfl, ?_, ?_⟩
  · intro x hx
    simp only [List.mem_cons, List.not_mem_nil, or_false] at hx
    omega
  · simp only [List.foldl]
    omega

theorem cmpL_val (xs : List Int) : ∀ (ys : List Int) (a b : Int), xs.length = ys.length → (∀ x ∈ xs, 0 ≤ x ∧ x < 256) → (∀ y ∈ ys, 0 ≤ y ∧ y < 256) →
    (a < b → xs.foldl (fun a x => a * 256 + x) a < ys.foldl (fun a x => a * 256 + x) b) ∧ (a = b → (cmpL xs ys < 0 ↔ xs.foldl (fun a x => a * 256 + x) a < ys.foldl (fun a x => a * 256 + x) b)) := by
  induction xs with
  | nil =>
    intro ys a b hl _ _
    match ys, hl with
    | [], _ => simp [cmpL]; omega
  | cons x xs ih =>
    intro ys a b hl hx hy
    match ys, hl with
    | y :: ys, hl =>
      have hx0 := hx x (by simp)
      have hy0 := hy y (by simp)
      have hl' : xs.length = ys.length := by simpa using hl
      have hxs : ∀ z ∈ xs, 0 ≤ z ∧ z < 256 := fun z hz => hx z (by simp [hz])
      have hys : ∀ z ∈ ys, 0 ≤ z ∧ z < 256 := fun z hz => hy z (by simp [hz])
      have ih1 := ih ys (a * 256 + x) (b * 256 + y) hl' hxs hys
      have ih2 := ih xs (b * 256 + y) (a * 256 + x)
      simp only [List.foldl_cons]
      refine ⟨fun h => ih1.1 (by omega), fun h => ?_⟩
      subst h
      rw [cmpL]
      by_cases h1 : x < y
      · rw [if_pos h1]
        have := ih1.1 (by omega)
        exact ⟨fun _ => this, fun _ => by omega⟩
      · rw [if_neg h1]
        by_cases h2 : y < x
        · rw [if_pos h2]
          have h3 : ∀ (us vs : List Int) (a b : Int), us.length = vs.length → (∀ x ∈ us, 0 ≤ x ∧ x < 256) → (∀ y ∈ vs, 0 ≤ y ∧ y < 256) → a < b → us.foldl (fun a x => a * 256 + x) a < vs.foldl (fun a x => a * 256 + x) b := by
            intro us
            induction us with
            | nil => intro vs a b hl _ _ hab; match vs, hl with | [], _ => exact hab
            | cons u us ihu =>
              intro vs a b hl hu hv hab
              match vs, hl with
              | v :: vs, hl =>
                have hu0 := hu u (by simp)
                have hv0 := hv v (by simp)
                exact ihu vs _ _ (by simpa using hl) (fun z hz => hu z (by simp [hz])) (fun z hz => hv z (by simp [hz])) (show a * 256 + u < b * 256 + v by omega)
          have := h3 ys xs (a * 256 + y) (a * 256 + x) hl'.symm hys hxs (by omega)
          exact ⟨fun h => by omega, fun h => by omega⟩
        · rw [if_neg h2]
          exact ih1.2 (by omega)

/-- THE PLAIN LAW: 'Before' is the order of the twelve bytes. -/
theorem enc_order {a b c d : Int} {xs ys : List Int} (h1 : Enc a b xs) (h2 : Enc c d ys) (hb : 0 ≤ b ∧ b < 4294967296) (hd : 0 ≤ d ∧ d < 4294967296) : bef a b c d = decide (cmpL xs ys < 0) := by
  have h := (cmpL_val xs ys 0 0 (by rw [h1.len, h2.len]) h1.byte h2.byte).2 rfl
  rw [h1.val, h2.val] at h
  unfold bef
  rw [Bool.eq_iff_iff]
  simp only [decide_eq_true_iff]
  rw [h]
  split
  · simp; omega
  · simp; omega

set_option maxHeartbeats 1000000 in
theorem be_any (t m : Int) (w : World) (h0 : 0 ≤ t) (h1 : t < 18446744073709551616) (h2 : 0 ≤ m) (h3 : m < 4294967296) :
    Calls Try.prog 9 #[.int .u64 t, .int .u32 m] w fun e w' => ∃ xs : List Int, Enc t m xs ∧ e = .returned (.agg (xs.map (Value.int .u8)).toArray) ∧ Below w.heap.size w w' := by
  have he := enc_mk t m h0 h1 h2 h3
  go_enter Try.func9, Try.ntmps9
  go_wp2
  refine wp_loop_rounds 9 ?_
  iterate 9 (rw [rounds_succ]; go_wp2)
  refine wp_loop_rounds 5 ?_
  iterate 5 (rw [rounds_succ]; go_wp2)
  refine bodyPost_ret (v := .agg #[Value.int IntKind.u8 (t / 72057594037927936), Value.int IntKind.u8 (t / 281474976710656 % 256),
            Value.int IntKind.u8 (t / 1099511627776 % 256), Value.int IntKind.u8 (t / 4294967296 % 256),
            Value.int IntKind.u8 (t / 16777216 % 256), Value.int IntKind.u8 (t / 65536 % 256),
            Value.int IntKind.u8 (t / 256 % 256), Value.int IntKind.u8 (t % 256), Value.int IntKind.u8 (m / 16777216),
            Value.int IntKind.u8 (m / 65536 % 256), Value.int IntKind.u8 (m / 256 % 256),
            Value.int IntKind.u8 (m % 256)]) (by simp [results, Try.results9, go_sem]) rfl ⟨_, he, rfl, ?_⟩
  exact ((Below.refl _ _).alloc (Nat.le_refl _) _).alloc (by simp) _
end Go.Proofs.Qxb6003390a.stamp
