/-
  Seat b6603724a. Numbers and words: 'rjb1Digits', 'rjb1Number', 'rjb1Word' by contracts: what they pass over is plain.
-/
import Derived.Test.Qxb6603724aStr2
import Derived.Deep.DeepCutAuto
import Derived.Deep.QuietTactic
import Derived.BigQuiet
namespace Go.Proofs.Qxb6603724a.sl
open Go.RowKit

/-- All bytes from p up to q are plain. -/
def Plain (D : List Int) (p q : Nat) : Prop := ∀ j, p ≤ j → j < q → plain (D.getD j 0)
theorem Plain.nil (D : List Int) (p : Nat) : Plain D p p := fun j h1 h2 => by omega
theorem Plain.snoc {D : List Int} {p q : Nat} (h : Plain D p q) (hq : plain (D.getD q 0)) : Plain D p (q + 1) := fun j h1 h2 => by
  by_cases e : j = q
  · subst e; exact hq
  · exact h j h1 (by omega)
theorem Plain.app {D : List Int} {p q s : Nat} (h : Plain D p q) (k : Plain D q s) : Plain D p s := fun j h1 h2 => by
  by_cases e : j < q
  · exact h j h1 e
  · exact k j (by omega) h2

theorem plain_digit {c : Int} (h1 : 48 ≤ c) (h2 : c ≤ 57) : plain c := by unfold plain; omega
theorem plain_of {c k : Int} (h : (c == k) = true) (hk : plain k) : plain c := by
  have : c = k := by simpa using h
  rw [this]; exact hk

set_option maxHeartbeats 1000000 in
theorem digits_any (b off n c p : Nat) (D : List Int) (w : World) (hD : Dat w b off n D) (hp : p ≤ n) :
    Calls Try.prog 27 #[.slice (some ⟨b, off, none⟩) n c, .int .i64 p] w fun r w' => (∃ q : Nat, p ≤ q ∧ q ≤ n ∧ r = .returned (.int .i64 q) ∧ Plain D p q) ∧ w = w' := by
  have hf := hD.fits
  have hc := hD.cell
  clear hD
  go_enter Try.func27, Try.ntmps27
  go_wp2
  go_loop [1] (fun t => ∃ k : Nat, p ≤ k ∧ k ≤ n ∧ t = .int .i64 k ∧ Hid (Plain D p k)) (fun t => n - (intOf t).toNat)
  case atStart => exact ⟨p, Nat.le_refl _, hp, rfl, Plain.nil D p⟩
  case round =>
    obtain ⟨k, hk1, hk2, rfl, hP⟩ := hrel
    by_cases hlt : k < n
    · have hcell := hc k hlt
      by_cases x1 : 48 ≤ D.getD k 0
      · by_cases x2 : D.getD k 0 ≤ 57
        · have H : Hid (Plain D p (k + 1)) := hP.out.snoc (plain_digit x1 x2)
          clear hc
          generalize D.getD k 0 = x at hcell x1 x2
          go_wp2
          go_round
          case rel => exact ⟨k + 1, by omega, by omega, by go_num, H.out⟩
          case measure => simp [intOf]; omega
        · clear hc
          generalize D.getD k 0 = x at hcell x1 x2
          go_wp2
          go_ret
          exact ⟨⟨k, hk1, hk2, rfl, hP.out⟩, rfl⟩
      · clear hc
        generalize D.getD k 0 = x at hcell x1
        go_wp2
        go_ret
        exact ⟨⟨k, hk1, hk2, rfl, hP.out⟩, rfl⟩
    · clear hc
      go_wp2
      go_ret
      exact ⟨⟨k, hk1, hk2, rfl, hP.out⟩, rfl⟩

set_option maxHeartbeats 4000000 in
set_option maxRecDepth 100000 in
theorem number_any (b off n c p : Nat) (D : List Int) (w : World) (hD : Dat w b off n D) (hp : p < n) :
    Calls Try.prog 25 #[.slice (some ⟨b, off, none⟩) n c, .int .i64 p] w fun r w' => Says (fun q => p < q ∧ q ≤ n ∧ Plain D p q) r ∧ w = w' := by
  have hf := hD.fits
  have hdg := fun k hk => digits_any b off n c k D w hD hk
  have HC : Hid (∀ j, j < n → w.cell? ⟨b, off + j, none⟩ = some (.int .u8 (D.getD j 0))) := hD.cell
  have HP : Hid (p < n) := hp
  clear hD
  have hcell := HC.out p hp
  generalize hx : D.getD p 0 = x at hcell
  have HX : Hid (D.getD p 0 = x) := hx
  clear hx
  go_enter Try.func25, Try.ntmps25
  go_upto_if 22 with (fail)
  go_cut [7] (fun s wx => w = wx ∧ ∃ q : Nat, p ≤ q ∧ q ≤ n ∧ s = .int .i64 q ∧ Hid (Plain D p q))
  case first =>
    go_wp2
    · have b45 : (x == 45) = true := by assumption
      have H : Plain D p (p + 1) := (Plain.nil D p).snoc (by rw [HX.out]; exact plain_of b45 (by unfold plain; omega))
      go_meet
      case rel => exact ⟨rfl, p + 1, by omega, by omega, by go_num, H⟩
    · go_meet
      case rel => exact ⟨rfl, p, by omega, by omega, rfl, Plain.nil D p⟩
  case rest =>
    obtain ⟨rfl, q, hq1, hq2, rfl, hP⟩ := hcut
    clear hcell HX
    by_cases hqn : q < n
    · have hcell := HC.out q hqn
      generalize hx : D.getD q 0 = y at hcell
      have HY : Hid (D.getD q 0 = y) := hx
      clear hx
      go_upto_if 32 with (fail)
      go_cut [7] (fun s wx => w = wx ∧ ∃ q : Nat, p < q ∧ q ≤ n ∧ s = .int .i64 q ∧ Hid (Plain D p q))
      case first =>
        by_cases y0 : y = 48
        · have b0 : (y == 48) = true := by simp [y0]
          have H : Hid (Plain D p (q + 1)) := hP.out.snoc (by rw [HY.out, y0]; exact plain_digit (by omega) (by omega))
          clear y0
          go_wp2
          go_meet
          case rel => exact ⟨rfl, q + 1, by omega, by omega, by go_num, H.out⟩
        · have b0 : (y == 48) = false := by simp [y0]
          by_cases y1 : 49 ≤ y
          · by_cases y2 : y ≤ 57
            · have H : Hid (Plain D p (q + 1)) := hP.out.snoc (by rw [HY.out]; exact plain_digit (by omega) y2)
              have hd := hdg (q + 1) (by omega)
              clear y0
              go_wp2_with (go_at_call 27; refine hd.mono ?_; rintro e w' ⟨⟨k, hk1, hk2, rfl, hK⟩, rfl⟩)
              go_meet
              case rel => exact ⟨rfl, k, by omega, by omega, rfl, H.out.app hK⟩
            · clear y0
              go_wp2
              go_ret2
              exact ⟨says_no _, rfl⟩
          · clear y0
            go_wp2
            go_ret2
            exact ⟨says_no _, rfl⟩
      case rest =>
        clear hq1 hq2 hP hqn hcell HY
        obtain ⟨rfl, q, hq1, hq2, rfl, hP⟩ := hcut
        go_upto_region 12 with (fail)
        go_cut [60] (fun s wx => w = wx ∧ ∃ t : Bool, s = .bool t ∧ Hid (t = true → q < n ∧ D.getD q 0 = 46))
        case first =>
          by_cases hqn : q < n
          · have hcell := HC.out q hqn
            by_cases y0 : D.getD q 0 = 46
            · have b0 : (D.getD q 0 == 46) = true := by rw [y0]; rfl
              have H : Hid (q < n ∧ D.getD q 0 = 46) := ⟨hqn, y0⟩
              clear y0
              generalize D.getD q 0 = y at hcell b0
              go_wp2
              go_meet
              case rel => exact ⟨rfl, true, rfl, fun _ => H.out⟩
            · have b0 : (D.getD q 0 == 46) = false := by simpa using y0
              clear y0
              generalize D.getD q 0 = y at hcell b0
              go_wp2
              go_meet
              case rel => exact ⟨rfl, false, rfl, fun h => by cases h⟩
          · go_wp2
            go_meet
            case rel => exact ⟨rfl, false, rfl, fun h => by cases h⟩
        case rest =>
          obtain ⟨rfl, t, rfl, ht⟩ := hcut
          go_upto_if 60 with (fail)
          go_cut [7] (fun s wx => w = wx ∧ ∃ q : Nat, p < q ∧ q ≤ n ∧ s = .int .i64 q ∧ Hid (Plain D p q))
          case first =>
            cases t
            · go_wp2
              go_meet
              case rel => exact ⟨rfl, q, hq1, hq2, rfl, hP.out⟩
            · obtain ⟨hqn, y0⟩ := ht.out rfl
              have H : Hid (Plain D p (q + 1)) := hP.out.snoc (by rw [y0]; unfold plain; omega)
              have hd := hdg (q + 1) (by omega)
              clear y0 ht
              go_wp2_with (go_at_call 27; refine hd.mono ?_; rintro e w' ⟨⟨k, hk1, hk2, rfl, hK⟩, rfl⟩)
              all_goals first
                | (go_ret2; exact ⟨says_no _, rfl⟩)
                | (go_meet; (case rel => exact ⟨rfl, k, by omega, by omega, rfl, H.out.app hK⟩))
          case rest =>
            clear hq1 hq2 hP ht
            obtain ⟨rfl, q, hq1, hq2, rfl, hP⟩ := hcut
            go_upto_region 17 with (fail)
            go_cut [85] (fun s wx => w = wx ∧ ∃ t : Bool, s = .bool t ∧ Hid (t = true → q < n ∧ (D.getD q 0 = 101 ∨ D.getD q 0 = 69)))
            case first =>
              by_cases hqn : q < n
              · have hcell := HC.out q hqn
                by_cases y0 : D.getD q 0 = 101
                · have b0 : (D.getD q 0 == 101) = true := by rw [y0]; rfl
                  have H : Hid (q < n ∧ (D.getD q 0 = 101 ∨ D.getD q 0 = 69)) := ⟨hqn, .inl y0⟩
                  clear y0
                  generalize D.getD q 0 = y at hcell b0
                  go_wp2
                  go_meet
                  case rel => exact ⟨rfl, true, rfl, fun _ => H.out⟩
                · have b0 : (D.getD q 0 == 101) = false := by simpa using y0
                  by_cases y1 : D.getD q 0 = 69
                  · have b1 : (D.getD q 0 == 69) = true := by rw [y1]; rfl
                    have H : Hid (q < n ∧ (D.getD q 0 = 101 ∨ D.getD q 0 = 69)) := ⟨hqn, .inr y1⟩
                    clear y0 y1
                    generalize D.getD q 0 = y at hcell b0 b1
                    go_wp2
                    go_meet
                    case rel => exact ⟨rfl, true, rfl, fun _ => H.out⟩
                  · have b1 : (D.getD q 0 == 69) = false := by simpa using y1
                    clear y0 y1
                    generalize D.getD q 0 = y at hcell b0 b1
                    go_wp2
                    go_meet
                    case rel => exact ⟨rfl, false, rfl, fun h => by cases h⟩
              · go_wp2
                go_meet
                case rel => exact ⟨rfl, false, rfl, fun h => by cases h⟩
            case rest =>
              obtain ⟨rfl, t, rfl, ht⟩ := hcut
              cases t
              · go_wp2
                go_ret2
                exact ⟨says_yes rfl ⟨hq1, hq2, hP.out⟩, rfl⟩
              · obtain ⟨hqn, y0⟩ := ht.out rfl
                have H : Hid (Plain D p (q + 1)) := hP.out.snoc (by rcases y0 with y0 | y0 <;> rw [y0] <;> unfold plain <;> omega)
                clear y0 ht hP
                go_upto_region 18 with (fail)
                go_cut [7] (fun s wx => w = wx ∧ ∃ q : Nat, p < q ∧ q ≤ n ∧ s = .int .i64 q ∧ Hid (Plain D p q))
                case first =>
                  go_wp2
                  go_meet
                  case rel => exact ⟨rfl, q + 1, by omega, by omega, by go_num, H.out⟩
                case rest =>
                  clear hq1 hq2 H hqn
                  obtain ⟨rfl, q, hq1, hq2, rfl, hP⟩ := hcut
                  go_upto_region 19 with (fail)
                  go_cut [104] (fun s wx => w = wx ∧ ∃ t : Bool, s = .bool t ∧ Hid (t = true → q < n ∧ (D.getD q 0 = 43 ∨ D.getD q 0 = 45)))
                  case first =>
                    by_cases hqn : q < n
                    · have hcell := HC.out q hqn
                      by_cases y0 : D.getD q 0 = 43
                      · have b0 : (D.getD q 0 == 43) = true := by rw [y0]; rfl
                        have H : Hid (q < n ∧ (D.getD q 0 = 43 ∨ D.getD q 0 = 45)) := ⟨hqn, .inl y0⟩
                        clear y0
                        generalize D.getD q 0 = y at hcell b0
                        go_wp2
                        go_meet
                        case rel => exact ⟨rfl, true, rfl, fun _ => H.out⟩
                      · have b0 : (D.getD q 0 == 43) = false := by simpa using y0
                        by_cases y1 : D.getD q 0 = 45
                        · have b1 : (D.getD q 0 == 45) = true := by rw [y1]; rfl
                          have H : Hid (q < n ∧ (D.getD q 0 = 43 ∨ D.getD q 0 = 45)) := ⟨hqn, .inr y1⟩
                          clear y0 y1
                          generalize D.getD q 0 = y at hcell b0 b1
                          go_wp2
                          go_meet
                          case rel => exact ⟨rfl, true, rfl, fun _ => H.out⟩
                        · have b1 : (D.getD q 0 == 45) = false := by simpa using y1
                          clear y0 y1
                          generalize D.getD q 0 = y at hcell b0 b1
                          go_wp2
                          go_meet
                          case rel => exact ⟨rfl, false, rfl, fun h => by cases h⟩
                    · go_wp2
                      go_meet
                      case rel => exact ⟨rfl, false, rfl, fun h => by cases h⟩
                  case rest =>
                    obtain ⟨rfl, t, rfl, ht⟩ := hcut
                    go_upto_if 104 with (fail)
                    go_cut [7] (fun s wx => w = wx ∧ ∃ q : Nat, p < q ∧ q ≤ n ∧ s = .int .i64 q ∧ Hid (Plain D p q))
                    case first =>
                      cases t
                      · go_wp2
                        go_meet
                        case rel => exact ⟨rfl, q, hq1, hq2, rfl, hP.out⟩
                      · obtain ⟨hqn, y0⟩ := ht.out rfl
                        have H : Hid (Plain D p (q + 1)) := hP.out.snoc (by rcases y0 with y0 | y0 <;> rw [y0] <;> unfold plain <;> omega)
                        clear y0 ht
                        go_wp2
                        go_meet
                        case rel => exact ⟨rfl, q + 1, by omega, by omega, by go_num, H.out⟩
                    case rest =>
                      clear hq1 hq2 hP ht
                      obtain ⟨rfl, q, hq1, hq2, rfl, hP⟩ := hcut
                      have hd := hdg q hq2
                      go_wp2_with (go_at_call 27; refine hd.mono ?_; rintro e w' ⟨⟨k, hk1, hk2, rfl, hK⟩, rfl⟩)
                      all_goals first
                        | (go_ret2; exact ⟨says_no _, rfl⟩)
                        | (go_ret2; exact ⟨says_yes rfl ⟨by omega, hk2, hP.out.app hK⟩, rfl⟩)
    · go_wp2
      go_ret2
      exact ⟨says_no _, rfl⟩
end Go.Proofs.Qxb6603724a.sl
