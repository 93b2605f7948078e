/-
  Seat b6603724a. 'rjb1ParseValue' by a contract: where it says yes, a whole value ends there.
-/
import Derived.Test.Qxb6603724aInv
namespace Go.Proofs.Qxb6603724a.sl
open Go.RowKit

/-- Ahead of a value. -/
structure Out (w wr : World) (D : List Int) (n i p : Nat) (ad : Option Addr) (cap d : Nat) (stk : List Int) : Prop where
  pn : p ≤ n
  sp : d ≤ p
  len : d = stk.length
  stack : Stk w.heap.size wr ad cap stk
  below : Below w.heap.size w wr
  head : Head D i p d

/-- Behind a value. -/
structure Inn (w wr : World) (D : List Int) (n i p0 p : Nat) (ad : Option Addr) (cap d : Nat) (stk : List Int) : Prop where
  pn : p ≤ n
  adv : p0 < p
  sp : d ≤ p
  len : d = stk.length
  stack : Stk w.heap.size wr ad cap stk
  below : Below w.heap.size w wr
  after : After D n i p d

set_option maxHeartbeats 8000000 in
set_option maxRecDepth 100000 in
theorem parse_any (b off n c i : Nat) (D : List Int) (w : World) (hD : Dat w b off n D) (hi : i < n) :
    Calls Try.prog 15 #[.slice (some ⟨b, off, none⟩) n c, .int .i64 i] w fun r w' => Says (VP D n i) r ∧ Below w.heap.size w w' := by
  have hf := hD.fits
  have HL : Hid (n = D.length) := hD.len
  have HD : Hid (Dat w b off n D) := hD
  clear hD
  go_enter Try.func15, Try.ntmps15
  go_wp2
  go_loopw [7, 8] (fun s7 s8 wr => ∃ (p d cap : Nat) (ad : Option Addr) (stk : List Int), s7 = .int .i64 p ∧ s8 = .slice ad d cap ∧ Hid (Out w wr D n i p ad cap d stk)) (fun s7 _ _ => n - (intOf s7).toNat)
  case atStart => exact ⟨i, 0, 0, none, [], rfl, rfl, by omega, by omega, rfl, Stk.nil _ _, Below.refl _ _, .inl ⟨rfl, rfl⟩⟩
  case round =>
    obtain ⟨p, d, cap, ad, stk, rfl, rfl, hO⟩ := hrel
    by_cases hpn : p < n
    · have hDr := HD.out.step hO.out.below
      have hcell := hDr.cell p hpn
      have HDr : Hid (Dat wr b off n D) := hDr
      clear hDr
      generalize hx : D.getD p 0 = x at hcell
      have HX : Hid (D.getD p 0 = x) := hx
      clear hx
      go_upto_region 6 with (fail)
      go_cut [33] (fun s wx => wr = wx ∧ ∃ t : Bool, s = .bool t ∧ Hid ((t = true → x = 123 ∨ x = 91) ∧ (t = false → x ≠ 123 ∧ x ≠ 91)))
      case first =>
        by_cases x1 : x = 123
        · have b1 : (x == 123) = true := by simp [x1]
          have H : Hid (x = 123 ∨ x = 91) := .inl x1
          clear x1
          go_wp2
          go_meet
          case rel => exact ⟨rfl, true, rfl, fun _ => H.out, fun h => by cases h⟩
        · have b1 : (x == 123) = false := by simp [x1]
          by_cases x2 : x = 91
          · have b2 : (x == 91) = true := by simp [x2]
            have H : Hid (x = 123 ∨ x = 91) := .inr x2
            clear x1 x2
            go_wp2
            go_meet
            case rel => exact ⟨rfl, true, rfl, fun _ => H.out, fun h => by cases h⟩
          · have b2 : (x == 91) = false := by simp [x2]
            have H : Hid (x ≠ 123 ∧ x ≠ 91) := ⟨x1, x2⟩
            clear x1 x2
            go_wp2
            go_meet
            case rel => exact ⟨rfl, false, rfl, (fun h => nomatch h), fun _ => H.out⟩
      case rest =>
        obtain ⟨rfl, t, rfl, ht⟩ := hcut
        go_upto_if 33 with (fail)
        go_cut [7, 8] (fun s7 s8 wx => ∃ (p' d' cap' : Nat) (ad' : Option Addr) (stk' : List Int), s7 = .int .i64 p' ∧ s8 = .slice ad' d' cap' ∧ Hid (Inn w wx D n i p p' ad' cap' d' stk'))
        case first =>
          cases t
          · -- a scalar
            obtain ⟨y1, y2⟩ := ht.out.2 rfl
            have hno : ¬ isOpen (D.getD p 0) := by rw [HX.out]; exact fun h => by rcases h with h | h <;> contradiction
            have hS := scalar_any b off n c p D wr HDr.out hpn
            have HN : Hid (¬ isOpen (D.getD p 0)) := hno
            clear ht y1 y2 hno
            go_wp2_with fail
            refine hS.mono ?_
            rintro e w' ⟨⟨q, ok, rfl, hP⟩, k, rfl⟩
            clear hS
            cases ok
            · have hb := hO.out.below
              clear hP hO
              go_wp2
              go_ret2
              exact ⟨says_no _, hb.trans ⟨rfl, rfl, rfl, Nat.le_refl _, fun _ _ => rfl⟩⟩
            · have hQ := hP rfl
              have HI : Hid (Inn w (wr.drewN k) D n i p q ad cap d stk) := ⟨hQ.2.1, hQ.1, by have := hO.out.sp; have := hQ.1; omega, hO.out.len, hO.out.stack.below ⟨rfl, rfl, rfl, Nat.le_refl _, fun _ _ => rfl⟩, hO.out.below.trans ⟨rfl, rfl, rfl, Nat.le_refl _, fun _ _ => rfl⟩, after_scalar hO.out.head HL.out hQ HN.out⟩
              clear hP hQ hO
              go_wp2
              go_meet
              case rel => exact ⟨q, d, cap, ad, stk, rfl, rfl, HI.out⟩
          · -- a container opens
            rcases ht.out.1 rfl with x1 | x1
            · have X1 : Hid (D.getD p 0 = 123) := HX.out.trans x1
              have bx1 : (x == 123) = true := by simp [x1]
              clear ht x1
              have hop : isOpen (D.getD p 0) := by rw [X1.out]; unfold isOpen; omega
              have hK := head_open hO.out.head (by have := HL.out; omega) hop
              have hW := ws_any b off n c (p + 1) D wr HDr.out (by omega)
              have g1 := wsEnd_ge D (p + 1)
              have g2 := wsEnd_le D (p + 1) (by have := HL.out; omega)
              rw [← HL.out] at g2
              have HK : Hid (Kp D i (wsEnd D (p + 1)) (d + 1)) := hK
              clear hK hop X1 HX
              generalize wsEnd D (p + 1) = s at hW HK g1 g2
              by_cases hsn : s < n
              · have hcs := HDr.out.cell s hsn
                by_cases y1 : D.getD s 0 = 125
                · have b2 : (D.getD s 0 != 125) = false := by rw [y1]; rfl
                  have HI : Hid (Inn w wr D n i p (s + 1) ad cap d stk) := ⟨by omega, by omega, by have := hO.out.sp; omega, hO.out.len, hO.out.stack, hO.out.below, after_close HK.out HL.out hsn (by rw [y1]; unfold isCl; omega)⟩
                  clear y1 HK hO
                  generalize D.getD s 0 = y at hcs b2
                  go_wp2_with (go_at_call 19; refine hW.mono ?_; rintro e w' ⟨rfl, rfl⟩)
                  go_meet
                  case rel => exact ⟨s + 1, d, cap, ad, stk, by go_num, rfl, HI.out⟩
                · have b2 : (D.getD s 0 != 125) = true := by simpa using y1
                  clear y1
                  generalize D.getD s 0 = y at hcs b2
                  have hlen := hO.out.len
                  have hsp := hO.out.sp
                  obtain ⟨ad', cap', w1, hrun, hst, hb1⟩ := hO.out.stack.push hO.out.below.size (by omega) 125 (by unfold isCl; omega)
                  have hlen' : (stk ++ [125]).length = d + 1 := by simp [hlen]
                  rw [hlen', ← hlen] at hrun
                  have hbw : Below w.heap.size w w1 := hO.out.below.trans hb1
                  have HST : Hid (Stk w.heap.size w1 ad' cap' (stk ++ [125])) := hst
                  have HLN : Hid ((stk ++ [125]).length = d + 1) := hlen'
                  clear hst hlen' hlen hO
                  have hKey := key_any b off n c s D w1 (HD.out.step hbw) (by omega)
                  go_wp2_with (first | (go_at_call 19; refine hW.mono ?_; rintro e w' ⟨rfl, rfl⟩) | (at_builtin; refine wpList_append_run 22 22 hrun rfl _ _ rfl rfl rfl rfl ?_) | (go_at_call 20; refine hKey.mono ?_; rintro e w' ⟨⟨q, ok, rfl, hP⟩, rfl⟩; refine Hid.out ?_))
                  refine (show ∀ {p : Prop}, p → Hid p from fun h => h) ?_
                  cases ok
                  · clear hP hKey hrun hW HK
                    go_wp2
                    go_ret2
                    exact ⟨says_no _, hbw⟩
                  · have hQ := hP rfl
                    have HOut : Hid (Out w w1 D n i q ad' cap' (d + 1) (stk ++ [125])) := ⟨hQ.2.1, by have := hQ.1; omega, HLN.out.symm, HST.out, hbw, .inr ⟨by omega, kp_key HK.out hQ⟩⟩
                    have hq1 := hQ.1
                    have hq2 := hQ.2.1
                    clear hP hKey hrun hW HK hQ
                    go_wp2
                    go_roundw
                    case rel => exact ⟨q, d + 1, cap', ad', stk ++ [125], rfl, rfl, HOut.out⟩
                    case measure => simp [intOf]; omega
              · have hb := hO.out.below
                clear hO HK
                go_wp2_with (go_at_call 19; refine hW.mono ?_; rintro e w' ⟨rfl, rfl⟩)
                go_ret2
                exact ⟨says_no _, hb⟩
            · have X1 : Hid (D.getD p 0 = 91) := HX.out.trans x1
              have bx1 : (x == 123) = false := by simp [x1]
              clear ht x1
              have hop : isOpen (D.getD p 0) := by rw [X1.out]; unfold isOpen; omega
              have hK := head_open hO.out.head (by have := HL.out; omega) hop
              have hW := ws_any b off n c (p + 1) D wr HDr.out (by omega)
              have g1 := wsEnd_ge D (p + 1)
              have g2 := wsEnd_le D (p + 1) (by have := HL.out; omega)
              rw [← HL.out] at g2
              have HK : Hid (Kp D i (wsEnd D (p + 1)) (d + 1)) := hK
              clear hK hop X1 HX
              generalize wsEnd D (p + 1) = s at hW HK g1 g2
              by_cases hsn : s < n
              · have hcs := HDr.out.cell s hsn
                by_cases y1 : D.getD s 0 = 93
                · have b2 : (D.getD s 0 != 93) = false := by rw [y1]; rfl
                  have HI : Hid (Inn w wr D n i p (s + 1) ad cap d stk) := ⟨by omega, by omega, by have := hO.out.sp; omega, hO.out.len, hO.out.stack, hO.out.below, after_close HK.out HL.out hsn (by rw [y1]; unfold isCl; omega)⟩
                  clear y1 HK hO
                  generalize D.getD s 0 = y at hcs b2
                  go_wp2_with (go_at_call 19; refine hW.mono ?_; rintro e w' ⟨rfl, rfl⟩)
                  go_meet
                  case rel => exact ⟨s + 1, d, cap, ad, stk, by go_num, rfl, HI.out⟩
                · have b2 : (D.getD s 0 != 93) = true := by simpa using y1
                  clear y1
                  generalize D.getD s 0 = y at hcs b2
                  have hlen := hO.out.len
                  have hsp := hO.out.sp
                  obtain ⟨ad', cap', w1, hrun, hst, hb1⟩ := hO.out.stack.push hO.out.below.size (by omega) 93 (by unfold isCl; omega)
                  have hlen' : (stk ++ [93]).length = d + 1 := by simp [hlen]
                  rw [hlen', ← hlen] at hrun
                  have hbw : Below w.heap.size w w1 := hO.out.below.trans hb1
                  have HST : Hid (Stk w.heap.size w1 ad' cap' (stk ++ [93])) := hst
                  have HLN : Hid ((stk ++ [93]).length = d + 1) := hlen'
                  clear hst hlen' hlen hO
                  have HOut : Hid (Out w w1 D n i s ad' cap' (d + 1) (stk ++ [93])) := ⟨g2, by omega, HLN.out.symm, HST.out, hbw, .inr ⟨by omega, HK.out⟩⟩
                  go_wp2_with (first | (go_at_call 19; refine hW.mono ?_; rintro e w' ⟨rfl, rfl⟩) | (at_builtin; refine wpList_append_run 22 22 hrun rfl _ _ rfl rfl rfl rfl ?_))
                  go_roundw
                  case rel => exact ⟨s, d + 1, cap', ad', stk ++ [93], rfl, rfl, HOut.out⟩
                  case measure => simp [intOf]; omega
              · have hb := hO.out.below
                clear hO HK
                go_wp2_with (go_at_call 19; refine hW.mono ?_; rintro e w' ⟨rfl, rfl⟩)
                go_ret2
                exact ⟨says_no _, hb⟩
        case rest =>
          obtain ⟨p', d', cap', ad', stk', rfl, rfl, hI⟩ := hcut
          clear hO HX hcell HDr ht
          go_wp2
          go_loopw [7, 8] (fun s7 s8 wx => ∃ (p' d' cap' : Nat) (ad' : Option Addr) (stk' : List Int), s7 = .int .i64 p' ∧ s8 = .slice ad' d' cap' ∧ Hid (Inn w wx D n i p p' ad' cap' d' stk')) (fun s7 _ _ => n - (intOf s7).toNat)
          case atStart => exact ⟨p', d', cap', ad', stk', rfl, rfl, hI.out⟩
          case round =>
            clear hI
            obtain ⟨q, d, cap, ad, stk, rfl, rfl, hI⟩ := hrel
            cases d with
            | zero =>
              have hb := hI.out.below
              have hvp : VP D n i q := by
                rcases hI.out.after with h | h
                · exact h.2
                · exact absurd h.1 (by omega)
              have HV : Hid (VP D n i q) := hvp
              clear hI hvp
              go_wp2
              go_ret2
              exact ⟨says_yes rfl HV.out, hb⟩
            | succ e =>
              have hlen := hI.out.len
              have hpn' := hI.out.pn
              have hadv := hI.out.adv
              have hsp := hI.out.sp
              have hbel := hI.out.below
              obtain ⟨g, hg, hcap, hcm⟩ := hI.out.stack.shape (by omega)
              subst hg
              have hct := hI.out.stack.cell (by omega)
              have hcl := top_cls hI.out.stack.cls (by omega)
              have hpop := hI.out.stack.pop (by omega)
              have hlp : (stk.take (stk.length - 1)).length = e := by simp; omega
              rw [show stk.length - 1 = e by omega] at hct
              rw [← hlen] at hcap
              unfold maxLen at hcm
              have hDr := HD.out.step hbel
              have hW := ws_any b off n c q D _ hDr (by omega)
              have hK := after_ws hI.out.after (by have := HL.out; omega)
              have g1 := wsEnd_ge D q
              have g2 := wsEnd_le D q (by have := HL.out; omega)
              rw [← HL.out] at g2
              have HK : Hid (Kp D i (wsEnd D q) (e + 1)) := hK
              have HDr : Hid (Dat _ b off n D) := hDr
              have HLP : Hid ((stk.take (stk.length - 1)).length = e) := hlp
              have HPOP : Hid (Stk w.heap.size _ (some ⟨g, 0, none⟩) cap (stk.take (stk.length - 1))) := hpop
              have HLEN : Hid (e + 1 = stk.length) := hlen
              clear hK hDr hlp hpop hlen
              generalize wsEnd D q = s at hW HK g1 g2
              generalize htop : top stk = tp at hct hcl
              clear htop
              by_cases hsn : s < n
              · have hcs := HDr.out.cell s hsn
                by_cases y1 : D.getD s 0 = tp
                · have b2 : (D.getD s 0 == tp) = true := by rw [y1]; exact beq_self_eq_true tp
                  have HI : Hid (Inn w _ D n i p (s + 1) (some ⟨g, 0, none⟩) cap e (stk.take (stk.length - 1))) := ⟨by omega, by omega, by omega, HLP.out.symm, HPOP.out, hbel, after_close HK.out HL.out hsn (by rw [y1]; exact hcl)⟩
                  clear y1 HK hI hcl
                  generalize D.getD s 0 = y at hcs b2
                  go_wp2_with (go_at_call 19; refine hW.mono ?_; rintro e w' ⟨rfl, rfl⟩)
                  go_roundw
                  case rel => exact ⟨s + 1, e, cap, some ⟨g, 0, none⟩, stk.take (stk.length - 1), by go_num, rfl, HI.out⟩
                  case measure => simp [intOf]; omega
                · have b2 : (D.getD s 0 == tp) = false := by simpa using y1
                  by_cases y2 : D.getD s 0 = 44
                  · have b3 : (D.getD s 0 != 44) = false := by rw [y2]; rfl
                    have hK2 := kp_comma HK.out (by have := HL.out; omega) y2
                    have hW2 := ws_any b off n c (s + 1) D _ HDr.out (by omega)
                    have g3 := wsEnd_ge D (s + 1)
                    have g4 := wsEnd_le D (s + 1) (by have := HL.out; omega)
                    rw [← HL.out] at g4
                    have HK2 : Hid (Kp D i (wsEnd D (s + 1)) (e + 1)) := hK2
                    clear y1 y2 HK hK2
                    generalize wsEnd D (s + 1) = s2 at hW2 HK2 g3 g4
                    generalize D.getD s 0 = y at hcs b2 b3
                    rcases hcl with ht | ht
                    · have bt : (tp == 125) = true := by simp [ht]
                      have hKey := key_any b off n c s2 D _ HDr.out (by omega)
                      clear ht
                      go_wp2_with fail
                      refine hW.mono ?_
                      rintro e' w' ⟨rfl, rfl⟩
                      clear hW
                      go_wp2_with fail
                      refine hW2.mono ?_
                      rintro e' w' ⟨rfl, rfl⟩
                      clear hW2
                      go_wp2_with fail
                      refine hKey.mono ?_
                      rintro e' w' ⟨⟨q2, ok, rfl, hP⟩, rfl⟩
                      clear hKey
                      cases ok
                      · clear hP HK2 hI
                        go_wp2
                        go_ret2
                        exact ⟨says_no _, hbel⟩
                      · have hQ := hP rfl
                        have HOut : Hid (Out w _ D n i q2 (some ⟨g, 0, none⟩) cap (e + 1) stk) := ⟨hQ.2.1, by have := hQ.1; omega, HLEN.out, hI.out.stack, hbel, .inr ⟨by omega, kp_key HK2.out hQ⟩⟩
                        have hq1 := hQ.1
                        have hq2 := hQ.2.1
                        clear hP HK2 hQ hI
                        go_wp2
                        go_roundw
                        case rel => exact ⟨q2, e + 1, cap, some ⟨g, 0, none⟩, stk, rfl, rfl, HOut.out⟩
                        case measure => simp [intOf]; omega
                    · have bt : (tp == 125) = false := by simp [ht]
                      have HOut : Hid (Out w _ D n i s2 (some ⟨g, 0, none⟩) cap (e + 1) stk) := ⟨g4, by omega, HLEN.out, hI.out.stack, hbel, .inr ⟨by omega, HK2.out⟩⟩
                      clear ht hI HK2
                      go_wp2_with fail
                      refine hW.mono ?_
                      rintro e' w' ⟨rfl, rfl⟩
                      clear hW
                      go_wp2_with fail
                      refine hW2.mono ?_
                      rintro e' w' ⟨rfl, rfl⟩
                      clear hW2
                      go_wp2
                      go_roundw
                      case rel => exact ⟨s2, e + 1, cap, some ⟨g, 0, none⟩, stk, rfl, rfl, HOut.out⟩
                      case measure => simp [intOf]; omega
                  · have b3 : (D.getD s 0 != 44) = true := by simpa using y2
                    clear y1 y2 HK hI hcl
                    generalize D.getD s 0 = y at hcs b2 b3
                    go_wp2_with (go_at_call 19; refine hW.mono ?_; rintro e w' ⟨rfl, rfl⟩)
                    go_ret2
                    exact ⟨says_no _, hbel⟩
              · clear HK hI hcl
                go_wp2_with (go_at_call 19; refine hW.mono ?_; rintro e w' ⟨rfl, rfl⟩)
                go_ret2
                exact ⟨says_no _, hbel⟩
    · have hb := hO.out.below
      clear hO
      go_wp2
      go_ret2
      exact ⟨says_no _, hb⟩
end Go.Proofs.Qxb6603724a.sl
