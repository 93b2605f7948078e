/-
  Seat b6603724a. The scanners as plain relations on a list of bytes: no Go in sight.
-/
namespace Go.Proofs.Qxb6603724a.sl

/-- Where the string ends whose next byte stands at j (by fuel). -/
def strF (D : List Int) : Nat → Nat → Option Nat
  | 0, _ => none
  | f + 1, j => if j < D.length then (if D.getD j 0 = 92 then strF D f (j + 2) else if D.getD j 0 = 34 then some (j + 1) else strF D f (j + 1)) else none
/-- The string whose next byte stands at j ends at e. -/
def St (D : List Int) (j e : Nat) : Prop := ∃ f, strF D f j = some e

theorem strF_mono (D : List Int) (f : Nat) : ∀ (j e g : Nat), strF D f j = some e → f ≤ g → strF D g j = some e := by
  induction f with
  | zero => intro j e g h; simp [strF] at h
  | succ f ih =>
    intro j e g h hg
    obtain ⟨g, rfl⟩ : ∃ g', g = g' + 1 := ⟨g - 1, by omega⟩
    simp only [strF] at h ⊢
    by_cases h1 : j < D.length
    · rw [if_pos h1] at h ⊢
      by_cases h2 : D.getD j 0 = 92
      · rw [if_pos h2] at h ⊢; exact ih _ _ _ h (by omega)
      · rw [if_neg h2] at h ⊢
        by_cases h3 : D.getD j 0 = 34
        · rw [if_pos h3] at h ⊢; exact h
        · rw [if_neg h3] at h ⊢; exact ih _ _ _ h (by omega)
    · rw [if_neg h1] at h; cases h

theorem St.quote {D : List Int} {j : Nat} (h : j < D.length) (hc : D.getD j 0 = 34) : St D j (j + 1) :=
  ⟨1, by simp only [strF]; rw [if_pos h, if_neg (by rw [hc]; decide), if_pos hc]⟩
theorem St.esc {D : List Int} {j e : Nat} (h : j < D.length) (hc : D.getD j 0 = 92) (hs : St D (j + 2) e) : St D j e := by
  obtain ⟨f, hf⟩ := hs
  exact ⟨f + 1, by simp only [strF]; rw [if_pos h, if_pos hc]; exact hf⟩
theorem St.other {D : List Int} {j e : Nat} (h : j < D.length) (h1 : D.getD j 0 ≠ 92) (h2 : D.getD j 0 ≠ 34) (hs : St D (j + 1) e) : St D j e := by
  obtain ⟨f, hf⟩ := hs
  exact ⟨f + 1, by simp only [strF]; rw [if_pos h, if_neg h1, if_neg h2]; exact hf⟩

theorem St.inv {D : List Int} {j e : Nat} (hs : St D j e) : j < D.length ∧ ((D.getD j 0 = 92 ∧ St D (j + 2) e) ∨ (D.getD j 0 = 34 ∧ e = j + 1) ∨ (D.getD j 0 ≠ 92 ∧ D.getD j 0 ≠ 34 ∧ St D (j + 1) e)) := by
  obtain ⟨f, hf⟩ := hs
  cases f with
  | zero => simp [strF] at hf
  | succ f =>
    simp only [strF] at hf
    by_cases h1 : j < D.length
    · rw [if_pos h1] at hf
      refine ⟨h1, ?_⟩
      by_cases h2 : D.getD j 0 = 92
      · rw [if_pos h2] at hf; exact .inl ⟨h2, f, hf⟩
      · rw [if_neg h2] at hf
        by_cases h3 : D.getD j 0 = 34
        · rw [if_pos h3] at hf; exact .inr (.inl ⟨h3, by simpa using hf.symm⟩)
        · rw [if_neg h3] at hf; exact .inr (.inr ⟨h2, h3, f, hf⟩)
    · rw [if_neg h1] at hf; cases hf

theorem St.bounds {D : List Int} {j e : Nat} (hs : St D j e) : j < e ∧ e ≤ D.length := by
  obtain ⟨f, hf⟩ := hs
  induction f generalizing j with
  | zero => simp [strF] at hf
  | succ f ih =>
    simp only [strF] at hf
    by_cases h1 : j < D.length
    · rw [if_pos h1] at hf
      by_cases h2 : D.getD j 0 = 92
      · rw [if_pos h2] at hf; have := ih hf; omega
      · rw [if_neg h2] at hf
        by_cases h3 : D.getD j 0 = 34
        · rw [if_pos h3] at hf; simp at hf; omega
        · rw [if_neg h3] at hf; have := ih hf; omega
    · rw [if_neg h1] at hf; cases hf

/-- Opening and closing brackets. -/
def isOpen (c : Int) : Prop := c = 123 ∨ c = 91
def isClose (c : Int) : Prop := c = 125 ∨ c = 93

/-- Where the container ends, scanning from p at depth d (by fuel). -/
def vnd (D : List Int) : Nat → Nat → Nat → Option Nat
  | 0, _, _ => none
  | f + 1, p, d => if p < D.length then
      (if D.getD p 0 = 34 then (match strF D f (p + 1) with | some e => vnd D f e d | none => none)
       else if D.getD p 0 = 123 ∨ D.getD p 0 = 91 then vnd D f (p + 1) (d + 1)
       else if D.getD p 0 = 125 ∨ D.getD p 0 = 93 then (if d = 0 then none else if d = 1 then some (p + 1) else vnd D f (p + 1) (d - 1))
       else vnd D f (p + 1) d) else none
/-- Scanning from p at depth d the container ends at r. -/
def Ev (D : List Int) (p d r : Nat) : Prop := ∃ f, vnd D f p d = some r

theorem vnd_mono (D : List Int) (f : Nat) : ∀ (p d r g : Nat), vnd D f p d = some r → f ≤ g → vnd D g p d = some r := by
  induction f with
  | zero => intro p d r g h; simp [vnd] at h
  | succ f ih =>
    intro p d r g h hg
    obtain ⟨g, rfl⟩ : ∃ g', g = g' + 1 := ⟨g - 1, by omega⟩
    simp only [vnd] at h ⊢
    by_cases h1 : p < D.length
    · rw [if_pos h1] at h ⊢
      by_cases h2 : D.getD p 0 = 34
      · rw [if_pos h2] at h ⊢
        cases hs : strF D f (p + 1) with
        | none => rw [hs] at h; cases h
        | some e =>
          rw [hs] at h
          rw [strF_mono D f _ _ g hs (by omega)]
          exact ih _ _ _ _ h (by omega)
      · rw [if_neg h2] at h ⊢
        by_cases h3 : D.getD p 0 = 123 ∨ D.getD p 0 = 91
        · rw [if_pos h3] at h ⊢; exact ih _ _ _ _ h (by omega)
        · rw [if_neg h3] at h ⊢
          by_cases h4 : D.getD p 0 = 125 ∨ D.getD p 0 = 93
          · rw [if_pos h4] at h ⊢
            by_cases h5 : d = 0
            · rw [if_pos h5] at h; cases h
            · rw [if_neg h5] at h ⊢
              by_cases h6 : d = 1
              · rw [if_pos h6] at h ⊢; exact h
              · rw [if_neg h6] at h ⊢; exact ih _ _ _ _ h (by omega)
          · rw [if_neg h4] at h ⊢; exact ih _ _ _ _ h (by omega)
    · rw [if_neg h1] at h; cases h

theorem Ev.str {D : List Int} {p e d r : Nat} (h : p < D.length) (hc : D.getD p 0 = 34) (hs : St D (p + 1) e) (hv : Ev D e d r) : Ev D p d r := by
  obtain ⟨f1, h1⟩ := hs
  obtain ⟨f2, h2⟩ := hv
  refine ⟨f1 + f2 + 1, ?_⟩
  simp only [vnd]
  rw [if_pos h, if_pos hc, strF_mono D f1 _ _ (f1 + f2) h1 (by omega)]
  exact vnd_mono D f2 _ _ _ _ h2 (by omega)
theorem Ev.opn {D : List Int} {p d r : Nat} (h : p < D.length) (hc : isOpen (D.getD p 0)) (hv : Ev D (p + 1) (d + 1) r) : Ev D p d r := by
  obtain ⟨f, hf⟩ := hv
  unfold isOpen at hc
  refine ⟨f + 1, ?_⟩
  simp only [vnd]
  rw [if_pos h, if_neg (by rcases hc with h | h <;> rw [h] <;> decide), if_pos hc]
  exact hf
theorem Ev.last {D : List Int} {p : Nat} (h : p < D.length) (hc : isClose (D.getD p 0)) : Ev D p 1 (p + 1) := by
  unfold isClose at hc
  refine ⟨1, ?_⟩
  simp only [vnd]
  rw [if_pos h, if_neg (by rcases hc with h | h <;> rw [h] <;> decide), if_neg (by rcases hc with h | h <;> rw [h] <;> decide), if_pos hc, if_neg (by decide)]
  simp
theorem Ev.cls {D : List Int} {p d r : Nat} (h : p < D.length) (hc : isClose (D.getD p 0)) (hv : Ev D (p + 1) (d + 1) r) : Ev D p (d + 2) r := by
  obtain ⟨f, hf⟩ := hv
  unfold isClose at hc
  refine ⟨f + 1, ?_⟩
  simp only [vnd]
  rw [if_pos h, if_neg (by rcases hc with h | h <;> rw [h] <;> decide), if_neg (by rcases hc with h | h <;> rw [h] <;> decide), if_pos hc, if_neg (by omega), if_neg (by omega)]
  exact hf
theorem Ev.other {D : List Int} {p d r : Nat} (h : p < D.length) (h1 : D.getD p 0 ≠ 34) (h2 : ¬ isOpen (D.getD p 0)) (h3 : ¬ isClose (D.getD p 0)) (hv : Ev D (p + 1) d r) : Ev D p d r := by
  obtain ⟨f, hf⟩ := hv
  unfold isOpen at h2
  unfold isClose at h3
  refine ⟨f + 1, ?_⟩
  simp only [vnd]
  rw [if_pos h, if_neg h1, if_neg h2, if_neg h3]
  exact hf

theorem Ev.inv {D : List Int} {p d r : Nat} (hv : Ev D p d r) : p < D.length ∧
    ((D.getD p 0 = 34 ∧ ∃ e, St D (p + 1) e ∧ Ev D e d r) ∨ (isOpen (D.getD p 0) ∧ Ev D (p + 1) (d + 1) r) ∨ (isClose (D.getD p 0) ∧ d = 1 ∧ r = p + 1) ∨ (isClose (D.getD p 0) ∧ 2 ≤ d ∧ Ev D (p + 1) (d - 1) r) ∨
     (D.getD p 0 ≠ 34 ∧ ¬ isOpen (D.getD p 0) ∧ ¬ isClose (D.getD p 0) ∧ Ev D (p + 1) d r)) := by
  obtain ⟨f, hf⟩ := hv
  cases f with
  | zero => simp [vnd] at hf
  | succ f =>
    simp only [vnd] at hf
    by_cases h1 : p < D.length
    · rw [if_pos h1] at hf
      refine ⟨h1, ?_⟩
      by_cases h2 : D.getD p 0 = 34
      · rw [if_pos h2] at hf
        cases hs : strF D f (p + 1) with
        | none => rw [hs] at hf; cases hf
        | some e => rw [hs] at hf; exact .inl ⟨h2, e, ⟨f, hs⟩, f, hf⟩
      · rw [if_neg h2] at hf
        by_cases h3 : D.getD p 0 = 123 ∨ D.getD p 0 = 91
        · rw [if_pos h3] at hf; exact .inr (.inl ⟨h3, f, hf⟩)
        · rw [if_neg h3] at hf
          by_cases h4 : D.getD p 0 = 125 ∨ D.getD p 0 = 93
          · rw [if_pos h4] at hf
            by_cases h5 : d = 0
            · rw [if_pos h5] at hf; cases hf
            · rw [if_neg h5] at hf
              by_cases h6 : d = 1
              · rw [if_pos h6] at hf; exact .inr (.inr (.inl ⟨h4, h6, by simpa using hf.symm⟩))
              · rw [if_neg h6] at hf; exact .inr (.inr (.inr (.inl ⟨h4, by omega, f, hf⟩)))
          · rw [if_neg h4] at hf; exact .inr (.inr (.inr (.inr ⟨h2, h3, h4, f, hf⟩)))
    · rw [if_neg h1] at hf; cases hf

/-- Bytes that are no quote, no bracket, no comma and no white space. -/
def plain (c : Int) : Prop := c ≠ 34 ∧ c ≠ 123 ∧ c ≠ 91 ∧ c ≠ 125 ∧ c ≠ 93 ∧ c ≠ 44 ∧ c ≠ 32 ∧ c ≠ 9 ∧ c ≠ 10 ∧ c ≠ 13
/-- Bytes that the scan passes by. -/
def passed (c : Int) : Prop := c ≠ 34 ∧ ¬ isOpen c ∧ ¬ isClose c
theorem plain.passed {c : Int} (h : plain c) : passed c := by
  obtain ⟨h1, h2, h3, h4, h5, _⟩ := h
  exact ⟨h1, fun x => by rcases x with x | x <;> contradiction, fun x => by rcases x with x | x <;> contradiction⟩

/-- A stretch of passed bytes. -/
theorem Ev.skip {D : List Int} {q d r : Nat} (n : Nat) : ∀ p, p + n = q → q ≤ D.length → (∀ j, p ≤ j → j < q → passed (D.getD j 0)) → Ev D q d r → Ev D p d r := by
  induction n with
  | zero => intro p h _ _ hv; have : p = q := by omega
            subst this; exact hv
  | succ n ih =>
    intro p h hq hp hv
    have h1 := hp p (Nat.le_refl _) (by omega)
    exact Ev.other (by omega) h1.1 h1.2.1 h1.2.2 (ih (p + 1) (by omega) hq (fun j a b => hp j (by omega) b) hv)

/-- From (p, d) whatever end is found is the end from (q, d): what a piece that has been read gives. -/
def Thru (D : List Int) (p q : Nat) : Prop := ∀ d r, Ev D q d r → Ev D p d r
theorem Thru.refl (D : List Int) (p : Nat) : Thru D p p := fun _ _ h => h
theorem Thru.trans {D : List Int} {p q s : Nat} (h : Thru D p q) (k : Thru D q s) : Thru D p s := fun d r hv => h d r (k d r hv)
theorem thru_passed {D : List Int} {p q : Nat} (h : p ≤ q) (hq : q ≤ D.length) (hp : ∀ j, p ≤ j → j < q → passed (D.getD j 0)) : Thru D p q :=
  fun _ _ hv => Ev.skip (q - p) p (by omega) hq hp hv
theorem thru_str {D : List Int} {p e : Nat} (h : p < D.length) (hc : D.getD p 0 = 34) (hs : St D (p + 1) e) : Thru D p e := fun _ _ hv => Ev.str h hc hs hv
end Go.Proofs.Qxb6603724a.sl
