/- Reachability over a list of nodes, forward and by recursion: plain law. No program in sight, no conditions. -/
namespace Go.Proofs.Ytgbbhihnlkaakaa.rst

section
variable (n : Nat) (k : Nat → Int) (par : Nat → Option Nat) (slot : Nat → Int) (sp : Nat → Bool)
/-- Is the node reached by the forward pass? (f: fuel, more than the node's number) -/
def live : Nat → Nat → Bool
  | 0, _ => false
  | f + 1, i => if i = 0 then true else match par i with
    | none => false
    | some p => live f p && (k p == 1 || k p == 2 || (k p == 3 && slot i == 0))
/-- What the recursion answers at a node. -/
inductive R : Nat → Prop where
  | arr {i j : Nat} : k i = 1 → j < n → par j = some i → R j → R i
  | spread {i j : Nat} : k i = 2 → j < n → par j = some i → sp j = true → R i
  | obj {i j : Nat} : k i = 2 → j < n → par j = some i → R j → R i
  | left {i j : Nat} : k i = 3 → j < n → par j = some i → slot j = 0 → R j → R i
/-- What the forward pass answers. -/
def M : Prop := ∃ i p f, 0 < i ∧ i < n ∧ par i = some p ∧ live k par slot f p = true ∧ k p = 2 ∧ sp i = true
variable {n k par slot sp}
theorem live_mono {f : Nat} : ∀ {i : Nat}, live k par slot f i = true → live k par slot (f + 1) i = true := by
  induction f with
  | zero => intro i h; simp [live] at h
  | succ f ih =>
    intro i h
    unfold live at h ⊢
    by_cases e : i = 0
    · rw [if_pos e]
    · rw [if_neg e] at h ⊢
      cases hp : par i with
      | none => rw [hp] at h; exact h
      | some p =>
        rw [hp] at h
        simp only [Bool.and_eq_true] at h ⊢
        exact ⟨ih h.1, h.2⟩
theorem up (hpar : ∀ i p, par i = some p → p < i) : ∀ (f i : Nat), live k par slot f i = true → i < n → R n k par slot sp i → R n k par slot sp 0 := by
  intro f
  induction f with
  | zero => intro i h; simp [live] at h
  | succ f ih =>
    intro i h hi hr
    unfold live at h
    by_cases e : i = 0
    · subst e; exact hr
    · rw [if_neg e] at h
      cases hp : par i with
      | none => rw [hp] at h; cases h
      | some p =>
        rw [hp] at h
        simp only [Bool.and_eq_true, Bool.or_eq_true, beq_iff_eq] at h
        have hlt := hpar i p hp
        refine ih p h.1 (by omega) ?_
        rcases h.2 with (h2 | h2) | ⟨h2, h3⟩
        · exact .arr h2 hi hp hr
        · exact .obj h2 hi hp hr
        · exact .left h2 hi hp h3 hr
theorem step_live {f i j : Nat} (hj : j ≠ 0) (hp : par j = some i) (h : live k par slot f i = true) (hk : k i = 1 ∨ k i = 2 ∨ (k i = 3 ∧ slot j = 0)) : live k par slot (f + 1) j = true := by
  unfold live
  rw [if_neg hj, hp]
  simp only [Bool.and_eq_true, Bool.or_eq_true, beq_iff_eq]
  refine ⟨h, ?_⟩
  rcases hk with h | h | h
  · exact .inl (.inl h)
  · exact .inl (.inr h)
  · exact .inr h
theorem down (hpar : ∀ i p, par i = some p → p < i) {i : Nat} (hr : R n k par slot sp i) : ∀ f, live k par slot f i = true → M n k par slot sp := by
  induction hr with
  | arr h1 hj hp _ ih => intro f hl; exact ih (f + 1) (step_live (by have := hpar _ _ hp; omega) hp hl (.inl h1))
  | spread h1 hj hp hs => intro f hl; exact ⟨_, _, f, by have := hpar _ _ hp; omega, hj, hp, hl, h1, hs⟩
  | obj h1 hj hp _ ih => intro f hl; exact ih (f + 1) (step_live (by have := hpar _ _ hp; omega) hp hl (.inr (.inl h1)))
  | left h1 hj hp hs _ ih => intro f hl; exact ih (f + 1) (step_live (by have := hpar _ _ hp; omega) hp hl (.inr (.inr ⟨h1, hs⟩)))
/-- The two answers are one. -/
theorem same (hpar : ∀ i p, par i = some p → p < i) : R n k par slot sp 0 ↔ M n k par slot sp := by
  constructor
  · intro h; exact down hpar h 1 rfl
  · rintro ⟨i, p, f, h0, hi, hp, hl, hk, hs⟩
    exact up hpar f p hl (by have := hpar i p hp; omega) (.spread hk hi hp hs)
theorem live_fuel (hpar : ∀ i p, par i = some p → p < i) : ∀ (f i f' : Nat), i < f → i < f' → live k par slot f i = live k par slot f' i := by
  intro f
  induction f with
  | zero => intro i f' h; omega
  | succ f ih =>
    intro i f' h1 h2
    cases f' with
    | zero => omega
    | succ f' =>
      unfold live
      by_cases e : i = 0
      · rw [if_pos e, if_pos e]
      · rw [if_neg e, if_neg e]
        cases hp : par i with
        | none => rfl
        | some p =>
          have := hpar i p hp
          simp only
          rw [ih p f' (by omega) (by omega)]
variable (k par slot) in
/-- The forward pass's mark at a node. -/
def L (i : Nat) : Bool := live k par slot (i + 1) i
theorem live_le {f i : Nat} (h : live k par slot f i = true) : ∀ d, live k par slot (f + d) i = true
  | 0 => h
  | d + 1 => live_mono (live_le h d)
theorem live_L (hpar : ∀ i p, par i = some p → p < i) {f i : Nat} (h : live k par slot f i = true) : L k par slot i = true := by
  unfold L
  rw [live_fuel hpar (i + 1) i (f + (i + 1)) (by omega) (by omega)]
  exact live_le h _
theorem L_zero : L k par slot 0 = true := rfl
theorem L_none {i : Nat} (hi : i ≠ 0) (hp : par i = none) : L k par slot i = false := by
  unfold L live
  rw [if_neg hi, hp]
theorem L_some (hpar : ∀ i p, par i = some p → p < i) {i p : Nat} (hi : i ≠ 0) (hp : par i = some p) : L k par slot i = (L k par slot p && (k p == 1 || k p == 2 || (k p == 3 && slot i == 0))) := by
  have h := hpar i p hp
  have e : L k par slot i = (live k par slot i p && (k p == 1 || k p == 2 || (k p == 3 && slot i == 0))) := by
    show live k par slot (i + 1) i = _
    conv => lhs; unfold live
    rw [if_neg hi, hp]
  rw [e]
  unfold L
  rw [live_fuel hpar i p (p + 1) (by omega) (by omega)]
variable (k par slot sp) in
def NoM (m : Nat) : Prop := ∀ j p, 0 < j → j < m → par j = some p → L k par slot p = true → k p = 2 → sp j = false
theorem not_M (hpar : ∀ i p, par i = some p → p < i) (h : NoM k par slot sp n) : ¬ M n k par slot sp := by
  rintro ⟨i, p, f, h0, hi, hp, hl, hk, hs⟩
  rw [h i p h0 hi hp (live_L hpar hl) hk] at hs
  cases hs
theorem yes_M {j p : Nat} (h0 : 0 < j) (hj : j < n) (hp : par j = some p) (hl : L k par slot p = true) (hk : k p = 2) (hs : sp j = true) : M n k par slot sp := ⟨j, p, p + 1, h0, hj, hp, hl, hk, hs⟩
end
end Go.Proofs.Ytgbbhihnlkaakaa.rst
