/- Trees, and how bytes encode them; the plain law of well-formedness. -/
import Derived.Test.YteodinhkhhaafaaGreatDoorWk
set_option linter.unusedVariables false
set_option linter.unusedSimpArgs false
namespace Go.Proofs.YteodinhkhhaafaaGreatDoor
open Go.RowKit

/-- More rounds change nothing. -/
theorem wf_mono (L : Lim) (xs : List UInt8) : ∀ f,
    (∀ off dep r, wfI L xs f off dep = some r → wfI L xs (f + 1) off dep = some r) ∧
    (∀ m off dep r, wfS L xs f m off dep = some r → wfS L xs (f + 1) m off dep = some r) ∧
    (∀ m i off dep r, wfO L xs f m i off dep = some r → wfO L xs (f + 1) m i off dep = some r) ∧
    (∀ n off dep r, wfN L xs f n off dep = some r → wfN L xs (f + 1) n off dep = some r) ∧
    (∀ off dep r, wfT L xs f off dep = some r → wfT L xs (f + 1) off dep = some r) := by
  intro f
  have hj : ∀ (D : Nat) (p q : Option (Except Nat (Nat × Nat))) r, (∀ r, p = some r → q = some r) → joinD D p = some r → joinD D q = some r := by
    intro D p q r h1 h
    cases p with
    | none => simp [joinD] at h
    | some p => rw [h1 p rfl]; exact h
  induction f with
  | zero => simp [wfI, wfS, wfO, wfN, wfT]
  | succ f ih =>
    obtain ⟨i1, i2, i3, i4, i5⟩ := ih
    refine ⟨?_, ?_, ?_, ?_, ?_⟩
    · intro off dep r h
      rw [wfI] at h ⊢
      cases hh : hd xs off with
      | error k => rw [hh] at h; exact h
      | ok q =>
        obtain ⟨m, ai, v, o⟩ := q
        rw [hh] at h
        dsimp only at h ⊢
        by_cases c1 : m = 2 ∨ m = 3
        · rw [if_pos c1] at h ⊢
          by_cases c2 : ai = 31
          · rw [if_pos c2] at h ⊢; exact i2 _ _ _ _ h
          · rw [if_neg c2] at h ⊢; exact h
        · rw [if_neg c1] at h ⊢
          by_cases c3 : m = 4 ∨ m = 5
          · rw [if_pos c3] at h ⊢
            by_cases c4 : L.nest < dep + 1
            · rw [if_pos c4] at h ⊢; exact h
            · rw [if_neg c4] at h ⊢
              by_cases c2 : ai = 31
              · rw [if_pos c2] at h ⊢; exact i3 _ _ _ _ _ h
              · rw [if_neg c2] at h ⊢
                by_cases c5 : 9223372036854775808 ≤ v
                · rw [if_pos c5] at h ⊢; exact h
                · rw [if_neg c5] at h ⊢
                  by_cases c6 : m = 4 ∧ L.el < v
                  · rw [if_pos c6] at h ⊢; exact h
                  · rw [if_neg c6] at h ⊢
                    by_cases c7 : m = 5 ∧ L.pa < v
                    · rw [if_pos c7] at h ⊢; exact h
                    · rw [if_neg c7] at h ⊢; exact i4 _ _ _ _ h
          · rw [if_neg c3] at h ⊢
            by_cases c8 : m = 6
            · rw [if_pos c8] at h ⊢; exact i5 _ _ _ h
            · rw [if_neg c8] at h ⊢; exact h
    · intro m off dep r h
      rw [wfS] at h ⊢
      cases hx : xs[off]? with
      | none => rw [hx] at h; exact h
      | some b =>
        rw [hx] at h
        dsimp only at h ⊢
        by_cases c1 : b.toNat = 255
        · rw [if_pos c1] at h ⊢; exact h
        · rw [if_neg c1] at h ⊢
          by_cases c2 : b.toNat / 32 ≠ m
          · rw [if_pos c2] at h ⊢; exact h
          · rw [if_neg c2] at h ⊢
            by_cases c3 : b.toNat % 32 = 31
            · rw [if_pos c3] at h ⊢; exact h
            · rw [if_neg c3] at h ⊢
              cases hI : wfI L xs f off dep with
              | none => rw [hI] at h; cases h
              | some q =>
                rw [hI] at h
                rw [i1 _ _ _ hI]
                cases q with
                | error k => exact h
                | ok p => exact i2 _ _ _ _ h
    · intro m i off dep r h
      rw [wfO] at h ⊢
      cases hx : xs[off]? with
      | none => rw [hx] at h; exact h
      | some b =>
        rw [hx] at h
        dsimp only at h ⊢
        by_cases c1 : b.toNat = 255
        · rw [if_pos c1] at h ⊢; exact h
        · rw [if_neg c1] at h ⊢
          cases hI : wfI L xs f off dep with
          | none => rw [hI] at h; cases h
          | some q =>
            rw [hI] at h
            rw [i1 _ _ _ hI]
            cases q with
            | error k => exact h
            | ok p =>
              dsimp only at h ⊢
              by_cases c2 : m = 4 ∧ L.el < i + 1
              · rw [if_pos c2] at h ⊢; exact h
              · rw [if_neg c2] at h ⊢
                by_cases c3 : m ≠ 4 ∧ (i + 1) % 2 = 0 ∧ L.pa < (i + 1) / 2
                · rw [if_pos c3] at h ⊢; exact h
                · rw [if_neg c3] at h ⊢
                  exact hj _ _ _ _ (i3 _ _ _ _) h
    · intro n off dep r h
      cases n with
      | zero => rw [wfN] at h ⊢; exact h
      | succ n =>
        rw [wfN] at h ⊢
        cases hI : wfI L xs f off dep with
        | none => rw [hI] at h; cases h
        | some q =>
          rw [hI] at h
          rw [i1 _ _ _ hI]
          cases q with
          | error k => exact h
          | ok p => exact hj _ _ _ _ (i4 _ _ _) h
    · intro off dep r h
      rw [wfT] at h ⊢
      cases hx : xs[off]? with
      | none => rw [hx] at h; exact h
      | some b =>
        rw [hx] at h
        dsimp only at h ⊢
        by_cases c1 : b.toNat / 32 ≠ 6
        · rw [if_pos c1] at h ⊢; exact i1 _ _ _ h
        · rw [if_neg c1] at h ⊢
          cases hh : hd xs off with
          | error k => rw [hh] at h; exact h
          | ok q =>
            obtain ⟨m, ai, v, o⟩ := q
            rw [hh] at h
            dsimp only at h ⊢
            by_cases c2 : L.nest < dep + 1
            · rw [if_pos c2] at h ⊢; exact h
            · rw [if_neg c2] at h ⊢; exact i5 _ _ _ h
end Go.Proofs.YteodinhkhhaafaaGreatDoor
