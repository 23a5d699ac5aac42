/-
  Numbers, plainly: what comes behind a number does not change how far it goes.
-/
import Derived.Test.Qxb6601578aDoc
namespace Go.Proofs.Qxb6601578a.Js

/-- What may stand behind a value. -/
def okRest (rest : List UInt8) : Prop := ∀ c r, rest = c :: r → c = 44 ∨ c = 93 ∨ c = 125

theorem okRest.nil : okRest [] := fun _ _ h => by cases h
theorem okRest.cons {c : UInt8} (r : List UInt8) (h : c = 44 ∨ c = 93 ∨ c = 125) : okRest (c :: r) := fun _ _ e => by cases e; exact h

theorem digs_rest {rest : List UInt8} (hr : okRest rest) (l : List UInt8) : digs (l ++ rest) = digs l := by
  induction l with
  | nil =>
    cases rest with
    | nil => rfl
    | cons c r =>
      have h := hr c r rfl
      show (if 48 ≤ c ∧ c ≤ 57 then digs r + 1 else 0) = 0
      rw [if_neg]
      rcases h with rfl | rfl | rfl <;> decide
  | cons a t ih => simp only [List.cons_append, digs, ih]

theorem digs_le (l : List UInt8) : digs l ≤ l.length := by
  induction l with
  | nil => exact Nat.le_refl _
  | cons a t ih => simp only [digs, List.length_cons]; split <;> omega

theorem negLen_rest {rest : List UInt8} (hr : okRest rest) (l : List UInt8) : negLen (l ++ rest) = negLen l := by
  cases l with
  | nil =>
    cases rest with
    | nil => rfl
    | cons c r =>
      have h := hr c r rfl
      show (if c = 45 then 1 else 0) = 0
      rw [if_neg]
      rcases h with rfl | rfl | rfl <;> decide
  | cons a t => rfl

theorem negLen_le (l : List UInt8) : negLen l ≤ l.length := by
  cases l with
  | nil => exact Nat.le_refl _
  | cons a t => simp only [negLen, List.length_cons]; split <;> omega

theorem sgnLen_rest {rest : List UInt8} (hr : okRest rest) (l : List UInt8) : sgnLen (l ++ rest) = sgnLen l := by
  cases l with
  | nil =>
    cases rest with
    | nil => rfl
    | cons c r =>
      have h := hr c r rfl
      show (if c = 43 ∨ c = 45 then 1 else 0) = 0
      rw [if_neg]
      rcases h with rfl | rfl | rfl <;> decide
  | cons a t => rfl

theorem sgnLen_le (l : List UInt8) : sgnLen l ≤ l.length := by
  cases l with
  | nil => exact Nat.le_refl _
  | cons a t => simp only [sgnLen, List.length_cons]; split <;> omega

theorem intLen_rest {rest : List UInt8} (hr : okRest rest) (l : List UInt8) : intLen (l ++ rest) = intLen l := by
  cases l with
  | nil =>
    cases rest with
    | nil => rfl
    | cons c r =>
      have h := hr c r rfl
      show (if c = 48 then some 1 else if 49 ≤ c ∧ c ≤ 57 then some (digs (c :: r)) else none) = none
      rw [if_neg, if_neg]
      · rcases h with rfl | rfl | rfl <;> decide
      · rcases h with rfl | rfl | rfl <;> decide
  | cons a t =>
    show (if a = 48 then some 1 else if 49 ≤ a ∧ a ≤ 57 then some (digs ((a :: t) ++ rest)) else none) = _
    rw [digs_rest hr]; rfl

theorem intLen_le (l : List UInt8) (b : Nat) (h : intLen l = some b) : b ≤ l.length := by
  cases l with
  | nil => cases h
  | cons a t =>
    simp only [intLen] at h
    split at h
    · cases h; simp
    · split at h
      · cases h; exact digs_le _
      · cases h

theorem fracLen_rest {rest : List UInt8} (hr : okRest rest) (l : List UInt8) : fracLen (l ++ rest) = fracLen l := by
  cases l with
  | nil =>
    cases rest with
    | nil => rfl
    | cons c r =>
      have h := hr c r rfl
      show (if c = 46 then (if digs r = 0 then none else some (digs r + 1)) else some 0) = some 0
      rw [if_neg]
      rcases h with rfl | rfl | rfl <;> decide
  | cons a t => simp only [List.cons_append, fracLen, digs_rest hr]

theorem fracLen_le (l : List UInt8) (b : Nat) (h : fracLen l = some b) : b ≤ l.length := by
  cases l with
  | nil => cases h; exact Nat.le_refl _
  | cons a t =>
    have := digs_le t
    simp only [fracLen] at h
    split at h
    · split at h
      · cases h
      · cases h; simp; omega
    · cases h; simp

theorem expLen_rest {rest : List UInt8} (hr : okRest rest) (l : List UInt8) : expLen (l ++ rest) = expLen l := by
  cases l with
  | nil =>
    cases rest with
    | nil => rfl
    | cons c r =>
      have h := hr c r rfl
      show (if c = 101 ∨ c = 69 then (if digs (r.drop (sgnLen r)) = 0 then none else some (1 + sgnLen r + digs (r.drop (sgnLen r)))) else some 0) = some 0
      rw [if_neg]
      rcases h with rfl | rfl | rfl <;> decide
  | cons a t =>
    simp only [List.cons_append, expLen, sgnLen_rest hr]
    rw [List.drop_append_of_le_length (sgnLen_le t), digs_rest hr]

theorem numLen_rest {rest : List UInt8} (hr : okRest rest) (l : List UInt8) : numLen (l ++ rest) = numLen l := by
  unfold numLen
  rw [negLen_rest hr, List.drop_append_of_le_length (negLen_le l), intLen_rest hr]
  cases h1 : intLen (l.drop (negLen l)) with
  | none => rfl
  | some b =>
    have hb := intLen_le _ _ h1
    have hn := negLen_le l
    rw [List.length_drop] at hb
    show (match fracLen ((l ++ rest).drop (negLen l + b)) with | none => none | some f => match expLen ((l ++ rest).drop (negLen l + b + f)) with | none => none | some e => some (negLen l + b + f + e)) = _
    rw [List.drop_append_of_le_length (by omega), fracLen_rest hr]
    show _ = (match fracLen (l.drop (negLen l + b)) with | none => none | some f => match expLen (l.drop (negLen l + b + f)) with | none => none | some e => some (negLen l + b + f + e))
    cases h2 : fracLen (l.drop (negLen l + b)) with
    | none => rfl
    | some f =>
      have hf := fracLen_le _ _ h2
      rw [List.length_drop] at hf
      show (match expLen ((l ++ rest).drop (negLen l + b + f)) with | none => none | some e => some (negLen l + b + f + e)) = (match expLen (l.drop (negLen l + b + f)) with | none => none | some e => some (negLen l + b + f + e))
      rw [List.drop_append_of_le_length (by omega), expLen_rest hr]

theorem num_of_isNum {rest s : List UInt8} (hr : okRest rest) (h : isNum s = true) : numLen (s ++ rest) = some s.length := by
  rw [numLen_rest hr]; exact eq_of_beq h

/-- How a number begins. -/
theorem num_head {s : List UInt8} (h : isNum s = true) : ∃ c r, s = c :: r ∧ (c = 45 ∨ (48 ≤ c ∧ c ≤ 57)) := by
  have h1 : numLen s = some s.length := eq_of_beq h
  cases s with
  | nil => exact absurd h1 (by decide)
  | cons c r =>
    refine ⟨c, r, rfl, ?_⟩
    by_cases h45 : c = 45
    · exact .inl h45
    · refine .inr ?_
      unfold numLen at h1
      have hn : negLen (c :: r) = 0 := by simp [negLen, h45]
      rw [hn, List.drop_zero] at h1
      simp only [intLen] at h1
      by_cases h48 : c = 48
      · subst h48; decide
      · rw [if_neg h48] at h1
        by_cases h49 : 49 ≤ c ∧ c ≤ 57
        · refine ⟨?_, h49.2⟩
          have := h49.1
          exact UInt8.le_trans (by decide) this
        · rw [if_neg h49] at h1; cases h1
end Go.Proofs.Qxb6601578a.Js
