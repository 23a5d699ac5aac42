/-
  Decimal numerals read back; nothing of the program in it.
-/
import Derived.Lib.ItoaNum
import Derived.Lib.ItoaMem
namespace Go.Proofs.Qxb6602876aDoor.Rd
open Go.Lib

/-- The value of a list of decimal digits. -/
def dv (l : List UInt8) : Int := l.foldl (fun a c => a * 10 + ((c.toNat : Int) - 48)) 0
def Dig (c : UInt8) : Prop := 48 ≤ (c.toNat : Int) ∧ (c.toNat : Int) ≤ 57

theorem dv_snoc (l : List UInt8) (c : UInt8) : dv (l ++ [c]) = dv l * 10 + ((c.toNat : Int) - 48) := by simp [dv, List.foldl_append]

theorem ofNat_dig (d : Nat) (h : d < 10) : ((UInt8.ofNat (48 + d)).toNat : Int) = 48 + d := by
  simp only [UInt8.toNat_ofNat']; omega

theorem digits_all (u : Nat) : dv (decDigits u) = u ∧ (∀ c ∈ decDigits u, Dig c) ∧ (1 ≤ u → ∃ c r, decDigits u = c :: r ∧ (c.toNat : Int) ≠ 48) ∧ (decDigits u ≠ []) := by
  induction u using Nat.strongRecOn with
  | ind u ih =>
    by_cases h : u < 10
    · rw [decDigits, dif_pos h]
      have e := ofNat_dig u h
      refine ⟨?_, ?_, fun h1 => ⟨_, [], rfl, by omega⟩, by simp⟩
      · simp only [dv, List.foldl_cons, List.foldl_nil]; omega
      · intro c hc
        simp only [List.mem_cons, List.not_mem_nil, or_false] at hc
        subst hc
        unfold Dig; omega
    · rw [decDigits, dif_neg h]
      obtain ⟨i1, i2, i3, i4⟩ := ih (u / 10) (by omega)
      have e := ofNat_dig (u % 10) (by omega)
      refine ⟨?_, ?_, fun _ => ?_, by simp⟩
      · rw [dv_snoc, i1]; omega
      · intro c hc
        rcases List.mem_append.1 hc with h1 | h1
        · exact i2 c h1
        · simp only [List.mem_cons, List.not_mem_nil, or_false] at h1
          subst h1
          unfold Dig; omega
      · obtain ⟨c, r, hr, hc⟩ := i3 (by omega)
        exact ⟨c, r ++ [_], by rw [hr]; rfl, hc⟩

theorem fold_ge : ∀ (l : List UInt8) (a : Int), (∀ c ∈ l, Dig c) → 0 ≤ a → a ≤ l.foldl (fun a c => a * 10 + ((c.toNat : Int) - 48)) a := by
  intro l
  induction l with
  | nil => intro a _ _; simp
  | cons c r ih =>
    intro a h h0
    have hc := h c (List.mem_cons_self ..)
    have := ih (a * 10 + ((c.toNat : Int) - 48)) (fun d hd => h d (List.mem_cons_of_mem _ hd)) (by unfold Dig at hc; omega)
    simp only [List.foldl_cons]
    unfold Dig at hc
    omega

theorem dv_nonneg (l : List UInt8) (h : ∀ c ∈ l, Dig c) : 0 ≤ dv l := fold_ge l 0 h (Int.le_refl _)

/-- A longer numeral is no smaller. -/
theorem dv_mono (l r : List UInt8) (h : ∀ c ∈ l ++ r, Dig c) : dv l ≤ dv (l ++ r) := by
  have h1 := dv_nonneg l (fun c hc => h c (List.mem_append_left _ hc))
  have := fold_ge r (dv l) (fun c hc => h c (List.mem_append_right _ hc)) h1
  unfold dv at *
  rw [List.foldl_append]
  exact this

/-- One step of the reader, and that it stays in range. -/
theorem read_step (l : List UInt8) (k : Nat) (hk : k < l.length) (h : ∀ c ∈ l, Dig c) :
    dv (l.take (k + 1)) = dv (l.take k) * 10 + ((l[k].toNat : Int) - 48) ∧ 0 ≤ dv (l.take k) ∧ dv (l.take (k + 1)) ≤ dv l ∧ Dig l[k] := by
  refine ⟨by rw [List.take_succ_eq_append_getElem hk, dv_snoc], dv_nonneg _ (fun c hc => h c (List.mem_of_mem_take hc)), ?_, h _ (List.getElem_mem hk)⟩
  have := dv_mono (l.take (k + 1)) (l.drop (k + 1)) (by rw [List.take_append_drop]; exact h)
  rwa [List.take_append_drop] at this

theorem nDigits_le (k : Nat) : ∀ u, u < 10 ^ (k + 1) → nDigits u ≤ k + 1 := by
  induction k with
  | zero => intro u h; rw [nDigits_small (by simpa using h)]; omega
  | succ k ih =>
    intro u h
    by_cases h1 : u < 10
    · rw [nDigits_small h1]; omega
    · rw [nDigits, dif_neg h1]
      have := ih (u / 10) (by rw [Nat.div_lt_iff_lt_mul (by decide)]; rw [Nat.pow_succ] at h; exact h)
      omega

theorem digits_length (u : Nat) (h : u ≤ 9223372036854775808) : (decDigits u).length ≤ 19 := by
  rw [decDigits_length]; exact nDigits_le 18 u (by omega)
end Go.Proofs.Qxb6602876aDoor.Rd
