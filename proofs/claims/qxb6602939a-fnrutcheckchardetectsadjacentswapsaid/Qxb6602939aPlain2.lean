/-
  Why swapping two neighbours that differ turns the check character; nothing of the program in it.
-/
import Derived.Test.Qxb6602939aPlain
namespace Go.Proofs.Qxb6602939a.Rt

theorem sumTo_two (f g : Nat → Nat) (k : Nat) (h : ∀ j, j ≠ k → j ≠ k + 1 → f j = g j) : ∀ m, sumTo f (k + 2 + m) + g k + g (k + 1) = sumTo g (k + 2 + m) + f k + f (k + 1) := by
  intro m
  induction m with
  | zero =>
    show sumTo f (k + 2) + g k + g (k + 1) = sumTo g (k + 2) + f k + f (k + 1)
    have e : sumTo f k = sumTo g k := sumTo_congr _ _ _ (fun j hj => h j (by omega) (by omega))
    simp only [sumTo]
    omega
  | succ m ih =>
    have e := h (k + 2 + m) (by omega) (by omega)
    show sumTo f (k + 2 + m) + f (k + 2 + m) + g k + g (k + 1) = sumTo g (k + 2 + m) + g (k + 2 + m) + f k + f (k + 1)
    omega

/-- The list with its neighbours at k and k+1 swapped. -/
def swp (l : List UInt8) (k : Nat) : List UInt8 := (l.set k (l.getD (k + 1) 0)).set (k + 1) (l.getD k 0)

theorem swp_length (l : List UInt8) (k : Nat) : (swp l k).length = l.length := by simp [swp]

theorem swp_at (l : List UInt8) (k j : Nat) (hk : k + 1 < l.length) : (swp l k).getD j 0 = if j = k + 1 then l.getD k 0 else if j = k then l.getD (k + 1) 0 else l.getD j 0 := by
  unfold swp
  simp only [List.getD_eq_getElem?_getD, List.getElem?_set]
  by_cases h1 : j = k + 1
  · subst h1; simp [hk]
  · by_cases h2 : j = k
    · subst h2
      simp [show j < l.length by omega]
    · simp [show ¬ k + 1 = j by omega, show ¬ k = j by omega, h1, h2]

theorem dec_vl (c : UInt8) (h1 : 48 ≤ c.toNat) (h2 : c.toNat ≤ 57) : vl c = c.toNat - 48 := by unfold vl; omega

/-- The law. -/
theorem swap_turns (l : List UInt8) (k : Nat) (hk : k + 1 < l.length) (hd : ∀ j, j < l.length → 48 ≤ (l.getD j 0).toNat ∧ (l.getD j 0).toNat ≤ 57) (hne : l.getD k 0 ≠ l.getD (k + 1) 0) :
    chr (chk (total l)) ≠ chr (chk (total (swp l k))) := by
  intro he
  have hc := chr_inj (chk_lt _) (chk_lt _) he
  have ha := hd k (by omega)
  have hb := hd (k + 1) hk
  have va := dec_vl _ ha.1 ha.2
  have vb := dec_vl _ hb.1 hb.2
  have hab : (l.getD k 0).toNat ≠ (l.getD (k + 1) 0).toNat := fun e => hne (UInt8.toNat_inj.1 e)
  obtain ⟨m, hm⟩ : ∃ m, l.length = k + 2 + m := ⟨l.length - (k + 2), by omega⟩
  have hs := sumTo_two (term l) (term (swp l k)) k (fun j h1 h2 => by unfold term; rw [swp_length, swp_at l k j hk, if_neg h2, if_neg h1]) m
  have t1 : term l k = vl (l.getD k 0) * (2 + (m + 1) % 6) := by unfold term; rw [hm, show k + 2 + m - 1 - k = m + 1 from by omega]
  have t2 : term l (k + 1) = vl (l.getD (k + 1) 0) * (2 + m % 6) := by unfold term; rw [hm, show k + 2 + m - 1 - (k + 1) = m from by omega]
  have t3 : term (swp l k) k = vl (l.getD (k + 1) 0) * (2 + (m + 1) % 6) := by
    unfold term; rw [swp_length, swp_at l k k hk, if_neg (by omega), if_pos rfl, hm, show k + 2 + m - 1 - k = m + 1 from by omega]
  have t4 : term (swp l k) (k + 1) = vl (l.getD k 0) * (2 + m % 6) := by
    unfold term; rw [swp_length, swp_at l k (k + 1) hk, if_pos rfl, hm, show k + 2 + m - 1 - (k + 1) = m from by omega]
  rw [t1, t2, t3, t4, va, vb] at hs
  unfold total chk at hc
  rw [swp_length, hm] at hc
  generalize sumTo (term l) (k + 2 + m) = A at *
  generalize sumTo (term (swp l k)) (k + 2 + m) = B at *
  generalize (l.getD k 0).toNat = a at *
  generalize (l.getD (k + 1) 0).toNat = b at *
  obtain ⟨p, q, hp, hq⟩ : ∃ p q, m % 6 = p ∧ (m + 1) % 6 = q := ⟨_, _, rfl, rfl⟩
  rw [hp, hq] at hs
  have hpq : (p < 5 ∧ q = p + 1) ∨ (p = 5 ∧ q = 0) := by omega
  clear hp hq
  rcases hpq with ⟨h1, rfl⟩ | ⟨rfl, rfl⟩
  · have : p = 0 ∨ p = 1 ∨ p = 2 ∨ p = 3 ∨ p = 4 := by omega
    rcases this with rfl | rfl | rfl | rfl | rfl <;> omega
  · omega
end Go.Proofs.Qxb6602939a.Rt
