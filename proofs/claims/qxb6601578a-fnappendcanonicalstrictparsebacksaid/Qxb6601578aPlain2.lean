/-
  Plain facts on reading a canonical string back; nothing of the program in it.
-/
import Derived.Test.Qxb6601578aPlain
namespace Go.Proofs.Qxb6601578a.Js

theorem drop_cons {T r : List UInt8} {n : Nat} {a : UInt8} (h : T.drop n = a :: r) : ∃ hn : n < T.length, T[n] = a ∧ T.drop (n + 1) = r := by
  have hn : n < T.length := by
    rcases Nat.lt_or_ge n T.length with h1 | h1
    · exact h1
    · rw [List.drop_of_length_le h1] at h; cases h
  refine ⟨hn, ?_, ?_⟩
  · rw [List.drop_eq_getElem_cons hn] at h; exact (List.cons.inj h).1
  · rw [List.drop_eq_getElem_cons hn] at h; exact (List.cons.inj h).2

theorem escs_drop (s : List UInt8) (k : Nat) (h : k < s.length) : escs (s.drop k) = esc s[k] ++ escs (s.drop (k + 1)) := by
  rw [List.drop_eq_getElem_cons h, escs, List.flatMap_cons]; rfl

theorem hexd_lo (d : UInt8) (h : (d.toNat : Int) < 10) : ((hexd d).toNat : Int) = 48 + d.toNat := by
  have h1 : d < 10 := by rw [UInt8.lt_iff_toNat_lt]; show d.toNat < 10; omega
  unfold hexd; rw [if_pos h1, UInt8.toNat_add]; show (((48 + d.toNat) % 256 : Nat) : Int) = _; omega
theorem hexd_hi (d : UInt8) (h : 10 ≤ (d.toNat : Int)) (h2 : (d.toNat : Int) < 16) : ((hexd d).toNat : Int) = 87 + d.toNat := by
  have h1 : ¬ d < 10 := by rw [UInt8.lt_iff_toNat_lt]; show ¬ d.toNat < 10; omega
  unfold hexd; rw [if_neg h1, UInt8.toNat_add]; show (((87 + d.toNat) % 256 : Nat) : Int) = _; omega

theorem nib (c : UInt8) : ((c / 16).toNat : Int) * 16 + ((c % 16).toNat : Int) = (c.toNat : Int) := by
  rw [UInt8.toNat_div, UInt8.toNat_mod]; show ((c.toNat / 16 : Nat) : Int) * 16 + ((c.toNat % 16 : Nat) : Int) = _; omega
theorem nib_lo (c : UInt8) : ((c % 16).toNat : Int) < 16 := by
  rw [UInt8.toNat_mod]; show ((c.toNat % 16 : Nat) : Int) < 16; omega
theorem nib_hi (c : UInt8) (h : (c.toNat : Int) < 32) : ((c / 16).toNat : Int) < 2 := by
  rw [UInt8.toNat_div]; show ((c.toNat / 16 : Nat) : Int) < 2; omega
end Go.Proofs.Qxb6601578a.Js
