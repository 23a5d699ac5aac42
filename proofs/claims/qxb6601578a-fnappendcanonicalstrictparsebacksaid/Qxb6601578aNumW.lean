import Derived.Test.Qxb6601578aNum
import Derived.Test.Qxb6601578aWalkB
import Derived.WalkKit
import Derived.Deep.DeepCutAuto
namespace Go.Proofs.Qxb6601578a
open Go.RowKit
set_option linter.unusedSimpArgs false
set_option linter.unusedVariables false

theorem hideN {p : Prop} (h : p) : Hid p := h

/-- The text T lies in block b from off on. -/
def TextAt (w : World) (b off : Nat) (T : List UInt8) : Prop := ∀ j, (h : j < T.length) → w.cell? ⟨b, off + j, none⟩ = some (.int .u8 (T[j]).toNat)

theorem u8_le {a b : UInt8} : a ≤ b ↔ (a.toNat : Int) ≤ (b.toNat : Int) := by
  rw [UInt8.le_iff_toNat_le]; omega

theorem digs_step (T : List UInt8) (n : Nat) (h : n < T.length) : Js.digs (T.drop n) = if 48 ≤ ((T[n]).toNat : Int) ∧ ((T[n]).toNat : Int) ≤ 57 then Js.digs (T.drop (n + 1)) + 1 else 0 := by
  rw [List.drop_eq_getElem_cons h]
  simp only [Js.digs, u8_le]
  rfl

theorem digits_core (T : List UInt8) (p b off cap r : Nat) (w : World) (hT : T.length ≤ 9223372036854775000) (hp : p ≤ T.length) (hcell : TextAt w b off T) (hr : Hid (r = p + Js.digs (T.drop p))) :
    Calls Try.prog 24 #[.slice (some ⟨b, off, none⟩) T.length cap, .int .i64 p] w fun e w' => e = .returned (.int .i64 (r : Int)) ∧ w' = w := by
  have HC := hideN hcell
  clear hcell
  go_enter Try.func24, Try.ntmps24
  go_wp2
  go_loopw [1] (fun i wr => ∃ n : Nat, n ≤ T.length ∧ i = .int .i64 n ∧ Hid (n + Js.digs (T.drop n) = r) ∧ wr = w) (fun i _ => T.length - (intOf i).toNat)
  case atStart => exact ⟨p, hp, rfl, hr.out.symm, rfl⟩
  case round =>
    obtain ⟨n, hn, rfl, HN, rfl⟩ := hrel
    clear hr
    by_cases hlt : n < T.length
    · have c0 := HC.out n hlt
      have hs := digs_step T n hlt
      obtain ⟨c, hc⟩ : ∃ c : Int, c = ((T[n]).toNat : Int) := ⟨_, rfl⟩
      rw [← hc] at c0 hs
      have hlt' : (n : Int) < (T.length : Int) := by omega
      have HS := hideN hs
      clear hs hc
      by_cases h1 : 48 ≤ c
      · by_cases h2 : c ≤ 57
        · go_wp2
          go_roundw
          case rel => exact ⟨n + 1, by omega, by go_num, by have := HS.out; rw [if_pos ⟨h1, h2⟩] at this; have h3 := HN.out; show _ = _; omega, trivial⟩
          case measure => simp [intOf]; omega
        · have h3 : Hid (n = r) := by show n = r; have := HS.out; rw [if_neg (fun h => absurd h.2 (by omega))] at this; have h3 := HN.out; omega
          go_wp2
          go_ret
          exact ⟨by rw [← h3.out]; rfl, rfl⟩
      · have h3 : Hid (n = r) := by show n = r; have := HS.out; rw [if_neg (fun h => absurd h.1 (by omega))] at this; have h3 := HN.out; omega
        go_wp2
        go_ret
        exact ⟨by rw [← h3.out]; rfl, rfl⟩
    · have hnl : n = T.length := by omega
      have hlt' : decide ((n : Int) < (T.length : Int)) = false := decide_eq_false (by omega)
      have h3 : Hid (n = r) := by show n = r; have h3 := HN.out; rw [hnl, List.drop_length] at h3; simp only [Js.digs] at h3; omega
      go_wp2
      go_ret
      exact ⟨by rw [← h3.out]; rfl, rfl⟩

theorem digitsEnd (T : List UInt8) (p b off cap : Nat) (w : World) (hT : T.length ≤ 9223372036854775000) (hp : p ≤ T.length) (hcell : TextAt w b off T) :
    Calls Try.prog 24 #[.slice (some ⟨b, off, none⟩) T.length cap, .int .i64 p] w fun e w' => ∃ r : Nat, r = p + Js.digs (T.drop p) ∧ e = .returned (.int .i64 (r : Int)) ∧ w' = w :=
  (digits_core T p b off cap _ w hT hp hcell rfl).mono fun e w' h => ⟨_, rfl, h⟩

/-- Where the number's parts end, told by places of the text; -1 where there is none. -/
def posE (T : List UInt8) (s : Nat) : Int := match Js.expLen (T.drop s) with | none => -1 | some e => ((s + e : Nat) : Int)
def posF (T : List UInt8) (r : Nat) : Int := match Js.fracLen (T.drop r) with | none => -1 | some f => posE T (r + f)
def posI (T : List UInt8) (q : Nat) : Int := match Js.intLen (T.drop q) with | none => -1 | some b => posF T (q + b)
def posN (T : List UInt8) (p : Nat) : Int := posI T (p + Js.negLen (T.drop p))

theorem posN_eq (T : List UInt8) (p : Nat) : posN T p = (match Js.numLen (T.drop p) with | none => -1 | some k => ((p + k : Nat) : Int)) := by
  unfold posN posI posF posE Js.numLen
  simp only [List.drop_drop]
  cases Js.intLen (T.drop (p + Js.negLen (T.drop p))) with
  | none => rfl
  | some b =>
    simp only [Nat.add_assoc]
    cases Js.fracLen (T.drop (p + (Js.negLen (T.drop p) + b))) with
    | none => rfl
    | some f =>
      simp only [Nat.add_assoc]
      cases Js.expLen (T.drop (p + (Js.negLen (T.drop p) + (b + f)))) with
      | none => rfl
      | some e => simp only [Nat.add_assoc]

theorem eq_u8 {a : UInt8} {n : Nat} (hn : n < 256) : a = UInt8.ofNat n ↔ (a.toNat : Int) = (n : Int) := by
  constructor
  · rintro rfl; simp; omega
  · intro h; apply UInt8.toNat_inj.1; simp; omega

theorem neg_at (T : List UInt8) (p : Nat) (h : p < T.length) : Js.negLen (T.drop p) = if ((T[p]).toNat : Int) = 45 then 1 else 0 := by
  rw [List.drop_eq_getElem_cons h]
  simp only [Js.negLen, show (45 : UInt8) = UInt8.ofNat 45 from rfl, eq_u8 (n := 45) (by decide)]
  rfl
theorem neg_end (T : List UInt8) (p : Nat) (h : ¬ p < T.length) : Js.negLen (T.drop p) = 0 := by
  rw [List.drop_eq_nil_of_le (by omega)]; rfl
theorem sgn_at (T : List UInt8) (p : Nat) (h : p < T.length) : Js.sgnLen (T.drop p) = if ((T[p]).toNat : Int) = 43 ∨ ((T[p]).toNat : Int) = 45 then 1 else 0 := by
  rw [List.drop_eq_getElem_cons h]
  simp only [Js.sgnLen, show (45 : UInt8) = UInt8.ofNat 45 from rfl, show (43 : UInt8) = UInt8.ofNat 43 from rfl, eq_u8 (n := 45) (by decide), eq_u8 (n := 43) (by decide)]
  rfl
theorem sgn_end (T : List UInt8) (p : Nat) (h : ¬ p < T.length) : Js.sgnLen (T.drop p) = 0 := by
  rw [List.drop_eq_nil_of_le (by omega)]; rfl
theorem posI_at (T : List UInt8) (q : Nat) (h : q < T.length) : posI T q = if ((T[q]).toNat : Int) = 48 then posF T (q + 1) else if 49 ≤ ((T[q]).toNat : Int) ∧ ((T[q]).toNat : Int) ≤ 57 then posF T (q + Js.digs (T.drop q)) else -1 := by
  unfold posI
  have e : T.drop q = T[q] :: T.drop (q + 1) := List.drop_eq_getElem_cons h
  have e2 : Js.intLen (T.drop q) = if ((T[q]).toNat : Int) = 48 then some 1 else if 49 ≤ ((T[q]).toNat : Int) ∧ ((T[q]).toNat : Int) ≤ 57 then some (Js.digs (T.drop q)) else none := by
    rw [e]
    simp only [Js.intLen, show (48 : UInt8) = UInt8.ofNat 48 from rfl, eq_u8 (n := 48) (by decide), u8_le]
    rfl
  rw [e2]
  repeat' split
  all_goals simp_all
theorem posI_end (T : List UInt8) (q : Nat) (h : ¬ q < T.length) : posI T q = -1 := by
  unfold posI; rw [List.drop_eq_nil_of_le (by omega)]; rfl
theorem posF_at (T : List UInt8) (r : Nat) (h : r < T.length) : posF T r = if ((T[r]).toNat : Int) = 46 then (if Js.digs (T.drop (r + 1)) = 0 then -1 else posE T (r + 1 + Js.digs (T.drop (r + 1)))) else posE T r := by
  unfold posF
  rw [List.drop_eq_getElem_cons h]
  simp only [Js.fracLen, show (46 : UInt8) = UInt8.ofNat 46 from rfl, eq_u8 (n := 46) (by decide)]
  by_cases h1 : ((T[r]).toNat : Int) = ((46 : Nat) : Int)
  · rw [if_pos h1, if_pos (show ((T[r]).toNat : Int) = 46 from h1)]
    by_cases h2 : Js.digs (T.drop (r + 1)) = 0
    · rw [if_pos h2, if_pos h2]
    · rw [if_neg h2, if_neg h2]
      show posE T (r + (Js.digs (T.drop (r + 1)) + 1)) = _
      congr 1; omega
  · rw [if_neg h1, if_neg (show ¬ ((T[r]).toNat : Int) = 46 from h1)]; rfl
theorem posF_end (T : List UInt8) (r : Nat) (h : ¬ r < T.length) : posF T r = posE T r := by
  unfold posF; rw [List.drop_eq_nil_of_le (by omega)]; rfl
theorem posE_at (T : List UInt8) (s : Nat) (h : s < T.length) : posE T s = if ((T[s]).toNat : Int) = 101 ∨ ((T[s]).toNat : Int) = 69 then
    (if Js.digs (T.drop (s + 1 + Js.sgnLen (T.drop (s + 1)))) = 0 then -1 else ((s + 1 + Js.sgnLen (T.drop (s + 1)) + Js.digs (T.drop (s + 1 + Js.sgnLen (T.drop (s + 1)))) : Nat) : Int)) else (s : Int) := by
  unfold posE
  rw [List.drop_eq_getElem_cons h]
  simp only [Js.expLen, show (101 : UInt8) = UInt8.ofNat 101 from rfl, show (69 : UInt8) = UInt8.ofNat 69 from rfl, eq_u8 (n := 101) (by decide), eq_u8 (n := 69) (by decide), List.drop_drop]
  by_cases h1 : ((T[s]).toNat : Int) = ((101 : Nat) : Int) ∨ ((T[s]).toNat : Int) = ((69 : Nat) : Int)
  · rw [if_pos h1, if_pos (show ((T[s]).toNat : Int) = 101 ∨ ((T[s]).toNat : Int) = 69 from h1)]
    by_cases h2 : Js.digs (T.drop (s + 1 + Js.sgnLen (T.drop (s + 1)))) = 0
    · rw [if_pos h2, if_pos h2]
    · rw [if_neg h2, if_neg h2]
      show ((s + (1 + Js.sgnLen (T.drop (s + 1)) + Js.digs (T.drop (s + 1 + Js.sgnLen (T.drop (s + 1))))) : Nat) : Int) = _
      congr 1; omega
  · rw [if_neg h1, if_neg (show ¬ (((T[s]).toNat : Int) = 101 ∨ ((T[s]).toNat : Int) = 69) from h1)]; rfl
theorem posE_end (T : List UInt8) (s : Nat) (h : ¬ s < T.length) : posE T s = (s : Int) := by
  unfold posE; rw [List.drop_eq_nil_of_le (by omega)]; rfl
end Go.Proofs.Qxb6601578a
