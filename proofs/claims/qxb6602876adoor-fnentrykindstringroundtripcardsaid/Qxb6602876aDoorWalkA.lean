import Derived.Test.Qxb6602876aDoorRows
import Derived.Test.Qxb6602876aDoorPlain
import Derived.Test.Qxb6602876aDoorShelf
import Derived.WalkKit
import Derived.WalkSpells
import Derived.BigQuiet
import Derived.Deep.QuietTactic
namespace Go.Proofs.Qxb6602876aDoor
open Go.RowKit
set_option linter.unusedSimpArgs false
set_option linter.unusedVariables false

theorem hide {p : Prop} (h : p) : Hid p := h

set_option maxHeartbeats 400000 in
theorem hasPrefix (s p : ByteArray) (w : World) (hs : s.size ≤ 1000) (hp : p.size ≤ s.size) (hb : ∀ j, (h : j < p.size) → (h2 : j < s.size) → s[j] = p[j]) :
    Calls Tryd.prog 16 #[.string s, .string p] w fun e w' => e = .returned (.bool true) ∧ ∃ n, w' = w.drewN n := by
  have HB := hide hb
  clear hb
  go_enter Tryd.func16, Tryd.ntmps16
  go_wp2
  go_loopw [5] (fun i wr => ∃ k n : Nat, k ≤ p.size ∧ i = .int .i64 k ∧ wr = w.drewN n) (fun i _ => p.size - (intOf i).toNat)
  case atStart => exact ⟨0, 0, Nat.zero_le _, rfl, rfl⟩
  case round =>
    obtain ⟨k, n, hk, rfl, rfl⟩ := hrel
    by_cases hlt : k < p.size
    · have hl2 : k < s.size := by omega
      have hki : (k : Int) < (p.size : Int) := by omega
      have hki2 : (k : Int) < (s.size : Int) := by omega
      have he : s[k] = p[k] := HB.out k hlt hl2
      have hne : ((s[k].toNat : Int) != (p[k].toNat : Int)) = false := by rw [he]; simp
      clear he
      go_wp2
      go_quiet (fail)
      go_wp2
      go_roundw
      case rel => exact ⟨k + 1, _, by omega, by go_num, rfl⟩
      case measure => simp [intOf]; omega
    · go_wp2
      go_ret
      exact ⟨rfl, n, rfl⟩

set_option maxHeartbeats 1000000 in
/-- A text 'prefix digits )' read: a number that is not negative. -/
theorem parse_pos (s p D : ByteArray) (N : Nat) (w : World) (hN : (N : Int) ≤ 9223372036854775807) (hs : s.size ≤ 1000) (hsz : s.size = p.size + D.size + 1)
    (hpre : ∀ j, (h : j < p.size) → (h2 : j < s.size) → s[j] = p[j]) (hlast : ∀ h : s.size - 1 < s.size, s[s.size - 1] = 41) (hbody : s.extract p.size (s.size - 1) = D) (hD : D.data.toList = Lib.decDigits N) :
    Calls Tryd.prog 14 #[.string s, .string p] w fun e w' => e = .returned (.tuple #[.int .i64 (N : Int), .bool true]) ∧ ∃ n, w' = w.drewN n := by
  obtain ⟨d1, d2, d3, d4⟩ := Rd.digits_all N
  rw [← hD] at d1 d2 d3 d4
  have e0 : D.data.toList.length = D.size := by simp
  have hD1 : 1 ≤ D.size := by
    have : D.data.toList.length ≠ 0 := fun h => d4 (List.eq_nil_of_length_eq_zero h)
    omega
  have hD2 : D.size ≤ 1000 := by omega
  have hp2 : p.size + 2 ≤ s.size := by omega
  have hl : ∀ h : s.size - 1 < s.size, (s[s.size - 1]'h).toNat = 41 := fun h => by rw [hlast h]; rfl
  have g1 : decide ((s.size : Int) < (p.size : Int) + 2) = false := decide_eq_false (by omega)
  have hg0 : ∀ j, (h : j < D.size) → D.data.toList[j]'(by omega) = D[j] := fun j h => rfl
  have h45 : ((D[0].toNat : Int) == 45) = false := by
    have := d2 D[0] (by rw [← hg0 0 hD1]; exact List.getElem_mem _)
    unfold Rd.Dig at this
    exact beq_eq_false_iff_ne.2 (by omega)
  have hz : ((D[0].toNat : Int) == 48) = false ∨ (((D[0].toNat : Int) == 48) = true ∧ decide ((1 : Int) < (D.size : Int)) = false) := by
    by_cases h0 : 1 ≤ N
    · obtain ⟨c, r, hr, hc⟩ := d3 h0
      refine .inl (beq_eq_false_iff_ne.2 ?_)
      have : D[0] = c := by rw [← hg0 0 hD1]; simp [hr]
      rw [this]; exact hc
    · have hN0 : N = 0 := by omega
      rw [hN0, Lib.decDigits_one (by omega)] at hD
      refine .inr ⟨?_, by rw [← e0, hD]; rfl⟩
      have : D[0] = 48 := by rw [← hg0 0 hD1]; simp [hD]
      rw [this]; rfl
  have HP := hide (hasPrefix s p · hs (by omega) hpre)
  have HT : Hid (Rd.dv (D.data.toList.take D.size) = N) := by show _ = _; rw [← e0, List.take_length]; exact d1
  have HR : Hid (∀ k, (hk : k < D.size) → Rd.dv (D.data.toList.take (k + 1)) = Rd.dv (D.data.toList.take k) * 10 + ((D[k].toNat : Int) - 48) ∧ 0 ≤ Rd.dv (D.data.toList.take k) ∧ Rd.dv (D.data.toList.take (k + 1)) ≤ N ∧ 48 ≤ (D[k].toNat : Int) ∧ (D[k].toNat : Int) ≤ 57) := fun k hk => by
    have := Rd.read_step D.data.toList k (by omega) d2
    rw [hg0 k hk, d1] at this
    exact this
  clear d1 d2 d3 d4 hpre hlast hsz hD hg0 e0
  rcases hz with hz | ⟨hz, hz1⟩
  all_goals
    go_enter Tryd.func14, Tryd.ntmps14
    go_wp2_with fail
    refine (HP.out _).mono ?_
    rintro e w1 ⟨rfl, n1, rfl⟩
    go_wp2_with fail
    go_loop [9, 10] (fun t i => ∃ (k : Nat) (x : Int), k ≤ D.size ∧ i = .int .i64 k ∧ t = .int .i64 x ∧ Hid (x = -Rd.dv (D.data.toList.take k))) (fun _ i => D.size - (intOf i).toNat)
    case atStart => exact ⟨0, 0, Nat.zero_le _, rfl, rfl, rfl⟩
    case round =>
      obtain ⟨k, x, hk, rfl, rfl, HX⟩ := hrel
      by_cases hlt : k < D.size
      · obtain ⟨r1, r2, r3, r4, r5⟩ := HR.out k hlt
        have hx := HX.out
        have b1 : -922337203685477580 ≤ x := by omega
        have b2 : x ≤ 0 := by omega
        have b3 : -9223372036854775808 ≤ x * 10 - ((D[k].toNat : Int) - 48) := by omega
        have HN : Hid (x * 10 - ((D[k].toNat : Int) - 48) = -Rd.dv (D.data.toList.take (k + 1))) := by show _ = _; omega
        have c1 : decide ((D[k].toNat : Int) < 48) = false := decide_eq_false (by omega)
        have c2 : decide ((57 : Int) < (D[k].toNat : Int)) = false := decide_eq_false (by omega)
        clear r1 r2 r3 hx HX
        go_wp2
        go_round
        case rel => exact ⟨k + 1, _, by omega, by go_num, rfl, HN⟩
        case measure => simp [intOf]; omega
      · have hks : k = D.size := by omega
        have hx : x = -(N : Int) := by have h1 := HX.out; have h2 := HT.out; rw [hks, h2] at h1; exact h1
        have HXN := hide hx
        have b1 : -9223372036854775807 ≤ x := by omega
        have b2 : x ≤ 0 := by omega
        clear hx hks HX
        go_wp2
        go_ret2
        exact ⟨by rw [show (N : Int) = -x from by have := HXN.out; omega]; rfl, _, rfl⟩

set_option maxHeartbeats 1000000 in
/-- A text 'prefix - digits )' read: a negative number. -/
theorem parse_neg (s p M D : ByteArray) (N : Nat) (w : World) (h1N : 1 ≤ N) (hN : (N : Int) ≤ 9223372036854775808) (hs : s.size ≤ 1000) (hsz : s.size = p.size + M.size + 1) (hM : M.size = D.size + 1)
    (hpre : ∀ j, (h : j < p.size) → (h2 : j < s.size) → s[j] = p[j]) (hlast : ∀ h : s.size - 1 < s.size, s[s.size - 1] = 41) (hbody : s.extract p.size (s.size - 1) = M)
    (hM0 : ∀ h : 0 < M.size, M[0] = 45) (hM1 : M.extract 1 M.size = D) (hD : D.data.toList = Lib.decDigits N) :
    Calls Tryd.prog 14 #[.string s, .string p] w fun e w' => e = .returned (.tuple #[.int .i64 (-(N : Int)), .bool true]) ∧ ∃ n, w' = w.drewN n := by
  obtain ⟨d1, d2, d3, d4⟩ := Rd.digits_all N
  rw [← hD] at d1 d2 d3 d4
  have e0 : D.data.toList.length = D.size := by simp
  have hD1 : 1 ≤ D.size := by
    have : D.data.toList.length ≠ 0 := fun h => d4 (List.eq_nil_of_length_eq_zero h)
    omega
  have hD2 : D.size ≤ 1000 := by omega
  have hp2 : p.size + 2 ≤ s.size := by omega
  have hl : ∀ h : s.size - 1 < s.size, (s[s.size - 1]'h).toNat = 41 := fun h => by rw [hlast h]; rfl
  have g1 : decide ((s.size : Int) < (p.size : Int) + 2) = false := decide_eq_false (by omega)
  have hg0 : ∀ j, (h : j < D.size) → D.data.toList[j]'(by omega) = D[j] := fun j h => rfl
  have hMs : 2 ≤ M.size := by omega
  have hMs2 : M.size ≤ 1000 := by omega
  have hm0 : ∀ h : 0 < M.size, (M[0]'h).toNat = 45 := fun h => by rw [hM0 h]; rfl
  have hz : ((D[0].toNat : Int) == 48) = false := by
    obtain ⟨c, r, hr, hc⟩ := d3 h1N
    refine beq_eq_false_iff_ne.2 ?_
    have : D[0] = c := by rw [← hg0 0 hD1]; simp [hr]
    rw [this]; exact hc
  have HP := hide (hasPrefix s p · hs (by omega) hpre)
  have HT : Hid (Rd.dv (D.data.toList.take D.size) = N) := by show _ = _; rw [← e0, List.take_length]; exact d1
  have HR : Hid (∀ k, (hk : k < D.size) → Rd.dv (D.data.toList.take (k + 1)) = Rd.dv (D.data.toList.take k) * 10 + ((D[k].toNat : Int) - 48) ∧ 0 ≤ Rd.dv (D.data.toList.take k) ∧ Rd.dv (D.data.toList.take (k + 1)) ≤ N ∧ 48 ≤ (D[k].toNat : Int) ∧ (D[k].toNat : Int) ≤ 57) := fun k hk => by
    have := Rd.read_step D.data.toList k (by omega) d2
    rw [hg0 k hk, d1] at this
    exact this
  clear d1 d2 d3 d4 hpre hlast hsz hD hg0 e0 hM hM0
  go_enter Tryd.func14, Tryd.ntmps14
  go_wp2_with fail
  refine (HP.out _).mono ?_
  rintro e w1 ⟨rfl, n1, rfl⟩
  go_wp2_with fail
  go_loop [9, 10] (fun t i => ∃ (k : Nat) (x : Int), k ≤ D.size ∧ i = .int .i64 k ∧ t = .int .i64 x ∧ Hid (x = -Rd.dv (D.data.toList.take k))) (fun _ i => D.size - (intOf i).toNat)
  case atStart => exact ⟨0, 0, Nat.zero_le _, rfl, rfl, rfl⟩
  case round =>
    obtain ⟨k, x, hk, rfl, rfl, HX⟩ := hrel
    by_cases hlt : k < D.size
    · obtain ⟨r1, r2, r3, r4, r5⟩ := HR.out k hlt
      have hx := HX.out
      have b1 : -922337203685477580 ≤ x := by omega
      have b2 : x ≤ 0 := by omega
      have b3 : -9223372036854775808 ≤ x * 10 - ((D[k].toNat : Int) - 48) := by omega
      have HN : Hid (x * 10 - ((D[k].toNat : Int) - 48) = -Rd.dv (D.data.toList.take (k + 1))) := by show _ = _; omega
      have c1 : decide ((D[k].toNat : Int) < 48) = false := decide_eq_false (by omega)
      have c2 : decide ((57 : Int) < (D[k].toNat : Int)) = false := decide_eq_false (by omega)
      clear r1 r2 r3 hx HX
      go_wp2
      go_round
      case rel => exact ⟨k + 1, _, by omega, by go_num, rfl, HN⟩
      case measure => simp [intOf]; omega
    · have hks : k = D.size := by omega
      have hx : x = -(N : Int) := by have h1 := HX.out; have h2 := HT.out; rw [hks, h2] at h1; exact h1
      have HXN := hide hx
      clear hx hks HX
      go_wp2
      go_ret2
      exact ⟨by rw [← HXN.out]; rfl, _, rfl⟩
end Go.Proofs.Qxb6602876aDoor
