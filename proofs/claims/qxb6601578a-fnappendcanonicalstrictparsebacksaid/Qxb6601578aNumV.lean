import Derived.Test.Qxb6601578aNumW
namespace Go.Proofs.Qxb6601578a
open Go.RowKit
set_option linter.unusedSimpArgs false
set_option linter.unusedVariables false

set_option maxHeartbeats 4000000 in
set_option maxRecDepth 100000 in
theorem number_core (T : List UInt8) (p b off cap : Nat) (r : Int) (w : World) (hT : T.length ≤ 9223372036854775000) (hp : p ≤ T.length) (hcell : TextAt w b off T) (hr : Hid (r = posN T p)) :
    Calls Try.prog 23 #[.slice (some ⟨b, off, none⟩) T.length cap, .int .i64 p] w fun e w' => e = .returned (.int .i64 r) ∧ w' = w := by
  have HC := hideN hcell
  have HD : Hid (∀ q, q ≤ T.length → Calls Try.prog 24 #[.slice (some ⟨b, off, none⟩) T.length cap, .int .i64 (q : Int)] w fun e w' => ∃ r : Nat, r = q + Js.digs (T.drop q) ∧ e = .returned (.int .i64 (r : Int)) ∧ w' = w) := fun q hq => digitsEnd T q b off cap w hT hq hcell
  clear hcell
  obtain ⟨g, hg⟩ : ∃ g, g = Js.negLen (T.drop p) := ⟨_, rfl⟩
  have hr' : Hid (r = posI T (p + g)) := by rw [hg]; exact hr.out
  have hg1 : Hid (g = Js.negLen (T.drop p)) := hg
  have hg01 : g = 0 ∨ g = 1 := by
    rw [hg]
    by_cases h1 : p < T.length
    · rw [neg_at T p h1]; split <;> simp
    · rw [neg_end T p h1]; simp
  have hq : p + g ≤ T.length := by
    rw [hg]
    have := Js.negLen_le (T.drop p)
    rw [List.length_drop] at this; omega
  clear hr hg
  go_enter Try.func23, Try.ntmps23
  go_upto_region 1 with fail
  go_cut [17] (fun c wx => c = .bool (decide (g = 1)) ∧ wx = w)
  case first =>
    by_cases h1 : p < T.length
    · have c0 := HC.out p h1
      have hs := hideN (neg_at T p h1)
      obtain ⟨c, hc⟩ : ∃ c : Int, c = ((T[p]).toNat : Int) := ⟨_, rfl⟩
      rw [← hc] at c0 hs
      clear hc
      by_cases h2 : c = 45
      · go_wp2
        go_meet
        case rel => exact ⟨by rw [hg1.out, hs.out, if_pos h2]; rfl, rfl⟩
      · have b2 : (c == 45) = false := beq_eq_false_iff_ne.2 h2
        go_wp2
        go_meet
        case rel => exact ⟨by rw [hg1.out, hs.out, if_neg h2]; rfl, rfl⟩
    · have hs := hideN (neg_end T p h1)
      go_wp2
      go_meet
      case rel => exact ⟨by rw [hg1.out, hs.out]; rfl, rfl⟩
  case rest =>
  obtain ⟨rfl, rfl⟩ := hcut
  go_upto_if 17 with fail
  go_cut [1] (fun i wx => i = .int .i64 ((p + g : Nat) : Int) ∧ wx = wc)
  case first =>
    rcases hg01 with rfl | rfl
    · go_wp2
      go_meet
      case rel => exact ⟨by go_num, rfl⟩
    · go_wp2
      go_meet
      case rel => exact ⟨by go_num, rfl⟩
  case rest =>
  obtain ⟨rfl, rfl⟩ := hcut
  clear hg1 hg01
  generalize p + g = q at *
  by_cases h1 : q < T.length
  · have c0 := HC.out q h1
    have hs := hideN (posI_at T q h1)
    obtain ⟨c, hc⟩ : ∃ c : Int, c = ((T[q]).toNat : Int) := ⟨_, rfl⟩
    rw [← hc] at c0 hs
    clear hc
    go_upto_if 28 with fail
    go_cut [1] (fun i wx => ∃ m : Nat, m ≤ T.length ∧ i = .int .i64 (m : Int) ∧ Hid (r = posF T m) ∧ wx = wc)
    case first =>
      by_cases h2 : c = 48
      · go_wp2
        go_meet
        case rel => exact ⟨q + 1, by omega, by go_num, by rw [← if_pos (t := posF T (q + 1)) h2]; exact hr'.out.trans hs.out, rfl⟩
      · have b2 : (c == 48) = false := beq_eq_false_iff_ne.2 h2
        by_cases h3 : 49 ≤ c ∧ c ≤ 57
        · have h4 := h3.1
          have h5 := h3.2
          go_wp2_with fail
          refine (HD.out q (by omega)).mono ?_
          rintro e w2 ⟨m, hm, rfl, rfl⟩
          have hm2 : m ≤ T.length := by
            have := Js.digs_le (T.drop q)
            rw [List.length_drop] at this; omega
          have HM := hideN hm
          clear hm
          go_wp2
          go_meet
          case rel => exact ⟨m, hm2, rfl, by have := hr'.out.trans hs.out; rw [if_neg h2, if_pos h3, ← HM.out] at this; exact this, rfl⟩
        · have h6 : Hid (r = -1) := by have := hr'.out.trans hs.out; rw [if_neg h2, if_neg h3] at this; exact this
          by_cases h4 : 49 ≤ c
          · have h5 : 57 < c := by omega
            go_wp2
            go_ret
            exact ⟨by rw [h6.out]; rfl, rfl⟩
          · go_wp2
            go_ret
            exact ⟨by rw [h6.out]; rfl, rfl⟩
    case rest =>
    obtain ⟨m, hm, rfl, HF, rfl⟩ := hcut
    clear c0 hs hr' h1 hq hp
    go_upto_region 10 with fail
    go_cut [56] (fun d wx => ((d = .bool true ∧ m < T.length ∧ Hid (r = if Js.digs (T.drop (m + 1)) = 0 then -1 else posE T (m + 1 + Js.digs (T.drop (m + 1))))) ∨ (d = .bool false ∧ Hid (r = posE T m))) ∧ wx = wc)
    case first =>
      by_cases h1 : m < T.length
      · have c0 := HC.out m h1
        have hs := hideN (HF.out.trans (posF_at T m h1))
        obtain ⟨x, hc⟩ : ∃ x : Int, x = ((T[m]).toNat : Int) := ⟨_, rfl⟩
        rw [← hc] at c0 hs
        clear hc
        by_cases h2 : x = 46
        · go_wp2
          go_meet
          case rel => exact ⟨.inl ⟨rfl, h1, by have := hs.out; rw [if_pos h2] at this; exact this⟩, rfl⟩
        · have b2 : (x == 46) = false := beq_eq_false_iff_ne.2 h2
          go_wp2
          go_meet
          case rel => exact ⟨.inr ⟨rfl, by have := hs.out; rw [if_neg h2] at this; exact this⟩, rfl⟩
      · have hs := hideN (HF.out.trans (posF_end T m h1))
        go_wp2
        go_meet
        case rel => exact ⟨.inr ⟨rfl, hs⟩, rfl⟩
    case rest =>
    obtain ⟨hcutA, rfl⟩ := hcut
    clear HF
    go_upto_if 56 with fail
    go_cut [1, 5] (fun i _ wx => ∃ m : Nat, m ≤ T.length ∧ i = .int .i64 (m : Int) ∧ Hid (r = posE T m) ∧ wx = wc)
    case first =>
      rcases hcutA with ⟨rfl, h1, hs⟩ | ⟨rfl, hs⟩
      · go_wp2_with fail
        refine (HD.out (m + 1) (by omega)).mono ?_
        rintro e w2 ⟨j, hj, rfl, rfl⟩
        have hj2 : j ≤ T.length := by
          have := Js.digs_le (T.drop (m + 1))
          rw [List.length_drop] at this; omega
        by_cases h3 : j = m + 1
        · have h6 : Hid (r = -1) := by have := hs.out; rw [if_pos (by omega)] at this; exact this
          have b3 : ((j : Int) == (m : Int) + 1) = true := beq_iff_eq.2 (by omega)
          clear hs hj
          go_wp2
          go_ret
          exact ⟨by rw [h6.out]; rfl, rfl⟩
        · have h6 : Hid (r = posE T j) := by have := hs.out; rw [if_neg (by omega), ← hj] at this; exact this
          have b3 : ((j : Int) == (m : Int) + 1) = false := beq_eq_false_iff_ne.2 (by omega)
          clear hs hj
          go_wp2
          go_meet
          case rel => exact ⟨j, hj2, rfl, h6, rfl⟩
      · go_wp2
        go_meet
        case rel => exact ⟨m, hm, rfl, hs, rfl⟩
    case rest =>
    obtain ⟨m2, hm2, rfl, HE, rfl⟩ := hcut
    clear hcutA hm
    go_upto_region 15 with fail
    go_cut [83] (fun d wx => ((d = .bool true ∧ m2 < T.length ∧ Hid (r = if Js.digs (T.drop (m2 + 1 + Js.sgnLen (T.drop (m2 + 1)))) = 0 then -1 else ((m2 + 1 + Js.sgnLen (T.drop (m2 + 1)) + Js.digs (T.drop (m2 + 1 + Js.sgnLen (T.drop (m2 + 1)))) : Nat) : Int))) ∨ (d = .bool false ∧ Hid (r = (m2 : Int)))) ∧ wx = wc)
    case first =>
      by_cases h1 : m2 < T.length
      · have c0 := HC.out m2 h1
        have hs := hideN (HE.out.trans (posE_at T m2 h1))
        obtain ⟨x, hc⟩ : ∃ x : Int, x = ((T[m2]).toNat : Int) := ⟨_, rfl⟩
        rw [← hc] at c0 hs
        clear hc
        by_cases h2 : x = 101
        · go_wp2
          go_meet
          case rel => exact ⟨.inl ⟨rfl, h1, by have := hs.out; rw [if_pos (.inl h2)] at this; exact this⟩, rfl⟩
        · have b2 : (x == 101) = false := beq_eq_false_iff_ne.2 h2
          by_cases h3 : x = 69
          · go_wp2
            go_meet
            case rel => exact ⟨.inl ⟨rfl, h1, by have := hs.out; rw [if_pos (.inr h3)] at this; exact this⟩, rfl⟩
          · have b3 : (x == 69) = false := beq_eq_false_iff_ne.2 h3
            go_wp2
            go_meet
            case rel => exact ⟨.inr ⟨rfl, by have := hs.out; rw [if_neg (fun h => h.elim h2 h3)] at this; exact this⟩, rfl⟩
      · have hs := hideN (HE.out.trans (posE_end T m2 h1))
        go_wp2
        go_meet
        case rel => exact ⟨.inr ⟨rfl, hs⟩, rfl⟩
    case rest =>
    obtain ⟨hcutA, rfl⟩ := hcut
    clear HE
    rcases hcutA with ⟨rfl, h1, hs⟩ | ⟨rfl, hs⟩
    · obtain ⟨g, hg⟩ : ∃ g, g = Js.sgnLen (T.drop (m2 + 1)) := ⟨_, rfl⟩
      have hg01 : g = 0 ∨ g = 1 := by
        rw [hg]
        by_cases h1 : m2 + 1 < T.length
        · rw [sgn_at T (m2 + 1) h1]; split <;> simp
        · rw [sgn_end T (m2 + 1) h1]; simp
      have hq : m2 + 1 + g ≤ T.length := by
        rw [hg]
        have := Js.sgnLen_le (T.drop (m2 + 1))
        rw [List.length_drop] at this; omega
      rw [← hg] at hs
      have hg1 := hideN hg
      clear hg
      go_upto_region 17 with fail
      go_cut [103] (fun d wx => d = .bool (decide (g = 1)) ∧ wx = wc)
      case first =>
        by_cases h2 : m2 + 1 < T.length
        · have c0 := HC.out (m2 + 1) h2
          have hs := hideN (sgn_at T (m2 + 1) h2)
          have h2' : (m2 : Int) + 1 < (T.length : Int) := by omega
          obtain ⟨x, hc⟩ : ∃ x : Int, x = ((T[m2 + 1]).toNat : Int) := ⟨_, rfl⟩
          rw [← hc] at c0 hs
          clear hc
          by_cases h3 : x = 43
          · go_wp2
            go_meet
            case rel => exact ⟨by rw [hg1.out, hs.out, if_pos (.inl h3)]; rfl, rfl⟩
          · have b3 : (x == 43) = false := beq_eq_false_iff_ne.2 h3
            by_cases h4 : x = 45
            · go_wp2
              go_meet
              case rel => exact ⟨by rw [hg1.out, hs.out, if_pos (.inr h4)]; rfl, rfl⟩
            · have b4 : (x == 45) = false := beq_eq_false_iff_ne.2 h4
              go_wp2
              go_meet
              case rel => exact ⟨by rw [hg1.out, hs.out, if_neg (fun h => h.elim h3 h4)]; rfl, rfl⟩
        · have hs := hideN (sgn_end T (m2 + 1) h2)
          have h2' : decide ((m2 : Int) + 1 < (T.length : Int)) = false := decide_eq_false (by omega)
          go_wp2
          go_meet
          case rel => exact ⟨by rw [hg1.out, hs.out]; rfl, rfl⟩
      case rest =>
      obtain ⟨rfl, rfl⟩ := hcut
      go_upto_if 103 with fail
      go_cut [1] (fun i wx => i = .int .i64 ((m2 + 1 + g : Nat) : Int) ∧ wx = wc)
      case first =>
        rcases hg01 with rfl | rfl
        · go_wp2
          go_meet
          case rel => exact ⟨by go_num, rfl⟩
        · go_wp2
          go_meet
          case rel => exact ⟨by go_num, rfl⟩
      case rest =>
      obtain ⟨rfl, rfl⟩ := hcut
      clear hg1 hg01
      generalize m2 + 1 + g = n at *
      go_wp2_with fail
      refine (HD.out n (by omega)).mono ?_
      rintro e w2 ⟨j, hj, rfl, rfl⟩
      by_cases h3 : j = n
      · have h6 : Hid (r = -1) := by have := hs.out; rw [if_pos (by omega)] at this; exact this
        have b3 : ((j : Int) == (n : Int)) = true := beq_iff_eq.2 (by omega)
        clear hs hj
        go_wp2
        go_ret
        exact ⟨by rw [h6.out]; rfl, rfl⟩
      · have h6 : Hid (r = (j : Int)) := by have := hs.out; rw [if_neg (by omega), ← hj] at this; exact this
        have b3 : ((j : Int) == (n : Int)) = false := beq_eq_false_iff_ne.2 (by omega)
        clear hs hj
        go_wp2
        go_ret
        exact ⟨by rw [h6.out]; rfl, rfl⟩
    · go_wp2
      go_ret
      exact ⟨by rw [hs.out]; rfl, rfl⟩
  · have h6 : Hid (r = -1) := hr'.out.trans (posI_end T q h1)
    go_wp2
    go_ret
    exact ⟨by rw [h6.out]; rfl, rfl⟩
end Go.Proofs.Qxb6601578a
