import Derived.Test.Qxb6602939aProg
import Derived.Test.Qxb6602939aPlain
import Derived.WalkKit
namespace Go.Proofs.Qxb6602939a
open Go.RowKit
set_option linter.unusedSimpArgs false
set_option linter.unusedVariables false

theorem hide {p : Prop} (h : p) : Hid p := h

theorem ret_int {k : IntKind} {a b : Int} (h : a = b) : Ending.returned (.int k a) = .returned (.int k b) := by rw [h]

theorem round_sum (c : UInt8) (S y : Int) (h1 : 0 ≤ S) (h2 : S ≤ 1871708160) (h3 : 2 ≤ y) (h4 : y ≤ 7) : wrap64 (S + wrap64 (((c.toNat : Int) - 48) % 256 * y)) = S + ((Rt.vl c : Nat) : Int) * y := by
  have hv := Rt.vl_int c
  have hl := Rt.vl_lt c
  rw [← hv]
  have hp : 0 ≤ ((Rt.vl c : Nat) : Int) * y ∧ ((Rt.vl c : Nat) : Int) * y ≤ 1785 := by
    constructor
    · exact Int.mul_nonneg (by omega) (by omega)
    · exact Int.le_trans (Int.mul_le_mul (show ((Rt.vl c : Nat) : Int) ≤ 255 by omega) h4 (by omega) (by omega)) (by decide)
  generalize ((Rt.vl c : Nat) : Int) * y = p at *
  rw [IntWalk.wrap64_in p ⟨by omega, by omega⟩, IntWalk.wrap64_in (S + p) ⟨by omega, by omega⟩]

set_option maxHeartbeats 400000 in
theorem checkChar (s : ByteArray) (w : World) (hs : s.size ≤ 1048576) :
    Calls Try.prog 12 #[.string s] w fun e w' => e = .returned (.int .u8 (Rt.chr (Rt.chk (Rt.total s.data.toList)) : Nat)) ∧ w' = w := by
  go_enter Try.func12, Try.ntmps12
  go_wp2
  go_loop [3, 4, 5] (fun t u i => ∃ (q : Nat) (S y z : Int), q ≤ s.size ∧ t = .int .i64 S ∧ u = .int .i64 y ∧ i = .int .i64 z ∧ Hid (z = (q : Int) - 1) ∧ 0 ≤ S ∧ S ≤ 1785 * (s.size : Int) ∧ 2 ≤ y ∧ y ≤ 7 ∧
      Hid (y = ((2 + (s.size - q) % 6 : Nat) : Int)) ∧ Hid (S = (Rt.sumTo (fun j => Rt.term s.data.toList (s.size - 1 - j)) (s.size - q) : Nat))) (fun _ _ i => (intOf i + 1).toNat)
  case atStart => exact ⟨s.size, 0, 2, _, Nat.le_refl _, rfl, rfl, rfl, rfl, by omega, by omega, by omega, by omega, by show _ = _; simp, by show _ = _; simp [Rt.sumTo]⟩
  case round =>
    obtain ⟨q, S, y, z, hq, rfl, rfl, rfl, HZ, h1, h2, h3, h4, HY, HS⟩ := hrel
    cases q with
    | zero =>
      obtain rfl : z = -1 := by have := HZ.out; omega
      clear HZ
      have hS : S = (Rt.total s.data.toList : Nat) := by rw [← Rt.right_total s.data.toList s.size (by simp)]; exact HS.out
      have HT := hide hS
      clear hS HS HY
      go_wp2
      go_ret
      refine ⟨?_, rfl⟩
      have e := HT.out
      refine ret_int ?_
      rw [Rt.tab_at (Rt.total s.data.toList) _ (by rw [e]; exact Rt.chk_int _)]
    | succ k =>
      obtain rfl : z = (k : Int) := by have := HZ.out; omega
      clear HZ
      have hk : k < s.size := by omega
      have hr := Rt.right_step s.data.toList s.size k (by simp) hk
      have hg : s.data.toList.getD k 0 = s[k] := by simp [hk]; rfl
      rw [hg] at hr
      have hle := Rt.right_le s.data.toList s.size (s.size - k)
      rw [hr] at hle
      have H1 := round_sum s[k] S y h1 (by omega) h3 h4
      have HSn : S + ((Rt.vl s[k] : Nat) : Int) * y = ((Rt.sumTo (fun j => Rt.term s.data.toList (s.size - 1 - j)) (s.size - k) : Nat) : Int) := by
        rw [hr, HS.out, HY.out]; simp
      have HR := hide hr
      have HSN := hide HSn
      have HLE := hide hle
      have HW := hide H1
      clear hr hg hle H1 HSn
      by_cases hy : y < 7
      · go_wp2
        go_round
        case rel => exact ⟨k, _, _, _, by omega, rfl, rfl, rfl, rfl, (by rw [HW.out, HSN.out]; omega), (by rw [HW.out, HSN.out, HR.out]; have := HLE.out; omega), by omega, by omega, (by have := HY.out; show _ = _; omega), (by rw [HW.out, HSN.out]; rfl)⟩
        case measure => simp [intOf]
      · go_wp2
        go_round
        case rel => exact ⟨k, _, _, _, by omega, rfl, rfl, rfl, rfl, (by rw [HW.out, HSN.out]; omega), (by rw [HW.out, HSN.out, HR.out]; have := HLE.out; omega), by omega, by omega, (by have := HY.out; show _ = _; omega), (by rw [HW.out, HSN.out]; rfl)⟩
        case measure => simp [intOf]

theorem left_step (l : List UInt8) (n k : Nat) (hl : l.length = n) (hk : k < n) (v S : Int) (hv : v = ((Rt.vl (l.getD k 0) : Nat) : Int)) (hS : S = ((Rt.sumTo (Rt.term l) k % 11 : Nat) : Int)) :
    (wrap64 (S + wrap64 (v * (2 + ((n : Int) - 1 - (k : Int)) % 6)))).tmod 11 = ((Rt.sumTo (Rt.term l) (k + 1) % 11 : Nat) : Int) := by
  have ht := Rt.term_le l k
  have e : v * (2 + ((n : Int) - 1 - (k : Int)) % 6) = ((Rt.term l k : Nat) : Int) := by
    rw [hv]; unfold Rt.term; rw [hl, show ((n : Int) - 1 - (k : Int)) % 6 = (((n - 1 - k) % 6 : Nat) : Int) from by omega]
    simp
  rw [e, Rt.sumTo, hS]
  generalize Rt.term l k = t at *
  generalize Rt.sumTo (Rt.term l) k = A
  rw [IntWalk.wrap64_in (t : Int) ⟨by omega, by omega⟩, IntWalk.wrap64_in _ ⟨by omega, by omega⟩, Int.tmod_eq_emod_of_nonneg (by omega)]
  omega

set_option maxHeartbeats 400000 in
theorem modelChar (s : ByteArray) (w : World) (hs : s.size ≤ 1048576) :
    Calls Try.prog 8 #[.string s] w fun e w' => e = .returned (.int .u8 (Rt.chr (Rt.chk (Rt.total s.data.toList)) : Nat)) ∧ w' = w := by
  go_enter Try.func8, Try.ntmps8
  go_wp2
  go_loop [4, 5] (fun t i => ∃ (k : Nat) (S : Int), k ≤ s.size ∧ t = .int .i64 S ∧ i = .int .i64 k ∧ 0 ≤ S ∧ S ≤ 10 ∧ Hid (S = (Rt.sumTo (Rt.term s.data.toList) k % 11 : Nat))) (fun _ i => s.size - (intOf i).toNat)
  case atStart => exact ⟨0, 0, Nat.zero_le _, rfl, rfl, by omega, by omega, rfl⟩
  case round =>
    obtain ⟨k, S, hk, rfl, rfl, h1, h2, HS⟩ := hrel
    by_cases hlt : k < s.size
    · have hu : (s[k].toNat : Int) ≤ 255 := by have := s[k].toNat_lt; omega
      have hg : s.data.toList.getD k 0 = s[k] := by simp [hlt]; rfl
      have HL := hide (fun v (hv : v = ((Rt.vl s[k] : Nat) : Int)) => left_step s.data.toList s.size k (by simp) hlt v S (by rw [hg]; exact hv) HS.out)
      clear hg
      by_cases hc : (s[k].toNat : Int) < 48
      · go_wp2
        go_round
        case rel => exact ⟨k + 1, _, by omega, rfl, by go_num, (by rw [HL.out _ (by rw [Rt.vl_int]; omega)]; omega), (by rw [HL.out _ (by rw [Rt.vl_int]; omega)]; omega), (by rw [HL.out _ (by rw [Rt.vl_int]; omega)]; rfl)⟩
        case measure => simp [intOf]; omega
      · go_wp2
        go_round
        case rel => exact ⟨k + 1, _, by omega, rfl, by go_num, (by rw [HL.out _ (by rw [Rt.vl_int]; omega)]; omega), (by rw [HL.out _ (by rw [Rt.vl_int]; omega)]; omega), (by rw [HL.out _ (by rw [Rt.vl_int]; omega)]; rfl)⟩
        case measure => simp [intOf]; omega
    · have hS := HS.out
      rw [show k = s.data.toList.length from by simp; omega] at hS
      have HT : Hid (S = ((Rt.total s.data.toList % 11 : Nat) : Int)) := hS
      clear hS HS
      go_wp2
      go_loop [9] (fun t => ∃ v : Nat, t = .int .i64 v ∧ (v : Int) ≤ (11 - S) % 11) (fun t => 11 - (intOf t).toNat)
      case atStart => exact ⟨0, rfl, by omega⟩
      case round =>
        obtain ⟨v, rfl, hv⟩ := hrel
        by_cases hz : (v : Int) = (11 - S) % 11
        · have hz2 : ((S + (v : Int)) % 11 == 0) = true := beq_iff_eq.2 (by omega)
          have HV : Hid (v = Rt.chk (Rt.total s.data.toList)) := by have := HT.out; show _ = _; unfold Rt.chk; omega
          clear hz
          by_cases h10 : (v : Int) = 10
          · have h10b : ((v : Int) == 10) = true := beq_iff_eq.2 h10
            have H10 := hide h10
            clear h10
            go_wp2
            go_ret
            refine ⟨ret_int ?_, rfl⟩
            rw [← HV.out]
            have := H10.out
            unfold Rt.chr
            rw [if_pos (by omega)]
            rfl
          · have h10b : ((v : Int) == 10) = false := beq_eq_false_iff_ne.2 h10
            have H10 := hide h10
            clear h10
            go_wp2
            go_ret
            refine ⟨ret_int ?_, rfl⟩
            rw [← HV.out]
            have := H10.out
            unfold Rt.chr
            rw [if_neg (by omega)]
            simp
        · have hz2 : ((S + (v : Int)) % 11 == 0) = false := beq_eq_false_iff_ne.2 (by omega)
          have hv2 : (v : Int) + 1 ≤ (11 - S) % 11 := by omega
          clear hz
          go_wp2
          go_round
          case rel => exact ⟨v + 1, by go_num, by omega⟩
          case measure => simp [intOf]; omega
end Go.Proofs.Qxb6602939a
