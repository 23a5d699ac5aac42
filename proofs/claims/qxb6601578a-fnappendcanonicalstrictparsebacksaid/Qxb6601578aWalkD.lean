import Derived.Test.Qxb6601578aWalkB
import Derived.Test.Qxb6601578aPlain2
import Derived.Laws.CopyOwn
import Derived.WalkSpells
namespace Go.Proofs.Qxb6601578a
open Go.RowKit
set_option linter.unusedSimpArgs false
set_option linter.unusedVariables false

theorem hexDigit (d : UInt8) (w : World) (h : (d.toNat : Int) < 16) :
    Calls Try.prog 19 #[.int .u8 (d.toNat : Int)] w fun e w' => e = .returned (.int .u8 ((Js.hexd d).toNat : Int)) ∧ w' = w := by
  have h0 : (0 : Int) ≤ (d.toNat : Int) := by omega
  by_cases h1 : (d.toNat : Int) < 10
  · have e1 := Js.hexd_lo d h1
    generalize (d.toNat : Int) = x at *
    generalize ((Js.hexd d).toNat : Int) = y at *
    go_enter Try.func19, Try.ntmps19
    go_wp2
    go_ret
    exact ⟨by rw [e1]; rfl, rfl⟩
  · have e1 := Js.hexd_hi d (by omega) h
    generalize (d.toNat : Int) = x at *
    generalize ((Js.hexd d).toNat : Int) = y at *
    go_enter Try.func19, Try.ntmps19
    go_wp2
    go_ret
    refine ⟨?_, rfl⟩
    show Ending.returned (.int .u8 (97 + x - 10)) = Ending.returned (.int .u8 (87 + x))
    rw [show 97 + x - 10 = 87 + x from by omega]

set_option maxHeartbeats 1000000 in
theorem escapeByte (B : Nat) (v : Value) (l : List UInt8) (c : UInt8) (W0 w : World) (hb : Buf B v l W0 w) (hl : l.length + 6 ≤ 140737488355328) :
    Calls Try.prog 9 #[v, .int .u8 (c.toNat : Int)] w fun e w' => ∃ v', e = .returned v' ∧ Buf B v' (l ++ Js.esc c) W0 w' := by
  obtain ⟨i0, hi, hz0, hz1, hz2⟩ := info_parts byteInfo
  have hcase : (32 ≤ (c.toNat : Int) ∧ (c.toNat : Int) ≠ 34 ∧ (c.toNat : Int) ≠ 92) ∨ ((c.toNat : Int) = 34) ∨ ((c.toNat : Int) = 92) ∨ ((c.toNat : Int) = 8) ∨ ((c.toNat : Int) = 12) ∨ ((c.toNat : Int) = 10) ∨ ((c.toNat : Int) = 13) ∨ ((c.toNat : Int) = 9) ∨
      ((c.toNat : Int) < 32 ∧ (c.toNat : Int) ≠ 8 ∧ (c.toNat : Int) ≠ 12 ∧ (c.toNat : Int) ≠ 10 ∧ (c.toNat : Int) ≠ 13 ∧ (c.toNat : Int) ≠ 9) := by omega
  rcases hcase with ⟨c1, c2, c3⟩ | c1 | c1 | c1 | c1 | c1 | c1 | c1 | ⟨c1, c2, c3, c4, c5, c6⟩
  · rw [Js.esc_plain c c1 c2 c3]
    go_enter Try.func9, Try.ntmps9
    go_wp2_with (at_builtin; refine wpList_append_bytes rfl _ _ 22 rfl B i0 Try.underlying22 hi hz0 hz1 hz2 _ _ rfl W0 _ _ _ (by exact hb) rfl [c] rfl rfl (by simp; omega) ?_; intro v2 w2 hb2)
    go_ret
    exact ⟨_, rfl, hb2⟩
  · obtain rfl : c = 34 := Js.u8_eq c1
    show Calls Try.prog 9 #[v, .int .u8 34] w fun e w' => ∃ v', e = .returned v' ∧ Buf B v' (l ++ [92, 34]) W0 w'
    go_enter Try.func9, Try.ntmps9
    go_wp2_with (at_builtin; refine wpList_append_bytes rfl _ _ 22 rfl B i0 Try.underlying22 hi hz0 hz1 hz2 _ _ rfl W0 _ _ _ (by exact hb) rfl [92, 34] rfl rfl (by simp; omega) ?_; intro v2 w2 hb2)
    go_ret
    exact ⟨_, rfl, hb2⟩
  · obtain rfl : c = 92 := Js.u8_eq c1
    show Calls Try.prog 9 #[v, .int .u8 92] w fun e w' => ∃ v', e = .returned v' ∧ Buf B v' (l ++ [92, 92]) W0 w'
    go_enter Try.func9, Try.ntmps9
    go_wp2_with (at_builtin; refine wpList_append_bytes rfl _ _ 22 rfl B i0 Try.underlying22 hi hz0 hz1 hz2 _ _ rfl W0 _ _ _ (by exact hb) rfl [92, 92] rfl rfl (by simp; omega) ?_; intro v2 w2 hb2)
    go_ret
    exact ⟨_, rfl, hb2⟩
  · obtain rfl : c = 8 := Js.u8_eq c1
    show Calls Try.prog 9 #[v, .int .u8 8] w fun e w' => ∃ v', e = .returned v' ∧ Buf B v' (l ++ [92, 98]) W0 w'
    go_enter Try.func9, Try.ntmps9
    go_wp2_with (at_builtin; refine wpList_append_bytes rfl _ _ 22 rfl B i0 Try.underlying22 hi hz0 hz1 hz2 _ _ rfl W0 _ _ _ (by exact hb) rfl [92, 98] rfl rfl (by simp; omega) ?_; intro v2 w2 hb2)
    go_ret
    exact ⟨_, rfl, hb2⟩
  · obtain rfl : c = 12 := Js.u8_eq c1
    show Calls Try.prog 9 #[v, .int .u8 12] w fun e w' => ∃ v', e = .returned v' ∧ Buf B v' (l ++ [92, 102]) W0 w'
    go_enter Try.func9, Try.ntmps9
    go_wp2_with (at_builtin; refine wpList_append_bytes rfl _ _ 22 rfl B i0 Try.underlying22 hi hz0 hz1 hz2 _ _ rfl W0 _ _ _ (by exact hb) rfl [92, 102] rfl rfl (by simp; omega) ?_; intro v2 w2 hb2)
    go_ret
    exact ⟨_, rfl, hb2⟩
  · obtain rfl : c = 10 := Js.u8_eq c1
    show Calls Try.prog 9 #[v, .int .u8 10] w fun e w' => ∃ v', e = .returned v' ∧ Buf B v' (l ++ [92, 110]) W0 w'
    go_enter Try.func9, Try.ntmps9
    go_wp2_with (at_builtin; refine wpList_append_bytes rfl _ _ 22 rfl B i0 Try.underlying22 hi hz0 hz1 hz2 _ _ rfl W0 _ _ _ (by exact hb) rfl [92, 110] rfl rfl (by simp; omega) ?_; intro v2 w2 hb2)
    go_ret
    exact ⟨_, rfl, hb2⟩
  · obtain rfl : c = 13 := Js.u8_eq c1
    show Calls Try.prog 9 #[v, .int .u8 13] w fun e w' => ∃ v', e = .returned v' ∧ Buf B v' (l ++ [92, 114]) W0 w'
    go_enter Try.func9, Try.ntmps9
    go_wp2_with (at_builtin; refine wpList_append_bytes rfl _ _ 22 rfl B i0 Try.underlying22 hi hz0 hz1 hz2 _ _ rfl W0 _ _ _ (by exact hb) rfl [92, 114] rfl rfl (by simp; omega) ?_; intro v2 w2 hb2)
    go_ret
    exact ⟨_, rfl, hb2⟩
  · obtain rfl : c = 9 := Js.u8_eq c1
    show Calls Try.prog 9 #[v, .int .u8 9] w fun e w' => ∃ v', e = .returned v' ∧ Buf B v' (l ++ [92, 116]) W0 w'
    go_enter Try.func9, Try.ntmps9
    go_wp2_with (at_builtin; refine wpList_append_bytes rfl _ _ 22 rfl B i0 Try.underlying22 hi hz0 hz1 hz2 _ _ rfl W0 _ _ _ (by exact hb) rfl [92, 116] rfl rfl (by simp; omega) ?_; intro v2 w2 hb2)
    go_ret
    exact ⟨_, rfl, hb2⟩
  · rw [Js.esc_ctl c c1 c2 c3 c4 c5 c6]
    have M1 : Hid (∀ wx, Calls Try.prog 19 #[.int .u8 ((c.toNat : Int) / 16)] wx fun e w' => e = .returned (.int .u8 ((Js.hexd (c / 16)).toNat : Int)) ∧ w' = wx) := fun wx => by
      have := hexDigit (c / 16) wx (by have := Js.nib_hi c c1; omega)
      rw [UInt8.toNat_div] at this
      exact this
    have M2 : Hid (∀ wx, Calls Try.prog 19 #[.int .u8 ((c.toNat : Int) % 16)] wx fun e w' => e = .returned (.int .u8 ((Js.hexd (c % 16)).toNat : Int)) ∧ w' = wx) := fun wx => by
      have := hexDigit (c % 16) wx (by have := Js.nib_lo c; omega)
      rw [UInt8.toNat_mod] at this
      exact this
    go_enter Try.func9, Try.ntmps9
    go_wp2_with fail
    refine (M1.out _).mono ?_
    rintro e w1 ⟨rfl, rfl⟩
    go_wp2_with fail
    refine (M2.out _).mono ?_
    rintro e w2 ⟨rfl, rfl⟩
    go_wp2_with (at_builtin; refine wpList_append_bytes rfl _ _ 22 rfl B i0 Try.underlying22 hi hz0 hz1 hz2 _ _ rfl W0 _ _ _ (by exact hb) rfl [92, 117, 48, 48, Js.hexd (c / 16), Js.hexd (c % 16)] rfl rfl (by simp; omega) ?_; intro v2 w3 hb2)
    go_ret
    exact ⟨_, rfl, hb2⟩

theorem bytes7_yes (ao : Option Addr) (n cap : Nat) (b : ByteArray) (w : World) (h : n + b.size ≤ 1048576) :
    Calls Try.prog 7 #[.slice ao n cap, .string b] w fun e w' => e = .returned (.bool true) ∧ w' = w := by
  go_enter Try.func7, Try.ntmps7
  go_wp2
  go_ret
  exact ⟨rfl, rfl⟩

theorem bytes7_no (ao : Option Addr) (n cap : Nat) (b : ByteArray) (w : World) (ha : n ≤ maxLen) (hb : b.size ≤ maxLen) (h : 1048576 < n + b.size) :
    Calls Try.prog 7 #[.slice ao n cap, .string b] w fun e w' => e = .returned (.bool false) ∧ w' = w := by
  unfold maxLen at ha hb
  by_cases h1 : 1048576 < n
  · go_enter Try.func7, Try.ntmps7
    go_wp2
    go_ret
    exact ⟨rfl, rfl⟩
  by_cases h2 : 1048576 < b.size
  · go_enter Try.func7, Try.ntmps7
    go_wp2
    go_ret
    exact ⟨rfl, rfl⟩
  · go_enter Try.func7, Try.ntmps7
    go_wp2
    go_ret
    exact ⟨rfl, rfl⟩
end Go.Proofs.Qxb6601578a
