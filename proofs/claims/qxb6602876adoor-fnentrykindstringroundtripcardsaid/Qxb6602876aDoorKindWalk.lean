import Derived.Test.Qxb6602876aDoorWalkB
namespace Go.Proofs.Qxb6602876aDoor
open Go.RowKit
set_option linter.unusedSimpArgs false
set_option linter.unusedVariables false

set_option maxHeartbeats 400000 in
/-- (EntryKind).String outside the two names. -/
theorem kind_string (n : Int) (h0 : -9223372036854775808 ≤ n) (h1 : n ≤ 9223372036854775807) (hn : n < 1 ∨ 2 < n) (w : World) (htab : Lib.TabIs Tryd.prog w tabName .u64 Lib.pow10Tab) :
    Calls Tryd.prog 10 #[.int .i64 n] w fun e w' => ∃ S : ByteArray, e = .returned (.string S) ∧ S.data.toList = [69, 110, 116, 114, 121, 75, 105, 110, 100, 40] ++ Lib.itoa n ++ [41] ∧ Below w.heap.size w w' := by
  have b1 : (n == 1) = false := beq_eq_false_iff_ne.2 (by omega)
  have b2 : (n == 2) = false := beq_eq_false_iff_ne.2 (by omega)
  have hz := itoa_size n h0 h1
  have HI := hide (itoa_calls n h0 h1 w htab)
  have HS : Hid ((⟨#[69, 110, 116, 114, 121, 75, 105, 110, 100, 40]⟩ ++ ⟨(Lib.itoa n).toArray⟩ ++ ⟨#[41]⟩ : ByteArray).data.toList = [69, 110, 116, 114, 121, 75, 105, 110, 100, 40] ++ Lib.itoa n ++ [41]) := by show _ = _; simp
  generalize (⟨(Lib.itoa n).toArray⟩ : ByteArray) = I at *
  clear htab hn
  go_enter Tryd.func10, Tryd.ntmps10
  go_wp2_with fail
  refine HI.out.mono ?_
  rintro e w1 ⟨rfl, hb1⟩
  go_wp2
  go_ret
  exact ⟨_, rfl, HS.out, hb1⟩

set_option maxHeartbeats 400000 in
theorem kind_small (n : Int) (h : n = 1 ∨ n = 2) (w : World) :
    Calls Tryd.prog 4 #[.int .i64 n] w fun e w' => e = .returned (.bool true) ∧ Below w.heap.size w w' := by
  rcases h with rfl | rfl
  all_goals
    go_enter Tryd.func4, Tryd.ntmps4
    go_wp2
    go_ret
    exact ⟨rfl, Below.refl _ _⟩

set_option maxHeartbeats 400000 in
theorem parse_kind (S : ByteArray) (n : Int) (h0 : -9223372036854775808 ≤ n) (h1 : n ≤ 9223372036854775807) (hn : n < 1 ∨ 2 < n) (hS : S.data.toList = [69, 110, 116, 114, 121, 75, 105, 110, 100, 40] ++ Lib.itoa n ++ [41]) (w : World) :
    Calls Tryd.prog 9 #[.string S] w fun e w' => e = .returned (.tuple #[.int .i64 n, .bool true]) ∧ ∃ k, w' = w.drewN k := by
  have HP := hide (fun wx => parse_any S ⟨#[69, 110, 116, 114, 121, 75, 105, 110, 100, 40]⟩ n wx h0 h1 (by decide) hS)
  have hd : ∃ r, S.toList = 69 :: r := ⟨_, by rw [Lib.toList_data, hS]; rfl⟩
  have f1 : (S.toList == [99, 111, 109, 109, 97, 110, 100]) = false := by obtain ⟨r, hr⟩ := hd; rw [hr]; rfl
  have f2 : (S.toList == [110, 111, 111, 112]) = false := by obtain ⟨r, hr⟩ := hd; rw [hr]; rfl
  clear hd hS
  rcases hn with hn | hn
  · have g1 : decide ((1 : Int) ≤ n) = false := decide_eq_false (by omega)
    go_enter Tryd.func9, Tryd.ntmps9
    go_wp2_with fail
    refine (HP.out _).mono ?_
    rintro e w1 ⟨rfl, k1, rfl⟩
    go_wp2
    go_ret2
    exact ⟨rfl, _, rfl⟩
  · have g1 : decide ((1 : Int) ≤ n) = true := decide_eq_true (by omega)
    have g2 : decide (n ≤ 2) = false := decide_eq_false (by omega)
    go_enter Tryd.func9, Tryd.ntmps9
    go_wp2_with fail
    refine (HP.out _).mono ?_
    rintro e w1 ⟨rfl, k1, rfl⟩
    go_wp2
    go_ret2
    exact ⟨rfl, _, rfl⟩

set_option maxHeartbeats 400000 in
theorem kind_walk (n : Int) (hw : (Lit.int .i64 n).wf = true) (w : World) (htab : Lib.TabIs Tryd.prog w tabName .u64 Lib.pow10Tab) :
    Calls Tryd.prog 4 #[.int .i64 n] w fun e w' => e = .returned (.bool true) ∧ Below w.heap.size w w' := by
  have hb := Go.bounds_i64 hw
  by_cases h : n = 1 ∨ n = 2
  · exact kind_small n h w
  · have hn : n < 1 ∨ 2 < n := by omega
    have H1 := hide (kind_string n (by omega) (by omega) hn w htab)
    have H2 := hide (fun S hS wx => parse_kind S n (by omega) (by omega) hn hS wx)
    clear h hn htab hw hb
    go_enter Tryd.func4, Tryd.ntmps4
    go_wp2_with fail
    refine H1.out.mono ?_
    rintro e w1 ⟨S, rfl, hS, hb1⟩
    have H3 := hide (H2.out S hS)
    clear hS H2 H1
    go_wp2_with fail
    refine (H3.out _).mono ?_
    rintro e w2 ⟨rfl, k2, rfl⟩
    go_wp2
    go_ret
    exact ⟨rfl, ⟨hb1.os, hb1.tape, hb1.output, hb1.size, hb1.block⟩⟩
end Go.Proofs.Qxb6602876aDoor
