import Derived.Test.Qxb6602876aDoorWalkA
import Derived.OpenShut
namespace Go.Proofs.Qxb6602876aDoor
open Go.RowKit
set_option linter.unusedSimpArgs false
set_option linter.unusedVariables false

theorem extract_list (s : ByteArray) (j k : Nat) : (s.extract j k).data.toList = (s.data.toList.take k).drop j := by
  simp [ByteArray.extract, ByteArray.copySlice, List.drop_take]

theorem size_list (s : ByteArray) : s.data.toList.length = s.size := by simp

/-- A text 'prefix numeral )' read back: whatever int. -/
theorem parse_any (s p : ByteArray) (n : Int) (w : World) (h0 : -9223372036854775808 ≤ n) (h1 : n ≤ 9223372036854775807) (hp : p.size ≤ 100) (hs : s.data.toList = p.data.toList ++ Lib.itoa n ++ [41]) :
    Calls Tryd.prog 14 #[.string s, .string p] w fun e w' => e = .returned (.tuple #[.int .i64 n, .bool true]) ∧ ∃ k, w' = w.drewN k := by
  have hlen : s.size = p.size + (Lib.itoa n).length + 1 := by
    have := congrArg List.length hs
    simp only [List.length_append, Array.length_toList, List.length_cons, List.length_nil] at this
    exact this
  have hil : (Lib.itoa n).length ≤ 20 := by
    unfold Lib.itoa
    split
    · have := Rd.digits_length n.natAbs (by omega); simp; omega
    · have := Rd.digits_length n.toNat (by omega); omega
  have hget : ∀ j, (h : j < s.size) → s[j] = s.data.toList[j]'(by simpa using h) := fun j h => rfl
  have hgetp : ∀ j, (h : j < p.size) → p[j] = p.data.toList[j]'(by simpa using h) := fun j h => rfl
  have hpl : p.data.toList.length = p.size := by simp
  have hpre : ∀ j, (h : j < p.size) → (h2 : j < s.size) → s[j] = p[j] := fun j h h2 => by
    rw [hget j h2, hgetp j h]
    simp only [hs, List.append_assoc]
    rw [List.getElem_append_left (by omega)]
  have hlast : ∀ h : s.size - 1 < s.size, s[s.size - 1] = 41 := fun h => by
    rw [hget _ h]
    simp only [hs]
    rw [List.getElem_append_right (by simp; omega)]
    simp [hlen]
  have hbody : (s.extract p.size (s.size - 1)).data.toList = Lib.itoa n := by
    rw [extract_list, hs]
    rw [List.take_append_of_le_length (by simp; omega), List.take_of_length_le (by simp; omega), List.drop_append_of_le_length (by omega), List.drop_of_length_le (by omega), List.nil_append]
  obtain ⟨M, hM⟩ : ∃ M, s.extract p.size (s.size - 1) = M := ⟨_, rfl⟩
  rw [hM] at hbody
  have hMs : M.size = (Lib.itoa n).length := by rw [← size_list, hbody]
  by_cases hn : n < 0
  · obtain ⟨N, rfl⟩ : ∃ N : Nat, n = -(N : Int) := ⟨n.natAbs, by omega⟩
    rw [Lib.itoa_neg N (by omega)] at hbody hlen hil hMs
    refine parse_neg s p M ⟨(Lib.decDigits N).toArray⟩ N w (by omega) (by omega) (by omega) (by rw [hMs]; exact hlen) (by rw [hMs]; simp [ByteArray.size]) hpre hlast hM ?_ ?_ (by simp)
    · intro h
      show M.data.toList[0]'(by rw [size_list]; exact h) = 45
      simp only [hbody]; rfl
    · apply ByteArray.ext
      apply Array.ext'
      rw [extract_list, hbody, List.take_of_length_le (by rw [hMs]; exact Nat.le_refl _)]
      simp
  · obtain ⟨N, rfl⟩ : ∃ N : Nat, n = (N : Int) := ⟨n.toNat, by omega⟩
    rw [Lib.itoa_nonneg N] at hbody hlen hil hMs
    exact parse_pos s p M N w (by omega) (by omega) (by rw [hMs]; exact hlen) hpre hlast hM hbody

theorem below_grown (w : World) (k : Nat) (os : Array Obj) : Below w.heap.size w (Go.Sort.grow (w.drewN k) os) :=
  ⟨rfl, rfl, rfl, by show _ ≤ (w.heap ++ os).size; simp, fun i hi => by show (w.heap ++ os)[i]? = _; rw [Array.getElem?_append_left hi]⟩

/-- The name of the table of powers of ten, off the row's own list. -/
def tabName : String := Rows.fnRoleStringRoundTripRow.named.getD 0 ""

theorem itoa_calls (n : Int) (h0 : -9223372036854775808 ≤ n) (h1 : n ≤ 9223372036854775807) (w : World) (htab : Lib.TabIs Tryd.prog w tabName .u64 Lib.pow10Tab) :
    Calls Tryd.prog 15 #[.int .i64 n] w fun e w' => e = .returned (.string ⟨(Lib.itoa n).toArray⟩) ∧ Below w.heap.size w w' :=
  (Any.strconv_Itoa Tryd.laysM171 n h0 h1 w htab).mono fun e w' ⟨he, k, os, hw⟩ => ⟨he, by rw [hw]; exact below_grown w k os⟩

theorem itoa_size (n : Int) (h0 : -9223372036854775808 ≤ n) (h1 : n ≤ 9223372036854775807) : (⟨(Lib.itoa n).toArray⟩ : ByteArray).size ≤ 20 := by
  show (Lib.itoa n).toArray.size ≤ 20
  simp only [List.size_toArray]
  unfold Lib.itoa
  split
  · have := Rd.digits_length n.natAbs (by omega); simp; omega
  · have := Rd.digits_length n.toNat (by omega); omega

set_option maxHeartbeats 400000 in
/-- (Role).String outside the three names. -/
theorem role_string (n : Int) (h0 : -9223372036854775808 ≤ n) (h1 : n ≤ 9223372036854775807) (hn : n < 0 ∨ 2 < n) (w : World) (htab : Lib.TabIs Tryd.prog w tabName .u64 Lib.pow10Tab) :
    Calls Tryd.prog 8 #[.int .i64 n] w fun e w' => ∃ S : ByteArray, e = .returned (.string S) ∧ S.data.toList = [82, 111, 108, 101, 40] ++ Lib.itoa n ++ [41] ∧ Below w.heap.size w w' := by
  have b0 : (n == 0) = false := beq_eq_false_iff_ne.2 (by omega)
  have b1 : (n == 1) = false := beq_eq_false_iff_ne.2 (by omega)
  have b2 : (n == 2) = false := beq_eq_false_iff_ne.2 (by omega)
  have hz := itoa_size n h0 h1
  have HI := hide (itoa_calls n h0 h1 w htab)
  have HS : Hid ((⟨#[82, 111, 108, 101, 40]⟩ ++ ⟨(Lib.itoa n).toArray⟩ ++ ⟨#[41]⟩ : ByteArray).data.toList = [82, 111, 108, 101, 40] ++ Lib.itoa n ++ [41]) := by show _ = _; simp
  generalize (⟨(Lib.itoa n).toArray⟩ : ByteArray) = I at *
  clear htab hn
  go_enter Tryd.func8, Tryd.ntmps8
  go_wp2_with fail
  refine HI.out.mono ?_
  rintro e w1 ⟨rfl, hb1⟩
  go_wp2
  go_ret
  exact ⟨_, rfl, HS.out, hb1⟩

set_option maxHeartbeats 400000 in
theorem role_small (n : Int) (h : n = 0 ∨ n = 1 ∨ n = 2) (w : World) :
    Calls Tryd.prog 3 #[.int .i64 n] w fun e w' => e = .returned (.bool true) ∧ Below w.heap.size w w' := by
  rcases h with rfl | rfl | rfl
  all_goals
    go_enter Tryd.func3, Tryd.ntmps3
    go_wp2
    go_ret
    exact ⟨rfl, Below.refl _ _⟩

set_option maxHeartbeats 400000 in
theorem parse_role (S : ByteArray) (n : Int) (h0 : -9223372036854775808 ≤ n) (h1 : n ≤ 9223372036854775807) (hn : n < 0 ∨ 2 < n) (hS : S.data.toList = [82, 111, 108, 101, 40] ++ Lib.itoa n ++ [41]) (w : World) :
    Calls Tryd.prog 7 #[.string S] w fun e w' => e = .returned (.tuple #[.int .i64 n, .bool true]) ∧ ∃ k, w' = w.drewN k := by
  have HP := hide (fun wx => parse_any S ⟨#[82, 111, 108, 101, 40]⟩ n wx h0 h1 (by decide) hS)
  have hd : ∃ r, S.toList = 82 :: r := ⟨_, by rw [Lib.toList_data, hS]; rfl⟩
  have f1 : (S.toList == [102, 111, 108, 108, 111, 119, 101, 114]) = false := by obtain ⟨r, hr⟩ := hd; rw [hr]; rfl
  have f2 : (S.toList == [99, 97, 110, 100, 105, 100, 97, 116, 101]) = false := by obtain ⟨r, hr⟩ := hd; rw [hr]; rfl
  have f3 : (S.toList == [108, 101, 97, 100, 101, 114]) = false := by obtain ⟨r, hr⟩ := hd; rw [hr]; rfl
  clear hd hS
  rcases hn with hn | hn
  · have g1 : decide ((0 : Int) ≤ n) = false := decide_eq_false (by omega)
    go_enter Tryd.func7, Tryd.ntmps7
    go_wp2_with fail
    refine (HP.out _).mono ?_
    rintro e w1 ⟨rfl, k1, rfl⟩
    go_wp2
    go_ret2
    exact ⟨rfl, _, rfl⟩
  · have g1 : decide ((0 : Int) ≤ n) = true := decide_eq_true (by omega)
    have g2 : decide (n ≤ 2) = false := decide_eq_false (by omega)
    go_enter Tryd.func7, Tryd.ntmps7
    go_wp2_with fail
    refine (HP.out _).mono ?_
    rintro e w1 ⟨rfl, k1, rfl⟩
    go_wp2
    go_ret2
    exact ⟨rfl, _, rfl⟩

set_option maxHeartbeats 400000 in
theorem role_walk (n : Int) (hw : (Lit.int .i64 n).wf = true) (w : World) (htab : Lib.TabIs Tryd.prog w tabName .u64 Lib.pow10Tab) :
    Calls Tryd.prog 3 #[.int .i64 n] w fun e w' => e = .returned (.bool true) ∧ Below w.heap.size w w' := by
  have hb := Go.bounds_i64 hw
  by_cases h : n = 0 ∨ n = 1 ∨ n = 2
  · exact role_small n h w
  · have hn : n < 0 ∨ 2 < n := by omega
    have H1 := hide (role_string n (by omega) (by omega) hn w htab)
    have H2 := hide (fun S hS wx => parse_role S n (by omega) (by omega) hn hS wx)
    clear h hn htab hw hb
    go_enter Tryd.func3, Tryd.ntmps3
    go_wp2_with fail
    refine H1.out.mono ?_
    rintro e w1 ⟨S, rfl, hS, hb1⟩
    have H3 := hide (H2.out S hS)
    clear hS H2 H1
    go_wp2_with fail
    refine (H3.out _).mono ?_
    rintro e w2 ⟨rfl, k2, rfl⟩
    go_wp2
    go_ret
    exact ⟨rfl, ⟨hb1.os, hb1.tape, hb1.output, hb1.size, hb1.block⟩⟩
end Go.Proofs.Qxb6602876aDoor
