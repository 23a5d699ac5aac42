import Derived.Test.Qxb6602939aWalkA
import Derived.Test.Qxb6602939aPlain2
import Derived.BigQuiet
import Derived.Deep.QuietTactic
import Derived.Laws.BytesArg
namespace Go.Proofs.Qxb6602939a
open Go.RowKit
set_option linter.unusedSimpArgs false
set_option linter.unusedVariables false

theorem byteInfo : (Try.prog.info? 5).map (fun i => (i.zero, i.size, i.bytes)) = some (some (.int .u8 0), 1, 1) := by kernel_rfl

theorem zzCheck2 (s : ByteArray) (w : World) (hs : s.size ≤ 1048576) :
    Calls Try.prog 7 #[.string s] w fun e w' => e = .returned (.int .u8 (Rt.chr (Rt.chk (Rt.total s.data.toList)) : Nat)) ∧ w' = w := by
  have H := hide (checkChar s)
  go_enter Try.func7, Try.ntmps7
  go_wp2_with fail
  refine (H.out _ hs).mono ?_
  rintro e w1 ⟨rfl, rfl⟩
  go_wp2
  go_ret
  exact ⟨rfl, rfl⟩

theorem bytes11_yes (a : ByteArray) (i : Int) (w : World) (h : a.size ≤ 1048576) :
    Calls Try.prog 11 #[.string a, .int .i64 i] w fun e w' => e = .returned (.bool true) ∧ w' = w := by
  go_enter Try.func11, Try.ntmps11
  go_wp2
  go_ret
  exact ⟨rfl, rfl⟩

theorem bytes11_no (a : ByteArray) (i : Int) (w : World) (ha : a.size ≤ maxLen) (h : 1048576 < a.size) :
    Calls Try.prog 11 #[.string a, .int .i64 i] w fun e w' => e = .returned (.bool false) ∧ w' = w := by
  unfold maxLen at ha
  go_enter Try.func11, Try.ntmps11
  go_wp2
  go_ret
  exact ⟨rfl, rfl⟩

/-- Are all bytes decimal digits? -/
def Dec (s : ByteArray) : Prop := ∀ j, (h : j < s.size) → 48 ≤ (s[j].toNat : Int) ∧ (s[j].toNat : Int) ≤ 57

theorem allDec_yes (s : ByteArray) (w : World) (hs : s.size ≤ 1048576) (hd : Dec s) :
    Calls Try.prog 10 #[.string s] w fun e w' => e = .returned (.bool true) ∧ w' = w := by
  have HD := hide hd
  clear hd
  go_enter Try.func10, Try.ntmps10
  go_wp2
  go_loop [3] (fun i => ∃ k : Nat, k ≤ s.size ∧ i = .int .i64 k) (fun i => s.size - (intOf i).toNat)
  case atStart => exact ⟨0, Nat.zero_le _, rfl⟩
  case round =>
    obtain ⟨k, hk, rfl⟩ := hrel
    by_cases hlt : k < s.size
    · obtain ⟨d1, d2⟩ := HD.out k hlt
      have b1 : decide ((s[k].toNat : Int) < 48) = false := decide_eq_false (by omega)
      have b2 : decide ((57 : Int) < (s[k].toNat : Int)) = false := decide_eq_false (by omega)
      go_wp2
      go_round
      case rel => exact ⟨k + 1, by omega, by go_num⟩
      case measure => simp [intOf]; omega
    · go_wp2
      go_ret
      exact ⟨rfl, rfl⟩

theorem dec_step (s : ByteArray) (k : Nat) {hlt : k < s.size} (hd : 48 ≤ (s[k].toNat : Int) ∧ (s[k].toNat : Int) ≤ 57) (h : ∀ j, (h : j < s.size) → j < k → 48 ≤ (s[j].toNat : Int) ∧ (s[j].toNat : Int) ≤ 57) :
    ∀ j, (h : j < s.size) → j < k + 1 → 48 ≤ (s[j].toNat : Int) ∧ (s[j].toNat : Int) ≤ 57 := by
  intro j hj hk
  by_cases e : j = k
  · subst e; exact hd
  · exact h j hj (by omega)

theorem allDec_no (s : ByteArray) (w : World) (hs : s.size ≤ 1048576) (hd : ¬ Dec s) :
    Calls Try.prog 10 #[.string s] w fun e w' => e = .returned (.bool false) ∧ w' = w := by
  have HD := hide hd
  clear hd
  go_enter Try.func10, Try.ntmps10
  go_wp2
  go_loop [3] (fun i => ∃ k : Nat, k ≤ s.size ∧ i = .int .i64 k ∧ Hid (∀ j, (h : j < s.size) → j < k → 48 ≤ (s[j].toNat : Int) ∧ (s[j].toNat : Int) ≤ 57)) (fun i => s.size - (intOf i).toNat)
  case atStart => exact ⟨0, Nat.zero_le _, rfl, fun j h hj => absurd hj (Nat.not_lt_zero j)⟩
  case round =>
    obtain ⟨k, hk, rfl, HK⟩ := hrel
    by_cases hlt : k < s.size
    · by_cases hc : 48 ≤ (s[k].toNat : Int) ∧ (s[k].toNat : Int) ≤ 57
      · obtain ⟨d1, d2⟩ := hc
        have b1 : decide ((s[k].toNat : Int) < 48) = false := decide_eq_false (by omega)
        have b2 : decide ((57 : Int) < (s[k].toNat : Int)) = false := decide_eq_false (by omega)
        go_wp2
        go_round
        case rel => exact ⟨k + 1, by omega, by go_num, fun j h hj => dec_step s k ⟨d1, d2⟩ HK.out j h hj⟩
        case measure => simp [intOf]; omega
      · by_cases h1 : (s[k].toNat : Int) < 48
        · have b1 : decide ((s[k].toNat : Int) < 48) = true := decide_eq_true h1
          go_wp2
          go_ret
          exact ⟨rfl, rfl⟩
        · have b1 : decide ((s[k].toNat : Int) < 48) = false := decide_eq_false h1
          have b2 : decide ((57 : Int) < (s[k].toNat : Int)) = true := decide_eq_true (by omega)
          go_wp2
          go_ret
          exact ⟨rfl, rfl⟩
    · exact absurd (fun j h => HK.out j h (by omega)) HD.out

/-- The row of n bytes that the call has made at the heap's end. -/
def Row (w wr : World) (n : Nat) (B : Nat → Int) : Prop :=
  (∀ j, j < n → wr.cell? ⟨w.heap.size, j, none⟩ = some (.int .u8 (B j))) ∧ (∀ j, j < n → wr.frozen? ⟨w.heap.size, j, none⟩ = false) ∧ Below w.heap.size w wr ∧ w.heap.size < wr.heap.size

theorem Row.set {w wr : World} {n : Nat} {B : Nat → Int} (h : Row w wr n B) (k : Nat) (hk : k < n) (v : Int) : Row w (wr.setCell ⟨w.heap.size, k, none⟩ (.int .u8 v)) n (fun j => if j = k then v else B j) := by
  refine ⟨fun j hj => ?_, fun j hj => ?_, h.2.2.1.setCell (Nat.le_refl _) _, ?_⟩
  · by_cases e : j = k
    · subst e
      rw [World.cell?_setCell_same' _ _ _ (by rw [h.1 j hj]; rfl)]
      simp
    · rw [World.cell?_setCell_other wr _ _ _ (by intro h9; apply e; injection h9 with h10 h11; exact h11.symm), h.1 j hj]
      simp [e]
  · rw [World.frozen?_setCell]; exact h.2.1 j hj
  · have := h.2.2.2; simp [World.setCell]; exact this

theorem Row.of {w w4 : World} {n : Nat} (hown : w4.ownsRow w.heap.size 5 1 (.slice (some ⟨w.heap.size, 0, none⟩) n n) n (madeCells (Value.int .u8 0).cells (n * 1)).toList) (hg : w.grownBy w4 none) : ∃ B, Row w w4 n B := by
  refine ⟨fun _ => 0, fun j hj => ?_, fun j hj => ?_, (Below.refl _ _).grown hg (Nat.le_refl _) (by simp), ?_⟩
  · rw [hown.cellAt j (by omega)]
    simp [madeCells, hj, Value.cells, Nat.mod_one]
  · exact hown.frozenAt j
  · exact (hown.lt w.heap.size rfl).2
end Go.Proofs.Qxb6602939a
