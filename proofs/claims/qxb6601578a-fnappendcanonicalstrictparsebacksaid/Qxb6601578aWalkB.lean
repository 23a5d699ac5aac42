import Derived.Test.Qxb6601578aWalkA
import Derived.BigQuiet
import Derived.Deep.QuietTactic
namespace Go.Proofs.Qxb6601578a
open Go.RowKit
set_option linter.unusedSimpArgs false

set_option maxHeartbeats 400000 in
theorem zzEqual (a : Option Addr) (b : Option Addr) (ca cb : Nat) (l : List UInt8) (w : World) (hm : l.length ≤ 9223372036854775807)
    (ha : ∀ i, (h : i < l.length) → ∃ x off, a = some ⟨x, off, none⟩ ∧ w.cell? ⟨x, off + i, none⟩ = some (.int .u8 (l[i]).toNat))
    (hb : ∀ i, (h : i < l.length) → ∃ x off, b = some ⟨x, off, none⟩ ∧ w.cell? ⟨x, off + i, none⟩ = some (.int .u8 (l[i]).toNat)) :
    Calls Try.prog 11 #[.slice a l.length ca, .slice b l.length cb] w fun e w' => e = .returned (.bool true) ∧ ∃ n, w' = w.drewN n := by
  go_enter Try.func11, Try.ntmps11
  go_wp2
  go_loopw [5] (fun i wr => ∃ k n : Nat, k ≤ l.length ∧ i = .int .i64 k ∧ wr = w.drewN n) (fun i _ => l.length - (intOf i).toNat)
  case atStart => exact ⟨0, 0, Nat.zero_le _, rfl, rfl⟩
  case round =>
    obtain ⟨k, n, hk, rfl, rfl⟩ := hrel
    by_cases hlt : k < l.length
    · obtain ⟨x, xo, rfl, cx⟩ := ha k hlt
      obtain ⟨y, yo, rfl, cy⟩ := hb k hlt
      clear ha hb
      have hki : (k : Int) < (l.length : Int) := by omega
      go_wp2
      go_quiet (fail)
      go_wp2
      go_roundw
      case rel => exact ⟨k + 1, _, by omega, by go_num, rfl⟩
      case measure => simp [intOf]; omega
    · clear ha hb
      go_wp2
      go_ret
      exact ⟨rfl, n, rfl⟩

theorem zzEqual_reads (v1 v2 : Value) (l : List UInt8) (w : World) (hm : l.length ≤ 9223372036854775807) (h1 : Reads w v1 l) (h2 : Reads w v2 l) :
    Calls Try.prog 11 #[v1, v2] w fun e w' => e = .returned (.bool true) ∧ ∃ n, w' = w.drewN n := by
  obtain ⟨a1, c1, rfl, r1⟩ := h1
  obtain ⟨a2, c2, rfl, r2⟩ := h2
  exact zzEqual a1 a2 c1 c2 l w hm (fun i h => r1 i h) (fun i h => r2 i h)

theorem bytes14_yes (a b : ByteArray) (w : World) (h : a.size + b.size ≤ 1048576) :
    Calls Try.prog 14 #[.string a, .string b] w fun e w' => e = .returned (.bool true) ∧ w' = w := by
  go_enter Try.func14, Try.ntmps14
  go_wp2
  go_ret
  exact ⟨rfl, rfl⟩

theorem bytes14_no (a b : ByteArray) (w : World) (ha : a.size ≤ maxLen) (hb : b.size ≤ maxLen) (h : 1048576 < a.size + b.size) :
    Calls Try.prog 14 #[.string a, .string b] w fun e w' => e = .returned (.bool false) ∧ w' = w := by
  unfold maxLen at ha hb
  by_cases h1 : 1048576 < a.size
  · go_enter Try.func14, Try.ntmps14
    go_wp2
    go_ret
    exact ⟨rfl, rfl⟩
  by_cases h2 : 1048576 < b.size
  · go_enter Try.func14, Try.ntmps14
    go_wp2
    go_ret
    exact ⟨rfl, rfl⟩
  · go_enter Try.func14, Try.ntmps14
    go_wp2
    go_ret
    exact ⟨rfl, rfl⟩
end Go.Proofs.Qxb6601578a
