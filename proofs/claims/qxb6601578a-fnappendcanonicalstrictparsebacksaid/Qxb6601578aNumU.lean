import Derived.Test.Qxb6601578aNumV
import Derived.Test.Qxb6601578aWalkC
import Derived.Laws.IdiomStrings
import Derived.BigQuiet
import Derived.Deep.QuietTactic
namespace Go.Proofs.Qxb6601578a
open Go.RowKit
set_option linter.unusedSimpArgs false
set_option linter.unusedVariables false

theorem number_some (T : List UInt8) (p b off cap k : Nat) (w : World) (hT : T.length ≤ 9223372036854775000) (hp : p ≤ T.length) (hcell : TextAt w b off T) (hk : Js.numLen (T.drop p) = some k) :
    Calls Try.prog 23 #[.slice (some ⟨b, off, none⟩) T.length cap, .int .i64 p] w fun e w' => e = .returned (.int .i64 ((p + k : Nat) : Int)) ∧ w' = w :=
  number_core T p b off cap _ w hT hp hcell (by show _ = _; rw [posN_eq, hk])

theorem number_any (T : List UInt8) (b off cap : Nat) (w : World) (hT : T.length ≤ 9223372036854775000) (hcell : TextAt w b off T) :
    Calls Try.prog 23 #[.slice (some ⟨b, off, none⟩) T.length cap, .int .i64 0] w fun e w' => ∃ r : Int, e = .returned (.int .i64 r) ∧ (r = (T.length : Int) ↔ Js.isNum T = true) ∧ w' = w := by
  refine (number_core T 0 b off cap _ w hT (Nat.zero_le _) hcell rfl).mono ?_
  rintro e w' ⟨rfl, rfl⟩
  refine ⟨_, rfl, ?_, rfl⟩
  rw [posN_eq, List.drop_zero]
  unfold Js.isNum
  cases h : Js.numLen T with
  | none => simp
  | some k => simp; omega

/-- 'string(t[i:j])', the text's cells told. -/
theorem text_toStr {w : World} {b off cap : Nat} {l : List UInt8} (h : TextAt w b off l) : (convert 22 9 (.slice (some ⟨b, off, none⟩) l.length cap)).run Try.prog w = .ok (.string ⟨l.toArray⟩) w := by
  have := run_convert_bytes_arg (P := Try.prog) w 22 5 Try.underlying22 Try.underlying5 b off l.length cap (l.map fun b => (b.toNat : Int)) (by simp) (fun i hi => by
    rw [h i hi]; simp [hi]) 9 Try.underlying9
  have e : strOfNums (l.map fun b => (b.toNat : Int)) = ⟨l.toArray⟩ := by simp [strOfNums, Function.comp_def]
  rw [e] at this
  exact this

theorem Buf.toText {B : Nat} {v : Value} {l : List UInt8} {W0 w : World} (h : Buf B v l W0 w) : (convert 22 9 v).run Try.prog w = .ok (.string ⟨l.toArray⟩) w := by
  have main : ∀ g cap, v = .slice (some ⟨g, 0, none⟩) l.length cap → (convert 22 9 v).run Try.prog w = .ok (.string ⟨l.toArray⟩) w := by
    intro g cap hv
    subst hv
    exact text_toStr (fun i hi => by rw [Nat.zero_add]; exact h.cell i hi)
  rcases h.1.2 with ⟨hv, hn⟩ | ⟨g, cap, cur, hv, _⟩
  · have hl : l = [] := List.eq_nil_of_length_eq_zero hn
    subst hv; subst hl
    exact run_convert_bytes_nil (P := Try.prog) w 22 5 Try.underlying22 Try.underlying5 0 0 9 Try.underlying9
  · exact main g cap hv

theorem bytesRow_cell (w : World) (s : ByteArray) (c : Nat) (hc : s.size ≤ c) (fz : Nat × Nat) : TextAt (w.drew.alloc (.cells (bytesRow s c) 5 fz)) w.heap.size 0 s.data.toList := by
  intro j hj
  have hj' : j < s.size := by simpa using hj
  rw [Nat.zero_add, cell_of_row _ w.heap.size j _ 5 fz (heap_alloc_new w.drew _)]
  unfold bytesRow
  rw [Array.getElem?_append_left (by simpa using hj'), Array.getElem?_map, Array.getElem?_eq_getElem (by simpa using hj')]
  simp

set_option maxHeartbeats 1000000 in
theorem isNumberText (s : ByteArray) (w : World) (hs : s.size ≤ 9223372036854775000) :
    Calls Try.prog 21 #[.string s] w fun e w' => e = .returned (.bool (Js.isNum s.data.toList)) ∧ Below w.heap.size w w' := by
  have hcv := fun w s => run_bytes_of_string (P := Try.prog) w 9 22 5 s Try.underlying9 Try.underlying22 Try.underlying5
  have hl : s.data.toList.length = s.size := by simp
  have HN : Hid (∀ c fz, s.size ≤ c → Calls Try.prog 23 #[.slice (some ⟨w.heap.size, 0, none⟩) s.size c, .int .i64 0] (w.alloc (.cells (bytesRow s c) 5 fz)).drew fun e w' => ∃ r : Int, e = .returned (.int .i64 r) ∧ (r = (s.size : Int) ↔ Js.isNum s.data.toList = true) ∧ w' = (w.alloc (.cells (bytesRow s c) 5 fz)).drew) := fun c fz hc => by
    have := number_any s.data.toList w.heap.size 0 c (w.alloc (.cells (bytesRow s c) 5 fz)).drew (by omega) (bytesRow_cell w s c hc fz)
    rw [hl] at this
    exact this
  have hge := grownCap_ge w s.size 0 5
  clear hl
  generalize Js.isNum s.data.toList = B at *
  go_enter Try.func21, Try.ntmps21
  go_wp2_with fail
  generalize grownCap w s.size 0 5 = cp at *
  refine (HN.out _ _ hge).mono ?_
  rintro e w2 ⟨r, rfl, hr, rfl⟩
  have hB : Hid ((r == (s.size : Int)) = B) := by
    show _ = _
    cases B with
    | true => exact beq_iff_eq.2 (hr.2 rfl)
    | false => exact beq_eq_false_iff_ne.2 (fun e => by have := hr.1 e; cases this)
  clear hr
  go_wp2
  go_ret
  refine ⟨?_, ⟨rfl, rfl, rfl, by simp, fun k hk => heap_alloc_old w _ (r := k) hk⟩⟩
  rw [← hB.out]; rfl

set_option maxHeartbeats 1000000 in
theorem hasWord (T rest : List UInt8) (s : ByteArray) (p b off cap : Nat) (w : World) (hT : T.length ≤ 9223372036854775000) (hcell : TextAt w b off T) (hq : T.drop p = s.data.toList ++ rest) (hs : 0 < s.size) :
    Calls Try.prog 22 #[.slice (some ⟨b, off, none⟩) T.length cap, .int .i64 p, .string s] w fun e w' => e = .returned (.bool true) ∧ ∃ n, w' = w.drewN n := by
  have hl : T.length = p + s.size + rest.length := by
    have := congrArg List.length hq
    rw [List.length_drop, List.length_append, show s.data.toList.length = s.size from rfl] at this
    omega
  have HC : Hid (∀ k, (h : k < s.size) → w.cell? ⟨b, off + (p + k), none⟩ = some (.int .u8 (s[k]).toNat)) := fun k hk => by
    rw [hcell (p + k) (by omega)]
    have e : T[p + k]'(by omega) = s[k] := by
      have h1 : (T.drop p)[k]? = some s[k] := by
        rw [hq, List.getElem?_append_left (by simpa using hk), List.getElem?_eq_getElem (by simpa using hk)]
        rfl
      rw [List.getElem?_drop, List.getElem?_eq_getElem (by omega)] at h1
      simpa using h1
    rw [e]
  clear hcell hq
  have d1 : decide ((T.length : Int) < (p : Int) + (s.size : Int)) = false := decide_eq_false (by omega)
  go_enter Try.func22, Try.ntmps22
  go_wp2
  go_loopw [7] (fun i wr => ∃ k n : Nat, k ≤ s.size ∧ i = .int .i64 k ∧ wr = w.drewN n) (fun i _ => s.size - (intOf i).toNat)
  case atStart => exact ⟨0, 0, Nat.zero_le _, rfl, rfl⟩
  case round =>
    obtain ⟨k, n, hk, rfl, rfl⟩ := hrel
    by_cases hlt : k < s.size
    · have c0 := HC.out k hlt
      have hki : (k : Int) < (s.size : Int) := by omega
      go_wp2
      go_quiet (fail)
      go_wp2
      go_roundw
      case rel => exact ⟨k + 1, _, by omega, by go_num, rfl⟩
      case measure => simp [intOf]; omega
    · go_wp2
      go_ret
      exact ⟨rfl, n, rfl⟩
end Go.Proofs.Qxb6601578a
