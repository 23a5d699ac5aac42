import Derived.Test.Qxb6601578aSame
import Derived.BigQuiet
import Derived.Deep.QuietTactic
namespace Go.Proofs.Qxb6601578a
open Go.RowKit
set_option linter.unusedSimpArgs false
set_option linter.unusedVariables false

theorem bytes_ext {a b : ByteArray} (h : a.data.toList = b.data.toList) : a = b := by
  cases a with | mk x => cases b with | mk y =>
    have : x = y := Array.toList_inj.1 h
    rw [this]

set_option maxHeartbeats 1000000 in
theorem same_object (n : Nat) (ih : SameSaid n) (s s' : ByteArray) (ms : List (List UInt8 × Js.Doc n)) (c2 c3 d2 d3 : Value) (w : World)
    (ha : RowsOf (fun k => k < w.heap.size) 5 w c3 ms (fun cells m => ∃ nm cs', cells = .string nm :: cs' ∧ nm.data.toList = m.1 ∧ Rep (fun k => k < w.heap.size) n w cs' m.2))
    (hb : RowsOf (fun k => k < w.heap.size) 5 w d3 ms (fun cells m => ∃ nm cs', cells = .string nm :: cs' ∧ nm.data.toList = m.1 ∧ Rep (fun k => k < w.heap.size) n w cs' m.2)) :
    Calls Try.prog 18 #[.agg #[.int .u8 6, .string s, c2, c3], .agg #[.int .u8 6, .string s', d2, d3]] w fun e w' => e = .returned (.bool true) ∧ Below w.heap.size w w' := by
  obtain ⟨ao, cap, rfl, hc1, hc2, hnil, hrow⟩ := ha
  obtain ⟨bo, bap, rfl, hd1, hd2, hnil2, hrow2⟩ := hb
  unfold maxLen at hc2 hd2
  have HR := hideS hrow
  have HR2 := hideS hrow2
  clear hrow hnil hrow2 hnil2
  go_enter Try.func18, Try.ntmps18
  go_wp2
  go_loopw [6] (fun i wr => ∃ k : Nat, k ≤ ms.length ∧ i = .int .i64 k ∧ Below (w.heap.size + 2) ((w.alloc (.cells #[.int .u8 6, .string s, c2, .slice ao ms.length cap] 40)).alloc (.cells #[.int .u8 6, .string s', d2, .slice bo ms.length bap] 40)) wr) (fun i _ => ms.length - (intOf i).toNat)
  case atStart => exact ⟨0, Nat.zero_le _, rfl, Below.refl _ _⟩
  case round =>
    obtain ⟨k, hk, rfl, hbl⟩ := hrel
    have x1 : wr.cell? ⟨w.heap.size, 3, none⟩ = some (.slice ao ms.length cap) := by rw [hbl.cell (by show w.heap.size < _; omega), sbox_cell]; rfl
    have x2 : wr.cell? ⟨w.heap.size + 1, 3, none⟩ = some (.slice bo ms.length bap) := by rw [hbl.cell (by show w.heap.size + 1 < _; omega), sbox_cell2]; rfl
    have hold : ∀ k, k < w.heap.size → wr.heap[k]? = w.heap[k]? := fun k hk => by rw [hbl.block k (by omega)]; exact two_old w _ _ k hk
    have hsz : w.heap.size ≤ wr.heap.size := by have := hbl.size; simp at this; omega
    by_cases hlt : k < ms.length
    · obtain ⟨b, off, cells, rfl, hSb, hcl, hcell, nm, cs1, hcc, hnm, hrep⟩ := HR.out k hlt
      obtain ⟨b', off', cells', rfl, hSb', hcl', hcell', nm', cs1', hcc', hnm', hrep'⟩ := HR2.out k hlt
      obtain rfl : nm = nm' := bytes_ext (hnm.trans hnm'.symm)
      obtain ⟨kd, sd, a2, a3, hcs, hs2, hs3⟩ := hrep.shapeS
      obtain ⟨kd', sd', a2', a3', hcs', hs2', hs3'⟩ := hrep'.shapeS
      obtain ⟨ao2, n2, cp2, rfl⟩ := hs2
      obtain ⟨ao3, n3, cp3, rfl⟩ := hs3
      obtain ⟨bo2, m2, dp2, rfl⟩ := hs2'
      obtain ⟨bo3, m3, dp3, rfl⟩ := hs3'
      have hki : (k : Int) < (ms.length : Int) := by omega
      have hw : ∀ j, j < 5 → wr.cell? ⟨b, off + k * 5 + j, none⟩ = cells[j]? := fun j hj => by rw [World.cell?_of_block (w := w) (hold b hSb)]; exact hcell j hj
      have hw' : ∀ j, j < 5 → wr.cell? ⟨b', off' + k * 5 + j, none⟩ = cells'[j]? := fun j hj => by rw [World.cell?_of_block (w := w) (hold b' hSb')]; exact hcell' j hj
      rw [hcs] at hcc
      rw [hcs'] at hcc'
      have z0 : wr.cell? ⟨b, off + k * 5, none⟩ = some (.string nm) := by have := hw 0 (by omega); rw [hcc] at this; simpa using this
      have e0 : wr.cell? ⟨b, off + k * 5 + 1, none⟩ = some (.int .u8 kd) := by have := hw 1 (by omega); rw [hcc] at this; simpa using this
      have e1 : wr.cell? ⟨b, off + k * 5 + 1 + 1, none⟩ = some (.string sd) := by have := hw 2 (by omega); rw [hcc] at this; simpa [Nat.add_assoc] using this
      have e2 : wr.cell? ⟨b, off + k * 5 + 1 + 2, none⟩ = some (.slice ao2 n2 cp2) := by have := hw 3 (by omega); rw [hcc] at this; simpa [Nat.add_assoc] using this
      have e3 : wr.cell? ⟨b, off + k * 5 + 1 + 3, none⟩ = some (.slice ao3 n3 cp3) := by have := hw 4 (by omega); rw [hcc] at this; simpa [Nat.add_assoc] using this
      have z1 : wr.cell? ⟨b', off' + k * 5, none⟩ = some (.string nm) := by have := hw' 0 (by omega); rw [hcc'] at this; simpa using this
      have f0 : wr.cell? ⟨b', off' + k * 5 + 1, none⟩ = some (.int .u8 kd') := by have := hw' 1 (by omega); rw [hcc'] at this; simpa using this
      have f1 : wr.cell? ⟨b', off' + k * 5 + 1 + 1, none⟩ = some (.string sd') := by have := hw' 2 (by omega); rw [hcc'] at this; simpa [Nat.add_assoc] using this
      have f2 : wr.cell? ⟨b', off' + k * 5 + 1 + 2, none⟩ = some (.slice bo2 m2 dp2) := by have := hw' 3 (by omega); rw [hcc'] at this; simpa [Nat.add_assoc] using this
      have f3 : wr.cell? ⟨b', off' + k * 5 + 1 + 3, none⟩ = some (.slice bo3 m3 dp3) := by have := hw' 4 (by omega); rw [hcc'] at this; simpa [Nat.add_assoc] using this
      rw [hcs] at hrep
      rw [hcs'] at hrep'
      have IH : Hid (∀ W : World, (∀ k, k < w.heap.size → W.heap[k]? = w.heap[k]?) → w.heap.size ≤ W.heap.size → Calls Try.prog 18 #[.agg #[.int .u8 kd, .string sd, .slice ao2 n2 cp2, .slice ao3 n3 cp3], .agg #[.int .u8 kd', .string sd', .slice bo2 m2 dp2, .slice bo3 m3 dp3]] W fun e w' => e = .returned (.bool true) ∧ Below W.heap.size W w') := fun W h1 h2 =>
        ih _ _ _ W (Rep.keep (fun k hk => Nat.lt_of_lt_of_le hk h2) h1 n _ _ hrep) (Rep.keep (fun k hk => Nat.lt_of_lt_of_le hk h2) h1 n _ _ hrep')
      have HO := hideS hold
      clear hw hw' hcell hcell' hcl hcl' hrep hrep' hcs hcs' ih hold hcc hcc' hnm hnm'
      go_wp2
      go_quiet (fail)
      go_wp2
      go_region_with (go_at_call 18; refine (IH.out _ (by exact HO.out) (by exact hsz)).mono ?_; rintro e w3 ⟨rfl, hb3⟩)
      all_goals
        go_wp2
        go_roundw
        case rel => exact ⟨k + 1, by omega, by go_num, hbl.trans (Below.mono (B := wr.heap.size) ⟨hb3.os, hb3.tape, hb3.output, hb3.size, hb3.block⟩ (by have := hbl.size; simp at this; omega))⟩
        case measure => simp [intOf]; omega
    · go_wp2
      go_ret
      exact ⟨rfl, (((Below.refl _ _).alloc (Nat.le_refl _) _).alloc (by simp) _).trans (hbl.mono (by omega))⟩

theorem same : ∀ n, SameSaid n
  | 0 => fun d => d.elim
  | n + 1 => fun (k, t, is, ms) ca cb w ha hb => by
    obtain ⟨hk, s, c2, c3, rfl, h1, h2, h3, h4, h5⟩ := ha
    obtain ⟨_, s', d2, d3, rfl, g1, g2, g3, g4, g5⟩ := hb
    have hcase : (k = 3 ∨ k = 4) ∨ k = 5 ∨ k = 6 ∨ (k ≠ 3 ∧ k ≠ 4 ∧ k ≠ 5 ∧ k ≠ 6) := by omega
    rcases hcase with h | rfl | rfl | h
    · obtain rfl : s = s' := bytes_ext ((h1 h).trans (g1 h).symm)
      exact same_text k h s c2 c3 d2 d3 w
    · exact same_array n (same n) s s' is c2 c3 d2 d3 w (h4 rfl) (g4 rfl)
    · exact same_object n (same n) s s' ms c2 c3 d2 d3 w (h5 rfl) (g5 rfl)
    · exact same_plain k h hk s s' c2 c3 d2 d3 w
end Go.Proofs.Qxb6601578a
