import Derived.Test.Qxb6601578aWalkE
import Derived.Test.Qxb6601578aBufT
namespace Go.Proofs.Qxb6601578a
open Go.RowKit
set_option linter.unusedSimpArgs false
set_option linter.unusedVariables false

set_option maxHeartbeats 1000000 in
theorem clone_tight (x : Addr) (l : List UInt8) (cap : Nat) (w : World) (hm : l.length ≤ 140737488355328)
    (hcell : ∀ j, (h : j < l.length) → w.cell? (x.add j) = some (.int .u8 (l[j]).toNat)) :
    Calls Try.prog 8 #[.slice (some x) l.length cap] w fun e w' => ∃ v', e = .returned v' ∧ Buf w.heap.size v' l w w' ∧ Tight v' := by
  obtain ⟨i0, hi, hz0, hz1, hz2⟩ := info_parts byteInfo
  have hq := fun (wx : World) (a : Option Addr) (n c : Nat) => Lib.run_eql_slice_nil (P := Try.prog) wx 22 5 a n c 0 0 Try.underlying22
  have hsz : (Try.prog.info? 5).map (·.size) = some 1 := by rw [hi]; simp [hz1]
  obtain ⟨L, hL⟩ : ∃ L, L = bc l := ⟨_, rfl⟩
  have hLl : L.length = l.length := by rw [hL, bc_length]
  have HL := hide' hL
  have HLl := hide' hLl
  have H1 : Hid (∀ v ∈ L, v.oneCell' = true) := by rw [hL]; exact bc_one l
  have HC : Hid (∀ wx, Below w.heap.size w wx → ∀ j v, L[j]? = some v → wx.cell? (x.add j) = some v) := fun wx hb j v hj => by
    rw [hL] at hj
    have hj1 : j < l.length := by have := (List.getElem?_eq_some_iff.1 hj).1; simpa [bc] using this
    have hx := World.block_lt_of_cell? w _ (hcell j hj1)
    rw [hb.cell hx, hcell j hj1, ← hj]
    simp [bc, hj1]
  clear hcell hL hLl
  go_enter Try.func8, Try.ntmps8
  go_wp2_with (first
    | (at_make; refine wpList_make_full _ rfl _ _ 22 rfl w.heap.size 5 i0 (.int .u8 0) 1 Try.underlying22 hi hz0 hz1 _ _ _ _ l.length rfl rfl (by omega) (by omega) (by rw [hz2]; omega) (by unfold maxLen; omega) (Nat.le_refl _) ?_; intro w4 hown hgrow; obtain ⟨cur, hcur, hcl, bl4⟩ := made_row hown hgrow; clear hown hgrow)
    | (refine wpList_copy_splice rfl (.tmp 9) (.tmp 10) 22 22 rfl 5 Try.underlying22 hsz _ _ _ _ _ _ rfl rfl w.heap.size 0 cur 5 hcur L (by have := HLl.out; simp; omega) (fun _ => ⟨rfl, x, rfl, HC.out _ bl4⟩) (by have := HLl.out; omega) H1.out w.heap.size w bl4 (Nat.le_refl _) ?_; intro w5 hrow bl5))
  go_ret
  refine ⟨_, rfl, ⟨⟨by rw [bc_length, Nat.mul_one], .inr ⟨w.heap.size, l.length, _, rfl, Nat.le_refl _, hrow.out, Nat.le_refl _, by unfold maxLen; omega, ?_, ?_⟩⟩, bl5, bl5.size⟩, fun a n c h => by injection h with _ h2 h3; omega⟩
  · have := HLl.out
    simp [length_splice cur 0 L (by omega), hcl]
  · rw [← HL.out]
    have := HLl.out
    simp [splice, ← this]


theorem clone_anyT (ao : Option Addr) (l : List UInt8) (cap : Nat) (w : World) (hm : l.length ≤ 140737488355328) (h : InBytes w ao l cap) :
    Calls Try.prog 8 #[.slice ao l.length cap] w fun e w' => ∃ v', e = .returned v' ∧ Buf w.heap.size v' l w w' ∧ Tight v' := by
  rcases h with ⟨rfl, rfl, rfl⟩ | ⟨x, rfl, hc⟩
  · refine (clone_nil w).mono ?_
    rintro e w' ⟨rfl, rfl⟩
    exact ⟨_, rfl, Buf.nil _, fun a n c h => by injection h with _ h2 h3; omega⟩
  · exact clone_tight x l cap w hm hc
end Go.Proofs.Qxb6601578a
