import Derived.Test.Qxb6601578aRows
import Derived.Test.Qxb6601578aWalkB
import Derived.WalkKit
import Derived.ProofKit
import Derived.OpenShut
import Derived.ShutString
import Derived.ChangeOld
import Derived.Below
namespace Go.Proofs.Qxb6601578a
open Go.ChangeShapes Go.WideShapes Go.ChangeAt Go.RowKit
open Go.ChangeMaps (open_string shut_string)
set_option linter.unusedVariables false
set_option linter.unusedSimpArgs false

set_option maxHeartbeats 400000 in
theorem concat_walk (a b : ByteArray) (ha : a.size ≤ maxLen) (hb : b.size ≤ maxLen) (w : World) :
    Calls Try.prog 5 #[.string a, .string b] w fun e w' => e = .returned (.bool true) ∧ Below w.heap.size w w' := by
  by_cases h : a.size + b.size ≤ 1048576
  · have h1 : a.size ≤ 1048576 := by omega
    have h2 : b.size ≤ 1048576 := by omega
    obtain ⟨i0, hi, hz0, hz1, hz2⟩ := info_parts byteInfo
    go_enter Try.func5, Try.ntmps5
    go_wp2_with (go_at_call 14; refine (bytes14_yes a b _ h).mono ?_; rintro e w0 ⟨rfl, rfl⟩)
    have q0 := Js.quoted_append a.data.toList b.data.toList
    have q1 := Js.escs_length a.data.toList
    have q2 := Js.escs_length b.data.toList
    have l1 := Js.quoted_length a.data.toList
    have l2 := Js.quoted_length b.data.toList
    have hab : (a ++ b).data.toList = a.data.toList ++ b.data.toList := by simp
    have hsz : (a ++ b).size = a.size + b.size := by simp
    have hda : a.data.toList.length = a.size := by simp
    have hdb : b.data.toList.length = b.size := by simp
    refine (appendString w0.heap.size _ [] (a ++ b) w0 _ (Buf.nil w0) (by simp; omega)).mono ?_
    rintro e w1 ⟨v1, rfl, hb1⟩
    rw [List.nil_append, hab, q0] at hb1
    clear hab hsz
    have HQ : Hid (Js.quoted (a.data.toList ++ b.data.toList) = (Js.quoted a.data.toList).take ((Js.quoted a.data.toList).length - 1) ++ (Js.quoted b.data.toList).drop 1) := q0
    clear q0
    go_wp2_with fail
    refine (appendString w1.heap.size _ [] a w1 _ (Buf.nil w1) (by simp; omega)).mono ?_
    rintro e w2 ⟨v2, rfl, hb2⟩
    go_wp2_with fail
    refine (appendString w2.heap.size _ [] b w2 _ (Buf.nil w2) (by simp; omega)).mono ?_
    rintro e w3 ⟨v3, rfl, hb3⟩
    rw [List.nil_append] at hb2 hb3
    generalize Js.quoted a.data.toList = A at *
    generalize Js.quoted b.data.toList = C at *
    have lA : 2 ≤ A.length := by omega
    have lC : 2 ≤ C.length := by omega
    have uA : A.length ≤ 6291458 := by omega
    have uC : C.length ≤ 6291458 := by omega
    clear q1 q2 l1 l2 hda hdb
    obtain ⟨g2, c2, hv2, k2, m2, B2, s2, cell2⟩ := hb2.shape (by omega)
    obtain ⟨g3, c3, hv3, k3, m3, B3, s3, cell3⟩ := hb3.shape (by omega)
    have bl2 := hb2.2.1
    have bl3 := hb3.2.1
    have bl1 := hb1.2.1
    have r1 : Reads w3 v1 (A.take (A.length - 1) ++ C.drop 1) := (hb1.reads.below bl2 (Nat.le_refl _)).below bl3 (Nat.le_refl _)
    have cell2' : ∀ i, (hi : i < A.length) → w3.cell? ⟨g2, i, none⟩ = some (.int .u8 (A[i]).toNat) := fun i hi => by rw [bl3.cell (by exact s2)]; exact cell2 i hi
    have z1 := bl2.size
    have z2 := bl3.size
    clear hb1 hb2 hb3 cell2
    rw [hv2, hv3]
    clear hv2 hv3
    unfold maxLen at m2 m3
    have s2' : g2 < w3.heap.size := by omega
    have P2 : Hid (∀ wx, Below w3.heap.size w3 wx → ∀ j, (h : j < (A.take (A.length - 1)).length) → wx.cell? ⟨g2, 0 + j, none⟩ = some (.int .u8 ((A.take (A.length - 1))[j]).toNat)) := fun wx hx j hj => by
      rw [hx.cell (by exact s2'), Nat.zero_add, cell2' j (by simp at hj; omega)]; simp
    have P3 : Hid (∀ wx, Below w3.heap.size w3 wx → ∀ j, (h : j < (C.drop 1).length) → wx.cell? ⟨g3, 1 + j, none⟩ = some (.int .u8 ((C.drop 1)[j]).toNat)) := fun wx hx j hj => by
      rw [hx.cell (by exact s3), cell3 (1 + j) (by simp at hj; omega)]; simp [Nat.add_comm]
    clear cell2' cell3
    have R1 : Hid (∀ wx, Below w3.heap.size w3 wx → Reads wx v1 (A.take (A.length - 1) ++ C.drop 1)) := fun wx hx => r1.below hx (Nat.le_refl _)
    have F : Hid (∀ wx, Below w3.heap.size w3 wx → Below w0.heap.size w0 wx) := fun wx hx => bl1.trans ((bl2.mono (by have := bl1.size; omega)).trans ((bl3.mono (by have := bl1.size; omega)).trans (hx.mono (by have := bl1.size; omega))))
    clear r1 bl1 bl2 bl3
    go_wp2_with (first
      | (at_make; refine wpList_make_own _ rfl _ _ 22 rfl w3.heap.size 5 i0 (.int .u8 0) 1 Try.underlying22 hi hz0 hz1 _ _ _ (A.length + C.length) rfl rfl (by omega) (by rw [hz2]; omega) (by unfold maxLen; omega) (Nat.le_refl _) ?_; intro w4 hown hgrow; have hb4 : Buf w3.heap.size _ [] w3 w4 := ⟨hown, (Below.refl _ _).grown hgrow (Nat.le_refl _) (by simp), hgrow.size⟩; clear hown hgrow)
      | (at_builtin; refine wpList_append_slice rfl (.tmp 51) (.tmp 56) 22 rfl w3.heap.size i0 Try.underlying22 hi hz0 hz1 hz2 _ _ rfl w3 hb4 g2 0 (A.length - 1) c2 rfl (A.take (A.length - 1)) (by simp) (P2.out _ hb4.2.1) (by simp; omega) ?_; intro v5 w5 hb5; clear hb4)
      | (at_builtin; refine wpList_append_slice rfl (.tmp 58) (.tmp 60) 22 rfl w3.heap.size i0 Try.underlying22 hi hz0 hz1 hz2 _ _ rfl w3 hb5 g3 1 (C.length - 1) (c3 - 1) rfl (C.drop 1) (by simp) (P3.out _ hb5.2.1) (by simp; omega) ?_; intro v6 w6 hb6)
      | (go_at_call 11; refine (zzEqual_reads _ _ (A.take (A.length - 1) ++ C.drop 1) _ (by simp; omega) (R1.out _ hb6.2.1) hb6.reads).mono ?_; rintro e w7 ⟨rfl, n7, rfl⟩))
    go_ret
    exact ⟨rfl, F.out _ ⟨hb6.2.1.os, hb6.2.1.tape, hb6.2.1.output, hb6.2.1.size, hb6.2.1.block⟩⟩
  · unfold maxLen at ha hb
    go_enter Try.func5, Try.ntmps5
    go_wp2_with (go_at_call 14; refine (bytes14_no a b _ ha hb (by omega)).mono ?_; rintro e w0 ⟨rfl, rfl⟩)
    go_ret
    exact ⟨rfl, Below.refl _ _⟩

theorem own : ownKnob Try.prog.godebug = none := by kernel_rfl

set_option maxRecDepth 100000 in
theorem concat_lifted (os : Os) (started : os.Started) (H : Type) (enc : TypeId × Value → H) :
    ReturnsInHanded {} Try.checked os 5 .any (Rows.fnAppendStringConcatenatesSpec.pre6 enc Try.prog Try.f5 Rows.fnAppendStringConcatenatesRow.domain false) (Rows.fnAppendStringConcatenatesSpec.post enc Try.prog Try.f5 false true false false) := by
  refine returnsInHanded_of_change (C := Try.checked) own started (by kernel_rfl) Try.func5
    (ChangeSpec.witness6 (enc := enc) (C := Try.checked) false ⟨#[], #[.string ByteArray.empty, .string ByteArray.empty], []⟩ 8 (by kernel_rfl) (by kernel_rfl) (by kernel_rfl) (by kernel_rfl)) ?_
  intro W base args ds gs before hval0 hW hcnd _
  have hval : ∀ (j : Nat) t v, Try.f5.params[j]? = some t → args[j]? = some v → Value.okWide Try.prog W .any base t v := hval0
  have hW' := hW
  obtain ⟨p, q, hA0, hV, rfl, hfz, hnd⟩ := hW
  have hA : DataW.TrodAll enc Try.prog W 0 (fun _ => true) true Try.f5.params.toList args.toList ds p := hA0
  rw [Try.params5] at hA hval
  obtain ⟨v0, vs0, d0, ds0, p0, q0, hargs, rfl, rfl, h0, r0⟩ := trodAll_cons hA
  obtain ⟨v1, vs1, d1, ds1, p1, q1, rfl, rfl, rfl, h1, r1⟩ := trodAll_cons r0
  obtain ⟨rfl, rfl, rfl⟩ := trodAll_nil r1
  obtain rfl : args = #[v0, v1] := by cases args; simp_all
  obtain ⟨rfl, rfl⟩ := trodVars_none hV
  obtain ⟨a0, rfl, rfl, rfl, w0⟩ := open_string Try.underlying9 (hval 0 9 v0 rfl rfl) h0
  obtain ⟨a1, rfl, rfl, rfl, w1⟩ := open_string Try.underlying9 (hval 1 9 v1 rfl rfl) h1
  clear hA0 hval0
  refine (concat_walk a0 a1 w0 w1 W).mono fun e W' ⟨he, bel⟩ => ?_
  subst he
  exact ⟨_, rfl, _, _, _, [], [], [], hW', trodAll_mk1 (shut_bool Try.underlying4 _), (trodAll_cons_mk (shut_string Try.underlying9 w0) (trodAll_cons_mk (shut_string Try.underlying9 w1) trodAll_mk0)), rfl, bel.frame _, fun h => by cases h⟩

theorem concat_proved : Rows.FnAppendStringConcatenatesSaid :=
  OpenClaim.holds_of_wide 5 Try.f5 rfl rfl rfl rfl rfl rfl rfl ⟨rfl, rfl, rfl, rfl, rfl⟩ rfl rfl rfl rfl rfl (by kernel_rfl) Try.func5 (by kernel_rfl)
    (of_decide_eq_true (by kernel_rfl)) (by unfold Func.isWrapper; first | (rw [if_pos (by decide +kernel)]; kernel_rfl) | (rw [if_neg (by decide +kernel)]; exact ⟨rfl, rfl⟩))
    (fun os started H enc _ => concat_lifted os started H enc)
#print axioms concat_proved
end Go.Proofs.Qxb6601578a
