import Derived.Test.Qxb6601578aRows
import Derived.Test.Qxb6601578aWalkE
import Derived.WalkKit
import Derived.ProofKit
import Derived.OpenShut
import Derived.ShutString
import Derived.ChangeOld
import Derived.Below
namespace Go.Proofs.Qxb6601578a
open Go.ChangeShapes Go.WideShapes Go.ChangeAt Go.RowKit
open Go.ChangeMaps (open_string shut_string)
set_option linter.unusedVariables false
set_option linter.unusedSimpArgs false

theorem own_zero {w : World} {B e size n : Nat} {v : Value} {xs : List Value} (h : w.ownsRow B e size v n xs) : w.ownsRow 0 e size v n xs := by
  refine ⟨h.1, ?_⟩
  rcases h.2 with hn | ⟨g, c, cur, hv, _, hr⟩
  · exact .inl hn
  · exact .inr ⟨g, c, cur, hv, Nat.zero_le _, hr⟩

set_option maxHeartbeats 1000000 in
theorem table_walk (ao : Option Addr) (l : List UInt8) (cap : Nat) (s : ByteArray) (w : World) (hl : l.length ≤ maxLen) (hs : s.size ≤ maxLen) (hin : InBytes w ao l cap) :
    Calls Try.prog 3 #[.slice ao l.length cap, .string s] w fun e w' => e = .returned (.bool true) ∧ Below w.heap.size w w' := by
  by_cases h : l.length + s.size ≤ 1048576
  · have h1 : l.length ≤ 1048576 := by omega
    have h2 : s.size ≤ 1048576 := by omega
    obtain ⟨i0, hi, hz0, hz1, hz2⟩ := info_parts byteInfo
    have HC := hide' (clone_any ao l cap w (by omega) hin)
    clear hin
    go_enter Try.func3, Try.ntmps3
    go_wp2_with (go_at_call 7; refine (bytes7_yes ao l.length cap s _ h).mono ?_; rintro e w0 ⟨rfl, rfl⟩)
    refine HC.out.mono ?_
    rintro e w1 ⟨v1, rfl, hb1⟩
    obtain ⟨a1, c1, hv1⟩ := hb1.form
    rw [hv1] at hb1 ⊢
    clear hv1 HC
    go_wp2_with (first
      | (at_make; refine wpList_make_own _ rfl _ _ 22 rfl w1.heap.size 5 i0 (.int .u8 0) 1 Try.underlying22 hi hz0 hz1 _ _ _ (l.length + 6 * s.size + 2) rfl rfl (by omega) (by rw [hz2]; omega) (by unfold maxLen; omega) (Nat.le_refl _) ?_; intro w2 hown hgrow; have hb2 : Buf w1.heap.size _ [] w1 w2 := ⟨hown, (Below.refl _ _).grown hgrow (Nat.le_refl _) (by simp), hgrow.size⟩; clear hown hgrow)
      | (at_builtin; refine wpList_append_buf rfl (.tmp 38) (.tmp 39) 22 rfl w1.heap.size i0 Try.underlying22 hi hz0 hz1 hz2 _ _ rfl w1 (by exact hb2) _ _ l _ (by exact hb1.carry hb2.2.1) rfl (by simp; omega) ?_; intro v3 w3 hb3)
      | (at_builtin; refine wpList_append_bytes rfl (.tmp 41) (.tmp 42) 22 rfl w1.heap.size i0 Try.underlying22 hi hz0 hz1 hz2 _ _ rfl w1 _ _ _ (by exact hb3) rfl [34] rfl rfl (by simp; omega) ?_; intro v4 w4 hb4))
    go_loopw [5, 6] (fun d i wr => ∃ k : Nat, k ≤ s.size ∧ i = .int .i64 k ∧ Buf w1.heap.size d (l ++ 34 :: Js.escs (s.data.toList.take k)) w1 wr) (fun _ i _ => s.size - (intOf i).toNat)
    case atStart => exact ⟨0, Nat.zero_le _, rfl, by simpa [Js.escs] using hb4⟩
    case round =>
      obtain ⟨k, hk, rfl, hb5⟩ := hrel
      clear hb2 hb3 hb4
      have hLl : (l ++ 34 :: Js.escs (s.data.toList.take k)).length ≤ l.length + 1 + 6 * k := by
        have := Js.escs_length (s.data.toList.take k)
        simp only [List.length_append, List.length_cons, List.length_take] at this ⊢; omega
      by_cases hlt : k < s.size
      · have HE : Hid (l ++ 34 :: Js.escs (s.data.toList.take k) ++ Js.esc s[k] = l ++ 34 :: Js.escs (s.data.toList.take (k + 1))) := by
          show _ = _
          rw [Js.escs_take_succ s.data.toList k (by simpa using hlt)]; simp; rfl
        generalize l ++ 34 :: Js.escs (s.data.toList.take k) = L at *
        go_wp2_with fail
        refine (escapeByte w1.heap.size _ L s[k] w1 _ (by exact hb5) (by omega)).mono ?_
        rintro e w6 ⟨v6, rfl, hb6⟩
        rw [HE.out] at hb6
        go_wp2
        go_roundw
        case rel => exact ⟨k + 1, by omega, by go_num, hb6⟩
        case measure => simp [intOf]; omega
      · have hks : k = s.size := by omega
        have hw : l ++ 34 :: Js.escs (s.data.toList.take k) ++ [34] = l ++ Js.quoted s.data.toList := by
          rw [hks, List.take_of_length_le (by simp)]; simp [Js.quoted]
        have HW := hide' hw
        have hql := Js.quoted_length s.data.toList
        have hel := Js.escs_length s.data.toList
        have hsl : s.data.toList.length = s.size := by simp
        have hQ : (l ++ Js.quoted s.data.toList).length ≤ 9223372036854775807 := by rw [List.length_append]; omega
        clear hw hks hql hel hsl
        generalize l ++ 34 :: Js.escs (s.data.toList.take k) = L at *
        go_wp2_with (at_builtin; refine wpList_append_bytes rfl (.tmp 55) (.tmp 56) 22 rfl w1.heap.size i0 Try.underlying22 hi hz0 hz1 hz2 _ _ rfl w1 _ _ _ (by exact hb5) rfl [34] rfl rfl (by simp; omega) ?_; intro v7 w7 hb7)
        rw [HW.out] at hb7
        have hd7 := hb1.carry hb7.2.1
        obtain ⟨g7, c7, hv7, _, _, hB7, hs7, _⟩ := hb7.shape (by rw [List.length_append, Js.quoted_length]; omega)
        have hS : BufS (fun k => k < w7.heap.size ∧ some k ≠ (Value.slice a1 l.length c1).ownBlock) (.slice a1 l.length c1) l w7 w7 :=
          ⟨own_zero hd7.1, Kept.refl _ _, fun k hk hk2 => hk2.2 hk.symm, fun k hk => hk.1⟩
        have hne : some g7 ≠ (Value.slice a1 l.length c1).ownBlock := fun e => by
          have := (hb1.1.lt g7 e.symm).2
          omega
        have hlow : ∀ k, k < w0.heap.size → some k ≠ (Value.slice a1 l.length c1).ownBlock := fun k hk e => by
          have := (hb1.1.lt k e.symm).1
          omega
        have bl : Below w0.heap.size w0 w7 := hb1.2.1.trans (hb7.2.1.mono hb1.2.1.size)
        have HS := hide' (appendStringS _ _ l s w7 w7 hS (by omega))
        have F : Hid (∀ wx, Kept (fun k => k < w7.heap.size ∧ some k ≠ (Value.slice a1 l.length c1).ownBlock) w7 wx → Below w0.heap.size w0 wx ∧ Reads wx v7 (l ++ Js.quoted s.data.toList)) := fun wx hx => by
          refine ⟨bl.trans ⟨hx.os, hx.tape, hx.output, hx.size, fun k hk => hx.block k ⟨by have := bl.size; omega, hlow k hk⟩⟩, ?_⟩
          obtain ⟨ao, c, hv, hc⟩ := hb7.reads
          refine ⟨ao, c, hv, fun i hi => ?_⟩
          obtain ⟨b, off, e, hcell⟩ := hc i hi
          refine ⟨b, off, e, ?_⟩
          have hbg : b = g7 := by
            rw [hv7] at hv
            injection hv with h1 _ _
            rw [e] at h1
            have h3 : b = g7 ∧ off = 0 := by simpa using h1.symm
            exact h3.1
          rw [World.cell?_of_block (w := w7) (hx.block b ⟨by rw [hbg]; exact hs7, by rw [hbg]; exact hne⟩)]
          exact hcell
        clear hb1 hb5 hb7 hd7 hS hne hlow bl HW hv7
        go_wp2_with fail
        refine HS.out.mono ?_
        rintro e w8 ⟨v8, rfl, hb8⟩
        obtain ⟨f1, f2⟩ := F.out _ hb8.2.1
        have r8 : Reads w8 v8 (l ++ Js.quoted s.data.toList) := Buf.reads (B := 0) (W0 := w8) ⟨hb8.1, Below.refl _ _, Nat.zero_le _⟩
        have HEq := hide' (zzEqual_reads v8 v7 _ w8 hQ r8 f2)
        clear hb8 r8 f2 F HS
        go_wp2_with fail
        refine HEq.out.mono ?_
        rintro e w9 ⟨rfl, n9, rfl⟩
        go_wp2
        go_ret
        exact ⟨rfl, ⟨f1.os, f1.tape, f1.output, f1.size, f1.block⟩⟩
  · unfold maxLen at hl hs
    go_enter Try.func3, Try.ntmps3
    go_wp2_with (go_at_call 7; refine (bytes7_no ao l.length cap s _ hl hs (by omega)).mono ?_; rintro e w0 ⟨rfl, rfl⟩)
    go_ret
    exact ⟨rfl, Below.refl _ _⟩

theorem table_own : ownKnob Try.prog.godebug = none := by kernel_rfl
theorem table_laidOut : laidOutB Try.prog = true := by kernel_rfl

/-- Numbers that fit a byte, as bytes. -/
theorem bytes_of (zs : List Int) (h : ∀ n ∈ zs, (Lit.int .u8 n).wf = true) : ∀ i, (hi : i < zs.length) → ((zs.map fun n => UInt8.ofNat n.toNat)[i]'(by simpa using hi)).toNat = zs.getD i 0 := by
  intro i hi
  have hb := Go.bounds_u8 (h zs[i] (List.getElem_mem hi))
  simp only [List.getElem_map, UInt8.toNat_ofNat']
  rw [show zs.getD i 0 = zs[i] from by simp [hi]]
  omega

set_option maxRecDepth 100000 in
theorem table_lifted (os : Os) (started : os.Started) (H : Type) (enc : TypeId × Value → H) :
    ReturnsInHanded {} Try.checked os 3 .any (Rows.fnAppendStringByteTableSpec.pre6 enc Try.prog Try.f3 Rows.fnAppendStringByteTableRow.domain false) (Rows.fnAppendStringByteTableSpec.post enc Try.prog Try.f3 false true false false) := by
  refine returnsInHanded_of_change (C := Try.checked) table_own started (by kernel_rfl) Try.func3
    (ChangeSpec.witness6 (enc := enc) (C := Try.checked) false ⟨#[], #[.slice none 0 0, .string ByteArray.empty], []⟩ 8 (by kernel_rfl) (by kernel_rfl) (by kernel_rfl) (by kernel_rfl)) ?_
  intro W base args ds gs before hval0 hW hcnd _
  have hval : ∀ (j : Nat) t v, Try.f3.params[j]? = some t → args[j]? = some v → Value.okWide Try.prog W .any base t v := hval0
  have hW' := hW
  obtain ⟨p, q, hA0, hV, rfl, hfz, hnd⟩ := hW
  have hA : DataW.TrodAll enc Try.prog W 0 (fun _ => true) true Try.f3.params.toList args.toList ds p := hA0
  rw [Try.params3] at hA hval
  obtain ⟨v0, vs0, d0, ds0, p0, q0, hargs, rfl, rfl, h0, r0⟩ := trodAll_cons hA
  obtain ⟨v1, vs1, d1, ds1, p1, q1, rfl, rfl, rfl, h1, r1⟩ := trodAll_cons r0
  obtain ⟨rfl, rfl, rfl⟩ := trodAll_nil r1
  obtain rfl : args = #[v0, v1] := by cases args; simp_all
  obtain ⟨rfl, rfl⟩ := trodVars_none hV
  obtain ⟨a0, len0, cap0, rfl⟩ := okWide_slice Try.underlying22 (hval 0 22 v0 rfl rfl)
  have k0 := h0
  have lt0 : ∀ x ∈ p0, x.block < W.heap.size := by obtain ⟨m, hm⟩ := k0; exact DataW.trod_lt m _ _ _ hm
  obtain ⟨l, hlen, hl, hin⟩ : ∃ l : List UInt8, l.length = len0 ∧ l.length ≤ maxLen ∧ InBytes W a0 l cap0 := by
    obtain ⟨fuel, hf⟩ := h0
    rcases open_ints Try.underlying22 Try.underlying5 (by kernel_rfl) hf with ⟨hcs, _⟩ | ⟨x, l, c, zs, hcs, _, hl, hm, hz, _, hcell, hwz⟩
    · simp [Value.cells] at hcs
      obtain ⟨rfl, rfl, rfl⟩ := hcs
      exact ⟨[], rfl, by simp, .inl ⟨rfl, rfl, rfl⟩⟩
    · simp [Value.cells] at hcs
      obtain ⟨rfl, rfl, rfl⟩ := hcs
      have hz' : zs.length = cap0 := by simpa using hz
      have hb := bytes_of zs hwz
      refine ⟨(zs.map fun n => UInt8.ofNat n.toNat).take len0, by simp; omega, by simp; omega, .inr ⟨_, rfl, fun j hj => ?_⟩⟩
      have hj1 : j < zs.length := by simp at hj; omega
      rw [hcell j hj1, List.getElem_take, hb j hj1]
  subst hlen
  obtain ⟨a1, rfl, rfl, rfl, w1⟩ := open_string Try.underlying9 (hval 1 9 v1 rfl rfl) h1
  clear hA0 hval0
  refine (table_walk a0 l cap0 a1 W hl w1 hin).mono fun e W' ⟨he, bel⟩ => ?_
  subst he
  exact ⟨_, rfl, _, _, _, [], _, [], hW', trodAll_mk1 (shut_bool Try.underlying4 _), (trodAll_cons_mk (Below.trod table_laidOut (by kernel_rfl) (of_decide_eq_true (by kernel_rfl)) k0 bel lt0) (trodAll_cons_mk (shut_string Try.underlying9 w1) trodAll_mk0)), rfl, bel.frame _, fun h => by cases h⟩

theorem table_proved : Rows.FnAppendStringByteTableSaid :=
  OpenClaim.holds_of_wide 3 Try.f3 rfl rfl rfl rfl rfl rfl rfl ⟨rfl, rfl, rfl, rfl, rfl⟩ rfl rfl rfl rfl rfl (by kernel_rfl) Try.func3 (by kernel_rfl)
    (of_decide_eq_true (by kernel_rfl)) (by unfold Func.isWrapper; first | (rw [if_pos (by decide +kernel)]; kernel_rfl) | (rw [if_neg (by decide +kernel)]; exact ⟨rfl, rfl⟩))
    (fun os started H enc _ => table_lifted os started H enc)
#print axioms table_proved
end Go.Proofs.Qxb6601578a
