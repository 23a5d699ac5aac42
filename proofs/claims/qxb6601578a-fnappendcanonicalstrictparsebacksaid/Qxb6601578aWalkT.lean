import Derived.Test.Qxb6601578aWalkA
import Derived.Test.Qxb6601578aBufT
namespace Go.Proofs.Qxb6601578a
open Go.RowKit
set_option linter.unusedSimpArgs false

set_option maxHeartbeats 1000000 in
theorem appendStringT (S : Nat → Prop) (v : Value) (l : List UInt8) (s : ByteArray) (W0 w : World) (hb : BufT S v l W0 w) (hl : l.length + 6 * s.size + 2 ≤ 140737488355328) :
    Calls Try.prog 10 #[v, .string s] w fun e w' => ∃ v', e = .returned v' ∧ BufT S v' (l ++ Js.quoted s.data.toList) W0 w' := by
  obtain ⟨i0, hi, hz0, hz1, hz2⟩ := info_parts byteInfo
  go_enter Try.func10, Try.ntmps10
  go_wp2_with (at_builtin; refine wpList_append_bytesT rfl _ _ 22 rfl S i0 Try.underlying22 hi hz0 hz1 hz2 _ _ rfl W0 _ _ _ (by assumption) rfl [34] rfl rfl (by simp; omega) ?_; intro v1 w1 hb1)
  go_loopw [0, 5, 6] (fun d st i wr => ∃ k j : Nat, j ≤ k ∧ k ≤ s.size ∧ st = .int .i64 j ∧ i = .int .i64 k ∧ BufT S d (l ++ 34 :: Js.escs (s.data.toList.take j)) W0 wr ∧
      Hid (Js.escs (s.data.toList.take k) = Js.escs (s.data.toList.take j) ++ (s.data.toList.take k).drop j)) (fun _ _ i _ => s.size - (intOf i).toNat)
  case atStart => exact ⟨0, 0, Nat.le_refl _, Nat.zero_le _, rfl, rfl, hb1, by show _ = _; simp [Js.escs]⟩
  case round =>
    obtain ⟨k, j, hjk, hk, rfl, rfl, hb2, HR⟩ := hrel
    clear hb hb1
    obtain ⟨L, hL⟩ : ∃ L, L = l ++ 34 :: Js.escs (s.data.toList.take j) := ⟨_, rfl⟩
    rw [← hL] at hb2
    have hLl : L.length ≤ l.length + 1 + 6 * j := by
      have := Js.escs_length (s.data.toList.take j)
      rw [hL]; simp only [List.length_append, List.length_cons, List.length_take] at this ⊢; omega
    have HL : Hid (L = l ++ 34 :: Js.escs (s.data.toList.take j)) := hL
    clear hL
    by_cases hlt : k < s.size
    · have hcase : (32 ≤ (s[k].toNat : Int) ∧ (s[k].toNat : Int) ≠ 34 ∧ (s[k].toNat : Int) ≠ 92) ∨ ((s[k].toNat : Int) = 34) ∨ ((s[k].toNat : Int) = 92) ∨ ((s[k].toNat : Int) = 8) ∨ ((s[k].toNat : Int) = 12) ∨ ((s[k].toNat : Int) = 10) ∨ ((s[k].toNat : Int) = 13) ∨ ((s[k].toNat : Int) = 9) ∨
          ((s[k].toNat : Int) < 32 ∧ (s[k].toNat : Int) ≠ 8 ∧ (s[k].toNat : Int) ≠ 12 ∧ (s[k].toNat : Int) ≠ 10 ∧ (s[k].toNat : Int) ≠ 13 ∧ (s[k].toNat : Int) ≠ 9) := by omega
      rcases hcase with ⟨c1, c2, c3⟩ | c1 | c1 | c1 | c1 | c1 | c1 | c1 | ⟨c1, c2, c3, c4, c5, c6⟩
      · have b2 : ((s[k].toNat : Int) != 34) = true := by rw [bne_iff_ne]; exact c2
        have b3 : ((s[k].toNat : Int) != 92) = true := by rw [bne_iff_ne]; exact c3
        have hesc : Js.esc s[k] = [s[k]] := Js.esc_plain _ c1 c2 c3
        have HE := Js.run_step s.data.toList j k hjk (by simpa using hlt) hesc HR.out
        have HE2 : Hid (Js.escs (s.data.toList.take (k + 1)) = Js.escs (s.data.toList.take j) ++ (s.data.toList.take (k + 1)).drop j) := HE
        clear HE hesc
        go_wp2
        go_roundw
        case rel => exact ⟨k + 1, j, by omega, by omega, rfl, by go_num, HL.out ▸ hb2, HE2⟩
        case measure => simp [intOf]; omega
      · have HE : Hid (Js.esc s[k] = [92, 34]) := by rw [Js.u8_eq (c := s[k]) (d := 34) c1]; rfl
        go_wp2_with (at_builtin; first
          | (refine wpList_append_strT rfl _ _ 22 9 rfl S i0 Try.underlying22 Try.underlying9 hi hz0 hz1 hz2 _ _ rfl W0 (by assumption) _ rfl (by simp [size_two]; omega) ?_; intro v2 w2 hb3)
          | (refine wpList_append_bytesT rfl _ _ 22 rfl S i0 Try.underlying22 hi hz0 hz1 hz2 _ _ rfl W0 _ _ _ (by assumption) rfl [92, 34] rfl rfl (by simp; omega) ?_; intro v2 w2 hb3))
        go_roundw
        case rel => exact ⟨k + 1, k + 1, by omega, by omega, by go_num, by go_num, by rw [← Js.stop_step s l L _ j k hlt HE.out HR.out HL.out]; exact hb3, by show _ = _; simp⟩
        case measure => simp [intOf]; omega
      · have HE : Hid (Js.esc s[k] = [92, 92]) := by rw [Js.u8_eq (c := s[k]) (d := 92) c1]; rfl
        go_wp2_with (at_builtin; first
          | (refine wpList_append_strT rfl _ _ 22 9 rfl S i0 Try.underlying22 Try.underlying9 hi hz0 hz1 hz2 _ _ rfl W0 (by assumption) _ rfl (by simp [size_two]; omega) ?_; intro v2 w2 hb3)
          | (refine wpList_append_bytesT rfl _ _ 22 rfl S i0 Try.underlying22 hi hz0 hz1 hz2 _ _ rfl W0 _ _ _ (by assumption) rfl [92, 92] rfl rfl (by simp; omega) ?_; intro v2 w2 hb3))
        go_roundw
        case rel => exact ⟨k + 1, k + 1, by omega, by omega, by go_num, by go_num, by rw [← Js.stop_step s l L _ j k hlt HE.out HR.out HL.out]; exact hb3, by show _ = _; simp⟩
        case measure => simp [intOf]; omega
      · have HE : Hid (Js.esc s[k] = [92, 98]) := by rw [Js.u8_eq (c := s[k]) (d := 8) c1]; rfl
        go_wp2_with (at_builtin; first
          | (refine wpList_append_strT rfl _ _ 22 9 rfl S i0 Try.underlying22 Try.underlying9 hi hz0 hz1 hz2 _ _ rfl W0 (by assumption) _ rfl (by simp [size_two]; omega) ?_; intro v2 w2 hb3)
          | (refine wpList_append_bytesT rfl _ _ 22 rfl S i0 Try.underlying22 hi hz0 hz1 hz2 _ _ rfl W0 _ _ _ (by assumption) rfl [92, 98] rfl rfl (by simp; omega) ?_; intro v2 w2 hb3))
        go_roundw
        case rel => exact ⟨k + 1, k + 1, by omega, by omega, by go_num, by go_num, by rw [← Js.stop_step s l L _ j k hlt HE.out HR.out HL.out]; exact hb3, by show _ = _; simp⟩
        case measure => simp [intOf]; omega
      · have HE : Hid (Js.esc s[k] = [92, 102]) := by rw [Js.u8_eq (c := s[k]) (d := 12) c1]; rfl
        go_wp2_with (at_builtin; first
          | (refine wpList_append_strT rfl _ _ 22 9 rfl S i0 Try.underlying22 Try.underlying9 hi hz0 hz1 hz2 _ _ rfl W0 (by assumption) _ rfl (by simp [size_two]; omega) ?_; intro v2 w2 hb3)
          | (refine wpList_append_bytesT rfl _ _ 22 rfl S i0 Try.underlying22 hi hz0 hz1 hz2 _ _ rfl W0 _ _ _ (by assumption) rfl [92, 102] rfl rfl (by simp; omega) ?_; intro v2 w2 hb3))
        go_roundw
        case rel => exact ⟨k + 1, k + 1, by omega, by omega, by go_num, by go_num, by rw [← Js.stop_step s l L _ j k hlt HE.out HR.out HL.out]; exact hb3, by show _ = _; simp⟩
        case measure => simp [intOf]; omega
      · have HE : Hid (Js.esc s[k] = [92, 110]) := by rw [Js.u8_eq (c := s[k]) (d := 10) c1]; rfl
        go_wp2_with (at_builtin; first
          | (refine wpList_append_strT rfl _ _ 22 9 rfl S i0 Try.underlying22 Try.underlying9 hi hz0 hz1 hz2 _ _ rfl W0 (by assumption) _ rfl (by simp [size_two]; omega) ?_; intro v2 w2 hb3)
          | (refine wpList_append_bytesT rfl _ _ 22 rfl S i0 Try.underlying22 hi hz0 hz1 hz2 _ _ rfl W0 _ _ _ (by assumption) rfl [92, 110] rfl rfl (by simp; omega) ?_; intro v2 w2 hb3))
        go_roundw
        case rel => exact ⟨k + 1, k + 1, by omega, by omega, by go_num, by go_num, by rw [← Js.stop_step s l L _ j k hlt HE.out HR.out HL.out]; exact hb3, by show _ = _; simp⟩
        case measure => simp [intOf]; omega
      · have HE : Hid (Js.esc s[k] = [92, 114]) := by rw [Js.u8_eq (c := s[k]) (d := 13) c1]; rfl
        go_wp2_with (at_builtin; first
          | (refine wpList_append_strT rfl _ _ 22 9 rfl S i0 Try.underlying22 Try.underlying9 hi hz0 hz1 hz2 _ _ rfl W0 (by assumption) _ rfl (by simp [size_two]; omega) ?_; intro v2 w2 hb3)
          | (refine wpList_append_bytesT rfl _ _ 22 rfl S i0 Try.underlying22 hi hz0 hz1 hz2 _ _ rfl W0 _ _ _ (by assumption) rfl [92, 114] rfl rfl (by simp; omega) ?_; intro v2 w2 hb3))
        go_roundw
        case rel => exact ⟨k + 1, k + 1, by omega, by omega, by go_num, by go_num, by rw [← Js.stop_step s l L _ j k hlt HE.out HR.out HL.out]; exact hb3, by show _ = _; simp⟩
        case measure => simp [intOf]; omega
      · have HE : Hid (Js.esc s[k] = [92, 116]) := by rw [Js.u8_eq (c := s[k]) (d := 9) c1]; rfl
        go_wp2_with (at_builtin; first
          | (refine wpList_append_strT rfl _ _ 22 9 rfl S i0 Try.underlying22 Try.underlying9 hi hz0 hz1 hz2 _ _ rfl W0 (by assumption) _ rfl (by simp [size_two]; omega) ?_; intro v2 w2 hb3)
          | (refine wpList_append_bytesT rfl _ _ 22 rfl S i0 Try.underlying22 hi hz0 hz1 hz2 _ _ rfl W0 _ _ _ (by assumption) rfl [92, 116] rfl rfl (by simp; omega) ?_; intro v2 w2 hb3))
        go_roundw
        case rel => exact ⟨k + 1, k + 1, by omega, by omega, by go_num, by go_num, by rw [← Js.stop_step s l L _ j k hlt HE.out HR.out HL.out]; exact hb3, by show _ = _; simp⟩
        case measure => simp [intOf]; omega
      · go_wp2_with (at_builtin; first
          | (refine wpList_append_strT rfl _ _ 22 9 rfl S i0 Try.underlying22 Try.underlying9 hi hz0 hz1 hz2 _ _ rfl W0 (by assumption) _ rfl (by simp [size_two]; omega) ?_; intro v2 w2 hb3)
          | (refine wpList_append_bytesT rfl _ _ 22 rfl S i0 Try.underlying22 hi hz0 hz1 hz2 _ _ rfl W0 _ _ _ (by assumption) rfl [92, 34] rfl rfl (by simp; omega) ?_; intro v2 w2 hb3))
        have hc0 : (0 : Int) ≤ (s[k].toNat : Int) := by omega
        have hand : bits BinOp.and IntKind.u8 (s[k].toNat : Int) 15 = (s[k].toNat : Int) % 16 := u8_and15 _ hc0 (by omega)
        have d1 : 0 ≤ (s[k].toNat : Int) / 16 ∧ (s[k].toNat : Int) / 16 < 16 := by omega
        have d2 : 0 ≤ (s[k].toNat : Int) % 16 ∧ (s[k].toNat : Int) % 16 < 16 := by omega
        have x1 := Js.hex_tab ((s[k].toNat : Int) / 16).toNat (s[k] / 16) (by rw [UInt8.toNat_div]; show _ = _ / 16; omega) (by omega)
        have x2 := Js.hex_tab ((s[k].toNat : Int) % 16).toNat (s[k] % 16) (by rw [UInt8.toNat_mod]; show _ = _ % 16; omega) (by omega)
        have HE : Hid (Js.esc s[k] = [92, 117, 48, 48, Js.hexd (s[k] / 16), Js.hexd (s[k] % 16)]) := Js.esc_ctl _ c1 c2 c3 c4 c5 c6
        go_region_law (refine step_append_bytesT rfl (.tmp 37) (.tmp 44) 22 rfl S i0 Try.underlying22 hi hz0 hz1 hz2 v2 _ (by simp [Act.eval]) W0 ((hb3.alloc _).drew) w2.heap.size 6 _ (by simp [Act.eval]) (heap_alloc_new w2 _) [92, 117, 48, 48, Js.hexd (s[k] / 16), Js.hexd (s[k] % 16)] rfl rfl (by simp; omega) ?_; intro v3 w3 hb4)
        all_goals
          clear x1 x2 d1 d2 hand hc0
          go_wp2
          go_roundw
          case rel => exact ⟨k + 1, k + 1, by omega, by omega, by go_num, by go_num, by rw [← Js.stop_step s l L _ j k hlt HE.out HR.out HL.out]; exact hb4, by show _ = _; simp⟩
          case measure => simp [intOf]; omega
    · go_wp2_with (at_builtin; first
          | (refine wpList_append_strT rfl _ _ 22 9 rfl S i0 Try.underlying22 Try.underlying9 hi hz0 hz1 hz2 _ _ rfl W0 (by assumption) _ rfl (by simp [size_two]; omega) ?_; intro v2 w2 hb3)
          | (refine wpList_append_bytesT rfl _ _ 22 rfl S i0 Try.underlying22 hi hz0 hz1 hz2 _ _ rfl W0 _ _ _ (by assumption) rfl [34] rfl rfl (by simp; omega) ?_; intro v2 w2 hb3))
      go_ret
      refine ⟨_, rfl, ?_⟩
      have hks : k = s.size := by omega
      rw [← Js.end_step s l L j k hks HR.out HL.out]
      exact hb3
end Go.Proofs.Qxb6601578a
