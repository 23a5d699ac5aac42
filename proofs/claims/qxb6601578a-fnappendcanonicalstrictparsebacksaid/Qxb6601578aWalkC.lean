import Derived.Test.Qxb6601578aWalkB
import Derived.Test.Qxb6601578aPlain2
namespace Go.Proofs.Qxb6601578a
open Go.RowKit
set_option linter.unusedSimpArgs false
set_option linter.unusedVariables false

theorem hide {p : Prop} (h : p) : Hid p := h

theorem lowerHex_core (c d : Int) (w : World) (h0 : 0 ≤ d) (h : (d < 10 ∧ c = 48 + d) ∨ (10 ≤ d ∧ d < 16 ∧ c = 87 + d)) :
    Calls Try.prog 20 #[.int .u8 c] w fun e w' => e = .returned (.tuple #[.int .u8 d, .bool true]) ∧ w' = w := by
  rcases h with ⟨h1, rfl⟩ | ⟨h1, h2, rfl⟩
  · go_enter Try.func20, Try.ntmps20
    go_wp2
    go_ret2
    exact ⟨by simp; omega, rfl⟩
  · go_enter Try.func20, Try.ntmps20
    go_wp2
    go_ret2
    exact ⟨by simp; omega, rfl⟩

theorem lowerHex (d : UInt8) (w : World) (h : (d.toNat : Int) < 16) :
    Calls Try.prog 20 #[.int .u8 ((Js.hexd d).toNat : Int)] w fun e w' => e = .returned (.tuple #[.int .u8 (d.toNat : Int), .bool true]) ∧ w' = w := by
  refine lowerHex_core _ _ w (by omega) ?_
  by_cases h1 : (d.toNat : Int) < 10
  · exact .inl ⟨h1, Js.hexd_lo d h1⟩
  · exact .inr ⟨by omega, h, Js.hexd_hi d (by omega) h⟩

theorem Buf.empty (w : World) : Buf w.heap.size (.slice (some ⟨w.heap.size, 0, none⟩) 0 0) [] w (w.alloc (.cells #[] 5)) :=
  ⟨World.ownsRow_made w #[] 0 (Nat.le_refl _) (by decide) rfl, (Below.refl _ _).alloc (Nat.le_refl _) _, by simp⟩

theorem Buf.snoc {B : Nat} {v : Value} {s : List UInt8} {k : Nat} {W0 w : World} (hk : k < s.length) (h : Buf B v (s.take k ++ [s[k]]) W0 w) : Buf B v (s.take (k + 1)) W0 w := by
  rw [Js.take_snoc s k hk]; exact h

set_option maxHeartbeats 4000000 in
set_option maxRecDepth 100000 in
theorem decode_core (T s rest : List UInt8) (p b off cap : Nat) (w : World) (hT : T.length ≤ 9223372036854775000) (hs : s.length ≤ 140737488355000) (hb : b < w.heap.size)
    (hcell : ∀ j, (h : j < T.length) → w.cell? ⟨b, off + j, none⟩ = some (.int .u8 (T[j]).toNat)) (hq : T.drop p = Js.quoted s ++ rest) :
    Calls Try.prog 13 #[.slice (some ⟨b, off, none⟩) T.length cap, .int .i64 p] w fun e w' =>
      ∃ v', e = .returned (.tuple #[v', .int .i64 ((p + (Js.quoted s).length : Nat) : Int), .bool true]) ∧ Buf w.heap.size v' s w w' := by
  obtain ⟨i0, hi, hz0, hz1, hz2⟩ := info_parts byteInfo
  have hq' : T.drop p = 34 :: (Js.escs s ++ 34 :: rest) := by rw [hq]; simp [Js.quoted]
  obtain ⟨hp, hp34, hp1⟩ := Js.drop_cons hq'
  have HC : Hid (∀ wx, Below w.heap.size w wx → ∀ j, (h : j < T.length) → wx.cell? ⟨b, off + j, none⟩ = some (.int .u8 (T[j]).toNat)) := fun wx hx j hj => by rw [hx.cell (by exact hb)]; exact hcell j hj
  have c0 : w.cell? ⟨b, off + p, none⟩ = some (.int .u8 34) := by rw [hcell p hp, hp34]; rfl
  have HP : Hid (T.drop (p + 1) = Js.escs s ++ 34 :: rest) := hp1
  have hq0 := Js.quoted_length s
  have HQ : Hid ((Js.quoted s).length = (Js.escs s).length + 2) := hq0
  clear hcell hq hq' hp34 hp1 hq0
  have d1 : decide ((p : Int) < 0) = false := decide_eq_false (by omega)
  have d2 : decide ((T.length : Int) ≤ (p : Int)) = false := decide_eq_false (by omega)
  have d3 : decide (T.length ≤ p) = false := decide_eq_false (by omega)
  go_enter Try.func13, Try.ntmps13
  go_wp2
  go_loopw [1, 7] (fun i o wr => ∃ k n : Nat, k ≤ s.length ∧ i = .int .i64 n ∧ Hid (T.drop n = Js.escs (s.drop k) ++ 34 :: rest) ∧ Hid (n + (Js.escs (s.drop k)).length = p + 1 + (Js.escs s).length) ∧ Buf w.heap.size o (s.take k) w wr)
    (fun i _ _ => T.length - (intOf i).toNat)
  case atStart => exact ⟨0, p + 1, Nat.zero_le _, by go_num, HP, rfl, Buf.empty w⟩
  case round =>
    obtain ⟨k, n, hk, rfl, HD, HN, hbuf⟩ := hrel
    clear c0
    have hlk : (s.take k).length ≤ s.length := by simp; omega
    by_cases hlt : k < s.length
    · obtain ⟨c, hc⟩ : ∃ c, c = s[k] := ⟨_, rfl⟩
      have hd := HD.out
      rw [Js.escs_drop s k hlt, ← hc] at hd
      have hn := HN.out
      rw [Js.escs_drop s k hlt, ← hc, List.length_append] at hn
      have HB : Hid (∀ v wx, Buf w.heap.size v (s.take k ++ [c]) w wx → Buf w.heap.size v (s.take (k + 1)) w wx) := fun v wx h => Buf.snoc hlt (by rw [← hc]; exact h)
      clear HD HN hc
      have hcase : (32 ≤ (c.toNat : Int) ∧ (c.toNat : Int) ≠ 34 ∧ (c.toNat : Int) ≠ 92) ∨ ((c.toNat : Int) = 34) ∨ ((c.toNat : Int) = 92) ∨ ((c.toNat : Int) = 8) ∨ ((c.toNat : Int) = 12) ∨ ((c.toNat : Int) = 10) ∨ ((c.toNat : Int) = 13) ∨ ((c.toNat : Int) = 9) ∨
          ((c.toNat : Int) < 32 ∧ (c.toNat : Int) ≠ 8 ∧ (c.toNat : Int) ≠ 12 ∧ (c.toNat : Int) ≠ 10 ∧ (c.toNat : Int) ≠ 13 ∧ (c.toNat : Int) ≠ 9) := by omega
      rcases hcase with ⟨c1, c2, c3⟩ | c1 | c1 | c1 | c1 | c1 | c1 | c1 | ⟨c1, c2, c3, c4, c5, c6⟩
      · rw [Js.esc_plain _ c1 c2 c3] at hd hn
        obtain ⟨h0, t0, hd⟩ := Js.drop_cons hd
        have e0 : wr.cell? ⟨b, off + n, none⟩ = some (.int .u8 c.toNat) := by rw [HC.out wr hbuf.2.1 n h0, t0]
        have b2 : ((c.toNat : Int) == 34) = false := beq_eq_false_iff_ne.2 c2
        have b3 : ((c.toNat : Int) != 92) = true := by rw [bne_iff_ne]; exact c3
        have HD := hide hd
        have HN := hide hn
        clear hd hn t0
        go_wp2_with (at_builtin; refine wpList_append_bytes rfl _ _ 22 rfl w.heap.size i0 Try.underlying22 hi hz0 hz1 hz2 _ _ rfl w _ _ _ (by exact hbuf) rfl [c] rfl rfl (by simp; omega) ?_; intro v2 w2 hb2)
        go_roundw
        case rel => exact ⟨k + 1, n + 1, by omega, by go_num, HD, (by have := HN.out; show _ = _; simp at this; omega), HB.out _ _ hb2⟩
        case measure => simp [intOf]; omega
      · obtain rfl : c = 34 := Js.u8_eq c1
        obtain ⟨h0, t0, hd⟩ := Js.drop_cons (a := 92) (r := 34 :: (Js.escs (s.drop (k + 1)) ++ 34 :: rest)) (by rw [hd]; rfl)
        obtain ⟨h1, t1, hd⟩ := Js.drop_cons hd
        have e0 : wr.cell? ⟨b, off + n, none⟩ = some (.int .u8 92) := by rw [HC.out wr hbuf.2.1 n h0, t0]; rfl
        have e1 : wr.cell? ⟨b, off + (n + 1), none⟩ = some (.int .u8 34) := by rw [HC.out wr hbuf.2.1 (n + 1) h1, t1]; rfl
        have HD := hide hd
        have HN : Hid (n + (2 + (Js.escs (s.drop (k + 1))).length) = p + 1 + (Js.escs s).length) := hn
        clear hd hn t0 t1 c1
        go_wp2_with (at_builtin; refine wpList_append_bytes rfl _ _ 22 rfl w.heap.size i0 Try.underlying22 hi hz0 hz1 hz2 _ _ rfl w _ _ _ (by exact hbuf) rfl [34] rfl rfl (by simp; omega) ?_; intro v2 w2 hb2)
        go_roundw
        case rel => exact ⟨k + 1, n + 2, by omega, by go_num, HD, (by have := HN.out; show _ = _; omega), HB.out _ _ hb2⟩
        case measure => simp [intOf]; omega
      · obtain rfl : c = 92 := Js.u8_eq c1
        obtain ⟨h0, t0, hd⟩ := Js.drop_cons (a := 92) (r := 92 :: (Js.escs (s.drop (k + 1)) ++ 34 :: rest)) (by rw [hd]; rfl)
        obtain ⟨h1, t1, hd⟩ := Js.drop_cons hd
        have e0 : wr.cell? ⟨b, off + n, none⟩ = some (.int .u8 92) := by rw [HC.out wr hbuf.2.1 n h0, t0]; rfl
        have e1 : wr.cell? ⟨b, off + (n + 1), none⟩ = some (.int .u8 92) := by rw [HC.out wr hbuf.2.1 (n + 1) h1, t1]; rfl
        have HD := hide hd
        have HN : Hid (n + (2 + (Js.escs (s.drop (k + 1))).length) = p + 1 + (Js.escs s).length) := hn
        clear hd hn t0 t1 c1
        go_wp2_with (at_builtin; refine wpList_append_bytes rfl _ _ 22 rfl w.heap.size i0 Try.underlying22 hi hz0 hz1 hz2 _ _ rfl w _ _ _ (by exact hbuf) rfl [92] rfl rfl (by simp; omega) ?_; intro v2 w2 hb2)
        go_roundw
        case rel => exact ⟨k + 1, n + 2, by omega, by go_num, HD, (by have := HN.out; show _ = _; omega), HB.out _ _ hb2⟩
        case measure => simp [intOf]; omega
      · obtain rfl : c = 8 := Js.u8_eq c1
        obtain ⟨h0, t0, hd⟩ := Js.drop_cons (a := 92) (r := 98 :: (Js.escs (s.drop (k + 1)) ++ 34 :: rest)) (by rw [hd]; rfl)
        obtain ⟨h1, t1, hd⟩ := Js.drop_cons hd
        have e0 : wr.cell? ⟨b, off + n, none⟩ = some (.int .u8 92) := by rw [HC.out wr hbuf.2.1 n h0, t0]; rfl
        have e1 : wr.cell? ⟨b, off + (n + 1), none⟩ = some (.int .u8 98) := by rw [HC.out wr hbuf.2.1 (n + 1) h1, t1]; rfl
        have HD := hide hd
        have HN : Hid (n + (2 + (Js.escs (s.drop (k + 1))).length) = p + 1 + (Js.escs s).length) := hn
        clear hd hn t0 t1 c1
        go_wp2_with (at_builtin; refine wpList_append_bytes rfl _ _ 22 rfl w.heap.size i0 Try.underlying22 hi hz0 hz1 hz2 _ _ rfl w _ _ _ (by exact hbuf) rfl [8] rfl rfl (by simp; omega) ?_; intro v2 w2 hb2)
        go_roundw
        case rel => exact ⟨k + 1, n + 2, by omega, by go_num, HD, (by have := HN.out; show _ = _; omega), HB.out _ _ hb2⟩
        case measure => simp [intOf]; omega
      · obtain rfl : c = 12 := Js.u8_eq c1
        obtain ⟨h0, t0, hd⟩ := Js.drop_cons (a := 92) (r := 102 :: (Js.escs (s.drop (k + 1)) ++ 34 :: rest)) (by rw [hd]; rfl)
        obtain ⟨h1, t1, hd⟩ := Js.drop_cons hd
        have e0 : wr.cell? ⟨b, off + n, none⟩ = some (.int .u8 92) := by rw [HC.out wr hbuf.2.1 n h0, t0]; rfl
        have e1 : wr.cell? ⟨b, off + (n + 1), none⟩ = some (.int .u8 102) := by rw [HC.out wr hbuf.2.1 (n + 1) h1, t1]; rfl
        have HD := hide hd
        have HN : Hid (n + (2 + (Js.escs (s.drop (k + 1))).length) = p + 1 + (Js.escs s).length) := hn
        clear hd hn t0 t1 c1
        go_wp2_with (at_builtin; refine wpList_append_bytes rfl _ _ 22 rfl w.heap.size i0 Try.underlying22 hi hz0 hz1 hz2 _ _ rfl w _ _ _ (by exact hbuf) rfl [12] rfl rfl (by simp; omega) ?_; intro v2 w2 hb2)
        go_roundw
        case rel => exact ⟨k + 1, n + 2, by omega, by go_num, HD, (by have := HN.out; show _ = _; omega), HB.out _ _ hb2⟩
        case measure => simp [intOf]; omega
      · obtain rfl : c = 10 := Js.u8_eq c1
        obtain ⟨h0, t0, hd⟩ := Js.drop_cons (a := 92) (r := 110 :: (Js.escs (s.drop (k + 1)) ++ 34 :: rest)) (by rw [hd]; rfl)
        obtain ⟨h1, t1, hd⟩ := Js.drop_cons hd
        have e0 : wr.cell? ⟨b, off + n, none⟩ = some (.int .u8 92) := by rw [HC.out wr hbuf.2.1 n h0, t0]; rfl
        have e1 : wr.cell? ⟨b, off + (n + 1), none⟩ = some (.int .u8 110) := by rw [HC.out wr hbuf.2.1 (n + 1) h1, t1]; rfl
        have HD := hide hd
        have HN : Hid (n + (2 + (Js.escs (s.drop (k + 1))).length) = p + 1 + (Js.escs s).length) := hn
        clear hd hn t0 t1 c1
        go_wp2_with (at_builtin; refine wpList_append_bytes rfl _ _ 22 rfl w.heap.size i0 Try.underlying22 hi hz0 hz1 hz2 _ _ rfl w _ _ _ (by exact hbuf) rfl [10] rfl rfl (by simp; omega) ?_; intro v2 w2 hb2)
        go_roundw
        case rel => exact ⟨k + 1, n + 2, by omega, by go_num, HD, (by have := HN.out; show _ = _; omega), HB.out _ _ hb2⟩
        case measure => simp [intOf]; omega
      · obtain rfl : c = 13 := Js.u8_eq c1
        obtain ⟨h0, t0, hd⟩ := Js.drop_cons (a := 92) (r := 114 :: (Js.escs (s.drop (k + 1)) ++ 34 :: rest)) (by rw [hd]; rfl)
        obtain ⟨h1, t1, hd⟩ := Js.drop_cons hd
        have e0 : wr.cell? ⟨b, off + n, none⟩ = some (.int .u8 92) := by rw [HC.out wr hbuf.2.1 n h0, t0]; rfl
        have e1 : wr.cell? ⟨b, off + (n + 1), none⟩ = some (.int .u8 114) := by rw [HC.out wr hbuf.2.1 (n + 1) h1, t1]; rfl
        have HD := hide hd
        have HN : Hid (n + (2 + (Js.escs (s.drop (k + 1))).length) = p + 1 + (Js.escs s).length) := hn
        clear hd hn t0 t1 c1
        go_wp2_with (at_builtin; refine wpList_append_bytes rfl _ _ 22 rfl w.heap.size i0 Try.underlying22 hi hz0 hz1 hz2 _ _ rfl w _ _ _ (by exact hbuf) rfl [13] rfl rfl (by simp; omega) ?_; intro v2 w2 hb2)
        go_roundw
        case rel => exact ⟨k + 1, n + 2, by omega, by go_num, HD, (by have := HN.out; show _ = _; omega), HB.out _ _ hb2⟩
        case measure => simp [intOf]; omega
      · obtain rfl : c = 9 := Js.u8_eq c1
        obtain ⟨h0, t0, hd⟩ := Js.drop_cons (a := 92) (r := 116 :: (Js.escs (s.drop (k + 1)) ++ 34 :: rest)) (by rw [hd]; rfl)
        obtain ⟨h1, t1, hd⟩ := Js.drop_cons hd
        have e0 : wr.cell? ⟨b, off + n, none⟩ = some (.int .u8 92) := by rw [HC.out wr hbuf.2.1 n h0, t0]; rfl
        have e1 : wr.cell? ⟨b, off + (n + 1), none⟩ = some (.int .u8 116) := by rw [HC.out wr hbuf.2.1 (n + 1) h1, t1]; rfl
        have HD := hide hd
        have HN : Hid (n + (2 + (Js.escs (s.drop (k + 1))).length) = p + 1 + (Js.escs s).length) := hn
        clear hd hn t0 t1 c1
        go_wp2_with (at_builtin; refine wpList_append_bytes rfl _ _ 22 rfl w.heap.size i0 Try.underlying22 hi hz0 hz1 hz2 _ _ rfl w _ _ _ (by exact hbuf) rfl [9] rfl rfl (by simp; omega) ?_; intro v2 w2 hb2)
        go_roundw
        case rel => exact ⟨k + 1, n + 2, by omega, by go_num, HD, (by have := HN.out; show _ = _; omega), HB.out _ _ hb2⟩
        case measure => simp [intOf]; omega
      · rw [Js.esc_ctl _ c1 c2 c3 c4 c5 c6] at hd hn
        have hlk1 : k + 1 ≤ s.length := hlt
        have x1 := Js.nib c
        have x2 := Js.nib_lo c
        have x3 := Js.nib_hi c c1
        have L1 := hide (lowerHex (c / 16))
        have L2 := hide (lowerHex (c % 16))
        obtain ⟨h0, t0, hd⟩ := Js.drop_cons hd
        obtain ⟨h1, t1, hd⟩ := Js.drop_cons hd
        obtain ⟨h2, t2, hd⟩ := Js.drop_cons hd
        obtain ⟨h3, t3, hd⟩ := Js.drop_cons hd
        obtain ⟨h4, t4, hd⟩ := Js.drop_cons hd
        obtain ⟨h5, t5, hd⟩ := Js.drop_cons hd
        have e0 : wr.cell? ⟨b, off + n, none⟩ = some (.int .u8 92) := by rw [HC.out wr hbuf.2.1 n h0, t0]; rfl
        have e1 : wr.cell? ⟨b, off + (n + 1), none⟩ = some (.int .u8 117) := by rw [HC.out wr hbuf.2.1 (n + 1) h1, t1]; rfl
        have e2 : wr.cell? ⟨b, off + (n + 2), none⟩ = some (.int .u8 48) := by rw [HC.out wr hbuf.2.1 (n + 2) h2, t2]; rfl
        have e3 : wr.cell? ⟨b, off + (n + 3), none⟩ = some (.int .u8 48) := by rw [HC.out wr hbuf.2.1 (n + 3) h3, t3]; rfl
        have e4 : wr.cell? ⟨b, off + (n + 4), none⟩ = some (.int .u8 (Js.hexd (c / 16)).toNat) := by rw [HC.out wr hbuf.2.1 (n + 4) h4, t4]
        have e5 : wr.cell? ⟨b, off + (n + 5), none⟩ = some (.int .u8 (Js.hexd (c % 16)).toNat) := by rw [HC.out wr hbuf.2.1 (n + 5) h5, t5]
        have HD := hide hd
        have HN : Hid (n + (6 + (Js.escs (s.drop (k + 1))).length) = p + 1 + (Js.escs s).length) := hn
        have HB6 : Hid (((c.toNat : Int) == 8) = false ∧ ((c.toNat : Int) == 12) = false ∧ ((c.toNat : Int) == 10) = false ∧ ((c.toNat : Int) == 13) = false ∧ ((c.toNat : Int) == 9) = false ∧ decide ((32 : Int) ≤ (c.toNat : Int)) = false) :=
          ⟨beq_eq_false_iff_ne.2 c2, beq_eq_false_iff_ne.2 c3, beq_eq_false_iff_ne.2 c4, beq_eq_false_iff_ne.2 c5, beq_eq_false_iff_ne.2 c6, decide_eq_false (by omega)⟩
        have HX : Hid ((c.toNat : Int) / 16 * 16 + (c.toNat : Int) % 16 = (c.toNat : Int) ∧ (c.toNat : Int) < 32) := ⟨by omega, c1⟩
        have M1 : Hid (∀ wx, Calls Try.prog 20 #[.int .u8 ((Js.hexd (c / 16)).toNat : Int)] wx fun e w' => e = .returned (.tuple #[.int .u8 ((c.toNat : Int) / 16), .bool true]) ∧ w' = wx) := fun wx => by
          have := L1.out wx (by omega)
          rw [UInt8.toNat_div] at this
          exact this
        have M2 : Hid (∀ wx, Calls Try.prog 20 #[.int .u8 ((Js.hexd (c % 16)).toNat : Int)] wx fun e w' => e = .returned (.tuple #[.int .u8 ((c.toNat : Int) % 16), .bool true]) ∧ w' = wx) := fun wx => by
          have := L2.out wx (by omega)
          rw [UInt8.toNat_mod] at this
          exact this
        have g1 : decide ((T.length : Int) ≤ (n : Int) + 5) = false := decide_eq_false (by omega)
        have g2 : decide ((T.length : Int) ≤ (n : Int) + 1) = false := decide_eq_false (by omega)
        clear hd hn t0 t1 t2 t3 t4 t5 h0 h1 h2 h3 h4 c1 c2 c3 c4 c5 c6 x1 x2 x3 L1 L2 hlt hk
        go_wp2_with fail
        refine (M1.out _).mono ?_
        rintro e w1 ⟨rfl, rfl⟩
        clear e0 e1 e2 e3 e4
        go_wp2_with fail
        refine (M2.out _).mono ?_
        rintro e w2 ⟨rfl, rfl⟩
        clear e5
        obtain ⟨x1, x2⟩ := HX.out
        obtain ⟨b1, b2, b3, b4, b5, b6⟩ := HB6.out
        go_wp2_with (at_builtin; refine wpList_append_bytes rfl _ _ 22 rfl w.heap.size i0 Try.underlying22 hi hz0 hz1 hz2 _ _ rfl w _ _ _ (by exact hbuf) rfl [c] rfl rfl (by simp; omega) ?_; intro v2 w2 hb2)
        go_roundw
        case rel => exact ⟨k + 1, n + 6, hlk1, by go_num, HD, (by have := HN.out; show _ = _; omega), HB.out _ _ hb2⟩
        case measure => simp [intOf]; omega
    · have hd := HD.out
      have hks : k = s.length := by omega
      rw [hks, List.drop_length, Js.escs_nil, List.nil_append] at hd
      have hn := HN.out
      rw [hks, List.drop_length, Js.escs_nil] at hn
      obtain ⟨h0, t0, hd⟩ := Js.drop_cons hd
      have e0 : wr.cell? ⟨b, off + n, none⟩ = some (.int .u8 34) := by rw [HC.out wr hbuf.2.1 n h0, t0]; rfl
      have hn1 : ((n : Int) + 1) = ((p + (Js.quoted s).length : Nat) : Int) := by have := HQ.out; simp at hn; omega
      have HN1 := hide hn1
      rw [hks, List.take_length] at hbuf
      clear hd hn t0 hn1 HD HN hks
      go_wp2
      go_ret3
      rw [← HN1.out]
      exact ⟨_, rfl, hbuf⟩
end Go.Proofs.Qxb6601578a
