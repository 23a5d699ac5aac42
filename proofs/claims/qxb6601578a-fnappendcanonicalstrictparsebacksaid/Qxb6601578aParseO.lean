import Derived.Test.Qxb6601578aParseA
import Derived.Test.Qxb6601578aWalkE
namespace Go.Proofs.Qxb6601578a
open Go.RowKit
set_option linter.unusedSimpArgs false
set_option linter.unusedVariables false

/-- The state of the loop over members. -/
def MemsAt (n : Nat) (ms : List (List UInt8 × Js.Doc n)) (T rest : List UInt8) (E : Nat) (w : World) (m : Nat) (j : Nat) (vI : Value) (wr : World) : Prop :=
  j < ms.length ∧ j ≤ m ∧ m < T.length ∧ T.drop m = Js.join ((ms.map (memText n)).drop j) ++ 125 :: rest ∧ m + (Js.join ((ms.map (memText n)).drop j)).length = E ∧
    wr.heap[w.heap.size]? = some ZeroBox ∧ wr.heap[w.heap.size + 1]? = some (.cells #[.int .u8 6, .string ⟨#[]⟩, .slice none 0 0, vI] 40 (0, 0)) ∧
    RowIn (w.heap.size + 2) 53 5 (fun S w cells (m : List UInt8 × Js.Doc n) => ∃ nm cs', cells = .string nm :: cs' ∧ nm.data.toList = m.1 ∧ Rep S n w cs' m.2) wr vI (ms.take j) ∧ Below w.heap.size w wr ∧ w.heap.size + 2 ≤ wr.heap.size

set_option maxHeartbeats 4000000 in
set_option maxRecDepth 100000 in
theorem parse_object (n : Nat) (ih : ParseSaid n) (ms : List (List UInt8 × Js.Doc n)) (T rest : List UInt8) (p b off cap q : Nat) (w : World) (hT : T.length ≤ 1099511627776) (hcap : T.length ≤ cap) (hb : b < w.heap.size) (hcell : TextAt w b off T)
    (hq : T.drop p = 123 :: (Js.join (ms.map (memText n)) ++ 125 :: rest)) (hg : ∀ m ∈ ms, Js.good n true m.2 = true) (hqq : q = p + (Js.join (ms.map (memText n))).length + 2) :
    Calls Try.prog 17 #[.slice (some ⟨b, off, none⟩) T.length cap, .int .i64 p] w fun e w' =>
      ∃ v, e = .returned (.tuple #[.agg #[.int .u8 6, .string ⟨#[]⟩, .slice none 0 0, v], .int .i64 (q : Int), .bool true]) ∧ RowsOf (fun k => w.heap.size ≤ k) 5 w' v ms (fun cells m => ∃ nm cs', cells = .string nm :: cs' ∧ nm.data.toList = m.1 ∧ Rep (fun k => w.heap.size ≤ k) n w' cs' m.2) ∧ Below w.heap.size w w' := by
  obtain ⟨hp, hp0, hp1⟩ := Js.drop_cons hq
  have c0 : w.cell? ⟨b, off + p, none⟩ = some (.int .u8 123) := by rw [hcell p hp, hp0]; rfl
  have d1 : decide ((p : Int) < 0) = false := decide_eq_false (by omega)
  have d2 : decide ((T.length : Int) ≤ (p : Int)) = false := decide_eq_false (by omega)
  have d3 : decide (T.length ≤ p) = false := decide_eq_false (by omega)
  by_cases hnil : ms = []
  · subst hnil
    obtain ⟨hp2, hp3, _⟩ := Js.drop_cons (show T.drop (p + 1) = 125 :: rest from hp1)
    have c1 : w.cell? ⟨b, off + (p + 1), none⟩ = some (.int .u8 125) := by rw [hcell (p + 1) hp2, hp3]; rfl
    have d4 : (p : Int) + 1 < (T.length : Int) := by omega
    have hqq' : Hid (q = p + 2) := by show q = p + 2; simpa [Js.join] using hqq
    clear hcell hq hp0 hp1 hp3 hqq ih hg
    go_enter Try.func17, Try.ntmps17
    go_wp2
    refine bodyPost_ret (v := .tuple #[.agg #[.int .u8 6, .string ⟨#[]⟩, .slice none 0 0, .slice none 0 0], .int .i64 (q : Int), .bool true]) (by rw [hqq'.out]; simp [results, Try.results17, go_sem]; try omega) rfl ⟨_, rfl, ?_, ?_⟩
    · exact ⟨none, 0, rfl, Nat.le_refl _, Nat.zero_le _, fun _ => ⟨rfl, rfl⟩, fun i hi => by cases hi⟩
    · repeat refine Below.setCell ?_ (by show _ ≤ _; first | exact Nat.le_refl _ | exact Nat.le_succ _) _
      exact two_below w _ _
  · have hlen : 0 < ms.length := List.length_pos_iff.2 hnil
    obtain ⟨r0, hx⟩ : ∃ r0, memText n ms[0] = 34 :: r0 := ⟨(Js.escs (ms[0]'hlen).1 ++ [(34 : UInt8)]) ++ (58 : UInt8) :: Js.canon n (ms[0]'hlen).2, rfl⟩
    have hj0 : Js.join (ms.map (memText n)) = 34 :: (r0 ++ (if 0 + 1 < (ms.map (memText n)).length then 44 :: Js.join ((ms.map (memText n)).drop (0 + 1)) else [])) := by
      have h1 := Js.join_drop (ms.map (memText n)) 0 (by simpa using hlen)
      rw [List.drop_zero] at h1
      rw [h1, List.getElem_map, hx]; rfl
    obtain ⟨hp2, hp3, _⟩ := Js.drop_cons (show T.drop (p + 1) = 34 :: _ by rw [hp1, hj0]; rfl)
    have c1 : w.cell? ⟨b, off + (p + 1), none⟩ = some (.int .u8 34) := by rw [hcell (p + 1) hp2, hp3]; rfl
    have d4 : (p : Int) + 1 < (T.length : Int) := by omega
    have HC : Hid (∀ W, Below w.heap.size w W → TextAt W b off T) := fun W hW => hcell.below hb hW
    have HG := hideN hg
    have HI := hideN ih
    obtain ⟨E, hE⟩ : ∃ E, E = p + 1 + (Js.join (ms.map (memText n))).length := ⟨_, rfl⟩
    have hqE : q = E + 1 := by omega
    have HS : Hid (MemsAt n ms T rest E w (p + 1) 0 (.slice none 0 0) ((w.alloc ZeroBox).alloc (.cells #[.int .u8 6, .string ⟨#[]⟩, .slice none 0 0, .slice none 0 0] 40))) :=
      ⟨hlen, Nat.zero_le _, hp2, hp1, hE.symm, (heap_alloc_old (w.alloc _) _ (r := w.heap.size) (by simp)).trans (heap_alloc_new w _), new_atT w _ _ 40, RowIn.nil _ _ _ _ _, two_below w _ _, by simp⟩
    clear hcell hq hp0 hp1 hp3 hqq ih hg hj0 hx hE hnil
    obtain ⟨i1, hi, hz0, hz1, hz2⟩ := info_parts memberInfo
    go_enter Try.func17, Try.ntmps17
    go_wp2
    go_loopw [1] (fun i wr => ∃ (m j : Nat) (vI : Value), i = .int .i64 m ∧ Hid (MemsAt n ms T rest E w m j vI wr)) (fun i _ => T.length - (intOf i).toNat)
    case atStart => exact ⟨p + 1, 0, _, by go_num, HS⟩
    case round =>
      obtain ⟨m, j, vI, rfl, HA⟩ := hrel
      clear HS c0 c1
      obtain ⟨hj, hjm, hm, hTm, hmE, k4, k7, hrow, hbl, hsz⟩ := HA.out
      have hxs : j < (ms.map (memText n)).length := by simpa using hj
      have hjd := Js.join_drop (ms.map (memText n)) j hxs
      rw [List.getElem_map] at hjd
      obtain ⟨tail, htail⟩ : ∃ tail, tail = (if j + 1 < (ms.map (memText n)).length then 44 :: Js.join ((ms.map (memText n)).drop (j + 1)) else []) ++ 125 :: rest := ⟨_, rfl⟩
      obtain ⟨nm, hnm⟩ : ∃ nm, nm = (ms[j]'hj).1 := ⟨_, rfl⟩
      have hTm' : T.drop m = Js.quoted nm ++ (58 :: (Js.canon n (ms[j]'hj).2 ++ tail)) := by rw [hTm, hjd, htail, hnm]; simp [memText]
      have hok : Js.okRest tail := by
        rw [htail]
        split
        · exact Js.okRest.cons _ (.inl rfl)
        · exact Js.okRest.cons _ (.inr (.inr rfl))
      obtain ⟨m1, hm1⟩ : ∃ m1, m1 = m + (Js.quoted nm).length := ⟨_, rfl⟩
      obtain ⟨m', hm'⟩ : ∃ m', m' = m1 + 1 + (Js.canon n (ms[j]'hj).2).length := ⟨_, rfl⟩
      have hT1 : T.drop m1 = 58 :: (Js.canon n (ms[j]'hj).2 ++ tail) := by rw [hm1, ← List.drop_drop, hTm', List.drop_left]
      obtain ⟨hm1l, hc58, hT2⟩ := Js.drop_cons hT1
      have hTd : T.drop m' = tail := by rw [hm', ← List.drop_drop, hT2, List.drop_left]
      have hnl : nm.length ≤ T.length := by
        have h1 := congrArg List.length hTm'
        rw [List.length_drop, List.length_append] at h1
        have h2 := escs_ge nm
        have h3 := Js.quoted_length nm
        omega
      have hmlen : (memText n (ms[j]'hj)).length = (Js.quoted nm).length + 1 + (Js.canon n (ms[j]'hj).2).length := by rw [hnm]; simp [memText]; omega
      have HD : Hid (Calls Try.prog 13 #[.slice (some ⟨b, off, none⟩) T.length cap, .int .i64 m] wr fun e w' => ∃ v', e = .returned (.tuple #[v', .int .i64 (m1 : Int), .bool true]) ∧ Buf wr.heap.size v' nm wr w') := by
        rw [hm1]
        exact decode_core T nm _ m b off cap wr (by omega) (by omega) (by omega) (HC.out wr hbl) hTm'
      have IH : Hid (∀ W, Below w.heap.size w W → Calls Try.prog 17 #[.slice (some ⟨b, off, none⟩) T.length cap, .int .i64 ((m1 : Int) + 1)] W fun e w' =>
          ∃ cs, e = .returned (.tuple #[.agg cs.toArray, .int .i64 (m' : Int), .bool true]) ∧ Rep (fun k => W.heap.size ≤ k) n w' cs (ms[j]'hj).2 ∧ Below W.heap.size W w') := fun W hW => by
        rw [hm', show (m1 : Int) + 1 = ((m1 + 1 : Nat) : Int) by omega]
        exact HI.out (ms[j]'hj).2 T tail (m1 + 1) b off cap W hT hcap (by have := hW.size; omega) (HC.out W hW) hT2 hok (HG.out _ (List.getElem_mem hj))
      have d6 : (m : Int) < (T.length : Int) := by omega
      have HTD := hideN hTd
      have HTL := hideN htail
      have HM := hideN (show m' = m + (memText n (ms[j]'hj)).length by omega)
      have HME := hideN hmE
      have HJD := hideN hjd
      have HROW := hideN hrow
      have HNM := hideN hnm
      have d9 : decide ((T.length : Int) ≤ (m1 : Int)) = false := decide_eq_false (by omega)
      have d10 : decide (T.length ≤ m1) = false := decide_eq_false (by omega)
      have HC1 : Hid (∀ W, Below w.heap.size w W → W.cell? ⟨b, off + m1, none⟩ = some (.int .u8 58)) := fun W hW => by rw [HC.out W hW m1 hm1l, hc58]; rfl
      clear hTm hTm' hok hTd htail hm' hmE hjd hrow HA hm1 hT1 hc58 hT2 hnl hmlen hnm
      go_wp2_with fail
      refine HD.out.mono ?_
      rintro e w2 ⟨v2, rfl, hbuf⟩
      have hb2 := hbuf.2.1
      have hsz2 := hb2.size
      have hbl2 : Below w.heap.size w w2 := hbl.trans (hb2.mono (by omega))
      have c58 := HC1.out w2 hbl2
      have IH2 := hideN (IH.out w2 hbl2)
      clear HD IH HC1
      go_wp2_with fail
      refine IH2.out.mono ?_
      rintro e w3 ⟨cs, rfl, hrep, hb32⟩
      obtain ⟨kd, sd, a2, a3, rfl, hs2, hs3⟩ := hrep.shape
      obtain ⟨ao2, n2, cp2, rfl⟩ := hs2
      obtain ⟨ao3, n3, cp3, rfl⟩ := hs3
      have hsz32 := hb32.size
      have hb3 : Below wr.heap.size wr w3 := hb2.trans (hb32.mono hsz2)
      have HREP : Hid (Rep (fun k => wr.heap.size ≤ k ∧ k < w3.heap.size) n w3 [.int .u8 kd, .string sd, .slice ao2 n2 cp2, .slice ao3 n3 cp3] (ms[j]'hj).2) :=
        Rep.keep (fun k hk => ⟨by have := hk.1; omega, hk.2⟩) (fun _ _ => rfl) n _ _ (Rep.inn n _ _ hrep)
      have hcv : ∀ o, (convert 22 9 v2).run Try.prog (w3.alloc o) = .ok (.string ⟨nm.toArray⟩) (w3.alloc o) := fun o => (hbuf.carry (hb32.alloc (by omega) o)).toText
      have k4' := (hb3.block w.heap.size (by omega)).trans k4
      have k7' := (hb3.block (w.heap.size + 1) (by omega)).trans k7
      obtain ⟨a0, a1, a2, a3, f4⟩ := boxFacts k4'
      obtain ⟨e0, e1, e2, e3, f7⟩ := boxFacts k7'
      have hsz3 := hb3.size
      have s1 : w.heap.size < w3.heap.size := by omega
      have s2 : w.heap.size + 1 < w3.heap.size := by omega
      have hmT : m' < T.length := by
        have := HTL.out
        rw [← HTD.out] at this
        refine Nat.lt_of_not_le fun hle => ?_
        rw [List.drop_eq_nil_of_le hle] at this
        have := congrArg List.length this
        simp at this
      have d7 : decide ((T.length : Int) ≤ (m' : Int)) = false := decide_eq_false (by omega)
      have d8 : decide (T.length ≤ m') = false := decide_eq_false (by omega)
      clear hrep k4 k7 IH2 hbuf c58 hb2 hb32
      obtain ⟨S, rows, hown, hrl, hri, hSk⟩ := HROW.out
      have hNj : (ms.take j).length = j := by rw [List.length_take]; omega
      rw [hNj] at hown
      have hown3 : w3.ownsRow (w.heap.size + 2) 53 5 vI j rows.flatten := own_block hown (fun k hk => hb3.block k (hown.lt k hk).2)
      have hvs : ∃ ao c, vI = .slice ao j c := by
        rcases hown.2 with ⟨hv, hn⟩ | ⟨g, c, cur, hv, _⟩
        · exact ⟨none, 0, by rw [hv, hn]⟩
        · exact ⟨_, c, hv⟩
      obtain ⟨aoI, cI, rfl⟩ := hvs
      clear hri hSk hown hNj hrl
      go_wp2_with (at_builtin; refine wpList_append_place rfl _ _ 38 rfl (w.heap.size + 2) 53 i1 _ 5 88 Try.underlying38 hi hz0 hz1 hz2 rfl (by decide) _ _ _ rfl (by exact (hown3.alloc _).alloc _) _ 1 1 _ _ rfl (by exact new_atT _ _ _ _) _ rfl rfl (by simp [Value.oneCell']) (by unfold maxLen; omega) (by omega) (by simp; omega) ?_; intro v5 w5 h5a h5b h5c; revert h5c)
      intro h5c
      obtain ⟨g5, c5, rfl, hg5⟩ := own_some h5a (by omega)
      have hnb : ∀ k, k < w.heap.size + 2 → (Value.slice aoI j cI).ownBlock ≠ some k := fun k hk e => by have := (hown3.lt k e).1; omega
      have k4 := (h5b.block w.heap.size (by simp; omega) (fun e => hnb w.heap.size (by omega) e.symm)).trans ((two_old w3 _ _ _ s1).trans k4')
      have k7 := (h5b.block (w.heap.size + 1) (by simp; omega) (fun e => hnb (w.heap.size + 1) (by omega) e.symm)).trans ((two_old w3 _ _ _ s2).trans k7')
      have hbl5 : Below w.heap.size w w5 := ((hbl.trans (hb3.mono (by omega))).trans ((two_below w3 _ _).mono (by omega))).grown h5b (by simp; omega) (fun k hk => by have := (hown3.lt k hk).1; omega)
      have hsz5 := h5b.size
      obtain ⟨v5, hv5⟩ : ∃ v5, v5 = Value.slice (some ⟨g5, 0, none⟩) (j + 1) c5 := ⟨_, rfl⟩
      have hbl6 : Below w.heap.size w (w5.setCell ⟨w.heap.size + 1, 3, none⟩ v5) := hbl5.setCell (by show w.heap.size ≤ w.heap.size + 1; omega) _
      have k46 : (w5.setCell ⟨w.heap.size + 1, 3, none⟩ v5).heap[w.heap.size]? = some ZeroBox := (heap_setCell_other w5 _ _ _ (by show w.heap.size ≠ w.heap.size + 1; omega)).trans k4
      have k76 : (w5.setCell ⟨w.heap.size + 1, 3, none⟩ v5).heap[w.heap.size + 1]? = some (.cells #[.int .u8 6, .string ⟨#[]⟩, .slice none 0 0, v5] 40 (0, 0)) := heap_setCell_same w5 _ 3 _ _ v5 k7
      have hNj : (ms.take j).length = j := by rw [List.length_take]; omega
      have hrow6 : RowIn (w.heap.size + 2) 53 5 (fun S w cells (m : List UInt8 × Js.Doc n) => ∃ nm cs', cells = .string nm :: cs' ∧ nm.data.toList = m.1 ∧ Rep S n w cs' m.2) (w5.setCell ⟨w.heap.size + 1, 3, none⟩ v5) v5 (ms.take (j + 1)) := by
        rw [List.take_succ_eq_append_getElem hj]
        exact HROW.out.step (keeps_mem n) rows.flatten (w3 := w3) (w4 := (w3.alloc _).alloc _) (w5 := w5) (cells := [.string ⟨nm.toArray⟩, .int .u8 kd, .string sd, .slice ao2 n2 cp2, .slice ao3 n3 cp3]) (fun _ => by rw [hNj, hv5]; exact h5a)
          (fun rows2 h2 => by rw [hNj] at h2; exact own_det hown3 (own_block h2 (fun k hk => hb3.block k (h2.lt k hk).2)))
          hb3 (by omega) rfl ⟨⟨nm.toArray⟩, _, rfl, HNM.out, HREP.out⟩ (fun k hk => two_old w3 _ _ k hk) (by simp; omega) h5b (by rw [hv5]; simpa using h5c)
          (fun k hk => heap_setCell_other w5 _ _ _ (by show k ≠ w.heap.size + 1; omega)) (by simp)
      have hsz6 : w.heap.size + 2 ≤ (w5.setCell ⟨w.heap.size + 1, 3, none⟩ v5).heap.size := by simp at hsz5 ⊢; omega
      have H6 := hideN (And.intro k46 (And.intro k76 (And.intro hrow6 (And.intro hbl6 hsz6))))
      obtain ⟨a0, a1, a2, a3, f4⟩ := boxFacts k4
      obtain ⟨e0, e1, e2, e3, f7⟩ := boxFacts k7
      have ct := HC.out w5 hbl5 m' hmT
      have hv5' := hideN hv5
      clear k46 k76 hrow6 hbl6 hsz6 k4 k7 k4' k7' h5a h5b h5c hown3 HROW HREP hv5 hnb
      have nb1 : ¬ b = w.heap.size + 1 := by omega
      have nb2 : ¬ w.heap.size + 1 = b := by omega
      have hTl := HTL.out
      rw [← HTD.out] at hTl
      have hlm : (ms.map (memText n)).length = ms.length := List.length_map ..
      have hjd := HJD.out
      by_cases hlast : j + 1 < ms.length
      · rw [if_pos (by omega)] at hTl hjd
        obtain ⟨_, t0, t1⟩ := Js.drop_cons hTl
        rw [t0] at ct
        have ct' : w5.cell? ⟨b, off + m', none⟩ = some (.int .u8 44) := ct
        have hm2 : m' + 1 < T.length := by
          refine Nat.lt_of_not_le fun hle => ?_
          rw [List.drop_eq_nil_of_le hle] at t1
          have := congrArg List.length t1
          simp at this
        have hE : m' + 1 + (Js.join ((ms.map (memText n)).drop (j + 1))).length = E := by
          have := HME.out
          rw [hjd, List.length_append, List.length_cons] at this
          have := HM.out
          omega
        have HN : Hid (MemsAt n ms T rest E w (m' + 1) (j + 1) v5 (w5.setCell ⟨w.heap.size + 1, 3, none⟩ v5)) :=
          ⟨hlast, by have := HM.out; omega, hm2, t1, hE, H6.out⟩
        have hmm : Hid (T.length - (m' + 1) < T.length - m) := by have := HM.out; show _ < _; omega
        clear hTl hjd t0 t1 hE ct H6 HTL HTD HM HME HJD
        go_wp2
        go_roundw
        case rel => exact ⟨m' + 1, j + 1, v5, by go_num, by rw [hv5'.out] at HN ⊢; exact HN⟩
        case measure => have := hmm.out; simp [intOf]; omega
      · rw [if_neg (by omega)] at hTl hjd
        obtain ⟨_, t0, t1⟩ := Js.drop_cons (show T.drop m' = 125 :: rest from hTl)
        rw [t0] at ct
        have ct' : w5.cell? ⟨b, off + m', none⟩ = some (.int .u8 125) := ct
        have hE : q = m' + 1 := by
          have := HME.out
          rw [hjd, List.length_append, List.length_nil] at this
          have := HM.out
          omega
        have hj1 : Hid (j + 1 = ms.length) := by show j + 1 = ms.length; omega
        have HE := hideN hE
        clear hTl hjd t0 t1 hE ct HTL HTD HM HME HJD hqE
        go_wp2
        have hvx := hv5'.out
        subst hvx
        refine bodyPost_ret (v := .tuple #[.agg #[.int .u8 6, .string ⟨#[]⟩, .slice none 0 0, .slice (some ⟨g5, 0, none⟩) (j + 1) c5], .int .i64 (q : Int), .bool true]) (by rw [HE.out]; simp [results, Try.results17, go_sem, a0, a1, a2, a3, e0, e1, e2, e3]) rfl ⟨_, rfl, ?_, ?_⟩
        · obtain ⟨_, _, hrow6, _, _⟩ := H6.out
          rw [hj1.out, List.take_length, ← hj1.out] at hrow6
          refine (hrow6.rows (keeps_mem n) (fun k hk => ?_)).keep (fun k hk => by omega) (fun _ _ => rfl) (fun cells x _ hx => keeps_mem n _ _ _ _ cells x (fun k hk => by omega) (fun _ _ => rfl) hx)
          iterate 4 rw [heap_setCell_other _ _ k _ (by show k ≠ w.heap.size; omega)]
        · obtain ⟨_, _, _, hbl6, _⟩ := H6.out
          iterate 4 refine Below.setCell ?_ (by show w.heap.size ≤ w.heap.size; exact Nat.le_refl _) _
          exact hbl6

theorem parse : ∀ n, ParseSaid n
  | 0 => fun d => d.elim
  | n + 1 => fun (k, t, is, ms) T rest p b off cap w hT hcap hb hcell hq hok hg => by
    have hgd : (decide (k ≤ 6) && (decide (k ≠ 3) || Js.isNum t)) = true ∧ (is.all (Js.good n (decide (k = 5))) = true ∧ (ms.all fun m => Js.good n (decide (k = 6)) m.2) = true) := by
      simpa [Js.good] using hg
    obtain ⟨hg1, hg2, hg3⟩ := hgd
    have hk6 : k ≤ 6 := by simp at hg1; exact hg1.1
    have hcase : k = 0 ∨ k = 1 ∨ k = 2 ∨ k = 3 ∨ k = 4 ∨ k = 5 ∨ k = 6 := by omega
    rcases hcase with rfl | rfl | rfl | rfl | rfl | rfl | rfl
    · refine (parse_null T rest p b off cap w hT hb hcell hq).mono ?_
      rintro e w' ⟨rfl, hbl⟩
      exact ⟨[.int .u8 0, .string ⟨#[]⟩, .slice none 0 0, .slice none 0 0], rfl, ⟨by decide, _, _, _, rfl, fun h => by omega, ⟨_, _, _, rfl⟩, ⟨_, _, _, rfl⟩, fun h => by omega, fun h => by omega⟩, hbl⟩
    · refine (parse_false T rest p b off cap w hT hb hcell hq).mono ?_
      rintro e w' ⟨rfl, hbl⟩
      exact ⟨[.int .u8 1, .string ⟨#[]⟩, .slice none 0 0, .slice none 0 0], rfl, ⟨by decide, _, _, _, rfl, fun h => by omega, ⟨_, _, _, rfl⟩, ⟨_, _, _, rfl⟩, fun h => by omega, fun h => by omega⟩, hbl⟩
    · refine (parse_true T rest p b off cap w hT hb hcell hq).mono ?_
      rintro e w' ⟨rfl, hbl⟩
      exact ⟨[.int .u8 2, .string ⟨#[]⟩, .slice none 0 0, .slice none 0 0], rfl, ⟨by decide, _, _, _, rfl, fun h => by omega, ⟨_, _, _, rfl⟩, ⟨_, _, _, rfl⟩, fun h => by omega, fun h => by omega⟩, hbl⟩
    · have hn : Js.isNum t = true := by simpa using hg1
      refine (parse_num T t rest p b off cap _ w hT hcap hb hcell hq hok hn rfl).mono ?_
      rintro e w' ⟨rfl, hbl⟩
      exact ⟨[.int .u8 3, .string ⟨t.toArray⟩, .slice none 0 0, .slice none 0 0], rfl, ⟨by decide, _, _, _, rfl, fun _ => rfl, ⟨_, _, _, rfl⟩, ⟨_, _, _, rfl⟩, fun h => by omega, fun h => by omega⟩, hbl⟩
    · refine (parse_str T t rest p b off cap _ w hT hb hcell hq rfl).mono ?_
      rintro e w' ⟨rfl, hbl⟩
      exact ⟨[.int .u8 4, .string ⟨t.toArray⟩, .slice none 0 0, .slice none 0 0], rfl, ⟨by decide, _, _, _, rfl, fun _ => rfl, ⟨_, _, _, rfl⟩, ⟨_, _, _, rfl⟩, fun h => by omega, fun h => by omega⟩, hbl⟩
    · have hq' : T.drop p = 91 :: (Js.join (is.map (Js.canon n)) ++ 93 :: rest) := by rw [hq]; simp [Js.canon]
      have hl : (Js.canon (n + 1) (5, t, is, ms)).length = (Js.join (is.map (Js.canon n))).length + 2 := by simp [Js.canon]
      refine (parse_array n (parse n) is T rest p b off cap _ w hT hcap hb hcell hq' (fun d hd => by simpa using List.all_eq_true.1 hg2 d hd) rfl).mono ?_
      rintro e w' ⟨v, rfl, hrow, hbl⟩
      refine ⟨[.int .u8 5, .string ⟨#[]⟩, v, .slice none 0 0], ?_, ⟨by decide, _, _, _, rfl, fun h => by omega, hrow.isSlice, ⟨_, _, _, rfl⟩, fun _ => hrow, fun h => by omega⟩, hbl⟩
      rw [hl]; simp [Nat.add_assoc]
    · have hq' : T.drop p = 123 :: (Js.join (ms.map (memText n)) ++ 125 :: rest) := by rw [hq]; simp [Js.canon, memText]; rfl
      have hl : (Js.canon (n + 1) (6, t, is, ms)).length = (Js.join (ms.map (memText n))).length + 2 := by simp [Js.canon]; rfl
      refine (parse_object n (parse n) ms T rest p b off cap _ w hT hcap hb hcell hq' (fun m hm => by simpa using List.all_eq_true.1 hg3 m hm) rfl).mono ?_
      rintro e w' ⟨v, rfl, hrow, hbl⟩
      refine ⟨[.int .u8 6, .string ⟨#[]⟩, .slice none 0 0, v], ?_, ⟨by decide, _, _, _, rfl, fun h => by omega, ⟨_, _, _, rfl⟩, hrow.isSlice, fun h => by omega, fun _ => hrow⟩, hbl⟩
      rw [hl]; simp [Nat.add_assoc]
end Go.Proofs.Qxb6601578a
