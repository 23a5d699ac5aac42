import Derived.Test.Qxb6601578aParse
import Derived.Test.Qxb6601578aRowIn
import Derived.Test.Qxb6601578aSame
namespace Go.Proofs.Qxb6601578a
open Go.RowKit
set_option linter.unusedSimpArgs false
set_option linter.unusedVariables false

theorem Js.join_drop (xs : List (List UInt8)) (j : Nat) (h : j < xs.length) : Js.join (xs.drop j) = xs[j] ++ (if j + 1 < xs.length then 44 :: Js.join (xs.drop (j + 1)) else []) := by
  rw [List.drop_eq_getElem_cons h]
  by_cases h2 : j + 1 < xs.length
  · rw [if_pos h2, List.drop_eq_getElem_cons h2]
    rfl
  · rw [if_neg h2, List.drop_eq_nil_of_le (by omega)]
    rfl

/-- How a value's text begins. -/
theorem Js.canon_head : ∀ (n : Nat) (d : Js.Doc n), Js.good n true d = true → ∃ c r, Js.canon n d = c :: r ∧ (c.toNat : Int) ≠ 93
  | 0, d, h => by cases h
  | n + 1, (k, t, is, ms), h => by
    have hgd : (decide (k ≤ 6) && (decide (k ≠ 3) || Js.isNum t)) = true := by
      have : (decide (k ≤ 6) && (decide (k ≠ 3) || Js.isNum t)) = true ∧ (is.all (Js.good n (decide (k = 5))) = true ∧ (ms.all fun m => Js.good n (decide (k = 6)) m.2) = true) := by simpa [Js.good] using h
      exact this.1
    by_cases h3 : k = 3
    · subst h3
      have hn : Js.isNum t = true := by simpa using hgd
      obtain ⟨c, r, e, hc⟩ := Js.num_head hn
      refine ⟨c, r, by rw [← e]; rfl, ?_⟩
      rcases hc with rfl | ⟨_, h2⟩
      · decide
      · have := u8_le.1 h2
        intro e2
        have h57 : (((57 : UInt8).toNat : Nat) : Int) = 57 := rfl
        omega
    · simp only [Js.canon, if_neg h3]
      repeat' split
      · exact ⟨_, _, rfl, by decide⟩
      · exact ⟨_, _, rfl, by decide⟩
      · exact ⟨_, _, rfl, by decide⟩
      · exact ⟨34, Js.escs t ++ [34], rfl, by decide⟩
      · exact ⟨_, _, rfl, by decide⟩
      · exact ⟨_, _, rfl, by decide⟩

theorem RowsOf.inn {α : Type} {S : Nat → Prop} {size : Nat} {w : World} {v : Value} {l : List α} {R R' : List Value → α → Prop} (hs : 0 < size) (h : RowsOf S size w v l R) (hR : ∀ cells x, x ∈ l → R cells x → R' cells x) :
    RowsOf (fun k => S k ∧ k < w.heap.size) size w v l R' := by
  obtain ⟨ao, cap, hv, h1, h2, h3, hc⟩ := h
  refine ⟨ao, cap, hv, h1, h2, h3, fun i hi => ?_⟩
  obtain ⟨b, off, cells, e, hb, hl, hcell, hr⟩ := hc i hi
  have h0 := hcell 0 hs
  rw [List.getElem?_eq_getElem (by omega)] at h0
  exact ⟨b, off, cells, e, ⟨hb, World.block_lt_of_cell? w _ h0⟩, hl, hcell, hR cells _ (List.getElem_mem hi) hr⟩

theorem Rep.inn {S : Nat → Prop} {w : World} : ∀ (n : Nat) (cs : List Value) (d : Js.Doc n), Rep S n w cs d → Rep (fun k => S k ∧ k < w.heap.size) n w cs d
  | 0, _, _, h => h
  | n + 1, cs, (k, t, is, ms), h => by
    obtain ⟨hk, s, c2, c3, e, h1, h2, h3, h4, h5⟩ := h
    refine ⟨hk, s, c2, c3, e, h1, h2, h3, fun e5 => (h4 e5).inn (by decide) fun cells x _ hx => Rep.inn n cells x hx, fun e6 => (h5 e6).inn (by decide) fun cells x _ hx => ?_⟩
    obtain ⟨nm, cs', e1, e2, hr⟩ := hx
    exact ⟨nm, cs', e1, e2, Rep.inn n cs' x.2 hr⟩

theorem keeps_item (n : Nat) : Keeps (fun S w cells (d : Js.Doc n) => Rep S n w cells d) := fun _ _ _ _ cells x hS hw h => Rep.keep hS hw n cells x h
theorem keeps_mem (n : Nat) : Keeps (fun S w cells (m : List UInt8 × Js.Doc n) => ∃ nm cs', cells = .string nm :: cs' ∧ nm.data.toList = m.1 ∧ Rep S n w cs' m.2) := fun _ _ _ _ cells x hS hw ⟨nm, cs', e1, e2, h⟩ => ⟨nm, cs', e1, e2, Rep.keep hS hw n cs' x.2 h⟩

/-- A struct of four cells in a block of its own. -/
theorem boxFacts {w : World} {g t : Nat} {x0 x1 x2 x3 : Value} (h : w.heap[g]? = some (.cells #[x0, x1, x2, x3] t (0, 0))) :
    w.cell? ⟨g, 0, none⟩ = some x0 ∧ w.cell? ⟨g, 1, none⟩ = some x1 ∧ w.cell? ⟨g, 2, none⟩ = some x2 ∧ w.cell? ⟨g, 3, none⟩ = some x3 ∧ (∀ j, w.frozen? ⟨g, j, none⟩ = false) :=
  ⟨by rw [cell_of_row w g 0 _ _ _ h]; rfl, by rw [cell_of_row w g 1 _ _ _ h]; rfl, by rw [cell_of_row w g 2 _ _ _ h]; rfl, by rw [cell_of_row w g 3 _ _ _ h]; rfl, fun j => frozen_of_row w g j _ _ h⟩

theorem valueInfo : (Try.prog.info? 40).map (fun i => (i.zero, i.size, i.bytes)) = some (some (.agg #[.int .u8 0, .string ⟨#[]⟩, .slice none 0 0, .slice none 0 0]), 4, 72) := by kernel_rfl
theorem memberInfo : (Try.prog.info? 53).map (fun i => (i.zero, i.size, i.bytes)) = some (some (.agg #[.string ⟨#[]⟩, .int .u8 0, .string ⟨#[]⟩, .slice none 0 0, .slice none 0 0]), 5, 88) := by kernel_rfl

theorem own_det {w : World} {B e size n : Nat} {v : Value} {xs ys : List Value} (h : w.ownsRow B e size v n xs) (h' : w.ownsRow B e size v n ys) : xs = ys := by
  rcases h.2 with ⟨hv, hn⟩ | ⟨g, c, cur, hv, _, hg, _, _, _, ht⟩
  · have h1 := h.1
    have h2 := h'.1
    rw [hn, Nat.zero_mul] at h1 h2
    rw [List.eq_nil_of_length_eq_zero h1, List.eq_nil_of_length_eq_zero h2]
  · rcases h'.2 with ⟨hv', hn'⟩ | ⟨g', c', cur', hv', _, hg', _, _, _, ht'⟩
    · rw [hv] at hv'; cases hv'
    · rw [hv] at hv'
      injection hv' with a1 _ _
      have : g = g' := by simpa using a1
      subst this
      rw [hg] at hg'
      have hc : cur = cur' := by simpa using hg'
      rw [← ht, ← ht', hc]

/-- The row behind a slice that is not empty. -/
theorem own_some {w : World} {B e size n : Nat} {v : Value} {xs : List Value} (h : w.ownsRow B e size v n xs) (hn : 0 < n) : ∃ g c, v = .slice (some ⟨g, 0, none⟩) n c ∧ B ≤ g := by
  rcases h.2 with ⟨_, h0⟩ | ⟨g, c, _, hv, hg, _⟩
  · omega
  · exact ⟨g, c, hv, hg⟩

abbrev ZeroBox : Obj := .cells #[.int .u8 0, .string ⟨#[]⟩, .slice none 0 0, .slice none 0 0] 40 (0, 0)

/-- The state of the loop over items. -/
def ItemsAt (n : Nat) (is : List (Js.Doc n)) (T rest : List UInt8) (E : Nat) (w : World) (m : Nat) (j : Nat) (vI : Value) (wr : World) : Prop :=
  j < is.length ∧ j ≤ m ∧ m < T.length ∧ T.drop m = Js.join ((is.map (Js.canon n)).drop j) ++ 93 :: rest ∧ m + (Js.join ((is.map (Js.canon n)).drop j)).length = E ∧
    wr.heap[w.heap.size]? = some ZeroBox ∧ wr.heap[w.heap.size + 1]? = some (.cells #[.int .u8 5, .string ⟨#[]⟩, vI, .slice none 0 0] 40 (0, 0)) ∧
    RowIn (w.heap.size + 2) 40 4 (fun S w cells (d : Js.Doc n) => Rep S n w cells d) wr vI (is.take j) ∧ Below w.heap.size w wr ∧ w.heap.size + 2 ≤ wr.heap.size

set_option maxHeartbeats 4000000 in
set_option maxRecDepth 100000 in
theorem parse_array (n : Nat) (ih : ParseSaid n) (is : List (Js.Doc n)) (T rest : List UInt8) (p b off cap q : Nat) (w : World) (hT : T.length ≤ 1099511627776) (hcap : T.length ≤ cap) (hb : b < w.heap.size) (hcell : TextAt w b off T)
    (hq : T.drop p = 91 :: (Js.join (is.map (Js.canon n)) ++ 93 :: rest)) (hg : ∀ d ∈ is, Js.good n true d = true) (hqq : q = p + (Js.join (is.map (Js.canon n))).length + 2) :
    Calls Try.prog 17 #[.slice (some ⟨b, off, none⟩) T.length cap, .int .i64 p] w fun e w' =>
      ∃ v, e = .returned (.tuple #[.agg #[.int .u8 5, .string ⟨#[]⟩, v, .slice none 0 0], .int .i64 (q : Int), .bool true]) ∧ RowsOf (fun k => w.heap.size ≤ k) 4 w' v is (fun cells d => Rep (fun k => w.heap.size ≤ k) n w' cells d) ∧ Below w.heap.size w w' := by
  obtain ⟨hp, hp0, hp1⟩ := Js.drop_cons hq
  have c0 : w.cell? ⟨b, off + p, none⟩ = some (.int .u8 91) := by rw [hcell p hp, hp0]; rfl
  have d1 : decide ((p : Int) < 0) = false := decide_eq_false (by omega)
  have d2 : decide ((T.length : Int) ≤ (p : Int)) = false := decide_eq_false (by omega)
  have d3 : decide (T.length ≤ p) = false := decide_eq_false (by omega)
  by_cases hnil : is = []
  · subst hnil
    obtain ⟨hp2, hp3, _⟩ := Js.drop_cons (show T.drop (p + 1) = 93 :: rest from hp1)
    have c1 : w.cell? ⟨b, off + (p + 1), none⟩ = some (.int .u8 93) := by rw [hcell (p + 1) hp2, hp3]; rfl
    have d4 : (p : Int) + 1 < (T.length : Int) := by omega
    have hqq' : Hid (q = p + 2) := by show q = p + 2; simpa [Js.join] using hqq
    clear hcell hq hp0 hp1 hp3 hqq ih hg
    go_enter Try.func17, Try.ntmps17
    go_wp2
    refine bodyPost_ret (v := .tuple #[.agg #[.int .u8 5, .string ⟨#[]⟩, .slice none 0 0, .slice none 0 0], .int .i64 (q : Int), .bool true]) (by rw [hqq'.out]; simp [results, Try.results17, go_sem]; try omega) rfl ⟨_, rfl, ?_, ?_⟩
    · exact ⟨none, 0, rfl, Nat.le_refl _, Nat.zero_le _, fun _ => ⟨rfl, rfl⟩, fun i hi => by cases hi⟩
    · repeat refine Below.setCell ?_ (by show _ ≤ _; first | exact Nat.le_refl _ | exact Nat.le_succ _) _
      exact two_below w _ _
  · have hlen : 0 < is.length := List.length_pos_iff.2 hnil
    obtain ⟨x, r0, hx, hx93⟩ := Js.canon_head n is[0] (hg _ (List.getElem_mem hlen))
    have hj0 : Js.join (is.map (Js.canon n)) = x :: (r0 ++ (if 0 + 1 < (is.map (Js.canon n)).length then 44 :: Js.join ((is.map (Js.canon n)).drop (0 + 1)) else [])) := by
      have h1 := Js.join_drop (is.map (Js.canon n)) 0 (by simpa using hlen)
      rw [List.drop_zero] at h1
      rw [h1, List.getElem_map, hx]; rfl
    obtain ⟨hp2, hp3, _⟩ := Js.drop_cons (show T.drop (p + 1) = x :: _ by rw [hp1, hj0]; rfl)
    have c1 : w.cell? ⟨b, off + (p + 1), none⟩ = some (.int .u8 (x.toNat : Int)) := by rw [hcell (p + 1) hp2, hp3]
    have d4 : (p : Int) + 1 < (T.length : Int) := by omega
    have b5 : ((x.toNat : Int) == 93) = false := beq_eq_false_iff_ne.2 hx93
    have HC : Hid (∀ W, Below w.heap.size w W → TextAt W b off T) := fun W hW => hcell.below hb hW
    have HG := hideN hg
    have HI := hideN ih
    obtain ⟨E, hE⟩ : ∃ E, E = p + 1 + (Js.join (is.map (Js.canon n))).length := ⟨_, rfl⟩
    have hqE : q = E + 1 := by omega
    have HS : Hid (ItemsAt n is T rest E w (p + 1) 0 (.slice none 0 0) ((w.alloc ZeroBox).alloc (.cells #[.int .u8 5, .string ⟨#[]⟩, .slice none 0 0, .slice none 0 0] 40))) :=
      ⟨hlen, Nat.zero_le _, hp2, hp1, hE.symm, (heap_alloc_old (w.alloc _) _ (r := w.heap.size) (by simp)).trans (heap_alloc_new w _), new_atT w _ _ 40, RowIn.nil _ _ _ _ _, two_below w _ _, by simp⟩
    clear hcell hq hp0 hp1 hp3 hqq ih hg hj0 hx hE hnil
    obtain ⟨i1, hi, hz0, hz1, hz2⟩ := info_parts valueInfo
    go_enter Try.func17, Try.ntmps17
    go_wp2
    go_loopw [1] (fun i wr => ∃ (m j : Nat) (vI : Value), i = .int .i64 m ∧ Hid (ItemsAt n is T rest E w m j vI wr)) (fun i _ => T.length - (intOf i).toNat)
    case atStart => exact ⟨p + 1, 0, _, by go_num, HS⟩
    case round =>
      obtain ⟨m, j, vI, rfl, HA⟩ := hrel
      clear HS c0 c1
      obtain ⟨hj, hjm, hm, hTm, hmE, k4, k7, hrow, hbl, hsz⟩ := HA.out
      have hxs : j < (is.map (Js.canon n)).length := by simpa using hj
      have hjd := Js.join_drop (is.map (Js.canon n)) j hxs
      rw [List.getElem_map] at hjd
      obtain ⟨tail, htail⟩ : ∃ tail, tail = (if j + 1 < (is.map (Js.canon n)).length then 44 :: Js.join ((is.map (Js.canon n)).drop (j + 1)) else []) ++ 93 :: rest := ⟨_, rfl⟩
      have hTm' : T.drop m = Js.canon n is[j] ++ tail := by rw [hTm, hjd, htail, List.append_assoc]
      have hok : Js.okRest tail := by
        rw [htail]
        split
        · exact Js.okRest.cons _ (.inl rfl)
        · exact Js.okRest.cons _ (.inr (.inl rfl))
      obtain ⟨m', hm'⟩ : ∃ m', m' = m + (Js.canon n is[j]).length := ⟨_, rfl⟩
      have hTd : T.drop m' = tail := by rw [hm', ← List.drop_drop, hTm', List.drop_left]
      have IH : Hid (Calls Try.prog 17 #[.slice (some ⟨b, off, none⟩) T.length cap, .int .i64 m] wr fun e w' =>
          ∃ cs, e = .returned (.tuple #[.agg cs.toArray, .int .i64 (m' : Int), .bool true]) ∧ Rep (fun k => wr.heap.size ≤ k) n w' cs is[j] ∧ Below wr.heap.size wr w') := by
        rw [hm']
        exact HI.out (is[j]'hj) T tail m b off cap wr hT hcap (by omega) (HC.out wr hbl) hTm' hok (HG.out _ (List.getElem_mem hj))
      have d6 : (m : Int) < (T.length : Int) := by omega
      have HTD := hideN hTd
      have HTL := hideN htail
      have HM := hideN hm'
      have HME := hideN hmE
      have HJD := hideN hjd
      have HROW := hideN hrow
      clear hTm hTm' hok hTd htail hm' hmE hjd hrow HA
      go_wp2_with fail
      refine IH.out.mono ?_
      rintro e w3 ⟨cs, rfl, hrep, hb3⟩
      obtain ⟨kd, sd, a2, a3, rfl, hs2, hs3⟩ := hrep.shape
      obtain ⟨ao2, n2, cp2, rfl⟩ := hs2
      obtain ⟨ao3, n3, cp3, rfl⟩ := hs3
      have HREP := hideN (Rep.inn n _ _ hrep)
      have k4' := (hb3.block w.heap.size (by omega)).trans k4
      have k7' := (hb3.block (w.heap.size + 1) (by omega)).trans k7
      obtain ⟨a0, a1, a2, a3, f4⟩ := boxFacts k4'
      obtain ⟨e0, e1, e2, e3, f7⟩ := boxFacts k7'
      have hsz3 := hb3.size
      have s1 : w.heap.size < w3.heap.size := by omega
      have s2 : w.heap.size + 1 < w3.heap.size := by omega
      have hmT : m' < T.length := by
        have := HTL.out
        rw [← HTD.out] at this
        refine Nat.lt_of_not_le fun hle => ?_
        rw [List.drop_eq_nil_of_le hle] at this
        have := congrArg List.length this
        simp at this
      have d7 : decide ((T.length : Int) ≤ (m' : Int)) = false := decide_eq_false (by omega)
      have d8 : decide (T.length ≤ m') = false := decide_eq_false (by omega)
      clear hrep k4 k7 IH
      obtain ⟨S, rows, hown, hrl, hri, hSk⟩ := HROW.out
      have hNj : (is.take j).length = j := by rw [List.length_take]; omega
      rw [hNj] at hown
      have hown3 : w3.ownsRow (w.heap.size + 2) 40 4 vI j rows.flatten := own_block hown (fun k hk => hb3.block k (hown.lt k hk).2)
      have hvs : ∃ ao c, vI = .slice ao j c := by
        rcases hown.2 with ⟨hv, hn⟩ | ⟨g, c, cur, hv, _⟩
        · exact ⟨none, 0, by rw [hv, hn]⟩
        · exact ⟨_, c, hv⟩
      obtain ⟨aoI, cI, rfl⟩ := hvs
      clear hri hSk hown hNj hrl
      go_wp2_with (at_builtin; refine wpList_append_place rfl _ _ 37 rfl (w.heap.size + 2) 40 i1 _ 4 72 Try.underlying37 hi hz0 hz1 hz2 rfl (by decide) _ _ _ rfl (by exact (hown3.alloc _).alloc _) _ 1 1 _ _ rfl (by exact new_atT _ _ _ _) _ rfl rfl (by simp [Value.oneCell']) (by unfold maxLen; omega) (by omega) (by simp; omega) ?_; intro v5 w5 h5a h5b h5c; revert h5c)
      intro h5c
      obtain ⟨g5, c5, rfl, hg5⟩ := own_some h5a (by omega)
      have hnb : ∀ k, k < w.heap.size + 2 → (Value.slice aoI j cI).ownBlock ≠ some k := fun k hk e => by have := (hown3.lt k e).1; omega
      have k4 := (h5b.block w.heap.size (by simp; omega) (fun e => hnb w.heap.size (by omega) e.symm)).trans ((two_old w3 _ _ _ s1).trans k4')
      have k7 := (h5b.block (w.heap.size + 1) (by simp; omega) (fun e => hnb (w.heap.size + 1) (by omega) e.symm)).trans ((two_old w3 _ _ _ s2).trans k7')
      have hbl5 : Below w.heap.size w w5 := ((hbl.trans (hb3.mono (by omega))).trans ((two_below w3 _ _).mono (by omega))).grown h5b (by simp; omega) (fun k hk => by have := (hown3.lt k hk).1; omega)
      have hsz5 := h5b.size
      obtain ⟨v5, hv5⟩ : ∃ v5, v5 = Value.slice (some ⟨g5, 0, none⟩) (j + 1) c5 := ⟨_, rfl⟩
      have hbl6 : Below w.heap.size w (w5.setCell ⟨w.heap.size + 1, 2, none⟩ v5) := hbl5.setCell (by show w.heap.size ≤ w.heap.size + 1; omega) _
      have k46 : (w5.setCell ⟨w.heap.size + 1, 2, none⟩ v5).heap[w.heap.size]? = some ZeroBox := (heap_setCell_other w5 _ _ _ (by show w.heap.size ≠ w.heap.size + 1; omega)).trans k4
      have k76 : (w5.setCell ⟨w.heap.size + 1, 2, none⟩ v5).heap[w.heap.size + 1]? = some (.cells #[.int .u8 5, .string ⟨#[]⟩, v5, .slice none 0 0] 40 (0, 0)) := heap_setCell_same w5 _ 2 _ _ v5 k7
      have hNj : (is.take j).length = j := by rw [List.length_take]; omega
      have hrow6 : RowIn (w.heap.size + 2) 40 4 (fun S w cells (d : Js.Doc n) => Rep S n w cells d) (w5.setCell ⟨w.heap.size + 1, 2, none⟩ v5) v5 (is.take (j + 1)) := by
        rw [List.take_succ_eq_append_getElem hj]
        exact HROW.out.step (keeps_item n) rows.flatten (w3 := w3) (w4 := (w3.alloc _).alloc _) (w5 := w5) (cells := [.int .u8 kd, .string sd, .slice ao2 n2 cp2, .slice ao3 n3 cp3]) (fun _ => by rw [hNj, hv5]; exact h5a)
          (fun rows2 h2 => by rw [hNj] at h2; exact own_det hown3 (own_block h2 (fun k hk => hb3.block k (h2.lt k hk).2)))
          hb3 (by omega) rfl HREP.out (fun k hk => two_old w3 _ _ k hk) (by simp; omega) h5b (by rw [hv5]; simpa using h5c)
          (fun k hk => heap_setCell_other w5 _ _ _ (by show k ≠ w.heap.size + 1; omega)) (by simp)
      have hsz6 : w.heap.size + 2 ≤ (w5.setCell ⟨w.heap.size + 1, 2, none⟩ v5).heap.size := by simp at hsz5 ⊢; omega
      have H6 := hideN (And.intro k46 (And.intro k76 (And.intro hrow6 (And.intro hbl6 hsz6))))
      obtain ⟨a0, a1, a2, a3, f4⟩ := boxFacts k4
      obtain ⟨e0, e1, e2, e3, f7⟩ := boxFacts k7
      have ct := HC.out w5 hbl5 m' hmT
      have hv5' := hideN hv5
      clear k46 k76 hrow6 hbl6 hsz6 k4 k7 k4' k7' h5a h5b h5c hown3 HROW HREP hv5 hnb
      have nb1 : ¬ b = w.heap.size + 1 := by omega
      have nb2 : ¬ w.heap.size + 1 = b := by omega
      have hTl := HTL.out
      rw [← HTD.out] at hTl
      have hlm : (is.map (Js.canon n)).length = is.length := List.length_map ..
      have hjd := HJD.out
      by_cases hlast : j + 1 < is.length
      · rw [if_pos (by omega)] at hTl hjd
        obtain ⟨_, t0, t1⟩ := Js.drop_cons hTl
        rw [t0] at ct
        have ct' : w5.cell? ⟨b, off + m', none⟩ = some (.int .u8 44) := ct
        have hm2 : m' + 1 < T.length := by
          refine Nat.lt_of_not_le fun hle => ?_
          rw [List.drop_eq_nil_of_le hle] at t1
          have := congrArg List.length t1
          simp at this
        have hE : m' + 1 + (Js.join ((is.map (Js.canon n)).drop (j + 1))).length = E := by
          have := HME.out
          rw [hjd, List.length_append, List.length_cons] at this
          have := HM.out
          omega
        have HN : Hid (ItemsAt n is T rest E w (m' + 1) (j + 1) v5 (w5.setCell ⟨w.heap.size + 1, 2, none⟩ v5)) :=
          ⟨hlast, by have := HM.out; omega, hm2, t1, hE, H6.out⟩
        have hmm : Hid (T.length - (m' + 1) < T.length - m) := by have := HM.out; show _ < _; omega
        clear hTl hjd t0 t1 hE ct H6 HTL HTD HM HME HJD
        go_wp2
        go_roundw
        case rel => exact ⟨m' + 1, j + 1, v5, by go_num, by rw [hv5'.out] at HN ⊢; exact HN⟩
        case measure => have := hmm.out; simp [intOf]; omega
      · rw [if_neg (by omega)] at hTl hjd
        obtain ⟨_, t0, t1⟩ := Js.drop_cons (show T.drop m' = 93 :: rest from hTl)
        rw [t0] at ct
        have ct' : w5.cell? ⟨b, off + m', none⟩ = some (.int .u8 93) := ct
        have hE : q = m' + 1 := by
          have := HME.out
          rw [hjd, List.length_append, List.length_nil] at this
          have := HM.out
          omega
        have hj1 : Hid (j + 1 = is.length) := by show j + 1 = is.length; omega
        have HE := hideN hE
        clear hTl hjd t0 t1 hE ct HTL HTD HM HME HJD hqE
        go_wp2
        have hvx := hv5'.out
        subst hvx
        refine bodyPost_ret (v := .tuple #[.agg #[.int .u8 5, .string ⟨#[]⟩, .slice (some ⟨g5, 0, none⟩) (j + 1) c5, .slice none 0 0], .int .i64 (q : Int), .bool true]) (by rw [HE.out]; simp [results, Try.results17, go_sem, a0, a1, a2, a3, e0, e1, e2, e3]) rfl ⟨_, rfl, ?_, ?_⟩
        · obtain ⟨_, _, hrow6, _, _⟩ := H6.out
          rw [hj1.out, List.take_length, ← hj1.out] at hrow6
          refine (hrow6.rows (keeps_item n) (fun k hk => ?_)).keep (fun k hk => by omega) (fun _ _ => rfl) (fun cells x _ hx => Rep.keep (fun k hk => by omega) (fun _ _ => rfl) n cells x hx)
          iterate 4 rw [heap_setCell_other _ _ k _ (by show k ≠ w.heap.size; omega)]
        · obtain ⟨_, _, _, hbl6, _⟩ := H6.out
          iterate 4 refine Below.setCell ?_ (by show w.heap.size ≤ w.heap.size; exact Nat.le_refl _) _
          exact hbl6
end Go.Proofs.Qxb6601578a
