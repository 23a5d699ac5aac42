import Derived.Test.Qxb6601578aConv
import Derived.Test.Qxb6601578aParseO
import Derived.Test.Qxb6601578aSame2
import Derived.Test.Qxb6601578aCloneT
namespace Go.Proofs.Qxb6601578a
open Go.RowKit
set_option linter.unusedSimpArgs false
set_option linter.unusedVariables false

/-- A row that holds the bytes lies as a text. -/
theorem BufT.shape {S : Nat → Prop} {v : Value} {l : List UInt8} {W0 w : World} (h : BufT S v l W0 w) (hl : 0 < l.length) :
    ∃ g cap, v = .slice (some ⟨g, 0, none⟩) l.length cap ∧ l.length ≤ cap ∧ g < w.heap.size ∧ TextAt w g 0 l := by
  rcases h.1.2 with ⟨_, h0⟩ | ⟨g, cap, cur, hv, _, hg, hc, hm, hs, ht⟩
  · omega
  · refine ⟨g, cap, hv, hc, (Array.getElem?_eq_some_iff.1 hg).1, fun j hj => ?_⟩
    have := h.1.cells (g := g) (by rw [hv]; rfl) j (.int .u8 (l[j]).toNat) (by simp [bc, hj])
    rw [Addr.add_lit] at this
    exact this

/-- The front of a text, read as a slice. -/
theorem TextAt.front {w : World} {g : Nat} {l r : List UInt8} (h : TextAt w g 0 (l ++ r)) (cap : Nat) : Reads w (.slice (some ⟨g, 0, none⟩) l.length cap) l :=
  ⟨_, _, rfl, fun i hi => ⟨g, 0, rfl, by rw [h i (by rw [List.length_append]; omega), List.getElem_append_left hi]⟩⟩

theorem InBytes.below {w w' : World} {ao : Option Addr} {l : List UInt8} {cap : Nat} (h : InBytes w ao l cap) (hb : Below w.heap.size w w') : InBytes w' ao l cap := by
  rcases h with h | ⟨x, e, hc⟩
  · exact .inl h
  · exact .inr ⟨x, e, fun j hj => by rw [hb.cell (World.block_lt_of_cell? w _ (hc j hj))]; exact hc j hj⟩

theorem own_base {w : World} {B e size n : Nat} {v : Value} {xs : List Value} (h : w.ownsRow B e size v n xs) : w.ownsRow 0 e size v n xs := by
  refine ⟨h.1, ?_⟩
  rcases h.2 with hn | ⟨g, c, cur, hv, _, hr⟩
  · exact .inl hn
  · exact .inr ⟨g, c, cur, hv, Nat.zero_le _, hr⟩

set_option maxHeartbeats 4000000 in
set_option maxRecDepth 100000 in
theorem law_walk (N : Nat) (d : Js.Doc N) (k : Int) (s : ByteArray) (c2 c3 : Value) (ao : Option Addr) (l : List UInt8) (cap : Nat) (w : World) (hl : l.length ≤ maxLen) (hin : InBytes w ao l cap)
    (hf : Full (fun k => k < w.heap.size) N w [.int .u8 k, .string s, c2, c3] d) (hs : Js.small N d) :
    Calls Try.prog 6 #[.slice ao l.length cap, .agg #[.int .u8 k, .string s, c2, c3]] w fun e w' => e = .returned (.bool true) ∧ Below w.heap.size w w' := by
  unfold maxLen at hl
  obtain ⟨a2, n2, p2, rfl⟩ : IsSlice c2 := by obtain ⟨_, _, _, _, e, h1, h2⟩ := hf.shape; simp at e; obtain ⟨_, _, rfl, rfl⟩ := e; exact h1
  obtain ⟨a3, n3, p3, rfl⟩ : IsSlice c3 := by obtain ⟨_, _, _, _, e, h1, h2⟩ := hf.shape; simp at e; obtain ⟨_, _, rfl, rfl⟩ := e; exact h2
  by_cases hbig : 1048576 < l.length
  · have d1 : decide ((1048576 : Int) < (l.length : Int)) = true := decide_eq_true (by omega)
    clear hf hin
    go_enter Try.func6, Try.ntmps6
    go_wp2
    go_ret
    exact ⟨rfl, (Below.refl _ _).alloc (Nat.le_refl _) _⟩
  · have d1 : decide ((1048576 : Int) < (l.length : Int)) = false := decide_eq_false (by omega)
    obtain ⟨w1, hw1⟩ : ∃ w1, w1 = w.alloc (.cells #[.int .u8 k, .string s, .slice a2 n2 p2, .slice a3 n3 p3] 35) := ⟨_, rfl⟩
    have hb1 : Below w.heap.size w w1 := by rw [hw1]; exact (Below.refl _ _).alloc (Nat.le_refl _) _
    have hs1 := hb1.size
    have HCV : Hid (Calls Try.prog 15 #[.agg #[.int .u8 k, .string s, .slice a2 n2 p2, .slice a3 n3 p3], .int .i64 (1048576 - (l.length : Int)), .bool true] w1 (ConvPost N d (1048576 - l.length) true w1)) := by
      rw [show (1048576 : Int) - (l.length : Int) = ((1048576 - l.length : Nat) : Int) by omega]
      exact conv N d _ _ true w1 (Full.keep (fun k hk => by omega) (fun k hk => hb1.block k hk) N _ _ hf) hs (by omega)
    have HW1 := hideN hw1
    have HIN := hideN hin
    have HB1 := hideN hb1
    clear hf hin hw1 hb1
    go_enter Try.func6, Try.ntmps6
    go_wp2_with fail
    rw [← HW1.out]
    refine HCV.out.mono ?_
    rintro e w2 ⟨kd, sd, _, _, rest, ok, ⟨ao4, n4, cp4, rfl⟩, ⟨ao5, n5, cp5, rfl⟩, rfl, hb2, hres⟩
    have hb2' : Below w.heap.size w w2 := HB1.out.trans (hb2.mono (by omega))
    have hs2 := hb2.size
    have HB2 := hideN hb2'
    have HB21 := hideN hb2
    by_cases hneg : rest < 0
    · have dn : decide (rest < 0) = true := decide_eq_true hneg
      clear hb2 hb2' hres
      go_wp2
      go_ret
      exact ⟨rfl, HB2.out.alloc (by omega) _⟩
    · have dn : decide (rest < 0) = false := decide_eq_false hneg
      obtain ⟨hr0, hrc, hok, hfl⟩ := hres.resolve_left hneg
      cases ok with
      | false =>
        clear hb2 hb2' hfl hrc hok
        go_wp2
        go_ret
        exact ⟨rfl, HB2.out.alloc (by omega) _⟩
      | true =>
        have hgd : Js.good N true d = true := hok.symm
        have hcost : l.length + Js.cost N d ≤ 1048576 := by omega
        obtain ⟨w3, hw3⟩ : ∃ w3, w3 = w2.alloc (.cells #[.int .u8 kd, .string sd, .slice ao4 n4 cp4, .slice ao5 n5 cp5] 40) := ⟨_, rfl⟩
        have hs3 : w3.heap.size = w2.heap.size + 1 := by rw [hw3]; simp
        have hb3 : Below w2.heap.size w2 w3 := by rw [hw3]; exact (Below.refl _ _).alloc (Nat.le_refl _) _
        have hdoc3 : w3.heap[w2.heap.size]? = some (.cells #[.int .u8 kd, .string sd, .slice ao4 n4 cp4, .slice ao5 n5 cp5] 40 (0, 0)) := by rw [hw3]; exact heap_alloc_new w2 _
        have hbw3 : Below w.heap.size w w3 := hb2'.trans (hb3.mono (by omega))
        have HCL := hideN (clone_anyT ao l cap w3 (by omega) (HIN.out.below hbw3))
        have HREP : Hid (∀ W, (∀ x, x < w2.heap.size → W.heap[x]? = w2.heap[x]?) → w2.heap.size ≤ W.heap.size → Rep (fun x => x < W.heap.size) N W [.int .u8 kd, .string sd, .slice ao4 n4 cp4, .slice ao5 n5 cp5] d) := fun W h1 h2 =>
          Rep.keep (fun x hx => by have := hx.2; omega) (fun x hx => h1 x hx.2) N _ _ (Rep.inn N _ _ (Full.rep N _ _ hfl))
        have HW3 := hideN hw3
        have HBW3 := hideN hbw3
        clear hb2 hb2' hfl hrc hok hw3
        go_wp2_with fail
        rw [← HW3.out]
        refine HCL.out.mono ?_
        rintro e w4 ⟨v4, rfl, hbuf4, htight⟩
        have hb4 := hbuf4.2.1
        have hs4 := hb4.size
        have hdoc4 := (hb4.block w2.heap.size (by omega)).trans hdoc3
        have hrd4 := hbuf4.reads
        have hbw4 : Below w.heap.size w w4 := hbw3.trans (hb4.mono (by omega))
        have hk4 : ∀ x, x < w2.heap.size → w4.heap[x]? = w2.heap[x]? := fun x hx => by rw [hb4.block x (by omega), hb3.block x hx]
        have hlenT : (l ++ Js.canon N d).length ≤ 1099511627776 := by
          have := Js.canon_length N d
          rw [List.length_append]; omega
        have HCA := hideN (canonical N d _ (fun x => x < w4.heap.size) w4 v4 l w4 (HREP.out w4 hk4 (by omega)) hgd ⟨own_base hbuf4.1, KeptT.refl _ _, fun _ _ _ => htight, fun _ h => h⟩ (by omega))
        obtain ⟨f0, f1, f2, f3, ff⟩ := boxFacts hdoc4
        obtain ⟨av, cv, hv4⟩ := hbuf4.form
        subst hv4
        clear hbuf4 htight HCL
        have HB4 := hideN hb4
        have HB3 := hideN hb3
        clear hb4 hb3
        go_wp2_with fail
        refine HCA.out.mono ?_
        rintro e w5 ⟨v5, rfl, hb5⟩
        obtain ⟨hc, hr, hcan, _⟩ := Js.canon_head N d hgd
        have hpos : 0 < (l ++ Js.canon N d).length := by rw [hcan, List.length_append, List.length_cons]; omega
        obtain ⟨g5, c5, hv5, hc5, hg5, ht5⟩ := hb5.shape hpos
        have hbk5 : Below w4.heap.size w4 w5 := ⟨hb5.2.1.os, hb5.2.1.tape, hb5.2.1.output, hb5.2.1.size, fun x hx => hb5.2.1.block x hx⟩
        have hs5 := hbk5.size
        have hdoc5 := (hbk5.block w2.heap.size (by omega)).trans hdoc4
        have HEQ := hideN (zzEqual_reads (.slice (some ⟨g5, 0, none⟩) l.length c5) _ l w5 (by omega) (ht5.front c5) (hrd4.below hbk5 (Nat.le_refl _)))
        have hbw5 : Below w.heap.size w w5 := hbw4.trans (hbk5.mono (by omega))
        have hk5 : ∀ x, x < w2.heap.size → w5.heap[x]? = w2.heap[x]? := fun x hx => by rw [hbk5.block x (by omega), hk4 x hx]
        obtain ⟨T, hT⟩ : ∃ T, T = l ++ Js.canon N d := ⟨_, rfl⟩
        have hTl : T.length = l.length + (Js.canon N d).length := by rw [hT, List.length_append]
        rw [← hT] at hv5 hc5 ht5 hlenT hpos
        have HPA : Hid (∀ W : World, W.heap = w5.heap → Calls Try.prog 17 #[.slice (some ⟨g5, 0, none⟩) T.length c5, .int .i64 (l.length : Int)] W fun e w' => ∃ cs, e = .returned (.tuple #[.agg cs.toArray, .int .i64 (T.length : Int), .bool true]) ∧ Rep (fun x => W.heap.size ≤ x) N w' cs d ∧ Below W.heap.size W w') := fun W hW => by
          rw [hTl]
          rw [← hTl]
          have := parse N d T [] l.length g5 0 c5 W hlenT hc5 (by rw [hW]; exact hg5) (fun j hj => by rw [World.cell?_of_block (w := w5) (by rw [hW])]; exact ht5 j hj) (by rw [hT, List.drop_left, List.append_nil]) Js.okRest.nil hgd
          rw [← hTl] at this
          exact this
        have d3 : decide ((T.length : Int) < (l.length : Int)) = false := decide_eq_false (by omega)
        have d4 : l.length ≤ c5 := by omega
        have d5 : decide (T.length < l.length) = false := decide_eq_false (by omega)
        have d6 : (l.length : Int) ≤ (T.length : Int) := by omega
        have d7 : l.length ≤ T.length := by omega
        have HT := hideN hTl
        have HB5 := hideN hbw5
        have HK5 := hideN hk5
        have HDC := hideN hdoc5
        subst hv5
        clear hb5 hbk5 hbw5 hk5 hdoc5 ht5 hT hTl hcan hrd4 hk4 hbw4 hdoc4 HCA f0 f1 f2 f3 ff hdoc3 hbw3 HB4 HB3
        go_wp2_with fail
        refine HEQ.out.mono ?_
        rintro e w6 ⟨rfl, nq, rfl⟩
        go_wp2_with fail
        refine (HPA.out (w5.drewN nq) rfl).mono ?_
        rintro e w7 ⟨cs, rfl, hrep7, hb7⟩
        obtain ⟨kd', sd', a6, a7, rfl, ⟨ao6, n6, cp6, rfl⟩, ⟨ao7, n7, cp7, rfl⟩⟩ := hrep7.shape
        have hb7' : Below w5.heap.size w5 w7 := ⟨hb7.os, hb7.tape, hb7.output, hb7.size, hb7.block⟩
        have hs7 := hb7'.size
        have hdoc7 := (hb7'.block w2.heap.size (by omega)).trans HDC.out
        obtain ⟨f0, f1, f2, f3, ff⟩ := boxFacts hdoc7
        have hbw7 : Below w.heap.size w w7 := HB5.out.trans (hb7'.mono (by omega))
        have hy : w2.heap.size < w7.heap.size := by omega
        obtain ⟨w8, hw8⟩ : ∃ w8, w8 = w7.alloc (.cells #[.int .u8 kd', .string sd', .slice ao6 n6 cp6, .slice ao7 n7 cp7] 40) := ⟨_, rfl⟩
        have hs8 : w8.heap.size = w7.heap.size + 1 := by rw [hw8]; simp
        have hk8 : ∀ x, x < w7.heap.size → w8.heap[x]? = w7.heap[x]? := fun x hx => by rw [hw8]; exact heap_alloc_old w7 _ (r := x) hx
        have HSA := hideN (same N d [.int .u8 kd', .string sd', .slice ao6 n6 cp6, .slice ao7 n7 cp7] [.int .u8 kd, .string sd, .slice ao4 n4 cp4, .slice ao5 n5 cp5] w8
          (Rep.keep (fun x hx => by omega) (fun x hx => hk8 x hx) N _ _ (Rep.low N _ _ hrep7)) (HREP.out w8 (fun x hx => by rw [hk8 x (by omega), hb7'.block x (by omega)]; exact HK5.out x hx) (by omega)))
        have HW8 := hideN hw8
        have HB7 := hideN hbw7
        clear hrep7 hb7 hb7' hdoc7 hbw7 hw8 hk8
        go_wp2_with fail
        rw [← HW8.out]
        refine HSA.out.mono ?_
        rintro e w9 ⟨rfl, hb9⟩
        go_wp2
        go_ret
        refine ⟨rfl, HB7.out.trans ?_⟩
        refine Below.trans (b := w8) ?_ (hb9.mono (by have := HB7.out.size; omega))
        rw [HW8.out]
        exact (Below.refl _ _).alloc (by have := HB7.out.size; omega) _
end Go.Proofs.Qxb6601578a
