import Derived.Test.Qxb6601578aNumU
import Derived.Test.Qxb6601578aPlace
import Derived.Test.Qxb6601578aCanon
namespace Go.Proofs.Qxb6601578a
open Go.RowKit
set_option linter.unusedSimpArgs false
set_option linter.unusedVariables false

/-- The contract of zzParseValue at documents of depth n. -/
def ParseSaid (n : Nat) : Prop := ∀ (d : Js.Doc n) (T rest : List UInt8) (p b off cap : Nat) (w : World), T.length ≤ 1099511627776 → T.length ≤ cap → b < w.heap.size → TextAt w b off T → T.drop p = Js.canon n d ++ rest → Js.okRest rest → Js.good n true d = true →
    Calls Try.prog 17 #[.slice (some ⟨b, off, none⟩) T.length cap, .int .i64 p] w fun e w' =>
      ∃ cs, e = .returned (.tuple #[.agg cs.toArray, .int .i64 ((p + (Js.canon n d).length : Nat) : Int), .bool true]) ∧ Rep (fun k => w.heap.size ≤ k) n w' cs d ∧ Below w.heap.size w w'

theorem TextAt.below {w w' : World} {b off : Nat} {T : List UInt8} (h : TextAt w b off T) (hb : b < w.heap.size) (hw : Below w.heap.size w w') : TextAt w' b off T := fun j hj => by rw [hw.cell (by exact hb)]; exact h j hj

theorem two_below (w : World) (o1 o2 : Obj) : Below w.heap.size w ((w.alloc o1).alloc o2) := ((Below.refl _ _).alloc (Nat.le_refl _) _).alloc (by simp) _

theorem below_drewN {B : Nat} {a w : World} (h : Below B a w) (n : Nat) : Below B a (w.drewN n) := ⟨h.os, h.tape, h.output, h.size, h.block⟩

set_option maxHeartbeats 4000000 in
set_option maxRecDepth 100000 in
theorem parse_null (T rest : List UInt8) (p b off cap : Nat) (w : World) (hT : T.length ≤ 1099511627776) (hb : b < w.heap.size) (hcell : TextAt w b off T) (hq : T.drop p = [110, 117, 108, 108] ++ rest) :
    Calls Try.prog 17 #[.slice (some ⟨b, off, none⟩) T.length cap, .int .i64 p] w fun e w' => e = .returned (.tuple #[.agg #[.int .u8 0, .string ⟨#[]⟩, .slice none 0 0, .slice none 0 0], .int .i64 ((p + 4 : Nat) : Int), .bool true]) ∧ Below w.heap.size w w' := by
  obtain ⟨hp, hp0, _⟩ := Js.drop_cons hq
  have HW : Hid (∀ W, Below w.heap.size w W → Calls Try.prog 22 #[.slice (some ⟨b, off, none⟩) T.length cap, .int .i64 p, .string ⟨#[110, 117, 108, 108]⟩] W fun e w' => e = .returned (.bool true) ∧ ∃ n, w' = W.drewN n) := fun W hW =>
    hasWord T rest ⟨#[110, 117, 108, 108]⟩ p b off cap W (by omega) (hcell.below hb hW) hq (by decide)
  have c0 : w.cell? ⟨b, off + p, none⟩ = some (.int .u8 110) := by rw [hcell p hp, hp0]; rfl
  have d1 : decide ((p : Int) < 0) = false := decide_eq_false (by omega)
  have d2 : decide ((T.length : Int) ≤ (p : Int)) = false := decide_eq_false (by omega)
  have d3 : decide (T.length ≤ p) = false := decide_eq_false (by omega)
  clear hcell hq hp0
  go_enter Try.func17, Try.ntmps17
  go_wp2_with fail
  refine (HW.out _ (two_below w _ _)).mono ?_
  rintro e w2 ⟨rfl, n, rfl⟩
  go_wp2
  refine bodyPost_ret (v := .tuple #[.agg #[.int .u8 0, .string ⟨#[]⟩, .slice none 0 0, .slice none 0 0], .int .i64 ((p + 4 : Nat) : Int), .bool true]) (by simp [results, Try.results17, go_sem]) rfl ⟨rfl, ?_⟩
  repeat refine Below.setCell ?_ (by show _ ≤ _; first | exact Nat.le_refl _ | exact Nat.le_succ _) _
  exact below_drewN (two_below w _ _) n

set_option maxHeartbeats 4000000 in
set_option maxRecDepth 100000 in
theorem parse_false (T rest : List UInt8) (p b off cap : Nat) (w : World) (hT : T.length ≤ 1099511627776) (hb : b < w.heap.size) (hcell : TextAt w b off T) (hq : T.drop p = [102, 97, 108, 115, 101] ++ rest) :
    Calls Try.prog 17 #[.slice (some ⟨b, off, none⟩) T.length cap, .int .i64 p] w fun e w' => e = .returned (.tuple #[.agg #[.int .u8 1, .string ⟨#[]⟩, .slice none 0 0, .slice none 0 0], .int .i64 ((p + 5 : Nat) : Int), .bool true]) ∧ Below w.heap.size w w' := by
  obtain ⟨hp, hp0, _⟩ := Js.drop_cons hq
  have HW : Hid (∀ W, Below w.heap.size w W → Calls Try.prog 22 #[.slice (some ⟨b, off, none⟩) T.length cap, .int .i64 p, .string ⟨#[102, 97, 108, 115, 101]⟩] W fun e w' => e = .returned (.bool true) ∧ ∃ n, w' = W.drewN n) := fun W hW =>
    hasWord T rest ⟨#[102, 97, 108, 115, 101]⟩ p b off cap W (by omega) (hcell.below hb hW) hq (by decide)
  have c0 : w.cell? ⟨b, off + p, none⟩ = some (.int .u8 102) := by rw [hcell p hp, hp0]; rfl
  have d1 : decide ((p : Int) < 0) = false := decide_eq_false (by omega)
  have d2 : decide ((T.length : Int) ≤ (p : Int)) = false := decide_eq_false (by omega)
  have d3 : decide (T.length ≤ p) = false := decide_eq_false (by omega)
  clear hcell hq hp0
  go_enter Try.func17, Try.ntmps17
  go_wp2_with fail
  refine (HW.out _ (two_below w _ _)).mono ?_
  rintro e w2 ⟨rfl, n, rfl⟩
  go_wp2
  refine bodyPost_ret (v := .tuple #[.agg #[.int .u8 1, .string ⟨#[]⟩, .slice none 0 0, .slice none 0 0], .int .i64 ((p + 5 : Nat) : Int), .bool true]) (by simp [results, Try.results17, go_sem]) rfl ⟨rfl, ?_⟩
  repeat refine Below.setCell ?_ (by show _ ≤ _; first | exact Nat.le_refl _ | exact Nat.le_succ _) _
  exact below_drewN (two_below w _ _) n

set_option maxHeartbeats 4000000 in
set_option maxRecDepth 100000 in
theorem parse_true (T rest : List UInt8) (p b off cap : Nat) (w : World) (hT : T.length ≤ 1099511627776) (hb : b < w.heap.size) (hcell : TextAt w b off T) (hq : T.drop p = [116, 114, 117, 101] ++ rest) :
    Calls Try.prog 17 #[.slice (some ⟨b, off, none⟩) T.length cap, .int .i64 p] w fun e w' => e = .returned (.tuple #[.agg #[.int .u8 2, .string ⟨#[]⟩, .slice none 0 0, .slice none 0 0], .int .i64 ((p + 4 : Nat) : Int), .bool true]) ∧ Below w.heap.size w w' := by
  obtain ⟨hp, hp0, _⟩ := Js.drop_cons hq
  have HW : Hid (∀ W, Below w.heap.size w W → Calls Try.prog 22 #[.slice (some ⟨b, off, none⟩) T.length cap, .int .i64 p, .string ⟨#[116, 114, 117, 101]⟩] W fun e w' => e = .returned (.bool true) ∧ ∃ n, w' = W.drewN n) := fun W hW =>
    hasWord T rest ⟨#[116, 114, 117, 101]⟩ p b off cap W (by omega) (hcell.below hb hW) hq (by decide)
  have c0 : w.cell? ⟨b, off + p, none⟩ = some (.int .u8 116) := by rw [hcell p hp, hp0]; rfl
  have d1 : decide ((p : Int) < 0) = false := decide_eq_false (by omega)
  have d2 : decide ((T.length : Int) ≤ (p : Int)) = false := decide_eq_false (by omega)
  have d3 : decide (T.length ≤ p) = false := decide_eq_false (by omega)
  clear hcell hq hp0
  go_enter Try.func17, Try.ntmps17
  go_wp2_with fail
  refine (HW.out _ (two_below w _ _)).mono ?_
  rintro e w2 ⟨rfl, n, rfl⟩
  go_wp2
  refine bodyPost_ret (v := .tuple #[.agg #[.int .u8 2, .string ⟨#[]⟩, .slice none 0 0, .slice none 0 0], .int .i64 ((p + 4 : Nat) : Int), .bool true]) (by simp [results, Try.results17, go_sem]) rfl ⟨rfl, ?_⟩
  repeat refine Below.setCell ?_ (by show _ ≤ _; first | exact Nat.le_refl _ | exact Nat.le_succ _) _
  exact below_drewN (two_below w _ _) n

theorem Buf.toTextAt {B : Nat} {v : Value} {l : List UInt8} {W0 w w' : World} (h : Buf B v l W0 w) (hw : ∀ k, B ≤ k → w'.heap[k]? = w.heap[k]?) : (convert 22 9 v).run Try.prog w' = .ok (.string ⟨l.toArray⟩) w' := by
  have main : ∀ g cap, B ≤ g → v = .slice (some ⟨g, 0, none⟩) l.length cap → (convert 22 9 v).run Try.prog w' = .ok (.string ⟨l.toArray⟩) w' := by
    intro g cap hg hv
    subst hv
    exact text_toStr (fun i hi => by rw [Nat.zero_add, World.cell?_of_block (w := w) (hw g hg)]; exact h.cell i hi)
  rcases h.1.2 with ⟨hv, hn⟩ | ⟨g, cap, cur, hv, hg, _⟩
  · have hl : l = [] := List.eq_nil_of_length_eq_zero hn
    subst hv; subst hl
    exact run_convert_bytes_nil (P := Try.prog) w' 22 5 Try.underlying22 Try.underlying5 0 0 9 Try.underlying9
  · exact main g cap hg hv

theorem new_atT (w : World) (o1 : Obj) (cs : Array Value) (t : TypeId) : ((w.alloc o1).alloc (.cells cs t)).heap[w.heap.size + 1]? = some (.cells cs t (0, 0)) := by
  have := heap_alloc_new (w.alloc o1) (.cells cs t)
  simpa using this

theorem esc_pos (c : UInt8) : 1 ≤ (Js.esc c).length := by
  unfold Js.esc
  repeat' split
  all_goals simp

theorem escs_ge (l : List UInt8) : l.length ≤ (Js.escs l).length := by
  induction l with
  | nil => exact Nat.zero_le _
  | cons a r ih =>
    have := esc_pos a
    simp only [Js.escs, List.length_append, List.length_cons, List.flatMap_cons] at ih ⊢; omega

set_option maxHeartbeats 4000000 in
set_option maxRecDepth 100000 in
theorem parse_str (T s rest : List UInt8) (p b off cap q : Nat) (w : World) (hT : T.length ≤ 1099511627776) (hb : b < w.heap.size) (hcell : TextAt w b off T) (hq : T.drop p = Js.quoted s ++ rest) (hqq : q = p + (Js.quoted s).length) :
    Calls Try.prog 17 #[.slice (some ⟨b, off, none⟩) T.length cap, .int .i64 p] w fun e w' => e = .returned (.tuple #[.agg #[.int .u8 4, .string ⟨s.toArray⟩, .slice none 0 0, .slice none 0 0], .int .i64 (q : Int), .bool true]) ∧ Below w.heap.size w w' := by
  have hq' : T.drop p = 34 :: (Js.escs s ++ 34 :: rest) := by rw [hq]; simp [Js.quoted]
  obtain ⟨hp, hp0, _⟩ := Js.drop_cons hq'
  have hsl : s.length ≤ T.length := by
    have h1 := congrArg List.length hq
    rw [List.length_drop, List.length_append] at h1
    have h2 := escs_ge s
    have h3 := Js.quoted_length s
    omega
  have HW : Hid (∀ W, Below w.heap.size w W → Calls Try.prog 13 #[.slice (some ⟨b, off, none⟩) T.length cap, .int .i64 p] W fun e w' => ∃ v', e = .returned (.tuple #[v', .int .i64 (q : Int), .bool true]) ∧ Buf W.heap.size v' s W w') := fun W hW => by
    rw [hqq]
    exact decode_core T s rest p b off cap W (by omega) (by omega) (Nat.lt_of_lt_of_le hb hW.size) (hcell.below hb hW) hq
  have c0 : w.cell? ⟨b, off + p, none⟩ = some (.int .u8 34) := by rw [hcell p hp, hp0]; rfl
  have d1 : decide ((p : Int) < 0) = false := decide_eq_false (by omega)
  have d2 : decide ((T.length : Int) ≤ (p : Int)) = false := decide_eq_false (by omega)
  have d3 : decide (T.length ≤ p) = false := decide_eq_false (by omega)
  clear hcell hq hp0 hq' hqq
  go_enter Try.func17, Try.ntmps17
  go_wp2_with fail
  refine (HW.out _ (two_below w _ _)).mono ?_
  rintro e w2 ⟨v2, rfl, hb2⟩
  have hcv : ∀ i u, (convert 22 9 v2).run Try.prog (w2.setCell ⟨w.heap.size + 1, i, none⟩ u) = .ok (.string ⟨s.toArray⟩) (w2.setCell ⟨w.heap.size + 1, i, none⟩ u) := fun i u => hb2.toTextAt (fun k hk => Below.heap_setCell _ _ _ _ (by simp at hk; show k ≠ w.heap.size + 1; omega))
  have hbl := hb2.2.1
  have hx : ∀ k, k < w.heap.size + 2 → w2.heap[k]? = ((w.alloc _).alloc _).heap[k]? := fun k hk => hb2.2.1.block k (by simpa using hk)
  have k4 := (hx w.heap.size (by omega)).trans ((heap_alloc_old (w.alloc _) _ (r := w.heap.size) (by simp)).trans (heap_alloc_new w _))
  have k7 := (hx (w.heap.size + 1) (by omega)).trans (new_atT w _ _ 40)
  have f4 : ∀ j, w2.frozen? ⟨w.heap.size, j, none⟩ = false := fun j => frozen_of_row w2 _ j _ _ k4
  have f7 : ∀ j, w2.frozen? ⟨w.heap.size + 1, j, none⟩ = false := fun j => frozen_of_row w2 _ j _ _ k7
  have a0 : w2.cell? ⟨w.heap.size, 0, none⟩ = some (.int .u8 0) := by rw [cell_of_row w2 _ 0 _ _ _ k4]; rfl
  have a1 : w2.cell? ⟨w.heap.size, 1, none⟩ = some (.string ⟨#[]⟩) := by rw [cell_of_row w2 _ 1 _ _ _ k4]; rfl
  have a2 : w2.cell? ⟨w.heap.size, 2, none⟩ = some (.slice none 0 0) := by rw [cell_of_row w2 _ 2 _ _ _ k4]; rfl
  have a3 : w2.cell? ⟨w.heap.size, 3, none⟩ = some (.slice none 0 0) := by rw [cell_of_row w2 _ 3 _ _ _ k4]; rfl
  have e0 : w2.cell? ⟨w.heap.size + 1, 0, none⟩ = some (.int .u8 0) := by rw [cell_of_row w2 _ 0 _ _ _ k7]; rfl
  have e1 : w2.cell? ⟨w.heap.size + 1, 1, none⟩ = some (.string ⟨#[]⟩) := by rw [cell_of_row w2 _ 1 _ _ _ k7]; rfl
  have e2 : w2.cell? ⟨w.heap.size + 1, 2, none⟩ = some (.slice none 0 0) := by rw [cell_of_row w2 _ 2 _ _ _ k7]; rfl
  have e3 : w2.cell? ⟨w.heap.size + 1, 3, none⟩ = some (.slice none 0 0) := by rw [cell_of_row w2 _ 3 _ _ _ k7]; rfl
  clear hb2 hx k4 k7 HW
  go_wp2
  refine bodyPost_ret (v := .tuple #[.agg #[.int .u8 4, .string ⟨s.toArray⟩, .slice none 0 0, .slice none 0 0], .int .i64 (q : Int), .bool true]) (by simp [results, Try.results17, go_sem, a0, a1, a2, a3, e0, e1, e2, e3]) rfl ⟨rfl, ?_⟩
  repeat refine Below.setCell ?_ (by show _ ≤ _; first | exact Nat.le_refl _ | exact Nat.le_succ _) _
  exact (two_below w _ _).trans (hbl.mono (by simp; omega))

set_option maxHeartbeats 4000000 in
set_option maxRecDepth 100000 in
theorem parse_num (T s rest : List UInt8) (p b off cap q : Nat) (w : World) (hT : T.length ≤ 1099511627776) (hcap : T.length ≤ cap) (hb : b < w.heap.size) (hcell : TextAt w b off T) (hq : T.drop p = s ++ rest) (hr : Js.okRest rest) (hn : Js.isNum s = true) (hqq : q = p + s.length) :
    Calls Try.prog 17 #[.slice (some ⟨b, off, none⟩) T.length cap, .int .i64 p] w fun e w' => e = .returned (.tuple #[.agg #[.int .u8 3, .string ⟨s.toArray⟩, .slice none 0 0, .slice none 0 0], .int .i64 (q : Int), .bool true]) ∧ Below w.heap.size w w' := by
  obtain ⟨c, r, hs, hc⟩ := Js.num_head hn
  obtain ⟨hp, hp0, _⟩ := Js.drop_cons (show T.drop p = c :: (r ++ rest) by rw [hq, hs]; rfl)
  have hql : q ≤ T.length := by
    have h1 := congrArg List.length hq
    rw [List.length_drop, List.length_append] at h1
    omega
  have hcv : ∀ o1 o2 c, (convert 22 9 (.slice (some ⟨b, off + p, none⟩) (q - p) c)).run Try.prog ((w.alloc o1).alloc o2) = .ok (.string ⟨s.toArray⟩) ((w.alloc o1).alloc o2) := fun o1 o2 c => by
    rw [show q - p = s.length by omega]
    refine text_toStr (fun i hi => ?_)
    have h1 := (hcell.below hb (two_below w o1 o2)) (p + i) (by omega)
    rw [Nat.add_assoc, h1]
    have e : T[p + i]'(by omega) = s[i] := by
      have h1 : (T.drop p)[i]? = some s[i] := by rw [hq, List.getElem?_append_left hi, List.getElem?_eq_getElem hi]
      rw [List.getElem?_drop, List.getElem?_eq_getElem (by omega)] at h1
      simpa using h1
    rw [e]
  have HW : Hid (∀ W, Below w.heap.size w W → Calls Try.prog 23 #[.slice (some ⟨b, off, none⟩) T.length cap, .int .i64 p] W fun e w' => e = .returned (.int .i64 (q : Int)) ∧ w' = W) := fun W hW => by
    rw [hqq]
    exact number_some T p b off cap s.length W (by omega) (by omega) (hcell.below hb hW) (by rw [hq]; exact Js.num_of_isNum hr hn)
  have c0 : w.cell? ⟨b, off + p, none⟩ = some (.int .u8 (c.toNat : Int)) := by rw [hcell p hp, hp0]
  have hc' : (c.toNat : Int) = 45 ∨ (48 ≤ (c.toNat : Int) ∧ (c.toNat : Int) ≤ 57) := by
    rcases hc with rfl | ⟨h1, h2⟩
    · exact .inl rfl
    · exact .inr ⟨u8_le.1 h1, u8_le.1 h2⟩
  have d1 : decide ((p : Int) < 0) = false := decide_eq_false (by omega)
  have d2 : decide ((T.length : Int) ≤ (p : Int)) = false := decide_eq_false (by omega)
  have d3 : decide (T.length ≤ p) = false := decide_eq_false (by omega)
  have d4 : decide ((q : Int) < 0) = false := decide_eq_false (by omega)
  have hpq : p ≤ q := by omega
  have hpc : p < cap := by omega
  have hqc : q ≤ cap := by omega
  have d5 : (cap == p) = false := beq_eq_false_iff_ne.2 (by omega)
  clear hcell hq hp0 hqq hs hn
  generalize (c.toNat : Int) = x at *
  have b1 : (x == 110) = false := beq_eq_false_iff_ne.2 (by omega)
  have b2 : (x == 102) = false := beq_eq_false_iff_ne.2 (by omega)
  have b3 : (x == 116) = false := beq_eq_false_iff_ne.2 (by omega)
  have b4 : (x == 34) = false := beq_eq_false_iff_ne.2 (by omega)
  rcases hc' with rfl | ⟨h1, h2⟩
  · go_enter Try.func17, Try.ntmps17
    go_wp2_with fail
    refine (HW.out _ (two_below w _ _)).mono ?_
    rintro e w2 ⟨rfl, rfl⟩
    go_wp2
    refine bodyPost_ret (v := .tuple #[.agg #[.int .u8 3, .string ⟨s.toArray⟩, .slice none 0 0, .slice none 0 0], .int .i64 (q : Int), .bool true]) (by simp [results, Try.results17, go_sem]) rfl ⟨rfl, ?_⟩
    repeat refine Below.setCell ?_ (by show _ ≤ _; first | exact Nat.le_refl _ | exact Nat.le_succ _) _
    exact two_below w _ _
  · have b5 : (x == 45) = false := beq_eq_false_iff_ne.2 (by omega)
    go_enter Try.func17, Try.ntmps17
    go_wp2_with fail
    refine (HW.out _ (two_below w _ _)).mono ?_
    rintro e w2 ⟨rfl, rfl⟩
    go_wp2
    refine bodyPost_ret (v := .tuple #[.agg #[.int .u8 3, .string ⟨s.toArray⟩, .slice none 0 0, .slice none 0 0], .int .i64 (q : Int), .bool true]) (by simp [results, Try.results17, go_sem]) rfl ⟨rfl, ?_⟩
    repeat refine Below.setCell ?_ (by show _ ≤ _; first | exact Nat.le_refl _ | exact Nat.le_succ _) _
    exact two_below w _ _
end Go.Proofs.Qxb6601578a
