import Derived.Test.Qxb6601578aRep
import Derived.Test.Qxb6601578aWalkT
import Derived.WalkKit
namespace Go.Proofs.Qxb6601578a
open Go.RowKit
set_option linter.unusedSimpArgs false
set_option linter.unusedVariables false

/-- The contract of AppendCanonical at documents of depth n. -/
def CanonSaid (n : Nat) : Prop := ∀ (d : Js.Doc n) (cs : List Value) (S : Nat → Prop) (W0 : World) (v : Value) (l : List UInt8) (w : World), Rep S n W0 cs d → Js.good n true d = true → BufT S v l W0 w → l.length + 6 * Js.cost n d + 8 ≤ 140737488355328 →
    Calls Try.prog 16 #[.agg cs.toArray, v] w fun e w' => ∃ v', e = .returned v' ∧ BufT S v' (l ++ Js.canon n d) W0 w'

theorem hideC {p : Prop} (h : p) : Hid p := h

theorem new_at2 (w : World) (o1 : Obj) (cs : Array Value) : ((w.alloc o1).alloc (.cells cs 5)).heap[w.heap.size + 1]? = some (.cells cs 5 (0, 0)) := by
  have := heap_alloc_new (w.alloc o1) (.cells cs 5)
  simpa using this

/-- 'buf = append(buf, c0, ..)', the new bytes in a block whose number is given. -/
theorem wpList_append_atT {P : Program} {ops : Array Oper} {rest : List Oper} {o : Oper} {a : Act} {Q : Exit → Act → World → Prop} {w : World} (hgd : o.guard = none) (s x : Operand) (t : TypeId)
    (ho : o.op = .call { callee := .builtin .append, args := #[s, x], argTypes := #[t, t] })
    (S : Nat → Prop) (i : TypeInfo) (ht : P.underlying t = some (.slice 5)) (hi : P.info? 5 = some i) (hz : i.zero = some (.int .u8 0)) (hsize : i.size = 1) (hby : i.bytes = 1)
    (v : Value) (l : List UInt8) (hs : a.eval s = v) (W0 : World) (hb : BufT S v l W0 w) (g m : Nat) (cs : Array Value)
    (hx : a.eval x = .slice (some ⟨g, 0, none⟩) m m) (hg : w.heap[g]? = some (.cells cs 5 (0, 0))) (news : List UInt8) (hcs : cs.toList = bc news) (hm : news.length = m) (hlen : l.length + m ≤ 140737488355328)
    (h : ∀ v' w', BufT S v' (l ++ news) W0 w' → wpList P ops Q rest (a.put o.dst v') w') : wpList P ops Q (o :: rest) a w := by
  refine wpList_plain hgd fun K hK => ?_
  obtain ⟨v', w', hr, h2⟩ := run_bytesT_slice t o.type i ht hi hz hsize hby S v l W0 w hb ⟨g, 0, none⟩ m m news hm (fun j u hj => by
    rw [Addr.add_lit, Nat.zero_add, cell_of_row _ g j cs 5 (0, 0) hg, ← hj, ← hcs]
    simp) hlen
  unfold Oper.wp execOp
  simp only [ho, resolve, invoke, builtin, Sem.run_bind, Sem.run_pure, Result.andThen_ok, List.map_toArray, List.map_cons, List.map_nil, hs, hx, hr]
  exact hK _ _ (h v' w' h2)

/-- All that an append onto v leaves alone in w. -/
def Own (v : Value) (w : World) : Nat → Prop := fun k => k < w.heap.size ∧ (v.ownBlock = some k → Tight v)

theorem BufT.self {S : Nat → Prop} {v : Value} {l : List UInt8} {W0 w : World} (h : BufT S v l W0 w) : BufT (Own v w) v l w w :=
  ⟨h.1, KeptT.refl _ _, fun k hk hS => hS.2 hk, fun k hk => hk.1⟩

theorem BufT.trans {S : Nat → Prop} {v v' : Value} {l l' : List UInt8} {W0 w w' : World} (h : BufT S v l W0 w) (h' : BufT (Own v w) v' l' w w') : BufT S v' l' W0 w' := by
  have hs : ∀ k, S k → Own v w k := fun k hk => ⟨Nat.lt_of_lt_of_le (h.2.2.2 k hk) h.2.1.size, fun e => h.2.2.1 k e hk⟩
  exact ⟨h'.1, ⟨h'.2.1.os.trans h.2.1.os, h'.2.1.tape.trans h.2.1.tape, h'.2.1.output.trans h.2.1.output, Nat.le_trans h.2.1.size h'.2.1.size, fun k hk => (h'.2.1.block k (hs k hk)).trans (h.2.1.block k hk)⟩, fun k hk hS => h'.2.2.1 k hk (hs k hS), h.2.2.2⟩

theorem BufT.lt {S : Nat → Prop} {v : Value} {l : List UInt8} {W0 w : World} (h : BufT S v l W0 w) {k : Nat} (hk : w.heap.size ≤ k) : v.ownBlock ≠ some k := fun e => by
  have := (h.1.lt k e).2
  omega

theorem BufT.cellAt {v v' : Value} {l' : List UInt8} {w w' : World} (h : BufT (Own v w) v' l' w w') {k j : Nat} (hk : k < w.heap.size) (hne : v.ownBlock ≠ some k) : w'.cell? ⟨k, j, none⟩ = w.cell? ⟨k, j, none⟩ :=
  World.cell?_of_block (w := w) (h.2.1.block k ⟨hk, fun e => absurd e hne⟩)

theorem Rep.shape {S : Nat → Prop} {w : World} : ∀ {n : Nat} {cs : List Value} {d : Js.Doc n}, Rep S n w cs d → ∃ (kd : Int) (sd : ByteArray) (a2 a3 : Value), cs = [.int .u8 kd, .string sd, a2, a3] ∧ IsSlice a2 ∧ IsSlice a3
  | 0, _, _, h => h.elim
  | _ + 1, _, (_, _, _, _), h => by
    obtain ⟨_, s, c2, c3, e, _, h2, h3, _⟩ := h
    exact ⟨_, s, c2, c3, e, h2, h3⟩

theorem items_len (n : Nat) (is : List (Js.Doc n)) (k : Nat) (h : k < is.length) :
    (Js.join ((is.take k).map (Js.canon n))).length + 432 + 6 * Js.cost n is[k] ≤ 6 * (is.map fun d => 72 + Js.cost n d).sum := by
  have h1 : (Js.join ((is.take k).map (Js.canon n))).length ≤ 6 * ((is.take k).map fun d => 72 + Js.cost n d).sum := by
    refine Nat.le_trans (Js.join_length _) ?_
    rw [← Js.sum_mul, List.map_map]
    refine Js.sum_le _ _ _ (fun d _ => ?_)
    have := Js.canon_length n d
    simp only [Function.comp]; omega
  have h2 : (is.map fun d => 72 + Js.cost n d).sum = ((is.take k).map fun d => 72 + Js.cost n d).sum + (72 + Js.cost n is[k]) + ((is.drop (k + 1)).map fun d => 72 + Js.cost n d).sum := by
    rw (occs := .pos [1]) [← List.take_append_drop k is]
    rw [List.drop_eq_getElem_cons h, List.map_append, List.sum_append, List.map_cons, List.sum_cons]
    omega
  omega

theorem items_all (n : Nat) (is : List (Js.Doc n)) : (Js.join (is.map (Js.canon n))).length ≤ 6 * (is.map fun d => 72 + Js.cost n d).sum := by
  refine Nat.le_trans (Js.join_length _) ?_
  rw [← Js.sum_mul, List.map_map]
  refine Js.sum_le _ _ _ (fun d _ => ?_)
  have := Js.canon_length n d
  simp only [Function.comp]; omega

theorem items_join (n : Nat) (is : List (Js.Doc n)) (k : Nat) (h : k < is.length) :
    Js.join ((is.take (k + 1)).map (Js.canon n)) = if k = 0 then Js.canon n is[k] else Js.join ((is.take k).map (Js.canon n)) ++ 44 :: Js.canon n is[k] := by
  rw [List.take_succ_eq_append_getElem h, List.map_append, List.map_cons, List.map_nil, Js.join_snoc]
  by_cases e : k = 0
  · subst e; simp
  · have hne : ¬ (List.map (Js.canon n) (List.take k is) = []) := by
      intro h2
      have := congrArg List.length h2
      rw [List.length_map, List.length_take, List.length_nil] at this
      omega
    rw [if_neg hne, if_neg e]

theorem Own.step {v v' : Value} {l' : List UInt8} {w w' : World} {g : Nat} (h : BufT (Own v w) v' l' w w') (hg : Own v w g) : Own v' w' g :=
  ⟨Nat.lt_of_lt_of_le hg.1 h.2.1.size, fun e => h.2.2.1 g e hg⟩

theorem Own.alloc {v : Value} {w : World} {g : Nat} (hg : Own v w g) (o : Obj) : Own v (w.alloc o) g := ⟨by have := hg.1; simp; omega, hg.2⟩

theorem Own.cells {v v' : Value} {l' : List UInt8} {w w' : World} {g : Nat} (h : BufT (Own v w) v' l' w w') (hg : Own v w g) (j : Nat) : w'.cell? ⟨g, j, none⟩ = w.cell? ⟨g, j, none⟩ :=
  World.cell?_of_block (w := w) (h.2.1.block g hg)

theorem Own.box {S : Nat → Prop} {v : Value} {l : List UInt8} {W0 w : World} (h : BufT S v l W0 w) (o1 o2 : Obj) : Own v ((w.alloc o1).alloc o2) w.heap.size :=
  ⟨by simp; omega, fun e => absurd e (h.lt (Nat.le_refl _))⟩

theorem Own.box1 {S : Nat → Prop} {v : Value} {l : List UInt8} {W0 w : World} (h : BufT S v l W0 w) (o1 : Obj) : Own v (w.alloc o1) w.heap.size :=
  ⟨by simp, fun e => absurd e (h.lt (Nat.le_refl _))⟩

theorem box_cell1 (w : World) (cs : Array Value) (t j : Nat) : (w.alloc (.cells cs t)).cell? ⟨w.heap.size, j, none⟩ = cs[j]? := cell_of_row _ w.heap.size j cs t (0, 0) (heap_alloc_new w _)

theorem box_cell (w : World) (o2 : Obj) (cs : Array Value) (t j : Nat) : ((w.alloc (.cells cs t)).alloc o2).cell? ⟨w.heap.size, j, none⟩ = cs[j]? := by
  rw [World.cell?_of_block (w := w.alloc (.cells cs t)) (heap_alloc_old (w.alloc (.cells cs t)) o2 (r := w.heap.size) (by simp))]
  exact cell_of_row _ w.heap.size j cs t (0, 0) (heap_alloc_new w _)

set_option maxHeartbeats 1000000 in
theorem canon_lit (k : Nat) (hk : k = 0 ∨ k = 1 ∨ k = 2) (s : ByteArray) (c2 c3 : Value) (S : Nat → Prop) (W0 : World) (v : Value) (l : List UInt8) (w : World) (hb : BufT S v l W0 w) (hl : l.length + 8 ≤ 140737488355328) :
    Calls Try.prog 16 #[.agg #[.int .u8 (k : Int), .string s, c2, c3], v] w fun e w' => ∃ v', e = .returned v' ∧ BufT S v' (l ++ (if k = 0 then [110, 117, 108, 108] else if k = 1 then [102, 97, 108, 115, 101] else [116, 114, 117, 101])) W0 w' := by
  obtain ⟨i0, hi, hz0, hz1, hz2⟩ := info_parts byteInfo
  rcases hk with rfl | rfl | rfl
  · show Calls Try.prog 16 #[.agg #[.int .u8 0, .string s, c2, c3], v] w fun e w' => ∃ v', e = .returned v' ∧ BufT S v' (l ++ [110, 117, 108, 108]) W0 w'
    go_enter Try.func16, Try.ntmps16
    go_wp2_with (at_builtin; refine wpList_append_strT rfl _ _ 22 9 rfl S i0 Try.underlying22 Try.underlying9 hi hz0 hz1 hz2 _ _ rfl W0 (by exact hb.alloc _) _ rfl (by show l.length + 4 ≤ _; omega) ?_; intro v2 w2 hb3)
    go_ret
    exact ⟨_, rfl, hb3⟩
  · show Calls Try.prog 16 #[.agg #[.int .u8 1, .string s, c2, c3], v] w fun e w' => ∃ v', e = .returned v' ∧ BufT S v' (l ++ [102, 97, 108, 115, 101]) W0 w'
    go_enter Try.func16, Try.ntmps16
    go_wp2_with (at_builtin; refine wpList_append_strT rfl _ _ 22 9 rfl S i0 Try.underlying22 Try.underlying9 hi hz0 hz1 hz2 _ _ rfl W0 (by exact hb.alloc _) _ rfl (by show l.length + 5 ≤ _; omega) ?_; intro v2 w2 hb3)
    go_ret
    exact ⟨_, rfl, hb3⟩
  · show Calls Try.prog 16 #[.agg #[.int .u8 2, .string s, c2, c3], v] w fun e w' => ∃ v', e = .returned v' ∧ BufT S v' (l ++ [116, 114, 117, 101]) W0 w'
    go_enter Try.func16, Try.ntmps16
    go_wp2_with (at_builtin; refine wpList_append_strT rfl _ _ 22 9 rfl S i0 Try.underlying22 Try.underlying9 hi hz0 hz1 hz2 _ _ rfl W0 (by exact hb.alloc _) _ rfl (by show l.length + 4 ≤ _; omega) ?_; intro v2 w2 hb3)
    go_ret
    exact ⟨_, rfl, hb3⟩

set_option maxHeartbeats 1000000 in
theorem canon_text (k : Nat) (hk : k = 3 ∨ k = 4) (s : ByteArray) (c2 c3 : Value) (S : Nat → Prop) (W0 : World) (v : Value) (l : List UInt8) (w : World) (hb : BufT S v l W0 w) (hl : l.length + 6 * s.size + 8 ≤ 140737488355328) :
    Calls Try.prog 16 #[.agg #[.int .u8 (k : Int), .string s, c2, c3], v] w fun e w' => ∃ v', e = .returned v' ∧ BufT S v' (l ++ (if k = 3 then s.data.toList else Js.quoted s.data.toList)) W0 w' := by
  obtain ⟨i0, hi, hz0, hz1, hz2⟩ := info_parts byteInfo
  rcases hk with rfl | rfl
  · show Calls Try.prog 16 #[.agg #[.int .u8 3, .string s, c2, c3], v] w fun e w' => ∃ v', e = .returned v' ∧ BufT S v' (l ++ s.data.toList) W0 w'
    go_enter Try.func16, Try.ntmps16
    go_wp2_with (at_builtin; refine wpList_append_strT rfl _ _ 22 9 rfl S i0 Try.underlying22 Try.underlying9 hi hz0 hz1 hz2 _ _ rfl W0 (by exact hb.alloc _) _ rfl (by omega) ?_; intro v2 w2 hb3)
    go_ret
    exact ⟨_, rfl, hb3⟩
  · show Calls Try.prog 16 #[.agg #[.int .u8 4, .string s, c2, c3], v] w fun e w' => ∃ v', e = .returned v' ∧ BufT S v' (l ++ Js.quoted s.data.toList) W0 w'
    go_enter Try.func16, Try.ntmps16
    go_wp2_with fail
    refine (appendStringT S v l s W0 _ (by exact hb.alloc _) (by omega)).mono ?_
    rintro e w2 ⟨v2, rfl, hb2⟩
    go_wp2
    go_ret
    exact ⟨_, rfl, hb2⟩

set_option maxHeartbeats 1000000 in
theorem canon_array (n : Nat) (ih : CanonSaid n) (s : ByteArray) (is : List (Js.Doc n)) (c2 c3 : Value) (S : Nat → Prop) (W0 : World) (v : Value) (l : List UInt8) (w : World)
    (hr : RowsOf S 4 W0 c2 is (fun cells d => Rep S n W0 cells d)) (hg : ∀ d ∈ is, Js.good n true d = true) (hb : BufT S v l W0 w) (hl : l.length + 6 * (is.map fun d => 72 + Js.cost n d).sum + 8 ≤ 140737488355328) :
    Calls Try.prog 16 #[.agg #[.int .u8 5, .string s, c2, c3], v] w fun e w' => ∃ v', e = .returned v' ∧ BufT S v' (l ++ 91 :: (Js.join (is.map (Js.canon n)) ++ [93])) W0 w' := by
  obtain ⟨i0, hi, hz0, hz1, hz2⟩ := info_parts byteInfo
  obtain ⟨ao, cap, rfl, hc1, hc2, hnil, hrow⟩ := hr
  unfold maxLen at hc2
  have HR := hideC hrow
  clear hrow hnil
  go_enter Try.func16, Try.ntmps16
  go_wp2_with (at_builtin; refine wpList_append_atT rfl _ _ 22 rfl (Own v _) i0 Try.underlying22 hi hz0 hz1 hz2 _ _ rfl _ (by exact ((hb.alloc _).alloc _).self) _ _ _ rfl (by exact new_at2 _ _ _) [91] (by rfl) rfl (by simp; omega) ?_; intro v1 w1 hb1; have cb : w1.cell? ⟨w.heap.size, 2, none⟩ = some (.slice ao is.length cap) := by { rw [hb1.cellAt (by simp; omega) (hb.lt (Nat.le_refl _)), box_cell]; rfl })
  have hb1' := ((hb.alloc _).alloc _).trans hb1
  clear hb1 cb hb
  go_loopw [1, 43] (fun t i wr => ∃ k : Nat, k ≤ is.length ∧ i = .int .i64 k ∧ BufT S t (l ++ 91 :: Js.join ((is.take k).map (Js.canon n))) W0 wr) (fun _ i _ => is.length - (intOf i).toNat)
  case atStart => exact ⟨0, Nat.zero_le _, rfl, by simpa [Js.join] using hb1'⟩
  case round =>
    obtain ⟨k, hk, rfl, hb2⟩ := hrel
    clear hb1'
    by_cases hlt : k < is.length
    · obtain ⟨b, off, cells, rfl, hSb, hcl, hcell, hrep⟩ := HR.out k hlt
      obtain ⟨kd, sd, a2, a3, hcs, hs2, hs3⟩ := hrep.shape
      obtain ⟨ao2, n2, cp2, rfl⟩ := hs2
      obtain ⟨ao3, n3, cp3, rfl⟩ := hs3
      have hw : ∀ j, j < 4 → wr.cell? ⟨b, off + k * 4 + j, none⟩ = cells[j]? := fun j hj => by rw [World.cell?_of_block (w := W0) (hb2.2.1.block b hSb)]; exact hcell j hj
      have e0 : wr.cell? ⟨b, off + k * 4, none⟩ = some (.int .u8 kd) := by have := hw 0 (by omega); rw [hcs] at this; simpa using this
      have e1 : wr.cell? ⟨b, off + k * 4 + 1, none⟩ = some (.string sd) := by have := hw 1 (by omega); rw [hcs] at this; simpa using this
      have e2 : wr.cell? ⟨b, off + k * 4 + 2, none⟩ = some (.slice ao2 n2 cp2) := by have := hw 2 (by omega); rw [hcs] at this; simpa using this
      have e3 : wr.cell? ⟨b, off + k * 4 + 3, none⟩ = some (.slice ao3 n3 cp3) := by have := hw 3 (by omega); rw [hcs] at this; simpa using this
      have hgd := hg is[k] (List.getElem_mem hlt)
      rw [hcs] at hrep
      have hlen := items_len n is k hlt
      have IH := hideC (ih (is[k]'hlt) _ S W0 · · · hrep hgd)
      have hj := items_join n is k hlt
      have hj0 : k = 0 → Js.join ((is.take k).map (Js.canon n)) = [] := fun e => by subst e; simp [Js.join]
      generalize Js.join ((is.take k).map (Js.canon n)) = J at hb2 hlen hj hj0
      have HJ := hideC hj
      have HJ0 := hideC hj0
      clear hj hj0
      clear hw hcell hcl hrep hcs ih hgd hg
      by_cases h0 : 0 < k
      · go_wp2_with (at_builtin; refine wpList_append_atT rfl _ _ 22 rfl (Own _ _) i0 Try.underlying22 hi hz0 hz1 hz2 _ _ rfl _ (by exact ((hb2.alloc _).alloc _).self) _ _ _ rfl (by exact new_at2 _ _ _) [44] (by rfl) rfl (by simp; omega) ?_; intro v2 w2 hb3; have cb0 : w2.cell? ⟨wr.heap.size, 0, none⟩ = some (.int .u8 kd) := by { rw [hb3.cellAt (by simp; omega) (hb2.lt (Nat.le_refl _)), box_cell]; rfl }; have cb1 : w2.cell? ⟨wr.heap.size, 1, none⟩ = some (.string sd) := by { rw [hb3.cellAt (by simp; omega) (hb2.lt (Nat.le_refl _)), box_cell]; rfl }; have cb2 : w2.cell? ⟨wr.heap.size, 2, none⟩ = some (.slice ao2 n2 cp2) := by { rw [hb3.cellAt (by simp; omega) (hb2.lt (Nat.le_refl _)), box_cell]; rfl }; have cb3 : w2.cell? ⟨wr.heap.size, 3, none⟩ = some (.slice ao3 n3 cp3) := by { rw [hb3.cellAt (by simp; omega) (hb2.lt (Nat.le_refl _)), box_cell]; rfl })
        have hb4 := ((hb2.alloc _).alloc _).trans hb3
        refine (IH.out _ _ _ hb4 (by simp; omega)).mono ?_
        rintro e w3 ⟨v3, rfl, hb5⟩
        clear cb0 cb1 cb2 cb3 hb3 hb4
        go_wp2
        go_roundw
        case rel => exact ⟨k + 1, by omega, by go_num, by rw [HJ.out, if_neg (by omega)]; simpa using hb5⟩
        case measure => simp [intOf]; omega
      · go_wp2_with fail
        refine (IH.out _ _ _ (by exact hb2.alloc _) (by simp; omega)).mono ?_
        rintro e w3 ⟨v3, rfl, hb5⟩
        go_wp2
        go_roundw
        case rel => exact ⟨k + 1, by omega, by go_num, by rw [HJ.out, if_pos (by omega)]; rw [HJ0.out (by omega)] at hb5; simpa using hb5⟩
        case measure => simp [intOf]; omega
    · have hks : k = is.length := by omega
      rw [hks, List.take_length] at hb2
      have hlen := items_all n is
      clear hks
      go_wp2_with (at_builtin; refine wpList_append_bytesT rfl _ _ 22 rfl S i0 Try.underlying22 hi hz0 hz1 hz2 _ _ rfl W0 _ _ _ (by exact hb2) rfl [93] rfl rfl (by simp; omega) ?_; intro v2 w2 hb3)
      go_ret
      exact ⟨_, rfl, by simpa using hb3⟩

/-- One member's text. -/
def memText (n : Nat) (m : List UInt8 × Js.Doc n) : List UInt8 := Js.quoted m.1 ++ 58 :: Js.canon n m.2

theorem mems_all (n : Nat) (ms : List (List UInt8 × Js.Doc n)) : (Js.join (ms.map (memText n))).length ≤ 6 * (ms.map fun m => 88 + m.1.length + Js.cost n m.2).sum := by
  refine Nat.le_trans (Js.join_length _) ?_
  rw [← Js.sum_mul, List.map_map]
  refine Js.sum_le _ _ _ (fun m _ => ?_)
  have := Js.canon_length n m.2
  have := Js.escs_length m.1
  simp only [Function.comp, memText, List.length_append, List.length_cons, Js.quoted_length]; omega

theorem mems_len (n : Nat) (ms : List (List UInt8 × Js.Doc n)) (k : Nat) (h : k < ms.length) :
    (Js.join ((ms.take k).map (memText n))).length + 528 + 6 * (ms[k].1.length) + 6 * Js.cost n ms[k].2 ≤ 6 * (ms.map fun m => 88 + m.1.length + Js.cost n m.2).sum := by
  have h1 := mems_all n (ms.take k)
  have h2 : (ms.map fun m => 88 + m.1.length + Js.cost n m.2).sum = ((ms.take k).map fun m => 88 + m.1.length + Js.cost n m.2).sum + (88 + ms[k].1.length + Js.cost n ms[k].2) + ((ms.drop (k + 1)).map fun m => 88 + m.1.length + Js.cost n m.2).sum := by
    rw (occs := .pos [1]) [← List.take_append_drop k ms]
    rw [List.drop_eq_getElem_cons h, List.map_append, List.sum_append, List.map_cons, List.sum_cons]
    omega
  omega

theorem mems_join (n : Nat) (ms : List (List UInt8 × Js.Doc n)) (k : Nat) (h : k < ms.length) :
    Js.join ((ms.take (k + 1)).map (memText n)) = if k = 0 then memText n ms[k] else Js.join ((ms.take k).map (memText n)) ++ 44 :: memText n ms[k] := by
  rw [List.take_succ_eq_append_getElem h, List.map_append, List.map_cons, List.map_nil, Js.join_snoc]
  by_cases e : k = 0
  · subst e; simp
  · have hne : ¬ (List.map (memText n) (List.take k ms) = []) := by
      intro h2
      have := congrArg List.length h2
      rw [List.length_map, List.length_take, List.length_nil] at this
      omega
    rw [if_neg hne, if_neg e]

set_option maxHeartbeats 2000000 in
theorem canon_object (n : Nat) (ih : CanonSaid n) (s : ByteArray) (ms : List (List UInt8 × Js.Doc n)) (c2 c3 : Value) (S : Nat → Prop) (W0 : World) (v : Value) (l : List UInt8) (w : World)
    (hr : RowsOf S 5 W0 c3 ms (fun cells m => ∃ nm cs', cells = .string nm :: cs' ∧ nm.data.toList = m.1 ∧ Rep S n W0 cs' m.2)) (hg : ∀ m ∈ ms, Js.good n true m.2 = true) (hb : BufT S v l W0 w)
    (hl : l.length + 6 * (ms.map fun m => 88 + m.1.length + Js.cost n m.2).sum + 8 ≤ 140737488355328) :
    Calls Try.prog 16 #[.agg #[.int .u8 6, .string s, c2, c3], v] w fun e w' => ∃ v', e = .returned v' ∧ BufT S v' (l ++ 123 :: (Js.join (ms.map (memText n)) ++ [125])) W0 w' := by
  obtain ⟨i0, hi, hz0, hz1, hz2⟩ := info_parts byteInfo
  obtain ⟨ao, cap, rfl, hc1, hc2, hnil, hrow⟩ := hr
  unfold maxLen at hc2
  have HR := hideC hrow
  clear hrow hnil
  go_enter Try.func16, Try.ntmps16
  go_wp2_with (at_builtin; refine wpList_append_atT rfl _ _ 22 rfl (Own v _) i0 Try.underlying22 hi hz0 hz1 hz2 _ _ rfl _ (by exact ((hb.alloc _).alloc _).self) _ _ _ rfl (by exact new_at2 _ _ _) [123] (by rfl) rfl (by simp; omega) ?_; intro v1 w1 hb1; have cb : w1.cell? ⟨w.heap.size, 3, none⟩ = some (.slice ao ms.length cap) := by { rw [Own.cells hb1 (Own.box hb _ _), box_cell]; rfl })
  have hb1' := ((hb.alloc _).alloc _).trans hb1
  clear hb1 cb hb
  go_loopw [1, 68] (fun t i wr => ∃ k : Nat, k ≤ ms.length ∧ i = .int .i64 k ∧ BufT S t (l ++ 123 :: Js.join ((ms.take k).map (memText n))) W0 wr) (fun _ i _ => ms.length - (intOf i).toNat)
  case atStart => exact ⟨0, Nat.zero_le _, rfl, by simpa [Js.join] using hb1'⟩
  case round =>
    obtain ⟨k, hk, rfl, hb2⟩ := hrel
    clear hb1'
    by_cases hlt : k < ms.length
    · obtain ⟨b, off, cells, rfl, hSb, hcl, hcell, nm, cs', hcc, hnm, hrep⟩ := HR.out k hlt
      obtain ⟨kd, sd, a2, a3, hcs, hs2, hs3⟩ := hrep.shape
      obtain ⟨ao2, n2, cp2, rfl⟩ := hs2
      obtain ⟨ao3, n3, cp3, rfl⟩ := hs3
      have hw : ∀ j, j < 5 → wr.cell? ⟨b, off + k * 5 + j, none⟩ = cells[j]? := fun j hj => by rw [World.cell?_of_block (w := W0) (hb2.2.1.block b hSb)]; exact hcell j hj
      rw [hcs] at hcc
      have e0 : wr.cell? ⟨b, off + k * 5, none⟩ = some (.string nm) := by have := hw 0 (by omega); rw [hcc] at this; simpa using this
      have e1 : wr.cell? ⟨b, off + k * 5 + 1, none⟩ = some (.int .u8 kd) := by have := hw 1 (by omega); rw [hcc] at this; simpa using this
      have e2 : wr.cell? ⟨b, off + k * 5 + 2, none⟩ = some (.string sd) := by have := hw 2 (by omega); rw [hcc] at this; simpa using this
      have e3 : wr.cell? ⟨b, off + k * 5 + 3, none⟩ = some (.slice ao2 n2 cp2) := by have := hw 3 (by omega); rw [hcc] at this; simpa using this
      have e4 : wr.cell? ⟨b, off + k * 5 + 4, none⟩ = some (.slice ao3 n3 cp3) := by have := hw 4 (by omega); rw [hcc] at this; simpa using this
      have hgd := hg ms[k] (List.getElem_mem hlt)
      rw [hcs] at hrep
      have hlen := mems_len n ms k hlt
      have hnl : nm.size = ms[k].1.length := by rw [← hnm]; simp
      have IH := hideC (ih (ms[k]'hlt).2 _ S W0 · · · hrep hgd)
      have hj := mems_join n ms k hlt
      have hmt : memText n ms[k] = Js.quoted nm.data.toList ++ 58 :: Js.canon n ms[k].2 := by rw [hnm]; rfl
      have hj0 : k = 0 → Js.join ((ms.take k).map (memText n)) = [] := fun e => by subst e; simp [Js.join]
      generalize Js.join ((ms.take k).map (memText n)) = J at hb2 hlen hj hj0
      rw [hmt] at hj
      have hq1 := Js.quoted_length nm.data.toList
      have hq2 := Js.escs_length nm.data.toList
      have hq3 : nm.data.toList.length = nm.size := by simp
      have HJ := hideC hj
      have HJ0 := hideC hj0
      clear hj hj0 hw hcell hcl hrep hcs ih hgd hg hcc hnm hmt
      by_cases h0 : 0 < k
      · go_wp2_with (at_builtin; refine wpList_append_atT rfl _ _ 22 rfl (Own _ _) i0 Try.underlying22 hi hz0 hz1 hz2 _ _ rfl _ (by exact ((hb2.alloc _).alloc _).self) _ _ _ rfl (by exact new_at2 _ _ _) [44] (by rfl) rfl (by simp; omega) ?_; intro v2 w2 hb3; have cb0 : w2.cell? ⟨wr.heap.size, 0, none⟩ = some (.string nm) := by { rw [Own.cells hb3 (Own.box hb2 _ _), box_cell]; rfl })
        have hb4 := ((hb2.alloc _).alloc _).trans hb3
        have hO : Own v2 w2 wr.heap.size := Own.step hb3 (Own.box hb2 _ _)
        have c1 : ∀ j, w2.cell? ⟨wr.heap.size, j, none⟩ = (#[Value.string nm, .int .u8 kd, .string sd, .slice ao2 n2 cp2, .slice ao3 n3 cp3] : Array Value)[j]? := fun j => by rw [Own.cells hb3 (Own.box hb2 _ _) j, box_cell]
        refine (appendStringT (Own v2 w2) v2 _ nm w2 w2 hb4.self (by simp; omega)).mono ?_
        rintro e w3 ⟨v3, rfl, hb5⟩
        have hO3 := Own.step hb5 hO
        have c3' : ∀ j, w3.cell? ⟨wr.heap.size, j, none⟩ = (#[Value.string nm, .int .u8 kd, .string sd, .slice ao2 n2 cp2, .slice ao3 n3 cp3] : Array Value)[j]? := fun j => by rw [Own.cells hb5 hO j, c1 j]
        have hb5' := hb4.trans hb5
        have C3 := hideC c3'
        clear c1 c3' hO hb4 hb3 cb0
        go_wp2_with (at_builtin; refine wpList_append_bytesT rfl _ _ 22 rfl (Own v3 w3) i0 Try.underlying22 hi hz0 hz1 hz2 _ _ rfl w3 _ _ _ (by exact hb5.self) rfl [58] rfl rfl (by simp; omega) ?_; intro v4 w4 hb6; have d1 : w4.cell? ⟨wr.heap.size, 1, none⟩ = some (.int .u8 kd) := by { rw [Own.cells hb6 hO3, C3.out]; rfl }; have d2 : w4.cell? ⟨wr.heap.size, 2, none⟩ = some (.string sd) := by { rw [Own.cells hb6 hO3, C3.out]; rfl }; have d3 : w4.cell? ⟨wr.heap.size, 3, none⟩ = some (.slice ao2 n2 cp2) := by { rw [Own.cells hb6 hO3, C3.out]; rfl }; have d4 : w4.cell? ⟨wr.heap.size, 4, none⟩ = some (.slice ao3 n3 cp3) := by { rw [Own.cells hb6 hO3, C3.out]; rfl })
        have hb7 := hb5'.trans hb6
        clear hb5 hb5' hb6 hO3 C3
        refine (IH.out _ _ _ hb7 (by simp; omega)).mono ?_
        rintro e w5 ⟨v5, rfl, hb8⟩
        clear d1 d2 d3 d4 hb7
        go_wp2
        go_roundw
        case rel => exact ⟨k + 1, by omega, by go_num, by rw [HJ.out, if_neg (by omega)]; simpa using hb8⟩
        case measure => simp [intOf]; omega
      · go_wp2_with fail
        have hb4 := hb2.alloc (.cells #[Value.string nm, .int .u8 kd, .string sd, .slice ao2 n2 cp2, .slice ao3 n3 cp3] 53)
        have hO := Own.box1 hb2 (.cells #[Value.string nm, .int .u8 kd, .string sd, .slice ao2 n2 cp2, .slice ao3 n3 cp3] 53)
        have c1 : ∀ j, (wr.alloc (.cells #[Value.string nm, .int .u8 kd, .string sd, .slice ao2 n2 cp2, .slice ao3 n3 cp3] 53)).cell? ⟨wr.heap.size, j, none⟩ = (#[Value.string nm, .int .u8 kd, .string sd, .slice ao2 n2 cp2, .slice ao3 n3 cp3] : Array Value)[j]? := fun j => box_cell1 _ _ _ _
        refine (appendStringT (Own _ (wr.alloc (.cells #[Value.string nm, .int .u8 kd, .string sd, .slice ao2 n2 cp2, .slice ao3 n3 cp3] 53))) _ _ nm (wr.alloc (.cells #[Value.string nm, .int .u8 kd, .string sd, .slice ao2 n2 cp2, .slice ao3 n3 cp3] 53)) (wr.alloc (.cells #[Value.string nm, .int .u8 kd, .string sd, .slice ao2 n2 cp2, .slice ao3 n3 cp3] 53)) hb4.self (by simp; omega)).mono ?_
        rintro e w3 ⟨v3, rfl, hb5⟩
        have hO3 := Own.step hb5 hO
        have c3' : ∀ j, w3.cell? ⟨wr.heap.size, j, none⟩ = (#[Value.string nm, .int .u8 kd, .string sd, .slice ao2 n2 cp2, .slice ao3 n3 cp3] : Array Value)[j]? := fun j => by rw [Own.cells hb5 hO j, c1 j]
        have hb5' := hb4.trans hb5
        have C3 := hideC c3'
        clear c1 c3' hO hb4
        go_wp2_with (at_builtin; refine wpList_append_bytesT rfl _ _ 22 rfl (Own v3 w3) i0 Try.underlying22 hi hz0 hz1 hz2 _ _ rfl w3 _ _ _ (by exact hb5.self) rfl [58] rfl rfl (by simp; omega) ?_; intro v4 w4 hb6; have d1 : w4.cell? ⟨wr.heap.size, 1, none⟩ = some (.int .u8 kd) := by { rw [Own.cells hb6 hO3, C3.out]; rfl }; have d2 : w4.cell? ⟨wr.heap.size, 2, none⟩ = some (.string sd) := by { rw [Own.cells hb6 hO3, C3.out]; rfl }; have d3 : w4.cell? ⟨wr.heap.size, 3, none⟩ = some (.slice ao2 n2 cp2) := by { rw [Own.cells hb6 hO3, C3.out]; rfl }; have d4 : w4.cell? ⟨wr.heap.size, 4, none⟩ = some (.slice ao3 n3 cp3) := by { rw [Own.cells hb6 hO3, C3.out]; rfl })
        have hb7 := hb5'.trans hb6
        clear hb5 hb5' hb6 hO3 C3
        refine (IH.out _ _ _ hb7 (by simp; omega)).mono ?_
        rintro e w5 ⟨v5, rfl, hb8⟩
        clear d1 d2 d3 d4 hb7
        go_wp2
        go_roundw
        case rel => exact ⟨k + 1, by omega, by go_num, by rw [HJ.out, if_pos (by omega)]; rw [HJ0.out (by omega)] at hb8; simpa using hb8⟩
        case measure => simp [intOf]; omega
    · have hks : k = ms.length := by omega
      rw [hks, List.take_length] at hb2
      have hlen := mems_all n ms
      clear hks
      go_wp2_with (at_builtin; refine wpList_append_bytesT rfl _ _ 22 rfl S i0 Try.underlying22 hi hz0 hz1 hz2 _ _ rfl W0 _ _ _ (by exact hb2) rfl [125] rfl rfl (by simp; omega) ?_; intro v2 w2 hb3)
      go_ret
      exact ⟨_, rfl, by simpa using hb3⟩

theorem canonical : ∀ n, CanonSaid n
  | 0 => fun d => d.elim
  | n + 1 => fun (k, t, is, ms) cs S W0 v l w hr hg hb hl => by
    obtain ⟨hk, s, c2, c3, rfl, h1, h2, h3, h4, h5⟩ := hr
    have hgd : (decide (k ≤ 6) && (decide (k ≠ 3) || Js.isNum t)) = true ∧ (is.all (Js.good n (decide (k = 5))) = true ∧ (ms.all fun m => Js.good n (decide (k = 6)) m.2) = true) := by
      simpa [Js.good] using hg
    obtain ⟨hg1, hg2, hg3⟩ := hgd
    have hk6 : k ≤ 6 := by simp at hg1; exact hg1.1
    simp only [Js.cost] at hl
    have hsum1 : 0 ≤ (is.map fun d => 72 + Js.cost n d).sum := Nat.zero_le _
    have hcase : (k = 0 ∨ k = 1 ∨ k = 2) ∨ (k = 3 ∨ k = 4) ∨ k = 5 ∨ k = 6 := by omega
    rcases hcase with h | h | rfl | rfl
    · refine (canon_lit k h s c2 c3 S W0 v l w hb (by omega)).mono ?_
      rintro e w' ⟨v', he, hb'⟩
      refine ⟨v', he, ?_⟩
      rcases h with rfl | rfl | rfl <;> simpa [Js.canon] using hb'
    · have ht := h1 h
      have hsz : s.size = t.length := by rw [← ht]; simp
      refine (canon_text k h s c2 c3 S W0 v l w hb (by omega)).mono ?_
      rintro e w' ⟨v', he, hb'⟩
      refine ⟨v', he, ?_⟩
      rw [ht] at hb'
      rcases h with rfl | rfl <;> simpa [Js.canon] using hb'
    · refine (canon_array n (canonical n) s is c2 c3 S W0 v l w (h4 rfl) (fun d hd => by simpa using List.all_eq_true.1 hg2 d hd) hb (by omega)).mono ?_
      rintro e w' ⟨v', he, hb'⟩
      exact ⟨v', he, by simpa [Js.canon] using hb'⟩
    · refine (canon_object n (canonical n) s ms c2 c3 S W0 v l w (h5 rfl) (fun m hm => by simpa using List.all_eq_true.1 hg3 m hm) hb (by omega)).mono ?_
      rintro e w' ⟨v', he, hb'⟩
      exact ⟨v', he, hb'⟩
end Go.Proofs.Qxb6601578a
