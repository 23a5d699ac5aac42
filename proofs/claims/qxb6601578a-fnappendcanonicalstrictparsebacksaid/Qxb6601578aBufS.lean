/-
  A buffer of bytes that a call owns, once more: what it leaves alone is told by a set S of block numbers (not by a bound).
-/
import Derived.Test.Qxb6601578aBuf
namespace Go.Proofs.Qxb6601578a
open Go.RowKit

/-- The blocks of S stand in w as they stood in W0; no block has gone. -/
structure Kept (S : Nat → Prop) (W0 w : World) : Prop where
  os : w.os = W0.os
  tape : w.tape = W0.tape
  output : w.output = W0.output
  size : W0.heap.size ≤ w.heap.size
  block : ∀ k, S k → w.heap[k]? = W0.heap[k]?

theorem Kept.refl (S : Nat → Prop) (w : World) : Kept S w w := ⟨rfl, rfl, rfl, Nat.le_refl _, fun _ _ => rfl⟩

theorem Kept.grown {S : Nat → Prop} {W0 w w' : World} {row : Option Nat} (h : Kept S W0 w) (hS : ∀ k, S k → k < W0.heap.size) (hg : w.grownBy w' row) (hr : ∀ k, row = some k → ¬ S k) : Kept S W0 w' :=
  ⟨hg.os.trans h.os, hg.tape.trans h.tape, hg.output.trans h.output, Nat.le_trans h.size hg.size, fun k hk => (hg.block k (Nat.lt_of_lt_of_le (hS k hk) h.size) (fun e => hr k e.symm hk)).trans (h.block k hk)⟩

/-- In w the slice v owns a row of the bytes l, in a block outside S; the blocks of S are as they were in W0. -/
def BufS (S : Nat → Prop) (v : Value) (l : List UInt8) (W0 w : World) : Prop :=
  w.ownsRow 0 5 1 v l.length (bc l) ∧ Kept S W0 w ∧ (∀ k, v.ownBlock = some k → ¬ S k) ∧ (∀ k, S k → k < W0.heap.size)

theorem BufS.alloc {S : Nat → Prop} {v : Value} {l : List UInt8} {W0 w : World} (h : BufS S v l W0 w) (o : Obj) : BufS S v l W0 (w.alloc o) :=
  ⟨h.1.alloc o, h.2.1.grown h.2.2.2 (World.grownBy_alloc w o none) (fun _ e => by cases e), h.2.2⟩

theorem BufS.drew {S : Nat → Prop} {v : Value} {l : List UInt8} {W0 w : World} (h : BufS S v l W0 w) : BufS S v l W0 w.drew :=
  ⟨h.1, ⟨h.2.1.os, h.2.1.tape, h.2.1.output, h.2.1.size, h.2.1.block⟩, h.2.2⟩

section
variable {P : Program}

/-- append from a slice's cells: where the new value lies: in the old row, or in a block that is new. -/
theorem run_bytes_slice (t ty : TypeId) (i : TypeInfo) (ht : P.underlying t = some (.slice 5)) (hi : P.info? 5 = some i) (hz : i.zero = some (.int .u8 0)) (hsize : i.size = 1) (hby : i.bytes = 1)
    (S : Nat → Prop) (v : Value) (l : List UInt8) (W0 w : World) (hb : BufS S v l W0 w) (a : Addr) (m c : Nat) (news : List UInt8) (hm : news.length = m)
    (hnews : ∀ j u, (bc news)[j]? = some u → w.cell? (a.add j) = some u) (hlen : l.length + m ≤ 140737488355328) :
    ∃ v' w', (Builtin.append_ #[t, t] ty #[v, .slice (some a) m c]).run P w = .ok v' w' ∧ BufS S v' (l ++ news) W0 w' := by
  have hl : (bc news).length = m * 1 := by rw [bc_length, hm, Nat.mul_one]
  obtain ⟨v', w', hr, h1, h2, _⟩ := run_append_own (P := P) w 0 t ty 5 i (.int .u8 0) 1 1 ht hi hz hsize hby rfl (by decide) v l.length (bc l) hb.1 a m c (bc news) hl hnews (bc_one _) (by unfold maxLen; omega) (by omega) (Nat.zero_le _)
  refine ⟨v', w', hr, ⟨by rw [List.length_append, bc_append, hm]; exact h1, hb.2.1.grown hb.2.2.2 h2 hb.2.2.1, ?_, hb.2.2.2⟩⟩
  have key : ∀ k, v'.ownBlock = some k → v.ownBlock = some k ∨ w.heap.size ≤ k := by
    rcases hb.1.2 with ⟨hv, hn⟩ | ⟨g, cap, cur, hv, _, hg, hnc, hcm, hcs, htake⟩
    · have hl0 : l = [] := List.eq_nil_of_length_eq_zero hn
      subst hv; subst hl0
      obtain ⟨v2, w2, hr2, k1, _, _⟩ := run_append_own (P := P) w w.heap.size t ty 5 i (.int .u8 0) 1 1 ht hi hz hsize hby rfl (by decide) (.slice none 0 0) 0 [] (World.ownsRow_nil _ _ _ _) a m c (bc news) hl hnews (bc_one _) (by unfold maxLen; omega) (by omega) (Nat.le_refl _)
      rw [hr] at hr2
      obtain ⟨rfl, rfl⟩ : v' = v2 ∧ w' = w2 := by simpa using hr2
      exact fun k hk => .inr (k1.lt k hk).1
    · subst hv
      by_cases hroom : l.length + m ≤ cap
      · have hr2 := run_append_room (P := P) w t ty 5 i ht hi g l.length cap cur hg a m c (bc news) (by rw [hsize]; exact hl) hnews (bc_one _) hroom (by rw [hsize, hl, hcs]; omega)
        rw [hr] at hr2
        obtain ⟨rfl, rfl⟩ : v' = _ ∧ w' = _ := by simpa using hr2
        exact fun k hk => .inl hk
      · have hr2 := run_append_grow (P := P) w t ty 5 i (.int .u8 0) ht hi hz ⟨g, 0, none⟩ l.length cap (bc l) (by rw [hsize, bc_length, Nat.mul_one]) (hb.1.cells (g := g) rfl) a m c (bc news) (by rw [hsize]; exact hl) hnews (by omega) (by omega) (by rw [hby]; exact growslice_fits (by omega) (by omega))
        rw [hr] at hr2
        obtain ⟨rfl, rfl⟩ : v' = _ ∧ w' = _ := by simpa using hr2
        exact fun k hk => .inr (by simp [Value.ownBlock] at hk; omega)
  intro k hk
  rcases key k hk with h | h
  · exact hb.2.2.1 k h
  · intro hS
    have := hb.2.2.2 k hS
    have := hb.2.1.size
    omega

/-- append of a string's bytes, likewise. -/
theorem run_bytes_str (t u ty : TypeId) (i : TypeInfo) (ht : P.underlying t = some (.slice 5)) (hu : P.underlying u = some .string) (hi : P.info? 5 = some i) (hz : i.zero = some (.int .u8 0)) (hsize : i.size = 1) (hby : i.bytes = 1)
    (S : Nat → Prop) (v : Value) (l : List UInt8) (W0 w : World) (hb : BufS S v l W0 w) (s : ByteArray) (hlen : l.length + s.size ≤ 140737488355328) :
    ∃ v' w', (Builtin.append_ #[t, u] ty #[v, .string s]).run P w = .ok v' w' ∧ BufS S v' (l ++ s.data.toList) W0 w' := by
  obtain ⟨v', w', hr, h1, h2, _⟩ := Lib.run_append_own_string (P := P) w 0 t u ty 5 i ht hu hi hz hsize hby v l.length (bc l) hb.1 s (by unfold maxLen; omega) (by omega) (Nat.zero_le _)
  refine ⟨v', w', hr, ⟨by rw [List.length_append, bc_append, ← bc_str, Array.length_toList]; exact h1, hb.2.1.grown hb.2.2.2 h2 hb.2.2.1, ?_, hb.2.2.2⟩⟩
  have key : ∀ k, v'.ownBlock = some k → v.ownBlock = some k ∨ w.heap.size ≤ k := by
    rcases hb.1.2 with ⟨hv, hn⟩ | ⟨g, cap, cur, hv, _, hg, hnc, hcm, hcs, htake⟩
    · have hl0 : l = [] := List.eq_nil_of_length_eq_zero hn
      subst hv; subst hl0
      obtain ⟨v2, w2, hr2, k1, _, _⟩ := Lib.run_append_own_string (P := P) w w.heap.size t u ty 5 i ht hu hi hz hsize hby (.slice none 0 0) 0 [] (World.ownsRow_nil _ _ _ _) s (by unfold maxLen; simp at hlen; omega) (by simp at hlen; omega) (Nat.le_refl _)
      rw [hr] at hr2
      obtain ⟨rfl, rfl⟩ : v' = v2 ∧ w' = w2 := by simpa using hr2
      exact fun k hk => .inr (k1.lt k hk).1
    · subst hv
      by_cases hroom : l.length + s.size ≤ cap
      · have hr2 := Lib.run_append_room_string (P := P) w t u ty 5 i ht hu hi hsize g l.length cap cur hg s hroom (by omega)
        rw [hr] at hr2
        obtain ⟨rfl, rfl⟩ : v' = _ ∧ w' = _ := by simpa using hr2
        exact fun k hk => .inl hk
      · have hr2 := Lib.run_append_grow_string (P := P) w t u ty 5 i (.int .u8 0) ht hu hi hz ⟨g, 0, none⟩ l.length cap (bc l) (by rw [hsize, bc_length, Nat.mul_one]) (hb.1.cells (g := g) rfl) s (by omega) (by omega) (by rw [hby]; exact growslice_fits (by omega) (by omega))
        rw [hr] at hr2
        obtain ⟨rfl, rfl⟩ : v' = _ ∧ w' = _ := by simpa using hr2
        exact fun k hk => .inr (by simp [Value.ownBlock] at hk; omega)
  intro k hk
  rcases key k hk with h | h
  · exact hb.2.2.1 k h
  · intro hS
    have := hb.2.2.2 k hS
    have := hb.2.1.size
    omega

theorem wpList_append_bytesS {ops : Array Oper} {rest : List Oper} {o : Oper} {a : Act} {Q : Exit → Act → World → Prop} (hgd : o.guard = none) (s x : Operand) (t : TypeId)
    (ho : o.op = .call { callee := .builtin .append, args := #[s, x], argTypes := #[t, t] })
    (S : Nat → Prop) (i : TypeInfo) (ht : P.underlying t = some (.slice 5)) (hi : P.info? 5 = some i) (hz : i.zero = some (.int .u8 0)) (hsize : i.size = 1) (hby : i.bytes = 1)
    (v : Value) (l : List UInt8) (hs : a.eval s = v) (W0 w0 : World) (cs : Array Value) (m : Nat) (hb : BufS S v l W0 w0)
    (hx : a.eval x = .slice (some ⟨w0.heap.size, 0, none⟩) m m) (news : List UInt8) (hcs : cs.toList = bc news) (hm : news.length = m) (hlen : l.length + m ≤ 140737488355328)
    (h : ∀ v' w', BufS S v' (l ++ news) W0 w' → wpList P ops Q rest (a.put o.dst v') w') : wpList P ops Q (o :: rest) a (w0.alloc (.cells cs 5)) := by
  refine wpList_plain hgd fun K hK => ?_
  obtain ⟨v', w', hr, h2⟩ := run_bytes_slice t o.type i ht hi hz hsize hby S v l W0 _ (hb.alloc (.cells cs 5)) ⟨w0.heap.size, 0, none⟩ m m news hm (fun j u hj => by
    rw [Addr.add_lit, Nat.zero_add, cell_of_row _ w0.heap.size j cs 5 (0, 0) (heap_alloc_new w0 _), ← hj, ← hcs]
    simp) hlen
  unfold Oper.wp execOp
  simp only [ho, resolve, invoke, builtin, Sem.run_bind, Sem.run_pure, Result.andThen_ok, List.map_toArray, List.map_cons, List.map_nil, hs, hx, hr]
  exact hK _ _ (h v' w' h2)

theorem wpList_append_strS {ops : Array Oper} {rest : List Oper} {o : Oper} {a : Act} {Q : Exit → Act → World → Prop} {w : World} (hgd : o.guard = none) (sl x : Operand) (t u : TypeId)
    (ho : o.op = .call { callee := .builtin .append, args := #[sl, x], argTypes := #[t, u] })
    (S : Nat → Prop) (i : TypeInfo) (ht : P.underlying t = some (.slice 5)) (hu : P.underlying u = some .string) (hi : P.info? 5 = some i) (hz : i.zero = some (.int .u8 0)) (hsize : i.size = 1) (hby : i.bytes = 1)
    (v : Value) (l : List UInt8) (hs : a.eval sl = v) (W0 : World) (hb : BufS S v l W0 w) (s : ByteArray) (hx : a.eval x = .string s) (hlen : l.length + s.size ≤ 140737488355328)
    (h : ∀ v' w', BufS S v' (l ++ s.data.toList) W0 w' → wpList P ops Q rest (a.put o.dst v') w') : wpList P ops Q (o :: rest) a w := by
  refine wpList_plain hgd fun K hK => ?_
  obtain ⟨v', w', hr, h2⟩ := run_bytes_str t u o.type i ht hu hi hz hsize hby S v l W0 w hb s hlen
  unfold Oper.wp execOp
  simp only [ho, resolve, invoke, builtin, Sem.run_bind, Sem.run_pure, Result.andThen_ok, List.map_toArray, List.map_cons, List.map_nil, hs, hx, hr]
  exact hK _ _ (h v' w' h2)

theorem step_append_bytesS {ops : Array Oper} {o : Oper} {a : Act} {w : World} {K : Act → World → Prop} {Q : Exit → Act → World → Prop} {E : Prop}
    (hgd : o.guard = none) (s x : Operand) (t : TypeId) (ho : o.op = .call { callee := .builtin .append, args := #[s, x], argTypes := #[t, t] })
    (S : Nat → Prop) (i : TypeInfo) (ht : P.underlying t = some (.slice 5)) (hi : P.info? 5 = some i) (hz : i.zero = some (.int .u8 0)) (hsize : i.size = 1) (hby : i.bytes = 1)
    (v : Value) (l : List UInt8) (hs : a.eval s = v) (W0 : World) (hb : BufS S v l W0 w) (g m : Nat) (cs : Array Value) (hx : a.eval x = .slice (some ⟨g, 0, none⟩) m m) (hg : w.heap[g]? = some (.cells cs 5 (0, 0)))
    (news : List UInt8) (hcs : cs.toList = bc news) (hm : news.length = m) (hlen : l.length + m ≤ 140737488355328)
    (hK : ∀ v' w', BufS S v' (l ++ news) W0 w' → K (a.put o.dst v') w') : if Region.wanted o (yielded ops a.tmps) = true then Oper.wp P o a w K Q else E := by
  have hw : Region.wanted o (yielded ops a.tmps) = true := by simp [Region.wanted, hgd]
  rw [if_pos hw]
  obtain ⟨v', w', hr, h2⟩ := run_bytes_slice t o.type i ht hi hz hsize hby S v l W0 w hb ⟨g, 0, none⟩ m m news hm (fun j u hj => by
    rw [Addr.add_lit, Nat.zero_add, cell_of_row _ g j cs 5 (0, 0) hg, ← hj, ← hcs]
    simp) hlen
  unfold Oper.wp execOp
  simp only [ho, resolve, invoke, builtin, Sem.run_bind, Sem.run_pure, Result.andThen_ok, List.map_toArray, List.map_cons, List.map_nil, hs, hx, hr]
  exact hK _ _ h2
end
end Go.Proofs.Qxb6601578a
