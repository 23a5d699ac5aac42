/-
  A buffer of bytes that a call owns: what it leaves alone is told by a set S of block numbers; its own block may be in S while the buffer has no room.
-/
import Derived.Test.Qxb6601578aBuf
namespace Go.Proofs.Qxb6601578a
open Go.RowKit

/-- The blocks of S stand in w as they stood in W0; no block has gone. -/
structure KeptT (S : Nat → Prop) (W0 w : World) : Prop where
  os : w.os = W0.os
  tape : w.tape = W0.tape
  output : w.output = W0.output
  size : W0.heap.size ≤ w.heap.size
  block : ∀ k, S k → w.heap[k]? = W0.heap[k]?

theorem KeptT.refl (S : Nat → Prop) (w : World) : KeptT S w w := ⟨rfl, rfl, rfl, Nat.le_refl _, fun _ _ => rfl⟩

theorem KeptT.grown {S : Nat → Prop} {W0 w w' : World} {row : Option Nat} (h : KeptT S W0 w) (hS : ∀ k, S k → k < W0.heap.size) (hg : w.grownBy w' row) (hr : ∀ k, row = some k → ¬ S k) : KeptT S W0 w' :=
  ⟨hg.os.trans h.os, hg.tape.trans h.tape, hg.output.trans h.output, Nat.le_trans h.size hg.size, fun k hk => (hg.block k (Nat.lt_of_lt_of_le (hS k hk) h.size) (fun e => hr k e.symm hk)).trans (h.block k hk)⟩

/-- No room is left. -/
def Tight (v : Value) : Prop := ∀ a n c, v = .slice a n c → c = n

/-- In w the slice v owns a row of the bytes l, in a block outside S (or in S, and then it has no room); the blocks of S are as they were in W0. -/
def BufT (S : Nat → Prop) (v : Value) (l : List UInt8) (W0 w : World) : Prop :=
  w.ownsRow 0 5 1 v l.length (bc l) ∧ KeptT S W0 w ∧ (∀ k, v.ownBlock = some k → S k → Tight v) ∧ (∀ k, S k → k < W0.heap.size)

theorem BufT.alloc {S : Nat → Prop} {v : Value} {l : List UInt8} {W0 w : World} (h : BufT S v l W0 w) (o : Obj) : BufT S v l W0 (w.alloc o) :=
  ⟨h.1.alloc o, h.2.1.grown h.2.2.2 (World.grownBy_alloc w o none) (fun _ e => by cases e), h.2.2⟩

theorem BufT.drew {S : Nat → Prop} {v : Value} {l : List UInt8} {W0 w : World} (h : BufT S v l W0 w) : BufT S v l W0 w.drew :=
  ⟨h.1, ⟨h.2.1.os, h.2.1.tape, h.2.1.output, h.2.1.size, h.2.1.block⟩, h.2.2⟩

theorem BufT.nil_len {S : Nat → Prop} {l : List UInt8} {W0 w : World} (h : BufT S (.slice none 0 0) l W0 w) : l = [] := by
  rcases h.1.2 with ⟨_, hn⟩ | ⟨g, cap, cur, hv, _⟩
  · exact List.eq_nil_of_length_eq_zero hn
  · cases hv

section
variable {P : Program}

/-- What an append does to the blocks, and where the new value lies: in the old row (nothing turns there if it had no room), or in a new block. -/
theorem run_where (v v' : Value) (l : List UInt8) (S : Nat → Prop) (W0 w w' : World) (m : Nat) (hb : BufT S v l W0 w) (l' : List UInt8) (h1 : w'.ownsRow 0 5 1 v' l'.length (bc l')) (h2 : w.grownBy w' v.ownBlock)
    (hroom : ∀ g cap cur, v = .slice (some ⟨g, 0, none⟩) l.length cap → w.heap[g]? = some (.cells cur 5 (0, 0)) → l.length + m ≤ cap → v' = .slice (some ⟨g, 0, none⟩) (l.length + m) cap ∧ (m = 0 → w'.heap[g]? = w.heap[g]?))
    (hgrow : ∀ g cap, v = .slice (some ⟨g, 0, none⟩) l.length cap → ¬ l.length + m ≤ cap → (∀ k, v'.ownBlock = some k → w.heap.size ≤ k) ∧ ∀ k, k < w.heap.size → w'.heap[k]? = w.heap[k]?)
    (hnil : v = .slice none 0 0 → ∀ k, v'.ownBlock = some k → w.heap.size ≤ k) : BufT S v' l' W0 w' := by
  have hlt : ∀ k, S k → k < w.heap.size := fun k hk => Nat.lt_of_lt_of_le (hb.2.2.2 k hk) hb.2.1.size
  refine ⟨h1, ⟨h2.os.trans hb.2.1.os, h2.tape.trans hb.2.1.tape, h2.output.trans hb.2.1.output, Nat.le_trans hb.2.1.size h2.size, fun k hk => ?_⟩, fun k hk hS => ?_, hb.2.2.2⟩
  · refine Eq.trans ?_ (hb.2.1.block k hk)
    by_cases e : v.ownBlock = some k
    · rcases hb.1.2 with ⟨hv, _⟩ | ⟨g, cap, cur, hv, _, hg, _⟩
      · rw [hv] at e; simp [Value.ownBlock] at e
      · have hgk : g = k := by rw [hv] at e; simpa [Value.ownBlock] using e
        subst hgk
        by_cases hr : l.length + m ≤ cap
        · have ht := hb.2.2.1 g e hk _ _ _ hv
          exact (hroom g cap cur hv hg hr).2 (by omega)
        · exact (hgrow g cap hv hr).2 g (hlt g hk)
    · exact h2.block k (hlt k hk) (fun e2 => e e2.symm)
  · rcases hb.1.2 with ⟨hv, _⟩ | ⟨g, cap, cur, hv, _, hg, _⟩
    · have := hnil hv k hk
      have := hlt k hS
      omega
    · by_cases hr : l.length + m ≤ cap
      · have hv' := (hroom g cap cur hv hg hr).1
        have hgk : g = k := by rw [hv'] at hk; simpa [Value.ownBlock] using hk
        subst hgk
        have ht := hb.2.2.1 g (by rw [hv]; rfl) hS _ _ _ hv
        intro a n c hvc
        rw [hv'] at hvc
        injection hvc with h1 h2 h3
        omega
      · have := (hgrow g cap hv hr).1 k hk
        have := hlt k hS
        omega

/-- append from a slice's cells. -/
theorem run_bytesT_slice (t ty : TypeId) (i : TypeInfo) (ht : P.underlying t = some (.slice 5)) (hi : P.info? 5 = some i) (hz : i.zero = some (.int .u8 0)) (hsize : i.size = 1) (hby : i.bytes = 1)
    (S : Nat → Prop) (v : Value) (l : List UInt8) (W0 w : World) (hb : BufT S v l W0 w) (a : Addr) (m c : Nat) (news : List UInt8) (hm : news.length = m)
    (hnews : ∀ j u, (bc news)[j]? = some u → w.cell? (a.add j) = some u) (hlen : l.length + m ≤ 140737488355328) :
    ∃ v' w', (Builtin.append_ #[t, t] ty #[v, .slice (some a) m c]).run P w = .ok v' w' ∧ BufT S v' (l ++ news) W0 w' := by
  have hl : (bc news).length = m * 1 := by rw [bc_length, hm, Nat.mul_one]
  obtain ⟨v', w', hr, h1, h2, _⟩ := run_append_own (P := P) w 0 t ty 5 i (.int .u8 0) 1 1 ht hi hz hsize hby rfl (by decide) v l.length (bc l) hb.1 a m c (bc news) hl hnews (bc_one _) (by unfold maxLen; omega) (by omega) (Nat.zero_le _)
  refine ⟨v', w', hr, run_where v v' l S W0 w w' m hb (l ++ news) (by rw [List.length_append, bc_append, hm]; exact h1) h2 ?_ ?_ ?_⟩
  · intro g cap cur hv hg hroom
    subst hv
    obtain ⟨cur2, hg2, hcs⟩ : ∃ cur2, w.heap[g]? = some (.cells cur2 5 (0, 0)) ∧ cur2.size = cap := by
      rcases hb.1.2 with ⟨hv, _⟩ | ⟨g', cap', cur', hv, _, hg', _, _, hcs, _⟩
      · cases hv
      · injection hv with e1 e2 e3
        have : g = g' := by simpa using e1
        subst this; subst e3
        exact ⟨cur', hg', by simpa using hcs⟩
    have hr2 := run_append_room (P := P) w t ty 5 i ht hi g l.length cap cur2 hg2 a m c (bc news) (by rw [hsize]; exact hl) hnews (bc_one _) hroom (by rw [hsize, hl, hcs]; omega)
    rw [hr] at hr2
    obtain ⟨rfl, rfl⟩ : v' = _ ∧ w' = _ := by simpa using hr2
    refine ⟨rfl, fun hm0 => ?_⟩
    have hn0 : news = [] := List.eq_nil_of_length_eq_zero (by omega)
    subst hn0
    rw [setRow_heap w g cur2 _ 5 (0, 0) hg2, hg2]
    simp [bc]
  · intro g cap hv hroom
    subst hv
    have hr2 := run_append_grow (P := P) w t ty 5 i (.int .u8 0) ht hi hz ⟨g, 0, none⟩ l.length cap (bc l) (by rw [hsize, bc_length, Nat.mul_one]) (hb.1.cells (g := g) rfl) a m c (bc news) (by rw [hsize]; exact hl) hnews (by omega) (by omega) (by rw [hby]; exact growslice_fits (by omega) (by omega))
    rw [hr] at hr2
    obtain ⟨rfl, rfl⟩ : v' = _ ∧ w' = _ := by simpa using hr2
    exact ⟨fun k hk => by simp [Value.ownBlock] at hk; omega, fun k hk => heap_alloc_old w.drew _ k hk⟩
  · intro hv
    subst hv
    have hl0 : l = [] := hb.nil_len
    subst hl0
    obtain ⟨v2, w2, hr2, k1, _, _⟩ := run_append_own (P := P) w w.heap.size t ty 5 i (.int .u8 0) 1 1 ht hi hz hsize hby rfl (by decide) (.slice none 0 0) 0 [] (World.ownsRow_nil _ _ _ _) a m c (bc news) hl hnews (bc_one _) (by unfold maxLen; omega) (by omega) (Nat.le_refl _)
    rw [hr] at hr2
    obtain ⟨rfl, rfl⟩ : v' = v2 ∧ w' = w2 := by simpa using hr2
    exact fun k hk => (k1.lt k hk).1

/-- append of a string's bytes, likewise. -/
theorem run_bytesT_str (t u ty : TypeId) (i : TypeInfo) (ht : P.underlying t = some (.slice 5)) (hu : P.underlying u = some .string) (hi : P.info? 5 = some i) (hz : i.zero = some (.int .u8 0)) (hsize : i.size = 1) (hby : i.bytes = 1)
    (S : Nat → Prop) (v : Value) (l : List UInt8) (W0 w : World) (hb : BufT S v l W0 w) (s : ByteArray) (hlen : l.length + s.size ≤ 140737488355328) :
    ∃ v' w', (Builtin.append_ #[t, u] ty #[v, .string s]).run P w = .ok v' w' ∧ BufT S v' (l ++ s.data.toList) W0 w' := by
  obtain ⟨v', w', hr, h1, h2, _⟩ := Lib.run_append_own_string (P := P) w 0 t u ty 5 i ht hu hi hz hsize hby v l.length (bc l) hb.1 s (by unfold maxLen; omega) (by omega) (Nat.zero_le _)
  refine ⟨v', w', hr, run_where v v' l S W0 w w' s.size hb (l ++ s.data.toList) (by rw [List.length_append, bc_append, ← bc_str, Array.length_toList]; exact h1) h2 ?_ ?_ ?_⟩
  · intro g cap cur hv hg hroom
    subst hv
    obtain ⟨cur2, hg2, hcs⟩ : ∃ cur2, w.heap[g]? = some (.cells cur2 5 (0, 0)) ∧ cur2.size = cap := by
      rcases hb.1.2 with ⟨hv, _⟩ | ⟨g', cap', cur', hv, _, hg', _, _, hcs, _⟩
      · cases hv
      · injection hv with e1 e2 e3
        have : g = g' := by simpa using e1
        subst this; subst e3
        exact ⟨cur', hg', by simpa using hcs⟩
    have hr2 := Lib.run_append_room_string (P := P) w t u ty 5 i ht hu hi hsize g l.length cap cur2 hg2 s hroom (by omega)
    rw [hr] at hr2
    obtain ⟨rfl, rfl⟩ : v' = _ ∧ w' = _ := by simpa using hr2
    refine ⟨rfl, fun hm0 => ?_⟩
    have hs0 : Lib.strCells s = [] := List.eq_nil_of_length_eq_zero (by rw [Lib.strCells_length]; exact hm0)
    rw [setRow_heap w g cur2 _ 5 (0, 0) hg2, hg2, hs0, hm0]
    simp
  · intro g cap hv hroom
    subst hv
    have hr2 := Lib.run_append_grow_string (P := P) w t u ty 5 i (.int .u8 0) ht hu hi hz ⟨g, 0, none⟩ l.length cap (bc l) (by rw [hsize, bc_length, Nat.mul_one]) (hb.1.cells (g := g) rfl) s (by omega) (by omega) (by rw [hby]; exact growslice_fits (by omega) (by omega))
    rw [hr] at hr2
    obtain ⟨rfl, rfl⟩ : v' = _ ∧ w' = _ := by simpa using hr2
    exact ⟨fun k hk => by simp [Value.ownBlock] at hk; omega, fun k hk => heap_alloc_old w.drew _ k hk⟩
  · intro hv
    subst hv
    have hl0 : l = [] := hb.nil_len
    subst hl0
    obtain ⟨v2, w2, hr2, k1, _, _⟩ := Lib.run_append_own_string (P := P) w w.heap.size t u ty 5 i ht hu hi hz hsize hby (.slice none 0 0) 0 [] (World.ownsRow_nil _ _ _ _) s (by unfold maxLen; simp at hlen; omega) (by simp at hlen; omega) (Nat.le_refl _)
    rw [hr] at hr2
    obtain ⟨rfl, rfl⟩ : v' = v2 ∧ w' = w2 := by simpa using hr2
    exact fun k hk => (k1.lt k hk).1

theorem wpList_append_bytesT {ops : Array Oper} {rest : List Oper} {o : Oper} {a : Act} {Q : Exit → Act → World → Prop} (hgd : o.guard = none) (s x : Operand) (t : TypeId)
    (ho : o.op = .call { callee := .builtin .append, args := #[s, x], argTypes := #[t, t] })
    (S : Nat → Prop) (i : TypeInfo) (ht : P.underlying t = some (.slice 5)) (hi : P.info? 5 = some i) (hz : i.zero = some (.int .u8 0)) (hsize : i.size = 1) (hby : i.bytes = 1)
    (v : Value) (l : List UInt8) (hs : a.eval s = v) (W0 w0 : World) (cs : Array Value) (m : Nat) (hb : BufT S v l W0 w0)
    (hx : a.eval x = .slice (some ⟨w0.heap.size, 0, none⟩) m m) (news : List UInt8) (hcs : cs.toList = bc news) (hm : news.length = m) (hlen : l.length + m ≤ 140737488355328)
    (h : ∀ v' w', BufT S v' (l ++ news) W0 w' → wpList P ops Q rest (a.put o.dst v') w') : wpList P ops Q (o :: rest) a (w0.alloc (.cells cs 5)) := by
  refine wpList_plain hgd fun K hK => ?_
  obtain ⟨v', w', hr, h2⟩ := run_bytesT_slice t o.type i ht hi hz hsize hby S v l W0 _ (hb.alloc (.cells cs 5)) ⟨w0.heap.size, 0, none⟩ m m news hm (fun j u hj => by
    rw [Addr.add_lit, Nat.zero_add, cell_of_row _ w0.heap.size j cs 5 (0, 0) (heap_alloc_new w0 _), ← hj, ← hcs]
    simp) hlen
  unfold Oper.wp execOp
  simp only [ho, resolve, invoke, builtin, Sem.run_bind, Sem.run_pure, Result.andThen_ok, List.map_toArray, List.map_cons, List.map_nil, hs, hx, hr]
  exact hK _ _ (h v' w' h2)

theorem wpList_append_strT {ops : Array Oper} {rest : List Oper} {o : Oper} {a : Act} {Q : Exit → Act → World → Prop} {w : World} (hgd : o.guard = none) (sl x : Operand) (t u : TypeId)
    (ho : o.op = .call { callee := .builtin .append, args := #[sl, x], argTypes := #[t, u] })
    (S : Nat → Prop) (i : TypeInfo) (ht : P.underlying t = some (.slice 5)) (hu : P.underlying u = some .string) (hi : P.info? 5 = some i) (hz : i.zero = some (.int .u8 0)) (hsize : i.size = 1) (hby : i.bytes = 1)
    (v : Value) (l : List UInt8) (hs : a.eval sl = v) (W0 : World) (hb : BufT S v l W0 w) (s : ByteArray) (hx : a.eval x = .string s) (hlen : l.length + s.size ≤ 140737488355328)
    (h : ∀ v' w', BufT S v' (l ++ s.data.toList) W0 w' → wpList P ops Q rest (a.put o.dst v') w') : wpList P ops Q (o :: rest) a w := by
  refine wpList_plain hgd fun K hK => ?_
  obtain ⟨v', w', hr, h2⟩ := run_bytesT_str t u o.type i ht hu hi hz hsize hby S v l W0 w hb s hlen
  unfold Oper.wp execOp
  simp only [ho, resolve, invoke, builtin, Sem.run_bind, Sem.run_pure, Result.andThen_ok, List.map_toArray, List.map_cons, List.map_nil, hs, hx, hr]
  exact hK _ _ (h v' w' h2)

theorem step_append_bytesT {ops : Array Oper} {o : Oper} {a : Act} {w : World} {K : Act → World → Prop} {Q : Exit → Act → World → Prop} {E : Prop}
    (hgd : o.guard = none) (s x : Operand) (t : TypeId) (ho : o.op = .call { callee := .builtin .append, args := #[s, x], argTypes := #[t, t] })
    (S : Nat → Prop) (i : TypeInfo) (ht : P.underlying t = some (.slice 5)) (hi : P.info? 5 = some i) (hz : i.zero = some (.int .u8 0)) (hsize : i.size = 1) (hby : i.bytes = 1)
    (v : Value) (l : List UInt8) (hs : a.eval s = v) (W0 : World) (hb : BufT S v l W0 w) (g m : Nat) (cs : Array Value) (hx : a.eval x = .slice (some ⟨g, 0, none⟩) m m) (hg : w.heap[g]? = some (.cells cs 5 (0, 0)))
    (news : List UInt8) (hcs : cs.toList = bc news) (hm : news.length = m) (hlen : l.length + m ≤ 140737488355328)
    (hK : ∀ v' w', BufT S v' (l ++ news) W0 w' → K (a.put o.dst v') w') : if Region.wanted o (yielded ops a.tmps) = true then Oper.wp P o a w K Q else E := by
  have hw : Region.wanted o (yielded ops a.tmps) = true := by simp [Region.wanted, hgd]
  rw [if_pos hw]
  obtain ⟨v', w', hr, h2⟩ := run_bytesT_slice t o.type i ht hi hz hsize hby S v l W0 w hb ⟨g, 0, none⟩ m m news hm (fun j u hj => by
    rw [Addr.add_lit, Nat.zero_add, cell_of_row _ g j cs 5 (0, 0) hg, ← hj, ← hcs]
    simp) hlen
  unfold Oper.wp execOp
  simp only [ho, resolve, invoke, builtin, Sem.run_bind, Sem.run_pure, Result.andThen_ok, List.map_toArray, List.map_cons, List.map_nil, hs, hx, hr]
  exact hK _ _ h2
end
end Go.Proofs.Qxb6601578a
