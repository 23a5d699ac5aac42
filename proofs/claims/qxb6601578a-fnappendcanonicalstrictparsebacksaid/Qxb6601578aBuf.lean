/-
  A buffer of bytes that a call owns, told by the list of its bytes; the two kinds of append onto it; nothing of the program in it.
-/
import Derived.Lib.AppendStr
import Derived.Below
import Derived.Deep.Draws
import Derived.Deep.RegionLaw
namespace Go.Proofs.Qxb6601578a
open Go.RowKit

/-- Bytes as cells. -/
def bc (l : List UInt8) : List Value := l.map fun b => Value.int .u8 b.toNat

theorem bc_length (l : List UInt8) : (bc l).length = l.length := by simp [bc]
theorem bc_append (a b : List UInt8) : bc (a ++ b) = bc a ++ bc b := by simp [bc]
theorem bc_one (l : List UInt8) : ∀ u ∈ bc l, u.oneCell' = true := by
  intro u hu
  obtain ⟨_, _, rfl⟩ := List.mem_map.1 hu
  rfl
theorem bc_str (s : ByteArray) : Lib.strCells s = bc s.data.toList := rfl

/-- In w the slice v owns a row of the bytes l, in a block from B on; below B nothing has turned since W0. -/
def Buf (B : Nat) (v : Value) (l : List UInt8) (W0 w : World) : Prop :=
  w.ownsRow B 5 1 v l.length (bc l) ∧ Below B W0 w ∧ B ≤ w.heap.size

theorem Buf.nil (w : World) : Buf w.heap.size (.slice none 0 0) [] w w := ⟨World.ownsRow_nil _ _ _ _, Below.refl _ _, Nat.le_refl _⟩

theorem Buf.grown {B : Nat} {v v' : Value} {l l' : List UInt8} {W0 w w' : World} (h : Buf B v l W0 w) (ho : w'.ownsRow B 5 1 v' l'.length (bc l')) (hg : w.grownBy w' v.ownBlock) : Buf B v' l' W0 w' :=
  ⟨ho, h.2.1.grown hg h.2.2 (fun k hk => (h.1.lt k hk).1), Nat.le_trans h.2.2 hg.size⟩

theorem Buf.alloc {B : Nat} {v : Value} {l : List UInt8} {W0 w : World} (h : Buf B v l W0 w) (o : Obj) : Buf B v l W0 (w.alloc o) :=
  ⟨h.1.alloc o, h.2.1.alloc h.2.2 o, Nat.le_trans h.2.2 (by simp)⟩

theorem Buf.drew {B : Nat} {v : Value} {l : List UInt8} {W0 w : World} (h : Buf B v l W0 w) : Buf B v l W0 w.drew :=
  ⟨h.1, h.2.1.drew, h.2.2⟩

theorem Buf.drewN {B : Nat} {v : Value} {l : List UInt8} {W0 w : World} (h : Buf B v l W0 w) (q : Nat) : Buf B v l W0 (w.drewN q) :=
  ⟨h.1, ⟨h.2.1.os, h.2.1.tape, h.2.1.output, h.2.1.size, h.2.1.block⟩, h.2.2⟩

/-- What a reader is told of a slice of bytes: its bytes lie where it points. -/
def Reads (w : World) (v : Value) (l : List UInt8) : Prop :=
  ∃ ao c, v = .slice ao l.length c ∧ ∀ i, (h : i < l.length) → ∃ b off, ao = some ⟨b, off, none⟩ ∧ w.cell? ⟨b, off + i, none⟩ = some (.int .u8 (l[i]).toNat)

theorem Reads.below {w w' : World} {v : Value} {l : List UInt8} {B : Nat} (h : Reads w v l) (hb : Below B w w') (hB : w.heap.size ≤ B) : Reads w' v l := by
  obtain ⟨ao, c, hv, hc⟩ := h
  refine ⟨ao, c, hv, fun i hi => ?_⟩
  obtain ⟨b, off, e, hcell⟩ := hc i hi
  have := World.block_lt_of_cell? w _ hcell
  exact ⟨b, off, e, by rw [hb.cell (by show b < B; have : b < w.heap.size := this; omega)]; exact hcell⟩

theorem Buf.cell {B : Nat} {g cap : Nat} {l : List UInt8} {W0 w : World} (h : Buf B (.slice (some ⟨g, 0, none⟩) l.length cap) l W0 w) (i : Nat) (hi : i < l.length) :
    w.cell? ⟨g, i, none⟩ = some (.int .u8 (l[i]).toNat) := by
  have := h.1.cells (g := g) rfl i (.int .u8 (l[i]).toNat) (by simp [bc, hi])
  rwa [Addr.add_lit, Nat.zero_add] at this

/-- A buffer that holds something has an address. -/
theorem Buf.shape {B : Nat} {v : Value} {l : List UInt8} {W0 w : World} (h : Buf B v l W0 w) (hl : 0 < l.length) :
    ∃ g cap, v = .slice (some ⟨g, 0, none⟩) l.length cap ∧ l.length ≤ cap ∧ cap ≤ maxLen ∧ B ≤ g ∧ g < w.heap.size ∧ ∀ i, (hi : i < l.length) → w.cell? ⟨g, i, none⟩ = some (.int .u8 (l[i]).toNat) := by
  rcases h.1.2 with ⟨_, hn⟩ | ⟨g, cap, cur, hv, hB, hg, hc1, hc2, _, _⟩
  · omega
  · subst hv
    exact ⟨g, cap, rfl, hc1, hc2, hB, (Array.getElem?_eq_some_iff.1 hg).1, fun i hi => h.cell i hi⟩

theorem Buf.reads {B : Nat} {v : Value} {l : List UInt8} {W0 w : World} (h : Buf B v l W0 w) : Reads w v l := by
  by_cases hl : 0 < l.length
  · obtain ⟨g, cap, hv, _, _, _, _, hc⟩ := h.shape hl
    exact ⟨_, cap, hv, fun i hi => ⟨g, 0, rfl, by rw [Nat.zero_add]; exact hc i hi⟩⟩
  · rcases h.1.2 with ⟨hv, hn⟩ | ⟨g, cap, cur, hv, _⟩
    · exact ⟨none, 0, by rw [hv, hn], fun i hi => by omega⟩
    · exact ⟨_, cap, hv, fun i hi => by omega⟩

section
variable {P : Program}

/-- 'buf = append(buf, c0, c1, ..)': the new bytes lie in the block that the statement has just laid. -/
theorem wpList_append_bytes {ops : Array Oper} {rest : List Oper} {o : Oper} {a : Act} {Q : Exit → Act → World → Prop} (hgd : o.guard = none) (s x : Operand) (t : TypeId)
    (ho : o.op = .call { callee := .builtin .append, args := #[s, x], argTypes := #[t, t] })
    (B : Nat) (i : TypeInfo) (ht : P.underlying t = some (.slice 5)) (hi : P.info? 5 = some i) (hz : i.zero = some (.int .u8 0)) (hsize : i.size = 1) (hby : i.bytes = 1)
    (v : Value) (l : List UInt8) (hs : a.eval s = v) (W0 w0 : World) (cs : Array Value) (m : Nat) (hb : Buf B v l W0 w0)
    (hx : a.eval x = .slice (some ⟨w0.heap.size, 0, none⟩) m m) (news : List UInt8) (hcs : cs.toList = bc news) (hm : news.length = m) (hlen : l.length + m ≤ 140737488355328)
    (h : ∀ v' w', Buf B v' (l ++ news) W0 w' → wpList P ops Q rest (a.put o.dst v') w') : wpList P ops Q (o :: rest) a (w0.alloc (.cells cs 5)) := by
  have hb' := hb.alloc (.cells cs 5)
  refine wpList_append_own _ hgd s x t ho B 5 i (.int .u8 0) 1 1 ht hi hz hsize hby rfl (by decide) v l.length (bc l) hs hb'.1 ⟨w0.heap.size, 0, none⟩ m m (bc news) hx (by rw [bc_length, hm, Nat.mul_one]) ?_ (bc_one _) (by unfold maxLen; omega) (by omega) hb'.2.2 ?_
  · intro j u hj
    rw [Addr.add_lit, Nat.zero_add, cell_of_row _ w0.heap.size j cs 5 (0, 0) (heap_alloc_new w0 _), ← hj, ← hcs]
    simp
  · intro v' w' ho' hg _
    refine h v' w' (hb'.grown ?_ hg)
    rw [List.length_append, bc_append, hm]
    exact ho'

/-- 'buf = append(buf, s...)', s a string. -/
theorem wpList_append_str {ops : Array Oper} {rest : List Oper} {o : Oper} {a : Act} {Q : Exit → Act → World → Prop} {w : World} (hgd : o.guard = none) (sl x : Operand) (t u : TypeId)
    (ho : o.op = .call { callee := .builtin .append, args := #[sl, x], argTypes := #[t, u] })
    (B : Nat) (i : TypeInfo) (ht : P.underlying t = some (.slice 5)) (hu : P.underlying u = some .string) (hi : P.info? 5 = some i) (hz : i.zero = some (.int .u8 0)) (hsize : i.size = 1) (hby : i.bytes = 1)
    (v : Value) (l : List UInt8) (hs : a.eval sl = v) (W0 : World) (hb : Buf B v l W0 w) (s : ByteArray) (hx : a.eval x = .string s) (hlen : l.length + s.size ≤ 140737488355328)
    (h : ∀ v' w', Buf B v' (l ++ s.data.toList) W0 w' → wpList P ops Q rest (a.put o.dst v') w') : wpList P ops Q (o :: rest) a w := by
  refine Lib.wpList_append_own_string w hgd sl x t u ho B 5 i ht hu hi hz hsize hby v l.length (bc l) hs hb.1 s hx (by unfold maxLen; omega) hlen hb.2.2 ?_
  intro v' w' ho' hg _
  refine h v' w' (hb.grown ?_ hg)
  rw [List.length_append, bc_append, ← bc_str, Array.length_toList]
  exact ho'

/-- 'buf = append(buf, xs...)', xs a slice of bytes wherever it lies. -/
theorem wpList_append_slice {ops : Array Oper} {rest : List Oper} {o : Oper} {a : Act} {Q : Exit → Act → World → Prop} {w : World} (hgd : o.guard = none) (s x : Operand) (t : TypeId)
    (ho : o.op = .call { callee := .builtin .append, args := #[s, x], argTypes := #[t, t] })
    (B : Nat) (i : TypeInfo) (ht : P.underlying t = some (.slice 5)) (hi : P.info? 5 = some i) (hz : i.zero = some (.int .u8 0)) (hsize : i.size = 1) (hby : i.bytes = 1)
    (v : Value) (l : List UInt8) (hs : a.eval s = v) (W0 : World) (hb : Buf B v l W0 w) (g off m c : Nat) (hx : a.eval x = .slice (some ⟨g, off, none⟩) m c)
    (news : List UInt8) (hm : news.length = m) (hcell : ∀ j, (h : j < news.length) → w.cell? ⟨g, off + j, none⟩ = some (.int .u8 (news[j]).toNat)) (hlen : l.length + m ≤ 140737488355328)
    (h : ∀ v' w', Buf B v' (l ++ news) W0 w' → wpList P ops Q rest (a.put o.dst v') w') : wpList P ops Q (o :: rest) a w := by
  refine wpList_append_own _ hgd s x t ho B 5 i (.int .u8 0) 1 1 ht hi hz hsize hby rfl (by decide) v l.length (bc l) hs hb.1 ⟨g, off, none⟩ m c (bc news) hx (by rw [bc_length, hm, Nat.mul_one]) ?_ (bc_one _) (by unfold maxLen; omega) (by omega) hb.2.2 ?_
  · intro j u hj
    have hj1 : j < news.length := by have := (List.getElem?_eq_some_iff.1 hj).1; simpa [bc] using this
    rw [Addr.add_lit, hcell j hj1, ← hj]
    simp [bc, hj1]
  · intro v' w' ho' hg _
    refine h v' w' (hb.grown ?_ hg)
    rw [List.length_append, bc_append, hm]
    exact ho'

/-- The same append as one step of a region that draws its order. -/
theorem step_append_bytes {ops : Array Oper} {o : Oper} {a : Act} {w : World} {K : Act → World → Prop} {Q : Exit → Act → World → Prop} {E : Prop}
    (hgd : o.guard = none) (s x : Operand) (t : TypeId) (ho : o.op = .call { callee := .builtin .append, args := #[s, x], argTypes := #[t, t] })
    (B : Nat) (i : TypeInfo) (ht : P.underlying t = some (.slice 5)) (hi : P.info? 5 = some i) (hz : i.zero = some (.int .u8 0)) (hsize : i.size = 1) (hby : i.bytes = 1)
    (v : Value) (l : List UInt8) (hs : a.eval s = v) (W0 : World) (hb : Buf B v l W0 w) (g m : Nat) (cs : Array Value) (hx : a.eval x = .slice (some ⟨g, 0, none⟩) m m) (hg : w.heap[g]? = some (.cells cs 5 (0, 0)))
    (news : List UInt8) (hcs : cs.toList = bc news) (hm : news.length = m) (hlen : l.length + m ≤ 140737488355328)
    (hK : ∀ v' w', Buf B v' (l ++ news) W0 w' → K (a.put o.dst v') w') : if Region.wanted o (yielded ops a.tmps) = true then Oper.wp P o a w K Q else E := by
  have hw : Region.wanted o (yielded ops a.tmps) = true := by simp [Region.wanted, hgd]
  rw [if_pos hw]
  refine wp_append_own w s x t ho B 5 i (.int .u8 0) 1 1 ht hi hz hsize hby rfl (by decide) v l.length (bc l) hs hb.1 ⟨g, 0, none⟩ m m (bc news) hx (by rw [bc_length, hm, Nat.mul_one]) ?_ (bc_one _) (by unfold maxLen; omega) (by omega) hb.2.2 ?_
  · intro j u hj
    rw [Addr.add_lit, Nat.zero_add, cell_of_row _ g j cs 5 (0, 0) hg, ← hj, ← hcs]
    simp
  · intro v' w' ho' hgr _
    refine hK v' w' (hb.grown ?_ hgr)
    rw [List.length_append, bc_append, hm]
    exact ho'
end
end Go.Proofs.Qxb6601578a
