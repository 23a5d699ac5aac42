import Derived.Test.Qxb6601578aWalkD
import Derived.Test.Qxb6601578aWalkS
import Derived.Laws.AppendOwnNone
namespace Go.Proofs.Qxb6601578a
open Go.RowKit
set_option linter.unusedSimpArgs false
set_option linter.unusedVariables false

theorem hide' {p : Prop} (h : p) : Hid p := h

/-- What 'make([]byte, n)' has laid: a row of n cells at the heap's end. -/
theorem made_row {w w4 : World} {B n : Nat} {xs : List Value} (hown : w4.ownsRow B 5 1 (.slice (some ⟨w.heap.size, 0, none⟩) n n) n xs) (hg : w.grownBy w4 none) :
    ∃ cur : List Value, w4.heap[w.heap.size]? = some (.cells cur.toArray 5 (0, 0)) ∧ cur.length = n ∧ Below w.heap.size w w4 := by
  rcases hown.2 with ⟨h, _⟩ | ⟨g, cap, cur, hv, _, hrow, _, _, hs, _⟩
  · cases h
  · simp at hv
    obtain ⟨rfl, rfl⟩ := hv
    exact ⟨cur.toList, by simpa using hrow, by simpa using hs, (Below.refl _ _).grown hg (Nat.le_refl _) (by simp)⟩

theorem clone_nil (w : World) : Calls Try.prog 8 #[.slice none 0 0] w fun e w' => e = .returned (.slice none 0 0) ∧ w' = w := by
  have hq := fun (wx : World) (a : Option Addr) (n c : Nat) => Lib.run_eql_slice_nil (P := Try.prog) wx 22 5 a n c 0 0 Try.underlying22
  go_enter Try.func8, Try.ntmps8
  go_wp2
  go_ret
  exact ⟨rfl, rfl⟩

/-- A slice that came in, copied: a new row of the same bytes. -/
theorem clone_some (x : Addr) (l : List UInt8) (cap : Nat) (w : World) (hm : l.length ≤ 140737488355328)
    (hcell : ∀ j, (h : j < l.length) → w.cell? (x.add j) = some (.int .u8 (l[j]).toNat)) :
    Calls Try.prog 8 #[.slice (some x) l.length cap] w fun e w' => ∃ v', e = .returned v' ∧ Buf w.heap.size v' l w w' := by
  obtain ⟨i0, hi, hz0, hz1, hz2⟩ := info_parts byteInfo
  have hq := fun (wx : World) (a : Option Addr) (n c : Nat) => Lib.run_eql_slice_nil (P := Try.prog) wx 22 5 a n c 0 0 Try.underlying22
  have hsz : (Try.prog.info? 5).map (·.size) = some 1 := by rw [hi]; simp [hz1]
  obtain ⟨L, hL⟩ : ∃ L, L = bc l := ⟨_, rfl⟩
  have hLl : L.length = l.length := by rw [hL, bc_length]
  have HL := hide' hL
  have HLl := hide' hLl
  have H1 : Hid (∀ v ∈ L, v.oneCell' = true) := by rw [hL]; exact bc_one l
  have HC : Hid (∀ wx, Below w.heap.size w wx → ∀ j v, L[j]? = some v → wx.cell? (x.add j) = some v) := fun wx hb j v hj => by
    rw [hL] at hj
    have hj1 : j < l.length := by have := (List.getElem?_eq_some_iff.1 hj).1; simpa [bc] using this
    have hx := World.block_lt_of_cell? w _ (hcell j hj1)
    rw [hb.cell hx, hcell j hj1, ← hj]
    simp [bc, hj1]
  clear hcell hL hLl
  go_enter Try.func8, Try.ntmps8
  go_wp2_with (first
    | (at_make; refine wpList_make_full _ rfl _ _ 22 rfl w.heap.size 5 i0 (.int .u8 0) 1 Try.underlying22 hi hz0 hz1 _ _ _ _ l.length rfl rfl (by omega) (by omega) (by rw [hz2]; omega) (by unfold maxLen; omega) (Nat.le_refl _) ?_; intro w4 hown hgrow; obtain ⟨cur, hcur, hcl, bl4⟩ := made_row hown hgrow; clear hown hgrow)
    | (refine wpList_copy_splice rfl (.tmp 9) (.tmp 10) 22 22 rfl 5 Try.underlying22 hsz _ _ _ _ _ _ rfl rfl w.heap.size 0 cur 5 hcur L (by have := HLl.out; simp; omega) (fun _ => ⟨rfl, x, rfl, HC.out _ bl4⟩) (by have := HLl.out; omega) H1.out w.heap.size w bl4 (Nat.le_refl _) ?_; intro w5 hrow bl5))
  go_ret
  refine ⟨_, rfl, ⟨⟨by rw [bc_length, Nat.mul_one], .inr ⟨w.heap.size, l.length, _, rfl, Nat.le_refl _, hrow.out, Nat.le_refl _, by unfold maxLen; omega, ?_, ?_⟩⟩, bl5, bl5.size⟩⟩
  · have := HLl.out
    simp [length_splice cur 0 L (by omega), hcl]
  · rw [← HL.out]
    have := HLl.out
    simp [splice, ← this]

/-- What is known of a slice of bytes that came in. -/
def InBytes (w : World) (ao : Option Addr) (l : List UInt8) (cap : Nat) : Prop :=
  (ao = none ∧ l = [] ∧ cap = 0) ∨ ∃ x, ao = some x ∧ ∀ j, (h : j < l.length) → w.cell? (x.add j) = some (.int .u8 (l[j]).toNat)

theorem clone_any (ao : Option Addr) (l : List UInt8) (cap : Nat) (w : World) (hm : l.length ≤ 140737488355328) (h : InBytes w ao l cap) :
    Calls Try.prog 8 #[.slice ao l.length cap] w fun e w' => ∃ v', e = .returned v' ∧ Buf w.heap.size v' l w w' := by
  rcases h with ⟨rfl, rfl, rfl⟩ | ⟨x, rfl, hc⟩
  · exact (clone_nil w).mono fun e w' ⟨h1, h2⟩ => ⟨_, h1, by subst h2; exact Buf.nil _⟩
  · exact clone_some x l cap w hm hc

theorem Buf.form {B : Nat} {v : Value} {l : List UInt8} {W0 w : World} (h : Buf B v l W0 w) : ∃ ao c, v = .slice ao l.length c := by
  rcases h.1.2 with ⟨hv, hn⟩ | ⟨g, cap, cur, hv, _⟩
  · exact ⟨none, 0, by rw [hv, hn]⟩
  · exact ⟨_, cap, hv⟩

theorem Buf.carry {B : Nat} {v : Value} {l : List UInt8} {W0 w w' : World} (h : Buf B v l W0 w) (hb : Below w.heap.size w w') : Buf B v l W0 w' := by
  refine ⟨⟨h.1.1, ?_⟩, h.2.1.trans (hb.mono h.2.2), Nat.le_trans h.2.2 hb.size⟩
  rcases h.1.2 with hn | ⟨g, cap, cur, hv, h1, h2, h3⟩
  · exact .inl hn
  · exact .inr ⟨g, cap, cur, hv, h1, by rw [hb.block g (Array.getElem?_eq_some_iff.1 h2).1]; exact h2, h3⟩

/-- 'buf = append(buf, y...)', y another buffer. -/
theorem wpList_append_buf {P : Program} {ops : Array Oper} {rest : List Oper} {o : Oper} {a : Act} {Q : Exit → Act → World → Prop} {w : World} (hgd : o.guard = none) (s x : Operand) (t : TypeId)
    (ho : o.op = .call { callee := .builtin .append, args := #[s, x], argTypes := #[t, t] })
    (B : Nat) (i : TypeInfo) (ht : P.underlying t = some (.slice 5)) (hi : P.info? 5 = some i) (hz : i.zero = some (.int .u8 0)) (hsize : i.size = 1) (hby : i.bytes = 1)
    (v : Value) (l : List UInt8) (hs : a.eval s = v) (W0 : World) (hb : Buf B v l W0 w) (B' : Nat) (y : Value) (news : List UInt8) (W0' : World) (hy : Buf B' y news W0' w) (hx : a.eval x = y)
    (hlen : l.length + news.length ≤ 140737488355328)
    (h : ∀ v' w', Buf B v' (l ++ news) W0 w' → wpList P ops Q rest (a.put o.dst v') w') : wpList P ops Q (o :: rest) a w := by
  rcases hy.1.2 with ⟨hv, hn⟩ | ⟨g, cap, cur, hv, _⟩
  · have hn0 : news = [] := List.eq_nil_of_length_eq_zero hn
    subst hn0
    exact wpList_append_own_none hgd s x t ho B 5 i 1 ht hi v l.length (bc l) hs hb.1 (by rw [hx, hv]) (h v w (by rw [List.append_nil]; exact hb))
  · subst hv
    exact wpList_append_slice hgd s x t ho B i ht hi hz hsize hby v l hs W0 hb g 0 news.length cap hx news rfl (fun j hj => by rw [Nat.zero_add]; exact hy.cell j hj) hlen h
end Go.Proofs.Qxb6601578a
