/-
  A row that grows by append while what its elements lead to stays; nothing of the program in it.
-/
import Derived.Test.Qxb6601578aPlace
namespace Go.Proofs.Qxb6601578a
open Go.RowKit

/-- R says of a set of blocks, a world, an element's cells and a plain element: these cells are that element, all that they lead to lies in the set. -/
def Keeps {α : Type} (R : (Nat → Prop) → World → List Value → α → Prop) : Prop :=
  ∀ (S S' : Nat → Prop) (w w' : World) (cells : List Value) (x : α), (∀ k, S k → S' k) → (∀ k, S k → w'.heap[k]? = w.heap[k]?) → R S w cells x → R S' w' cells x

/-- The row of the slice v, in a block from B on, and what its elements lead to, in other blocks from B on. -/
def RowIn {α : Type} (B e size : Nat) (R : (Nat → Prop) → World → List Value → α → Prop) (w : World) (v : Value) (ds : List α) : Prop :=
  ∃ (S : Nat → Prop) (rows : List (List Value)), w.ownsRow B e size v ds.length rows.flatten ∧ rows.length = ds.length ∧
    (∀ i, (h : i < ds.length) → ∃ cells, rows[i]? = some cells ∧ cells.length = size ∧ R S w cells ds[i]) ∧ (∀ k, S k → B ≤ k ∧ k < w.heap.size ∧ v.ownBlock ≠ some k)

theorem RowIn.nil {α : Type} (B e size : Nat) (R : (Nat → Prop) → World → List Value → α → Prop) (w : World) : RowIn B e size R w (.slice none 0 0) [] :=
  ⟨fun _ => False, [], World.ownsRow_nil _ _ _ _, rfl, fun i h => (by cases h), fun k h => h.elim⟩

theorem flatten_len {size : Nat} : ∀ (rows : List (List Value)), (∀ c ∈ rows, c.length = size) → rows.flatten.length = rows.length * size
  | [], _ => by simp
  | c :: r, h => by
    rw [List.flatten_cons, List.length_append, h c (List.mem_cons_self ..), flatten_len r (fun x hx => h x (List.mem_cons_of_mem _ hx)), List.length_cons, Nat.add_mul]; omega

theorem flatten_get {size : Nat} : ∀ (rows : List (List Value)), (∀ c ∈ rows, c.length = size) → ∀ i cells, rows[i]? = some cells → ∀ j, j < size → rows.flatten[i * size + j]? = cells[j]?
  | [], _, i, cells, h, _, _ => by simp at h
  | c :: r, h, 0, cells, hi, j, hj => by
    have hc : c = cells := by simpa using hi
    subst hc
    rw [List.flatten_cons, Nat.zero_mul, Nat.zero_add, List.getElem?_append_left (by rw [h c (List.mem_cons_self ..)]; exact hj)]
  | c :: r, h, i + 1, cells, hi, j, hj => by
    have hc : c.length = size := h c (List.mem_cons_self ..)
    have e : (i + 1) * size + j = c.length + (i * size + j) := by rw [hc, Nat.add_mul]; omega
    rw [List.flatten_cons, e, List.getElem?_append_right (Nat.le_add_right _ _), Nat.add_sub_cancel_left]
    exact flatten_get r (fun x hx => h x (List.mem_cons_of_mem _ hx)) i cells (by simpa using hi) j hj

theorem own_block {w w' : World} {B e size n : Nat} {v : Value} {xs : List Value} (h : w.ownsRow B e size v n xs) (hw : ∀ k, v.ownBlock = some k → w'.heap[k]? = w.heap[k]?) : w'.ownsRow B e size v n xs := by
  refine ⟨h.1, ?_⟩
  rcases h.2 with hn | ⟨g, c, cur, hv, hb, hg, r⟩
  · exact .inl hn
  · exact .inr ⟨g, c, cur, hv, hb, (hw g (by rw [hv]; rfl)).trans hg, r⟩

/-- Other blocks turn. -/
theorem RowIn.keep {α : Type} {B e size : Nat} {R : (Nat → Prop) → World → List Value → α → Prop} (hR : Keeps R) {w w' : World} {v : Value} {ds : List α} (h : RowIn B e size R w v ds) (hs : w.heap.size ≤ w'.heap.size)
    (hw : ∀ k, B ≤ k → k < w.heap.size → w'.heap[k]? = w.heap[k]?) : RowIn B e size R w' v ds := by
  obtain ⟨S, rows, h1, h2, h3, h4⟩ := h
  refine ⟨S, rows, own_block h1 (fun k hk => hw k (h1.lt k hk).1 (h1.lt k hk).2), h2, fun i hi => ?_, fun k hk => ⟨(h4 k hk).1, Nat.lt_of_lt_of_le (h4 k hk).2.1 hs, (h4 k hk).2.2⟩⟩
  obtain ⟨cells, e1, e2, e3⟩ := h3 i hi
  exact ⟨cells, e1, e2, hR S S w w' cells _ (fun _ h => h) (fun k hk => hw k (h4 k hk).1 (h4 k hk).2.1) e3⟩

/-- One more element, made between w and w3; appended between w4 and w5; then something below B turns. -/
theorem RowIn.step {α : Type} {B e size : Nat} {R : (Nat → Prop) → World → List Value → α → Prop} (hR : Keeps R) {w w3 w4 w5 w6 : World} {v v' : Value} {ds : List α} (xs : List Value) {cells : List Value} {d : α} (h : RowIn B e size R w v ds)
    (hxs : w4.ownsRow B e size v ds.length xs → w5.ownsRow B e size v' (ds.length + 1) (xs ++ cells)) (hx : ∀ rows : List (List Value), w.ownsRow B e size v ds.length rows.flatten → xs = rows.flatten)
    (hbl : Below w.heap.size w w3) (hB : B ≤ w.heap.size) (hc : cells.length = size) (hnew : R (fun k => w.heap.size ≤ k ∧ k < w3.heap.size) w3 cells d)
    (h34 : ∀ k, k < w3.heap.size → w4.heap[k]? = w3.heap[k]?) (hs34 : w3.heap.size ≤ w4.heap.size) (hg : w4.grownBy w5 v.ownBlock) (hpl : ∀ k, v'.ownBlock = some k → v.ownBlock = some k ∨ w4.heap.size ≤ k)
    (h56 : ∀ k, B ≤ k → w6.heap[k]? = w5.heap[k]?) (hs56 : w6.heap.size = w5.heap.size) : RowIn B e size R w6 v' (ds ++ [d]) := by
  obtain ⟨S, rows, h1, h2, h3, h4⟩ := h
  have hbs := hbl.size
  have hgs := hg.size
  have hown : ∀ k, v.ownBlock = some k → B ≤ k ∧ k < w.heap.size := h1.lt
  have h14 : w4.ownsRow B e size v ds.length rows.flatten := own_block h1 (fun k hk => by
    have := hown k hk
    rw [h34 k (by omega), hbl.block k this.2])
  have hxs0 := hx rows h1
  subst hxs0
  have h5 := hxs h14
  have hkS : ∀ k, S k → w6.heap[k]? = w.heap[k]? := fun k hk => by
    obtain ⟨a, b, c⟩ := h4 k hk
    rw [h56 k a, hg.block k (by omega) (fun e => c e.symm), h34 k (by omega), hbl.block k b]
  have hkN : ∀ k, w.heap.size ≤ k ∧ k < w3.heap.size → w6.heap[k]? = w3.heap[k]? := fun k hk => by
    rw [h56 k (by omega), hg.block k (by omega) (fun e => by have := hown k e.symm; omega), h34 k hk.2]
  refine ⟨fun k => S k ∨ (w.heap.size ≤ k ∧ k < w3.heap.size), rows ++ [cells], ?_, by simp [h2], fun i hi => ?_, fun k hk => ?_⟩
  · rw [List.flatten_append, List.length_append]
    have : w6.ownsRow B e size v' (ds.length + 1) (rows.flatten ++ cells) := own_block h5 (fun k hk => h56 k (h5.lt k hk).1)
    simpa using this
  · rw [List.length_append, List.length_singleton] at hi
    by_cases hlt : i < ds.length
    · obtain ⟨c, e1, e2, e3⟩ := h3 i hlt
      refine ⟨c, by rw [List.getElem?_append_left (by omega)]; exact e1, e2, ?_⟩
      rw [List.getElem_append_left hlt]
      exact hR S _ w w6 c _ (fun k hk => .inl hk) hkS e3
    · have hi' : i = ds.length := by omega
      subst hi'
      refine ⟨cells, by rw [← h2]; simp, hc, ?_⟩
      rw [List.getElem_append_right (Nat.le_refl _)]
      simp only [Nat.sub_self, List.getElem_singleton]
      exact hR _ _ w3 w6 cells d (fun k hk => .inr hk) hkN hnew
  · rcases hk with hk | hk
    · obtain ⟨a, b, c⟩ := h4 k hk
      refine ⟨a, by omega, fun e => ?_⟩
      rcases hpl k e with h | h
      · exact c h
      · omega
    · refine ⟨by omega, by omega, fun e => ?_⟩
      rcases hpl k e with h | h
      · have := hown k h; omega
      · omega

/-- What the row is, at last. -/
theorem RowIn.rows {α : Type} {B e size : Nat} {R : (Nat → Prop) → World → List Value → α → Prop} (hR : Keeps R) {w w' : World} {v : Value} {ds : List α} (h : RowIn B e size R w v ds) (hw : ∀ k, B ≤ k → w'.heap[k]? = w.heap[k]?) :
    RowsOf (fun k => B ≤ k) size w' v ds (fun cells x => R (fun k => B ≤ k) w' cells x) := by
  obtain ⟨S, rows, h1, h2, h3, h4⟩ := h
  have hall : ∀ c ∈ rows, c.length = size := fun c hc => by
    obtain ⟨i, hi, e⟩ := List.getElem_of_mem hc
    obtain ⟨c', e1, e2, _⟩ := h3 i (by omega)
    rw [List.getElem?_eq_getElem hi, e] at e1
    cases e1; exact e2
  rcases h1.2 with ⟨hv, hn⟩ | ⟨g, cap, cur, hv, hb, hg, hnc, hcm, hcs, htake⟩
  · have hd : ds = [] := List.eq_nil_of_length_eq_zero hn
    subst hd
    exact ⟨none, 0, hv, Nat.le_refl _, Nat.zero_le _, fun _ => ⟨rfl, rfl⟩, fun i hi => by cases hi⟩
  · refine ⟨some ⟨g, 0, none⟩, cap, hv, hnc, hcm, fun h => (by cases h), fun i hi => ?_⟩
    obtain ⟨cells, e1, e2, e3⟩ := h3 i hi
    refine ⟨g, 0, cells, rfl, hb, e2, fun j hj => ?_, hR S _ w w' cells _ (fun k hk => (h4 k hk).1) (fun k hk => hw k (h4 k hk).1) e3⟩
    rw [cell_of_row w' g _ cur e (0, 0) ((hw g hb).trans hg), Nat.zero_add, ← flatten_get rows hall i cells e1 j hj, ← htake, List.getElem?_take]
    have hlt : i * size + j < ds.length * size := by
      have h1 : (i + 1) * size ≤ ds.length * size := Nat.mul_le_mul_right _ hi
      rw [Nat.add_mul] at h1; omega
    rw [if_pos hlt]
    simp
end Go.Proofs.Qxb6601578a
