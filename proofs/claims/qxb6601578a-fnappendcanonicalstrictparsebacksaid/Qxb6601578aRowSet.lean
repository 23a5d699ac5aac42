/-
  A row that was made whole and is filled element by element; nothing of the program in it.
-/
import Derived.Test.Qxb6601578aRowIn
namespace Go.Proofs.Qxb6601578a
open Go.RowKit
set_option linter.unusedVariables false
set_option linter.unusedSimpArgs false

/-- The row of N elements in block g; its first k elements are ds's, what they lead to lies in other blocks from B on. -/
def RowSet {α : Type} (B g e size N : Nat) (R : (Nat → Prop) → World → List Value → α → Prop) (w : World) (ds : List α) (k : Nat) : Prop :=
  ∃ (S : Nat → Prop) (cur : Array Value), w.heap[g]? = some (.cells cur e (0, 0)) ∧ cur.size = N * size ∧
    (∀ i, (h : i < ds.length) → i < k → ∃ cells, cells.length = size ∧ (∀ j, j < size → cur[i * size + j]? = cells[j]?) ∧ R S w cells ds[i]) ∧ (∀ x, S x → B ≤ x ∧ x < w.heap.size ∧ x ≠ g)

theorem RowSet.start {α : Type} {B g e size N : Nat} (R : (Nat → Prop) → World → List Value → α → Prop) {w : World} (ds : List α) {cur : Array Value} (h : w.heap[g]? = some (.cells cur e (0, 0))) (hc : cur.size = N * size) : RowSet B g e size N R w ds 0 :=
  ⟨fun _ => False, cur, h, hc, fun i _ h => absurd h (Nat.not_lt_zero _), fun x h => h.elim⟩

/-- One more element, made between w and w3, stored between w3 and w5. -/
theorem RowSet.step {α : Type} {B g e size N : Nat} {R : (Nat → Prop) → World → List Value → α → Prop} (hR : Keeps R) {w w3 w5 : World} {ds : List α} {k : Nat} {cells : List Value} (h : RowSet B g e size N R w ds k) (hk : k < ds.length) (hN : ds.length ≤ N)
    (hbl : Below w.heap.size w w3) (hB : B ≤ w.heap.size) (hc : cells.length = size) (hnew : R (fun x => w.heap.size ≤ x ∧ x < w3.heap.size) w3 cells ds[k])
    (hset : ∀ cur, w3.heap[g]? = some (.cells cur e (0, 0)) → ∃ cur' : Array Value, w5.heap[g]? = some (.cells cur' e (0, 0)) ∧ cur'.size = cur.size ∧ (∀ j, j < size → k * size + j < cur.size → cur'[k * size + j]? = cells[j]?) ∧ (∀ y, y < k * size ∨ k * size + size ≤ y → cur'[y]? = cur[y]?))
    (h35 : ∀ x, x < w3.heap.size → x ≠ g → w5.heap[x]? = w3.heap[x]?) (hs : w3.heap.size ≤ w5.heap.size) : RowSet B g e size N R w5 ds (k + 1) := by
  obtain ⟨S, cur, h1, h2, h3, h4⟩ := h
  have hg : g < w.heap.size := (Array.getElem?_eq_some_iff.1 h1).1
  have hbs := hbl.size
  obtain ⟨cur', c1, c2, c3, c4⟩ := hset cur ((hbl.block g hg).trans h1)
  have hmul : ∀ i, i < N → i * size + size ≤ cur.size := fun i hi => by
    have : (i + 1) * size ≤ N * size := Nat.mul_le_mul_right _ hi
    rw [Nat.add_mul] at this; omega
  refine ⟨fun x => S x ∨ (w.heap.size ≤ x ∧ x < w3.heap.size), cur', c1, by omega, fun i hi hik => ?_, fun x hx => ?_⟩
  · by_cases hlt : i < k
    · obtain ⟨c, e1, e2, e3⟩ := h3 i hi hlt
      have hm : (i + 1) * size ≤ k * size := Nat.mul_le_mul_right _ hlt
      rw [Nat.add_mul] at hm
      refine ⟨c, e1, fun j hj => ?_, hR S _ w w5 c _ (fun x hx => .inl hx) (fun x hx => ?_) e3⟩
      · rw [c4 _ (.inl (by omega))]; exact e2 j hj
      · obtain ⟨a, b, c⟩ := h4 x hx
        rw [h35 x (by omega) c, hbl.block x b]
    · obtain rfl : i = k := by omega
      refine ⟨cells, hc, fun j hj => c3 j hj ?_, hR _ _ w3 w5 cells _ (fun x hx => .inr hx) (fun x hx => h35 x hx.2 (by omega)) hnew⟩
      have := hmul i (by omega)
      omega
  · rcases hx with hx | hx
    · obtain ⟨a, b, c⟩ := h4 x hx
      exact ⟨a, by omega, c⟩
    · exact ⟨by omega, by omega, by omega⟩

/-- What the row is, at last. -/
theorem RowSet.rows {α : Type} {B g e size N : Nat} {R : (Nat → Prop) → World → List Value → α → Prop} (hR : Keeps R) {w w' : World} {ds : List α} {k : Nat} (h : RowSet B g e size N R w ds k) (hk : k = ds.length) (hN : N = ds.length) (hm : N ≤ maxLen) (hB : B ≤ g)
    (hw : ∀ x, B ≤ x → x < w.heap.size → w'.heap[x]? = w.heap[x]?) : RowsOf (fun x => B ≤ x) size w' (.slice (some ⟨g, 0, none⟩) N N) ds (fun cells x => R (fun x => B ≤ x) w' cells x) := by
  obtain ⟨S, cur, h1, h2, h3, h4⟩ := h
  subst hk hN
  have hg : g < w.heap.size := (Array.getElem?_eq_some_iff.1 h1).1
  refine ⟨_, _, rfl, Nat.le_refl _, hm, fun h => (by cases h), fun i hi => ?_⟩
  obtain ⟨c, e1, e2, e3⟩ := h3 i hi hi
  refine ⟨g, 0, c, rfl, hB, e1, fun j hj => ?_, hR S _ w w' c _ (fun x hx => (h4 x hx).1) (fun x hx => hw x (h4 x hx).1 (h4 x hx).2.1) e3⟩
  rw [cell_of_row w' g _ cur e (0, 0) ((hw g hB hg).trans h1), Nat.zero_add]
  exact e2 j hj

theorem set4 {W : World} {g e a : Nat} (v0 v1 v2 v3 : Value) (cur : Array Value) (h : W.heap[g]? = some (.cells cur e (0, 0))) :
    ∃ cur' : Array Value, ((((W.setCell ⟨g, a, none⟩ v0).setCell ⟨g, a + 1, none⟩ v1).setCell ⟨g, a + 2, none⟩ v2).setCell ⟨g, a + 3, none⟩ v3).heap[g]? = some (.cells cur' e (0, 0)) ∧ cur'.size = cur.size ∧
      (∀ j, j < 4 → a + j < cur.size → cur'[a + j]? = [v0, v1, v2, v3][j]?) ∧ (∀ y, y < a ∨ a + 4 ≤ y → cur'[y]? = cur[y]?) := by
  have h0 := heap_setCell_same W g a cur e v0 h
  have h1 := heap_setCell_same _ g (a + 1) _ e v1 h0
  have h2 := heap_setCell_same _ g (a + 2) _ e v2 h1
  have h3 := heap_setCell_same _ g (a + 3) _ e v3 h2
  refine ⟨_, h3, by simp, fun j hj hl => ?_, fun y hy => ?_⟩
  · have hj' : j = 0 ∨ j = 1 ∨ j = 2 ∨ j = 3 := by omega
    rcases hj' with rfl | rfl | rfl | rfl
    · simp [Array.getElem?_setIfInBounds]; omega
    · simp [Array.getElem?_setIfInBounds]; omega
    · simp [Array.getElem?_setIfInBounds]; omega
    · simp [Array.getElem?_setIfInBounds]; omega
  · simp only [Array.getElem?_setIfInBounds]
    rw [if_neg (by omega), if_neg (by omega), if_neg (by omega), if_neg (by omega)]

theorem set5 {W : World} {g e a : Nat} (v0 v1 v2 v3 v4 : Value) (cur : Array Value) (h : W.heap[g]? = some (.cells cur e (0, 0))) :
    ∃ cur' : Array Value, (((((W.setCell ⟨g, a, none⟩ v0).setCell ⟨g, a + 1, none⟩ v1).setCell ⟨g, a + 2, none⟩ v2).setCell ⟨g, a + 3, none⟩ v3).setCell ⟨g, a + 4, none⟩ v4).heap[g]? = some (.cells cur' e (0, 0)) ∧ cur'.size = cur.size ∧
      (∀ j, j < 5 → a + j < cur.size → cur'[a + j]? = [v0, v1, v2, v3, v4][j]?) ∧ (∀ y, y < a ∨ a + 5 ≤ y → cur'[y]? = cur[y]?) := by
  obtain ⟨c, h0, h1, h2, h3⟩ := set4 (a := a) v0 v1 v2 v3 cur h
  have h4 := heap_setCell_same _ g (a + 4) _ e v4 h0
  refine ⟨_, h4, by simp [h1], fun j hj hl => ?_, fun y hy => ?_⟩
  · by_cases e4 : j = 4
    · subst e4
      simp [Array.getElem?_setIfInBounds]; omega
    · rw [Array.getElem?_setIfInBounds, if_neg (by omega), h2 j (by omega) hl]
      have hj' : j = 0 ∨ j = 1 ∨ j = 2 ∨ j = 3 := by omega
      rcases hj' with rfl | rfl | rfl | rfl <;> rfl
  · rw [Array.getElem?_setIfInBounds, if_neg (by omega), h3 y (by omega)]

namespace Js
/-- Every text of the document is one that memory can hold. -/
def small : (n : Nat) → Doc n → Prop
  | 0, _ => False
  | n + 1, (_, t, is, ms) => t.length ≤ 9223372036854775807 ∧ (∀ d ∈ is, small n d) ∧ ∀ m ∈ ms, m.1.length ≤ 9223372036854775807 ∧ small n m.2

theorem sum72 (n : Nat) (is : List (Doc n)) : (is.map fun d => 72 + cost n d).sum = 72 * is.length + (is.map (cost n)).sum := by
  induction is with
  | nil => rfl
  | cons a r ih => simp only [List.map_cons, List.sum_cons, List.length_cons, ih]; omega

def mcost (n : Nat) (m : List UInt8 × Doc n) : Nat := m.1.length + cost n m.2

theorem sum88 (n : Nat) (ms : List (List UInt8 × Doc n)) : (ms.map fun m => 88 + m.1.length + cost n m.2).sum = 88 * ms.length + (ms.map (mcost n)).sum := by
  induction ms with
  | nil => rfl
  | cons a r ih => simp only [List.map_cons, List.sum_cons, List.length_cons, ih, mcost]; omega

theorem sum_take {α : Type} (f : α → Nat) (l : List α) (k : Nat) (h : k < l.length) : ((l.take (k + 1)).map f).sum = ((l.take k).map f).sum + f l[k] := by
  rw [List.take_succ_eq_append_getElem h, List.map_append, List.sum_append]; simp

theorem all_take {α : Type} (f : α → Bool) (l : List α) (k : Nat) (h : k < l.length) : (l.take (k + 1)).all f = ((l.take k).all f && f l[k]) := by
  rw [List.take_succ_eq_append_getElem h, List.all_append]; simp
end Js
end Go.Proofs.Qxb6601578a
