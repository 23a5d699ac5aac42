/-
  How a JSON document lies in memory; nothing of the program in it.
-/
import Derived.Test.Qxb6601578aBufT
import Derived.Test.Qxb6601578aDoc
namespace Go.Proofs.Qxb6601578a
open Go.RowKit

/-- The slice v leads to a row whose elements, 'size' cells each, lie in a block of S and are what l lists. -/
def RowsOf {α : Type} (S : Nat → Prop) (size : Nat) (w : World) (v : Value) (l : List α) (R : List Value → α → Prop) : Prop :=
  ∃ ao cap, v = .slice ao l.length cap ∧ l.length ≤ cap ∧ cap ≤ maxLen ∧ (ao = none → l = [] ∧ cap = 0) ∧
    ∀ i, (h : i < l.length) → ∃ b off cells, ao = some ⟨b, off, none⟩ ∧ S b ∧ cells.length = size ∧ (∀ j, j < size → w.cell? ⟨b, off + i * size + j, none⟩ = cells[j]?) ∧ R cells l[i]

theorem RowsOf.keep {α : Type} {S S' : Nat → Prop} {size : Nat} {w w' : World} {v : Value} {l : List α} {R R' : List Value → α → Prop} (h : RowsOf S size w v l R) (hS : ∀ k, S k → S' k)
    (hw : ∀ k, S k → w'.heap[k]? = w.heap[k]?) (hR : ∀ cells x, x ∈ l → R cells x → R' cells x) : RowsOf S' size w' v l R' := by
  obtain ⟨ao, cap, hv, h1, h2, h3, hc⟩ := h
  refine ⟨ao, cap, hv, h1, h2, h3, fun i hi => ?_⟩
  obtain ⟨b, off, cells, e, hb, hl, hcell, hr⟩ := hc i hi
  exact ⟨b, off, cells, e, hS b hb, hl, fun j hj => by rw [World.cell?_of_block (w := w) (hw b hb)]; exact hcell j hj, hR cells _ (List.getElem_mem hi) hr⟩

def IsSlice (v : Value) : Prop := ∃ ao n cap, v = .slice ao n cap

theorem RowsOf.isSlice {α : Type} {S : Nat → Prop} {size : Nat} {w : World} {v : Value} {l : List α} {R : List Value → α → Prop} (h : RowsOf S size w v l R) : IsSlice v := by
  obtain ⟨ao, cap, hv, _⟩ := h
  exact ⟨_, _, _, hv⟩

open Js in
/-- The cells cs are the document d, as far as the canonical writer reads it. -/
def Rep (S : Nat → Prop) : (n : Nat) → World → List Value → Doc n → Prop
  | 0, _, _, _ => False
  | n + 1, w, cs, (k, t, is, ms) => k < 256 ∧ ∃ s c2 c3, cs = [.int .u8 (k : Int), .string s, c2, c3] ∧ (k = 3 ∨ k = 4 → s.data.toList = t) ∧ IsSlice c2 ∧ IsSlice c3 ∧
      (k = 5 → RowsOf S 4 w c2 is (fun cells d => Rep S n w cells d)) ∧
      (k = 6 → RowsOf S 5 w c3 ms (fun cells m => ∃ nm cs', cells = .string nm :: cs' ∧ nm.data.toList = m.1 ∧ Rep S n w cs' m.2))

open Js in
/-- The cells cs are the document d, every field of it. -/
def Full (S : Nat → Prop) : (n : Nat) → World → List Value → Doc n → Prop
  | 0, _, _, _ => False
  | n + 1, w, cs, (k, t, is, ms) => k < 256 ∧ ∃ s c2 c3, cs = [.int .u8 (k : Int), .string s, c2, c3] ∧ s.data.toList = t ∧
      RowsOf S 4 w c2 is (fun cells d => Full S n w cells d) ∧
      RowsOf S 5 w c3 ms (fun cells m => ∃ nm cs', cells = .string nm :: cs' ∧ nm.data.toList = m.1 ∧ Full S n w cs' m.2)

open Js in
theorem Rep.keep {S S' : Nat → Prop} {w w' : World} (hS : ∀ k, S k → S' k) (hw : ∀ k, S k → w'.heap[k]? = w.heap[k]?) : ∀ (n : Nat) (cs : List Value) (d : Doc n), Rep S n w cs d → Rep S' n w' cs d
  | 0, _, _, h => h
  | n + 1, cs, (k, t, is, ms), h => by
    obtain ⟨hk, s, c2, c3, e, h1, h2, h3, h4, h5⟩ := h
    refine ⟨hk, s, c2, c3, e, h1, h2, h3, fun e5 => (h4 e5).keep hS hw fun cells x _ hx => Rep.keep hS hw n cells x hx, fun e6 => (h5 e6).keep hS hw fun cells x _ hx => ?_⟩
    obtain ⟨nm, cs', e1, e2, hr⟩ := hx
    exact ⟨nm, cs', e1, e2, Rep.keep hS hw n cs' x.2 hr⟩

open Js in
theorem Full.keep {S S' : Nat → Prop} {w w' : World} (hS : ∀ k, S k → S' k) (hw : ∀ k, S k → w'.heap[k]? = w.heap[k]?) : ∀ (n : Nat) (cs : List Value) (d : Doc n), Full S n w cs d → Full S' n w' cs d
  | 0, _, _, h => h
  | n + 1, cs, (k, t, is, ms), h => by
    obtain ⟨hk, s, c2, c3, e, h1, h4, h5⟩ := h
    refine ⟨hk, s, c2, c3, e, h1, h4.keep hS hw fun cells x _ hx => Full.keep hS hw n cells x hx, h5.keep hS hw fun cells x _ hx => ?_⟩
    obtain ⟨nm, cs', e1, e2, hr⟩ := hx
    exact ⟨nm, cs', e1, e2, Full.keep hS hw n cs' x.2 hr⟩

open Js in
theorem Full.rep {S : Nat → Prop} {w : World} : ∀ (n : Nat) (cs : List Value) (d : Doc n), Full S n w cs d → Rep S n w cs d
  | 0, _, _, h => h
  | n + 1, cs, (k, t, is, ms), h => by
    obtain ⟨hk, s, c2, c3, e, h1, h4, h5⟩ := h
    refine ⟨hk, s, c2, c3, e, fun _ => h1, h4.isSlice, h5.isSlice, fun _ => h4.keep (fun _ h => h) (fun _ _ => rfl) fun cells x _ hx => Full.rep n cells x hx, fun _ => h5.keep (fun _ h => h) (fun _ _ => rfl) fun cells x _ hx => ?_⟩
    obtain ⟨nm, cs', e1, e2, hr⟩ := hx
    exact ⟨nm, cs', e1, e2, Full.rep n cs' x.2 hr⟩
end Go.Proofs.Qxb6601578a
