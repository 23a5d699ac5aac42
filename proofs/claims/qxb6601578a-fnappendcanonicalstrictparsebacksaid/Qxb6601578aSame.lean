import Derived.Test.Qxb6601578aRep
import Derived.Test.Qxb6601578aWalkB
import Derived.WalkKit
import Derived.Deep.RegionWith
namespace Go.Proofs.Qxb6601578a
open Go.RowKit
set_option linter.unusedSimpArgs false
set_option linter.unusedVariables false

theorem hideS {p : Prop} (h : p) : Hid p := h

/-- What is there lies below the heap's end. -/
theorem RowsOf.low {α : Type} {S : Nat → Prop} {size : Nat} {w : World} {v : Value} {l : List α} {R R' : List Value → α → Prop} (hs : 0 < size) (h : RowsOf S size w v l R) (hR : ∀ cells x, x ∈ l → R cells x → R' cells x) :
    RowsOf (fun k => k < w.heap.size) size w v l R' := by
  obtain ⟨ao, cap, hv, h1, h2, h3, hc⟩ := h
  refine ⟨ao, cap, hv, h1, h2, h3, fun i hi => ?_⟩
  obtain ⟨b, off, cells, e, hb, hl, hcell, hr⟩ := hc i hi
  have h0 := hcell 0 hs
  rw [List.getElem?_eq_getElem (by omega)] at h0
  exact ⟨b, off, cells, e, World.block_lt_of_cell? w _ h0, hl, hcell, hR cells _ (List.getElem_mem hi) hr⟩

theorem Rep.low {S : Nat → Prop} {w : World} : ∀ (n : Nat) (cs : List Value) (d : Js.Doc n), Rep S n w cs d → Rep (fun k => k < w.heap.size) n w cs d
  | 0, _, _, h => h
  | n + 1, cs, (k, t, is, ms), h => by
    obtain ⟨hk, s, c2, c3, e, h1, h2, h3, h4, h5⟩ := h
    refine ⟨hk, s, c2, c3, e, h1, h2, h3, fun e5 => (h4 e5).low (by decide) fun cells x _ hx => Rep.low n cells x hx, fun e6 => (h5 e6).low (by decide) fun cells x _ hx => ?_⟩
    obtain ⟨nm, cs', e1, e2, hr⟩ := hx
    exact ⟨nm, cs', e1, e2, Rep.low n cs' x.2 hr⟩

theorem Rep.shapeS {S : Nat → Prop} {w : World} : ∀ {n : Nat} {cs : List Value} {d : Js.Doc n}, Rep S n w cs d → ∃ (kd : Int) (sd : ByteArray) (a2 a3 : Value), cs = [.int .u8 kd, .string sd, a2, a3] ∧ IsSlice a2 ∧ IsSlice a3
  | 0, _, _, h => h.elim
  | _ + 1, _, (_, _, _, _), h => by
    obtain ⟨_, s, c2, c3, e, _, h2, h3, _⟩ := h
    exact ⟨_, s, c2, c3, e, h2, h3⟩

/-- The contract of zzSameDoc at documents of depth n. -/
def SameSaid (n : Nat) : Prop := ∀ (d : Js.Doc n) (ca cb : List Value) (w : World), Rep (fun k => k < w.heap.size) n w ca d → Rep (fun k => k < w.heap.size) n w cb d →
    Calls Try.prog 18 #[.agg ca.toArray, .agg cb.toArray] w fun e w' => e = .returned (.bool true) ∧ Below w.heap.size w w'

theorem two_old (w : World) (o1 o2 : Obj) (k : Nat) (hk : k < w.heap.size) : ((w.alloc o1).alloc o2).heap[k]? = w.heap[k]? := by
  rw [heap_alloc_old (w.alloc o1) o2 (r := k) (by simp; omega), heap_alloc_old w o1 (r := k) hk]

theorem sbox_cell (w : World) (o2 : Obj) (cs : Array Value) (t j : Nat) : ((w.alloc (.cells cs t)).alloc o2).cell? ⟨w.heap.size, j, none⟩ = cs[j]? := by
  rw [World.cell?_of_block (w := w.alloc (.cells cs t)) (heap_alloc_old (w.alloc (.cells cs t)) o2 (r := w.heap.size) (by simp))]
  exact cell_of_row _ w.heap.size j cs t (0, 0) (heap_alloc_new w _)

theorem sbox_cell2 (w : World) (o1 : Obj) (cs : Array Value) (t j : Nat) : ((w.alloc o1).alloc (.cells cs t)).cell? ⟨w.heap.size + 1, j, none⟩ = cs[j]? := by
  have h : ((w.alloc o1).alloc (.cells cs t)).heap[w.heap.size + 1]? = some (.cells cs t (0, 0)) := by
    have := heap_alloc_new (w.alloc o1) (.cells cs t)
    simpa using this
  exact cell_of_row _ (w.heap.size + 1) j cs t (0, 0) h

set_option maxHeartbeats 1000000 in
theorem same_plain (k : Nat) (hk : k ≠ 3 ∧ k ≠ 4 ∧ k ≠ 5 ∧ k ≠ 6) (hk2 : k < 256) (s s' : ByteArray) (c2 c3 d2 d3 : Value) (w : World) :
    Calls Try.prog 18 #[.agg #[.int .u8 (k : Int), .string s, c2, c3], .agg #[.int .u8 (k : Int), .string s', d2, d3]] w fun e w' => e = .returned (.bool true) ∧ Below w.heap.size w w' := by
  have b3 : ((k : Int) == 3) = false := beq_eq_false_iff_ne.2 (by omega)
  have b4 : ((k : Int) == 4) = false := beq_eq_false_iff_ne.2 (by omega)
  have b5 : ((k : Int) == 5) = false := beq_eq_false_iff_ne.2 (by omega)
  have b6 : ((k : Int) == 6) = false := beq_eq_false_iff_ne.2 (by omega)
  go_enter Try.func18, Try.ntmps18
  go_wp2
  go_ret
  exact ⟨rfl, ((Below.refl _ _).alloc (Nat.le_refl _) _).alloc (by simp) _⟩

set_option maxHeartbeats 1000000 in
theorem same_text (k : Nat) (hk : k = 3 ∨ k = 4) (s : ByteArray) (c2 c3 d2 d3 : Value) (w : World) :
    Calls Try.prog 18 #[.agg #[.int .u8 (k : Int), .string s, c2, c3], .agg #[.int .u8 (k : Int), .string s, d2, d3]] w fun e w' => e = .returned (.bool true) ∧ Below w.heap.size w w' := by
  rcases hk with rfl | rfl
  · show Calls Try.prog 18 #[.agg #[.int .u8 3, .string s, c2, c3], .agg #[.int .u8 3, .string s, d2, d3]] w fun e w' => e = .returned (.bool true) ∧ Below w.heap.size w w'
    go_enter Try.func18, Try.ntmps18
    go_wp2
    go_ret
    exact ⟨rfl, ((Below.refl _ _).alloc (Nat.le_refl _) _).alloc (by simp) _⟩
  · show Calls Try.prog 18 #[.agg #[.int .u8 4, .string s, c2, c3], .agg #[.int .u8 4, .string s, d2, d3]] w fun e w' => e = .returned (.bool true) ∧ Below w.heap.size w w'
    go_enter Try.func18, Try.ntmps18
    go_wp2
    go_ret
    exact ⟨rfl, ((Below.refl _ _).alloc (Nat.le_refl _) _).alloc (by simp) _⟩

set_option maxHeartbeats 1000000 in
theorem same_array (n : Nat) (ih : SameSaid n) (s s' : ByteArray) (is : List (Js.Doc n)) (c2 c3 d2 d3 : Value) (w : World)
    (ha : RowsOf (fun k => k < w.heap.size) 4 w c2 is (fun cells d => Rep (fun k => k < w.heap.size) n w cells d)) (hb : RowsOf (fun k => k < w.heap.size) 4 w d2 is (fun cells d => Rep (fun k => k < w.heap.size) n w cells d)) :
    Calls Try.prog 18 #[.agg #[.int .u8 5, .string s, c2, c3], .agg #[.int .u8 5, .string s', d2, d3]] w fun e w' => e = .returned (.bool true) ∧ Below w.heap.size w w' := by
  obtain ⟨ao, cap, rfl, hc1, hc2, hnil, hrow⟩ := ha
  obtain ⟨bo, bap, rfl, hd1, hd2, hnil2, hrow2⟩ := hb
  unfold maxLen at hc2 hd2
  have HR := hideS hrow
  have HR2 := hideS hrow2
  clear hrow hnil hrow2 hnil2
  go_enter Try.func18, Try.ntmps18
  go_wp2
  go_loopw [5] (fun i wr => ∃ k : Nat, k ≤ is.length ∧ i = .int .i64 k ∧ Below (w.heap.size + 2) ((w.alloc (.cells #[.int .u8 5, .string s, .slice ao is.length cap, c3] 40)).alloc (.cells #[.int .u8 5, .string s', .slice bo is.length bap, d3] 40)) wr) (fun i _ => is.length - (intOf i).toNat)
  case atStart => exact ⟨0, Nat.zero_le _, rfl, Below.refl _ _⟩
  case round =>
    obtain ⟨k, hk, rfl, hbl⟩ := hrel
    have x1 : wr.cell? ⟨w.heap.size, 2, none⟩ = some (.slice ao is.length cap) := by rw [hbl.cell (by show w.heap.size < _; omega), sbox_cell]; rfl
    have x2 : wr.cell? ⟨w.heap.size + 1, 2, none⟩ = some (.slice bo is.length bap) := by rw [hbl.cell (by show w.heap.size + 1 < _; omega), sbox_cell2]; rfl
    have hold : ∀ k, k < w.heap.size → wr.heap[k]? = w.heap[k]? := fun k hk => by rw [hbl.block k (by omega)]; exact two_old w _ _ k hk
    have hsz : w.heap.size ≤ wr.heap.size := by have := hbl.size; simp at this; omega
    by_cases hlt : k < is.length
    · obtain ⟨b, off, cells, rfl, hSb, hcl, hcell, hrep⟩ := HR.out k hlt
      obtain ⟨b', off', cells', rfl, hSb', hcl', hcell', hrep'⟩ := HR2.out k hlt
      obtain ⟨kd, sd, a2, a3, hcs, hs2, hs3⟩ := hrep.shapeS
      obtain ⟨kd', sd', a2', a3', hcs', hs2', hs3'⟩ := hrep'.shapeS
      obtain ⟨ao2, n2, cp2, rfl⟩ := hs2
      obtain ⟨ao3, n3, cp3, rfl⟩ := hs3
      obtain ⟨bo2, m2, dp2, rfl⟩ := hs2'
      obtain ⟨bo3, m3, dp3, rfl⟩ := hs3'
      have hki : (k : Int) < (is.length : Int) := by omega
      have hw : ∀ j, j < 4 → wr.cell? ⟨b, off + k * 4 + j, none⟩ = cells[j]? := fun j hj => by rw [World.cell?_of_block (w := w) (hold b hSb)]; exact hcell j hj
      have hw' : ∀ j, j < 4 → wr.cell? ⟨b', off' + k * 4 + j, none⟩ = cells'[j]? := fun j hj => by rw [World.cell?_of_block (w := w) (hold b' hSb')]; exact hcell' j hj
      have e0 : wr.cell? ⟨b, off + k * 4, none⟩ = some (.int .u8 kd) := by have := hw 0 (by omega); rw [hcs] at this; simpa using this
      have e1 : wr.cell? ⟨b, off + k * 4 + 1, none⟩ = some (.string sd) := by have := hw 1 (by omega); rw [hcs] at this; simpa using this
      have e2 : wr.cell? ⟨b, off + k * 4 + 2, none⟩ = some (.slice ao2 n2 cp2) := by have := hw 2 (by omega); rw [hcs] at this; simpa using this
      have e3 : wr.cell? ⟨b, off + k * 4 + 3, none⟩ = some (.slice ao3 n3 cp3) := by have := hw 3 (by omega); rw [hcs] at this; simpa using this
      have f0 : wr.cell? ⟨b', off' + k * 4, none⟩ = some (.int .u8 kd') := by have := hw' 0 (by omega); rw [hcs'] at this; simpa using this
      have f1 : wr.cell? ⟨b', off' + k * 4 + 1, none⟩ = some (.string sd') := by have := hw' 1 (by omega); rw [hcs'] at this; simpa using this
      have f2 : wr.cell? ⟨b', off' + k * 4 + 2, none⟩ = some (.slice bo2 m2 dp2) := by have := hw' 2 (by omega); rw [hcs'] at this; simpa using this
      have f3 : wr.cell? ⟨b', off' + k * 4 + 3, none⟩ = some (.slice bo3 m3 dp3) := by have := hw' 3 (by omega); rw [hcs'] at this; simpa using this
      rw [hcs] at hrep
      rw [hcs'] at hrep'
      have IH : Hid (∀ W : World, (∀ k, k < w.heap.size → W.heap[k]? = w.heap[k]?) → w.heap.size ≤ W.heap.size → Calls Try.prog 18 #[.agg #[.int .u8 kd, .string sd, .slice ao2 n2 cp2, .slice ao3 n3 cp3], .agg #[.int .u8 kd', .string sd', .slice bo2 m2 dp2, .slice bo3 m3 dp3]] W fun e w' => e = .returned (.bool true) ∧ Below W.heap.size W w') := fun W h1 h2 =>
        ih _ _ _ W (Rep.keep (fun k hk => Nat.lt_of_lt_of_le hk h2) h1 n _ _ hrep) (Rep.keep (fun k hk => Nat.lt_of_lt_of_le hk h2) h1 n _ _ hrep')
      have HO := hideS hold
      clear hw hw' hcell hcell' hcl hcl' hrep hrep' hcs hcs' ih hold
      go_wp2
      go_region_with (go_at_call 18; refine (IH.out _ (by exact HO.out) (by exact hsz)).mono ?_; rintro e w3 ⟨rfl, hb3⟩)
      all_goals
        go_wp2
        go_roundw
        case rel => exact ⟨k + 1, by omega, by go_num, hbl.trans (Below.mono (B := wr.heap.size) ⟨hb3.os, hb3.tape, hb3.output, hb3.size, hb3.block⟩ (by have := hbl.size; simp at this; omega))⟩
        case measure => simp [intOf]; omega
    · go_wp2
      go_ret
      exact ⟨rfl, (((Below.refl _ _).alloc (Nat.le_refl _) _).alloc (by simp) _).trans (hbl.mono (by omega))⟩
end Go.Proofs.Qxb6601578a
