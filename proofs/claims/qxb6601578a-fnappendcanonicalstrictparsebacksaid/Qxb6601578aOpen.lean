/-
  The struct that came in, opened into a plain document.
-/
import Derived.Test.Qxb6601578aRowSet
import Derived.Test.Qxb6601578aWalkB
import Derived.ProofKit
import Derived.OpenShut
import Derived.Deep.Slices
namespace Go.Proofs.Qxb6601578a
open Go.RowKit
set_option linter.unusedSimpArgs false
set_option linter.unusedVariables false

theorem cells35 : Try.prog.cellsOf 35 = 4 := by kernel_rfl
theorem cells51 : Try.prog.cellsOf 51 = 5 := by kernel_rfl
theorem cells5 : Try.prog.cellsOf 5 = 1 := by kernel_rfl
theorem cells9 : Try.prog.cellsOf 9 = 1 := by kernel_rfl
theorem cells32 : Try.prog.cellsOf 32 = 1 := by kernel_rfl
theorem cells33 : Try.prog.cellsOf 33 = 1 := by kernel_rfl

/-- A list picked element by element. -/
theorem pick_list {α : Type} (Q : Nat → α → Prop) : ∀ (n : Nat), (∀ i, i < n → ∃ a, Q i a) → ∃ l : List α, l.length = n ∧ ∀ i, (h : i < l.length) → Q i l[i]
  | 0, _ => ⟨[], rfl, fun i h => absurd h (Nat.not_lt_zero _)⟩
  | n + 1, h => by
    obtain ⟨l, hl, hq⟩ := pick_list Q n (fun i hi => h i (by omega))
    obtain ⟨a, ha⟩ := h n (by omega)
    refine ⟨l ++ [a], by simp [hl], fun i hi => ?_⟩
    by_cases hlt : i < l.length
    · rw [List.getElem_append_left hlt]; exact hq i hlt
    · have : i = l.length := by simp at hi; omega
      subst this
      rw [List.getElem_append_right (Nat.le_refl _)]
      simp only [Nat.sub_self, List.getElem_singleton]
      rw [hl]; exact ha

/-- A slice of elements of several cells, opened. -/
theorem open_rows {H : Type} {enc : TypeId × Value → H} {w : World} {t e size fuel : Nat} {c : Value} {x : DataW H × List MemPlace} {α : Type} (R : List Value → α → Prop) (ht : Try.prog.underlying t = some (.slice e)) (hc : Try.prog.cellsOf e = size) (hs : 0 < size)
    (h : DataW.trod enc Try.prog w 0 (fun _ => true) true fuel t [c] = some x) (hR : ∀ n cs y, n < fuel → DataW.trod enc Try.prog w 0 (fun _ => true) true n e cs = some y → ∃ a, R cs a) :
    ∃ l : List α, RowsOf (fun k => k < w.heap.size) size w c l R := by
  rcases DataW.trod_slice ht h with ⟨hcs, _⟩ | ⟨a, len, cap, elems, rest, n, rfl, hcs, _, _, hl, hm, hlen, hel, _, _⟩
  · have hc0 : c = .slice none 0 0 := by simpa using hcs
    exact ⟨[], none, 0, hc0, Nat.le_refl _, Nat.zero_le _, fun _ => ⟨rfl, rfl⟩, fun i hi => absurd hi (Nat.not_lt_zero _)⟩
  · have hc0 : c = .slice (some a) len cap := by simpa using hcs
    rw [hc] at hel
    obtain ⟨l, hl2, hq⟩ := pick_list (fun i b => ∃ cs, w.cells? 0 (a.add (i * size)) size = some cs ∧ R cs b) len (fun i hi => by
      have h1 := hel i hi
      rw [List.getElem?_eq_getElem (by omega)] at h1
      obtain ⟨cs', h2, h3⟩ := Option.bind_eq_some_iff.1 h1
      obtain ⟨b, hb⟩ := hR n cs' _ (by omega) h3
      exact ⟨b, cs', h2, hb⟩)
    refine ⟨l, some a, cap, by rw [hl2]; exact hc0, by omega, hm, fun h => (by cases h), fun i hi => ?_⟩
    obtain ⟨cs, h1, h2⟩ := hq i hi
    have hsp : a.spot = none := by
      obtain ⟨cs0, h3, _⟩ := hq 0 (by omega)
      rw [Nat.zero_mul, Addr.add_zero'] at h3
      obtain ⟨_, h4, h5⟩ := World.cells?_some h3
      have h6 := h5 0 hs
      rw [Addr.add_zero', List.getElem?_eq_getElem (by omega)] at h6
      exact World.cell?_spot h6
    obtain ⟨hb, h4, h5⟩ := World.cells?_some h1
    obtain ⟨b, off, sp⟩ := a
    simp at hsp
    subst hsp
    rw [Addr.add_lit] at h5 h1
    refine ⟨b, off, cs, rfl, ?_, h4, fun j hj => ?_, h2⟩
    · have h6 := h5 0 hs
      rw [Addr.add_zero', List.getElem?_eq_getElem (by omega)] at h6
      exact World.block_lt_of_cell? w _ h6
    · have h6 := h5 j hj
      rw [Addr.add_lit] at h6
      exact h6

theorem open_doc {H : Type} (enc : TypeId × Value → H) (w : World) : ∀ (N fuel : Nat), fuel ≤ N → ∀ (cs : List Value) (x : DataW H × List MemPlace), DataW.trod enc Try.prog w 0 (fun _ => true) true fuel 35 cs = some x →
    ∃ d : Js.Doc N, Full (fun k => k < w.heap.size) N w cs d ∧ Js.small N d
  | 0, fuel, hf, cs, x, h => by
    obtain rfl : fuel = 0 := by omega
    simp [DataW.trod] at h
  | N + 1, fuel, hf, cs, x, h => by
    obtain ⟨xs, n, rfl, _, hl, hxl, hfs⟩ := DataW.trod_struct Try.underlying35 h
    rw [cells35] at hl
    obtain ⟨c0, c1, c2, c3, rfl⟩ : ∃ c0 c1 c2 c3, cs = [c0, c1, c2, c3] := by
      match cs, hl with
      | [c0, c1, c2, c3], _ => exact ⟨c0, c1, c2, c3, rfl⟩
    have hxl4 : xs.length = 4 := hxl
    have g0 := hfs 0 _ rfl
    have g1 := hfs 1 _ rfl
    have g2 := hfs 2 _ rfl
    have g3 := hfs 3 _ rfl
    rw [List.getElem?_eq_getElem (by omega)] at g0 g1 g2 g3
    replace g0 : DataW.trod enc Try.prog w 0 (fun _ => true) true n 5 [c0] = some xs[0] := by rw [← g0]; show _ = DataW.trod enc Try.prog w 0 (fun _ => true) true n 5 (List.take (Try.prog.cellsOf 5) _); rw [cells5]; rfl
    replace g1 : DataW.trod enc Try.prog w 0 (fun _ => true) true n 9 [c1] = some xs[1] := by rw [← g1]; show _ = DataW.trod enc Try.prog w 0 (fun _ => true) true n 9 (List.take (Try.prog.cellsOf 9) _); rw [cells9]; rfl
    replace g2 : DataW.trod enc Try.prog w 0 (fun _ => true) true n 32 [c2] = some xs[2] := by rw [← g2]; show _ = DataW.trod enc Try.prog w 0 (fun _ => true) true n 32 (List.take (Try.prog.cellsOf 32) _); rw [cells32]; rfl
    replace g3 : DataW.trod enc Try.prog w 0 (fun _ => true) true n 33 [c3] = some xs[3] := by rw [← g3]; show _ = DataW.trod enc Try.prog w 0 (fun _ => true) true n 33 (List.take (Try.prog.cellsOf 33) _); rw [cells33]; rfl
    obtain ⟨kz, hk, _, hkw⟩ := DataW.trod_int Try.underlying5 g0
    obtain ⟨s, hs, _, hsl⟩ := DataW.trod_string Try.underlying9 g1
    have hkb := Go.bounds_u8 hkw
    obtain ⟨k, rfl⟩ : ∃ k : Nat, kz = (k : Int) := ⟨kz.toNat, by omega⟩
    obtain rfl : c0 = .int .u8 (k : Int) := by simpa using hk
    obtain rfl : c1 = .string s := by simpa using hs
    obtain ⟨is, his⟩ := open_rows (fun cells (d : Js.Doc N) => Full (fun k => k < w.heap.size) N w cells d ∧ Js.small N d) Try.underlying32 cells35 (by decide) g2 (fun m cs y hm hy => open_doc enc w N m (by omega) cs y hy)
    obtain ⟨ms, hms⟩ := open_rows (fun cells (m : List UInt8 × Js.Doc N) => (∃ nm cs', cells = .string nm :: cs' ∧ nm.data.toList = m.1 ∧ Full (fun k => k < w.heap.size) N w cs' m.2) ∧ m.1.length ≤ 9223372036854775807 ∧ Js.small N m.2) Try.underlying33 cells51 (by decide) g3 (fun m cs y hm hy => by
      obtain ⟨xs2, n2, rfl, _, hl2, hxl2, hfs2⟩ := DataW.trod_struct Try.underlying51 hy
      rw [cells51] at hl2
      obtain ⟨b0, b1, b2, b3, b4, rfl⟩ : ∃ b0 b1 b2 b3 b4, cs = [b0, b1, b2, b3, b4] := by
        match cs, hl2 with
        | [b0, b1, b2, b3, b4], _ => exact ⟨b0, b1, b2, b3, b4, rfl⟩
      have hxl22 : xs2.length = 2 := hxl2
      have q0 := hfs2 0 _ rfl
      have q1 := hfs2 1 _ rfl
      rw [List.getElem?_eq_getElem (by omega)] at q0 q1
      replace q0 : DataW.trod enc Try.prog w 0 (fun _ => true) true n2 9 [b0] = some xs2[0] := by rw [← q0]; show _ = DataW.trod enc Try.prog w 0 (fun _ => true) true n2 9 (List.take (Try.prog.cellsOf 9) _); rw [cells9]; rfl
      replace q1 : DataW.trod enc Try.prog w 0 (fun _ => true) true n2 35 [b1, b2, b3, b4] = some xs2[1] := by rw [← q1]; show _ = DataW.trod enc Try.prog w 0 (fun _ => true) true n2 35 (List.take (Try.prog.cellsOf 35) _); rw [cells35]; rfl
      obtain ⟨nm, hnm, _, hnl⟩ := DataW.trod_string Try.underlying9 q0
      obtain rfl : b0 = .string nm := by simpa using hnm
      obtain ⟨d, hd1, hd2⟩ := open_doc enc w N n2 (by omega) _ _ q1
      exact ⟨(nm.data.toList, d), ⟨nm, _, rfl, rfl, hd1⟩, by unfold maxLen at hnl; simpa using hnl, hd2⟩)
    refine ⟨(k, s.data.toList, is, ms), ⟨by omega, s, c2, c3, rfl, rfl, his.keep (fun _ h => h) (fun _ _ => rfl) (fun _ _ _ h => h.1), hms.keep (fun _ h => h) (fun _ _ => rfl) (fun _ _ _ h => h.1)⟩, by unfold maxLen at hsl; simpa using hsl, fun d hd => ?_, fun m hm => ?_⟩
    · obtain ⟨_, _, _, _, _, _, hc⟩ := his
      obtain ⟨i, hi, rfl⟩ := List.getElem_of_mem hd
      obtain ⟨_, _, _, _, _, _, _, h⟩ := hc i hi
      exact h.2
    · obtain ⟨_, _, _, _, _, _, hc⟩ := hms
      obtain ⟨i, hi, rfl⟩ := List.getElem_of_mem hm
      obtain ⟨_, _, _, _, _, _, _, h⟩ := hc i hi
      exact h.2
end Go.Proofs.Qxb6601578a
