import Derived.Test.Qxb6601578aRowSet
import Derived.Test.Qxb6601578aParseA
import Derived.Test.Qxb6601578aWalkE
import Derived.WalkKit
import Derived.Deep.RegionHeld3
import Derived.Deep.DeepCutAuto
import Derived.WalkSpells
namespace Go.Proofs.Qxb6601578a
open Go.RowKit
set_option linter.unusedSimpArgs false
set_option linter.unusedVariables false

/-- What zzConvert's answer says. -/
def ConvPost (n : Nat) (d : Js.Doc n) (bud : Nat) (u : Bool) (w : World) (e : Ending) (w' : World) : Prop :=
  ∃ (kd : Int) (sd : ByteArray) (a2 a3 : Value) (rest : Int) (ok : Bool), IsSlice a2 ∧ IsSlice a3 ∧ e = .returned (.tuple #[.agg #[.int .u8 kd, .string sd, a2, a3], .int .i64 rest, .bool ok]) ∧ Below w.heap.size w w' ∧
    (rest < 0 ∨ (0 ≤ rest ∧ rest + Js.cost n d = bud ∧ ok = Js.good n u d ∧ Full (fun k => w.heap.size ≤ k) n w' [.int .u8 kd, .string sd, a2, a3] d))

/-- The contract of zzConvert at documents of depth n. -/
def ConvSaid (n : Nat) : Prop := ∀ (d : Js.Doc n) (cs : List Value) (bud : Nat) (u : Bool) (w : World), Full (fun k => k < w.heap.size) n w cs d → Js.small n d → bud ≤ 1048576 →
    Calls Try.prog 15 #[.agg cs.toArray, .int .i64 (bud : Int), .bool u] w (ConvPost n d bud u w)

theorem three_below (w : World) (o1 o2 o3 : Obj) : Below w.heap.size w (((w.alloc o1).alloc o2).alloc o3) := (two_below w o1 o2).alloc (by simp; omega) _

theorem three_old (w : World) (o1 o2 o3 : Obj) (k : Nat) (hk : k < w.heap.size) : (((w.alloc o1).alloc o2).alloc o3).heap[k]? = w.heap[k]? := by
  rw [heap_alloc_old ((w.alloc o1).alloc o2) o3 (r := k) (by simp; omega)]; exact two_old w o1 o2 k hk

theorem three_at0 (w : World) (o2 o3 : Obj) (cs : Array Value) (t : TypeId) : (((w.alloc (.cells cs t)).alloc o2).alloc o3).heap[w.heap.size]? = some (.cells cs t (0, 0)) := by
  rw [heap_alloc_old ((w.alloc _).alloc o2) o3 (r := w.heap.size) (by simp; omega), heap_alloc_old (w.alloc _) o2 (r := w.heap.size) (by simp)]
  exact heap_alloc_new w _

theorem three_at1 (w : World) (o1 o3 : Obj) (cs : Array Value) (t : TypeId) : (((w.alloc o1).alloc (.cells cs t)).alloc o3).heap[w.heap.size + 1]? = some (.cells cs t (0, 0)) := by
  rw [heap_alloc_old ((w.alloc _).alloc _) o3 (r := w.heap.size + 1) (by simp)]
  exact new_atT w o1 cs t

theorem three_at2 (w : World) (o1 o2 : Obj) (cs : Array Value) (t : TypeId) : (((w.alloc o1).alloc o2).alloc (.cells cs t)).heap[w.heap.size + 2]? = some (.cells cs t (0, 0)) := by
  have := heap_alloc_new ((w.alloc o1).alloc o2) (.cells cs t)
  simpa [Nat.add_assoc] using this

set_option maxHeartbeats 4000000 in
set_option maxRecDepth 100000 in
theorem conv_short (n : Nat) (d : Js.Doc (n + 1)) (k : Nat) (s : ByteArray) (c2 c3 : Value) (bud : Nat) (u : Bool) (w : World) (hs : s.size ≤ 9223372036854775807) (hb : bud ≤ 1048576) (h : bud < s.size) :
    Calls Try.prog 15 #[.agg #[.int .u8 (k : Int), .string s, c2, c3], .int .i64 (bud : Int), .bool u] w (ConvPost (n + 1) d bud u w) := by
  have d1 : decide ((bud : Int) - (s.size : Int) < 0) = true := decide_eq_true (by omega)
  go_enter Try.func15, Try.ntmps15
  go_wp2
  refine bodyPost_ret (v := .tuple #[.agg #[.int .u8 0, .string ⟨#[]⟩, .slice none 0 0, .slice none 0 0], .int .i64 ((bud : Int) - (s.size : Int)), .bool false]) (by simp [results, Try.results15, go_sem]) rfl ⟨0, ⟨#[]⟩, _, _, (bud : Int) - (s.size : Int), false, ⟨_, _, _, rfl⟩, ⟨_, _, _, rfl⟩, rfl, ?_, .inl (by omega)⟩
  repeat refine Below.setCell ?_ (by show _ ≤ _; first | exact Nat.le_refl _ | exact Nat.le_succ _) _
  exact three_below w _ _ _

/-- What a slice field of a value that came in is. -/
theorem rows_slice {α : Type} {S : Nat → Prop} {size : Nat} {w : World} {v : Value} {l : List α} {R : List Value → α → Prop} (h : RowsOf S size w v l R) : ∃ ao cap, v = .slice ao l.length cap ∧ (ao = none → l = [] ∧ cap = 0) := by
  obtain ⟨ao, cap, hv, _, _, h3, _⟩ := h
  exact ⟨ao, cap, hv, h3⟩

/-- What 'make([]T, n)' has laid, T of several cells: a row at the heap's end. -/
theorem made_rows {w w4 : World} {B n e size : Nat} {xs : List Value} (hown : w4.ownsRow B e size (.slice (some ⟨w.heap.size, 0, none⟩) n n) n xs) :
    ∃ cur : Array Value, w4.heap[w.heap.size]? = some (.cells cur e (0, 0)) ∧ cur.size = n * size := by
  rcases hown.2 with ⟨h, _⟩ | ⟨g, cap, cur, hv, _, hrow, _, _, hs, _⟩
  · cases h
  · simp at hv
    obtain ⟨rfl, rfl⟩ := hv
    exact ⟨cur, hrow, hs⟩

theorem keeps_full (n : Nat) : Keeps (fun S w cells (d : Js.Doc n) => Full S n w cells d) := fun _ _ _ _ cells x hS hw h => Full.keep hS hw n cells x h
theorem keeps_fullm (n : Nat) : Keeps (fun S w cells (m : List UInt8 × Js.Doc n) => ∃ nm cs', cells = .string nm :: cs' ∧ nm.data.toList = m.1 ∧ Full S n w cs' m.2) := fun _ _ _ _ cells x hS hw ⟨nm, cs', e1, e2, h⟩ => ⟨nm, cs', e1, e2, Full.keep hS hw n cs' x.2 h⟩

theorem Full.shape {S : Nat → Prop} {w : World} : ∀ {n : Nat} {cs : List Value} {d : Js.Doc n}, Full S n w cs d → ∃ (kd : Int) (sd : ByteArray) (a2 a3 : Value), cs = [.int .u8 kd, .string sd, a2, a3] ∧ IsSlice a2 ∧ IsSlice a3
  | 0, _, _, h => h.elim
  | _ + 1, _, (_, _, _, _), h => by
    obtain ⟨_, s, c2, c3, e, _, h2, h3⟩ := h
    exact ⟨_, s, c2, c3, e, h2.isSlice, h3.isSlice⟩

theorem Full.inn {S : Nat → Prop} {w : World} : ∀ (n : Nat) (cs : List Value) (d : Js.Doc n), Full S n w cs d → Full (fun k => S k ∧ k < w.heap.size) n w cs d
  | 0, _, _, h => h
  | n + 1, cs, (k, t, is, ms), h => by
    obtain ⟨hk, s, c2, c3, e, h1, h4, h5⟩ := h
    refine ⟨hk, s, c2, c3, e, h1, h4.inn (by decide) fun cells x _ hx => Full.inn n cells x hx, h5.inn (by decide) fun cells x _ hx => ?_⟩
    obtain ⟨nm, cs', e1, e2, hr⟩ := hx
    exact ⟨nm, cs', e1, e2, Full.inn n cs' x.2 hr⟩

/-- A value that has just been converted, in a box of its own. -/
def NewItem (n : Nat) (d : Js.Doc n) (bn : Nat) (uk : Bool) (wr : World) (g : Nat) (x0 x1 x2 x3 : Value) (rest : Int) (ok : Bool) (wx : World) : Prop :=
  wr.heap.size ≤ g ∧ g < wx.heap.size ∧ wx.heap[g]? = some (.cells #[x0, x1, x2, x3] 40 (0, 0)) ∧ Below wr.heap.size wr wx ∧
    (rest < 0 ∨ (0 ≤ rest ∧ rest + Js.cost n d = bn ∧ ok = Js.good n uk d ∧ Full (fun x => wr.heap.size ≤ x ∧ x < wx.heap.size) n wx [x0, x1, x2, x3] d))

theorem newItem_after {n : Nat} {d : Js.Doc n} {bn : Nat} {uk : Bool} {wr W w3 : World} {x0 x1 x2 x3 : Value} {rest : Int} {ok : Bool} (hs : W.heap.size = wr.heap.size) (hW : Below wr.heap.size wr W) (hb : Below W.heap.size W w3)
    (h : rest < 0 ∨ (0 ≤ rest ∧ rest + Js.cost n d = bn ∧ ok = Js.good n uk d ∧ Full (fun k => W.heap.size ≤ k) n w3 [x0, x1, x2, x3] d)) :
    NewItem n d bn uk wr w3.heap.size x0 x1 x2 x3 rest ok (w3.alloc (.cells #[x0, x1, x2, x3] 40)) := by
  have h1 := hb.size
  refine ⟨by omega, by simp, heap_alloc_new w3 _, hW.trans ((hb.mono (by omega)).alloc (by omega) _), ?_⟩
  rcases h with h | ⟨a, b, c, f⟩
  · exact .inl h
  · exact .inr ⟨a, b, c, Full.keep (fun k hk => ⟨by have := hk.1; omega, by have := hk.2; simp; omega⟩) (fun k hk => heap_alloc_old w3 _ (r := k) hk.2) n _ _ (Full.inn n _ _ f)⟩

theorem newItem_before {n : Nat} {d : Js.Doc n} {bn : Nat} {uk : Bool} {wr W w3 : World} {x0 x1 x2 x3 : Value} {rest : Int} {ok : Bool} (hs : W.heap.size = wr.heap.size + 1) (hW : Below wr.heap.size wr W) (hz : W.heap[wr.heap.size]? = some ZeroBox) (hb : Below W.heap.size W w3)
    (h : rest < 0 ∨ (0 ≤ rest ∧ rest + Js.cost n d = bn ∧ ok = Js.good n uk d ∧ Full (fun k => W.heap.size ≤ k) n w3 [x0, x1, x2, x3] d)) :
    NewItem n d bn uk wr wr.heap.size x0 x1 x2 x3 rest ok ((((w3.setCell ⟨wr.heap.size, 0, none⟩ x0).setCell ⟨wr.heap.size, 1, none⟩ x1).setCell ⟨wr.heap.size, 2, none⟩ x2).setCell ⟨wr.heap.size, 3, none⟩ x3) := by
  have h1 := hb.size
  have k0 := (hb.block wr.heap.size (by omega)).trans hz
  have k1 := heap_setCell_same _ _ 3 _ _ x3 (heap_setCell_same _ _ 2 _ _ x2 (heap_setCell_same _ _ 1 _ _ x1 (heap_setCell_same w3 _ 0 _ _ x0 k0)))
  refine ⟨Nat.le_refl _, by simp; omega, k1, ?_, ?_⟩
  · iterate 4 refine Below.setCell ?_ (by show wr.heap.size ≤ wr.heap.size; exact Nat.le_refl _) _
    exact hW.trans (hb.mono (by omega))
  · rcases h with h | ⟨a, b, c, f⟩
    · exact .inl h
    · refine .inr ⟨a, b, c, Full.keep (fun k hk => ⟨by have := hk.1; omega, by have := hk.2; simp; omega⟩) (fun k hk => ?_) n _ _ (Full.inn n _ _ f)⟩
      iterate 4 rw [heap_setCell_other _ _ k _ (by have := hk.1; show k ≠ wr.heap.size; omega)]

/-- The state behind the items. -/
def ItemsDone (n : Nat) (k : Nat) (s : ByteArray) (c2 c3 : Value) (is : List (Js.Doc n)) (bud : Nat) (w : World) (b : Nat) (vI : Value) (wx : World) : Prop :=
  b + s.size + 72 * is.length + (is.map (Js.cost n)).sum = bud ∧ wx.heap[w.heap.size]? = some (.cells #[.int .u8 (k : Int), .string s, c2, c3] 35 (0, 0)) ∧ wx.heap[w.heap.size + 1]? = some ZeroBox ∧
    wx.heap[w.heap.size + 2]? = some (.cells #[.int .u8 (k : Int), .string s, vI, .slice none 0 0] 40 (0, 0)) ∧ Below w.heap.size w wx ∧ w.heap.size + 3 ≤ wx.heap.size ∧
    RowsOf (fun x => w.heap.size + 3 ≤ x ∧ x < wx.heap.size) 4 wx vI is (fun cells d => Full (fun x => w.heap.size + 3 ≤ x ∧ x < wx.heap.size) n wx cells d)

set_option maxHeartbeats 4000000 in
set_option maxRecDepth 100000 in
theorem conv_main (n : Nat) (ih : ConvSaid n) (k : Nat) (hk : k < 256) (s : ByteArray) (is : List (Js.Doc n)) (ms : List (List UInt8 × Js.Doc n)) (c2 c3 : Value) (bud : Nat) (u : Bool) (w : World)
    (h2 : RowsOf (fun k => k < w.heap.size) 4 w c2 is (fun cells d => Full (fun k => k < w.heap.size) n w cells d))
    (h3 : RowsOf (fun k => k < w.heap.size) 5 w c3 ms (fun cells m => ∃ nm cs', cells = .string nm :: cs' ∧ nm.data.toList = m.1 ∧ Full (fun k => k < w.heap.size) n w cs' m.2))
    (hsi : ∀ d ∈ is, Js.small n d) (hsm : ∀ m ∈ ms, m.1.length ≤ 9223372036854775807 ∧ Js.small n m.2) (hb : bud ≤ 1048576) (h : s.size ≤ bud) :
    Calls Try.prog 15 #[.agg #[.int .u8 (k : Int), .string s, c2, c3], .int .i64 (bud : Int), .bool u] w (ConvPost (n + 1) (k, s.data.toList, is, ms) bud u w) := by
  obtain ⟨ao2, cp2, hc2, hn2⟩ := rows_slice h2
  obtain ⟨ao3, cp3, hc3, hn3⟩ := rows_slice h3
  have H2 := hideN h2
  have H3 := hideN h3
  have HI := hideN ih
  have HSI := hideN hsi
  have HSM := hideN hsm
  clear h2 h3 ih hsi hsm
  subst hc2 hc3
  obtain ⟨g0, hg0⟩ : ∃ g0, g0 = (!u || (decide (k ≤ 6) && (decide (k ≠ 3) || Js.isNum s.data.toList))) := ⟨_, rfl⟩
  have d1 : decide ((bud : Int) - (s.size : Int) < 0) = false := decide_eq_false (by omega)
  have HW : Hid (∀ W, Calls Try.prog 21 #[.string s] W fun e w' => e = .returned (.bool (Js.isNum s.data.toList)) ∧ Below W.heap.size W w') := fun W => isNumberText s W (by omega)
  have HGD : Hid (Js.good (n + 1) u (k, s.data.toList, is, ms) = ((g0 && is.all (Js.good n (u && decide (k = 5)))) && ms.all fun m => Js.good n (u && decide (k = 6)) m.2)) := by
    show _ = _
    rw [hg0, Bool.and_assoc]; rfl
  have HCO : Hid (Js.cost (n + 1) (k, s.data.toList, is, ms) = s.size + (72 * is.length + (is.map (Js.cost n)).sum) + (88 * ms.length + (ms.map (Js.mcost n)).sum)) := by
    show _ = _
    simp only [Js.cost, Js.sum72, Js.sum88]; rfl
  have HG0 := hideN hg0
  clear hg0
  generalize Js.isNum s.data.toList = N at *
  have hq2 := fun (wx : World) (a : Option Addr) (n c : Nat) => run_neq_slice_nil_any (P := Try.prog) wx 32 35 a n c 0 0 Try.underlying32
  have hq3 := fun (wx : World) (a : Option Addr) (n c : Nat) => run_neq_slice_nil_any (P := Try.prog) wx 33 51 a n c 0 0 Try.underlying33
  go_enter Try.func15, Try.ntmps15
  go_upto_if 29 with fail
  go_cut [10] (fun g wx => g = .bool g0 ∧ Below (w.heap.size + 3) (((w.alloc (.cells #[.int .u8 (k : Int), .string s, .slice ao2 is.length cp2, .slice ao3 ms.length cp3] 35)).alloc ZeroBox).alloc ZeroBox) wx)
  case first =>
    cases u with
    | false =>
      go_wp2
      go_meet
      case rel => exact ⟨by rw [HG0.out]; rfl, Below.refl _ _⟩
    | true =>
      by_cases h6 : k ≤ 6
      · have b6 : decide ((6 : Int) < (k : Int)) = false := decide_eq_false (by omega)
        by_cases h3 : k = 3
        · subst h3
          go_wp2_with fail
          refine (HW.out _).mono ?_
          rintro e w2 ⟨rfl, hbl⟩
          have hbl' := hideN (show Below (w.heap.size + 3) _ w2 from hbl.mono (by simp))
          cases N with
          | true =>
            go_wp2
            go_meet
            case rel => exact ⟨by rw [HG0.out]; rfl, hbl'.out⟩
          | false =>
            go_wp2
            go_meet
            case rel => exact ⟨by rw [HG0.out]; rfl, hbl'.out⟩
        · have b3 : ((k : Int) == 3) = false := beq_eq_false_iff_ne.2 (by omega)
          go_wp2
          go_meet
          case rel => exact ⟨by rw [HG0.out]; simp [h6, h3], Below.refl _ _⟩
      · have b6 : decide ((6 : Int) < (k : Int)) = true := decide_eq_true (by omega)
        go_wp2
        go_meet
        case rel => exact ⟨by rw [HG0.out]; simp [h6], Below.refl _ _⟩
  case rest =>
  obtain ⟨rfl, hbl0⟩ := hcut
  have hsz0 := hbl0.size
  have k3 := (hbl0.block w.heap.size (by omega)).trans (three_at0 w _ _ _ _)
  have k6 := (hbl0.block (w.heap.size + 1) (by omega)).trans (three_at1 w _ _ _ _)
  have k9 := (hbl0.block (w.heap.size + 2) (by omega)).trans (three_at2 w _ _ _ _)
  have hblw : Below w.heap.size w wc := (three_below w _ _ _).trans (hbl0.mono (by omega))
  have hszc : w.heap.size + 3 ≤ wc.heap.size := by simp at hsz0; omega
  have KW : Hid (((wc.setCell ⟨w.heap.size + 2, 0, none⟩ (.int .u8 (k : Int))).setCell ⟨w.heap.size + 2, 1, none⟩ (.string s)).heap[w.heap.size]? = some (.cells #[.int .u8 (k : Int), .string s, .slice ao2 is.length cp2, .slice ao3 ms.length cp3] 35 (0, 0)) ∧
      ((wc.setCell ⟨w.heap.size + 2, 0, none⟩ (.int .u8 (k : Int))).setCell ⟨w.heap.size + 2, 1, none⟩ (.string s)).heap[w.heap.size + 1]? = some ZeroBox ∧
      ((wc.setCell ⟨w.heap.size + 2, 0, none⟩ (.int .u8 (k : Int))).setCell ⟨w.heap.size + 2, 1, none⟩ (.string s)).heap[w.heap.size + 2]? = some (.cells #[.int .u8 (k : Int), .string s, .slice none 0 0, .slice none 0 0] 40 (0, 0)) ∧
      Below w.heap.size w ((wc.setCell ⟨w.heap.size + 2, 0, none⟩ (.int .u8 (k : Int))).setCell ⟨w.heap.size + 2, 1, none⟩ (.string s))) :=
    ⟨by rw [heap_setCell_other _ _ _ _ (by show w.heap.size ≠ w.heap.size + 2; omega), heap_setCell_other _ _ _ _ (by show w.heap.size ≠ w.heap.size + 2; omega)]; exact k3,
     by rw [heap_setCell_other _ _ _ _ (by show w.heap.size + 1 ≠ w.heap.size + 2; omega), heap_setCell_other _ _ _ _ (by show w.heap.size + 1 ≠ w.heap.size + 2; omega)]; exact k6,
     heap_setCell_same _ _ 1 _ _ _ (heap_setCell_same wc _ 0 _ _ _ k9), (hblw.setCell (by show w.heap.size ≤ w.heap.size + 2; omega) _).setCell (by show w.heap.size ≤ w.heap.size + 2; omega) _⟩
  obtain ⟨p0, p1, p2, p3, f3⟩ := boxFacts k3
  obtain ⟨r0, r1, r2, r3, f6⟩ := boxFacts k6
  obtain ⟨o0, o1, o2, o3, f9⟩ := boxFacts k9
  clear k3 k6 k9 hbl0 hblw HW HG0
  go_upto_if 50 with fail
  go_cut [1, 10, 11, 12, 13, 14] (fun b g _ _ _ _ wx => ∃ (bn : Nat) (vI : Value), b = .int .i64 bn ∧ g = .bool (g0 && is.all (Js.good n (u && decide (k = 5)))) ∧ Hid (ItemsDone n k s (.slice ao2 is.length cp2) (.slice ao3 ms.length cp3) is bud w bn vI wx))
  case first =>
    cases ao2 with
    | none =>
      obtain ⟨rfl, rfl⟩ := hn2 rfl
      go_wp2
      go_meet
      case rel =>
        obtain ⟨w1, w2, w3, w4⟩ := KW.out
        refine ⟨bud - s.size, .slice none 0 0, by go_num, by simp, ⟨by simp; omega, w1, w2, w3, w4, by simp; omega, ⟨none, 0, rfl, Nat.le_refl _, Nat.zero_le _, fun _ => ⟨rfl, rfl⟩, fun i hi => by cases hi⟩⟩⟩
    | some x2 =>
      have HR2 : Hid (∀ i, (h : i < is.length) → ∃ b off cells, x2 = ⟨b, off, none⟩ ∧ b < w.heap.size ∧ cells.length = 4 ∧ (∀ j, j < 4 → w.cell? ⟨b, off + i * 4 + j, none⟩ = cells[j]?) ∧ Full (fun k => k < w.heap.size) n w cells is[i]) := by
        obtain ⟨ao, cap, hv, _, _, _, hc⟩ := H2.out
        intro i hi
        obtain ⟨b, off, cells, e, h1, h2, h3, h4⟩ := hc i hi
        rw [e] at hv
        injection hv with hv1 _ _
        exact ⟨b, off, cells, by simpa using hv1, h1, h2, h3, h4⟩
      by_cases hl : ((bud : Int) - (s.size : Int)) / 72 < (is.length : Int)
      · have d2 : decide (((bud : Int) - (s.size : Int)) / 72 < (is.length : Int)) = true := decide_eq_true hl
        go_wp2
        refine bodyPost_ret (v := .tuple #[.agg #[.int .u8 (k : Int), .string s, .slice none 0 0, .slice none 0 0], .int .i64 (-1), .bool false]) (by simp [results, Try.results15, go_sem, o0, o1, o2, o3, r0, r1, r2, r3]) rfl ⟨_, s, _, _, -1, false, ⟨_, _, _, rfl⟩, ⟨_, _, _, rfl⟩, rfl, ?_, .inl (by decide)⟩
        iterate 4 refine Below.setCell ?_ (by show w.heap.size ≤ w.heap.size + 1; omega) _
        exact KW.out.2.2.2
      · have d2 : decide (((bud : Int) - (s.size : Int)) / 72 < (is.length : Int)) = false := decide_eq_false hl
        have hl72 : 72 * is.length + s.size ≤ bud := by omega
        obtain ⟨i1, hi, hz0, hz1, hz2⟩ := info_parts valueInfo
        go_wp2_with (at_make; refine wpList_make_full _ rfl _ _ 37 rfl wc.heap.size 40 i1 _ 4 Try.underlying37 hi hz0 hz1 _ _ _ _ is.length rfl rfl (by omega) (by omega) (by rw [hz2]; omega) (by unfold maxLen; omega) (by simp) ?_; intro wm hown hgrow; revert hgrow)
        intro hgrow
        have hszm : wc.heap.size ≤ wm.heap.size := by have := hgrow.size; simpa using this
        obtain ⟨m3, m6, m9, hblm⟩ := KW.out
        replace m3 := (hgrow.block w.heap.size (by simp; omega) (by simp)).trans m3
        replace m6 := (hgrow.block (w.heap.size + 1) (by simp; omega) (by simp)).trans m6
        replace m9 := (hgrow.block (w.heap.size + 2) (by simp; omega) (by simp)).trans m9
        replace hblm := hblm.grown hgrow (by simp; omega) (by simp)
        obtain ⟨cur, hcur, hcs⟩ := made_rows (w := (wc.setCell ⟨w.heap.size + 2, 0, none⟩ (.int .u8 (k : Int))).setCell ⟨w.heap.size + 2, 1, none⟩ (.string s)) hown
        have hcur' : wm.heap[wc.heap.size]? = some (.cells cur 40 (0, 0)) := by simpa using hcur
        have hgm : wc.heap.size < wm.heap.size := (Array.getElem?_eq_some_iff.1 hcur').1
        obtain ⟨vI, hvI⟩ : ∃ vI, vI = Value.slice (some ⟨wc.heap.size, 0, none⟩) is.length is.length := ⟨_, rfl⟩
        obtain ⟨w1, hw1⟩ : ∃ w1, w1 = wm.setCell ⟨w.heap.size + 2, 2, none⟩ vI := ⟨_, rfl⟩
        have KW1 : Hid (w1.heap[w.heap.size]? = some (.cells #[.int .u8 (k : Int), .string s, .slice (some x2) is.length cp2, .slice ao3 ms.length cp3] 35 (0, 0)) ∧ w1.heap[w.heap.size + 1]? = some ZeroBox ∧
            w1.heap[w.heap.size + 2]? = some (.cells #[.int .u8 (k : Int), .string s, vI, .slice none 0 0] 40 (0, 0)) ∧ Below w.heap.size w w1 ∧ wc.heap.size < w1.heap.size ∧
            RowSet (w.heap.size + 3) wc.heap.size 40 4 is.length (fun S w cells (d : Js.Doc n) => Full S n w cells d) w1 is 0) := by
          rw [hw1]
          refine ⟨?_, ?_, heap_setCell_same wm _ 2 _ _ vI m9, hblm.setCell (by show w.heap.size ≤ w.heap.size + 2; omega) _, by simpa using hgm, RowSet.start _ is ?_ hcs⟩
          · rw [heap_setCell_other _ _ _ _ (by show w.heap.size ≠ w.heap.size + 2; omega)]; exact m3
          · rw [heap_setCell_other _ _ _ _ (by show w.heap.size + 1 ≠ w.heap.size + 2; omega)]; exact m6
          · rw [heap_setCell_other _ _ _ _ (by show wc.heap.size ≠ w.heap.size + 2; omega)]; exact hcur'
        clear p0 p1 p2 p3 f3 r0 r1 r2 r3 f6 o0 o1 o2 o3 f9 KW
        obtain ⟨p0, p1, p2, p3, f3⟩ := boxFacts m3
        obtain ⟨r0, r1, r2, r3, f6⟩ := boxFacts m6
        obtain ⟨o0, o1, o2, o3, f9⟩ := boxFacts m9
        have HV := hideN (And.intro hvI hw1)
        clear hown hgrow m3 m6 m9 hblm hcur hcs hcur' hgm hvI hw1
        go_wp2
        go_loopw [1, 10, 11] (fun b g i wr => ∃ (kk bn : Nat), kk ≤ is.length ∧ b = .int .i64 bn ∧ i = .int .i64 kk ∧ g = .bool (g0 && (is.take kk).all (Js.good n (u && decide (k = 5)))) ∧ Hid (bn + s.size + 72 * is.length + ((is.take kk).map (Js.cost n)).sum = bud) ∧
            Hid (Below wc.heap.size w1 wr) ∧ Hid (wc.heap.size < wr.heap.size) ∧ Hid (RowSet (w.heap.size + 3) wc.heap.size 40 4 is.length (fun S w cells (d : Js.Doc n) => Full S n w cells d) wr is kk)) (fun _ _ i _ => is.length - (intOf i).toNat)
        case atStart =>
          obtain ⟨rfl, rfl⟩ := HV.out
          exact ⟨0, bud - s.size - 72 * is.length, Nat.zero_le _, by go_num, rfl, by simp, by show _ = _; simp; omega, Below.refl _ _, KW1.out.2.2.2.2.1, KW1.out.2.2.2.2.2⟩
        case round =>
          obtain ⟨kk, bn, hkk, rfl, rfl, rfl, HB, HBL, HSZ, HRS⟩ := hrel
          clear p0 p1 p2 p3 f3 r0 r1 r2 r3 f6 o0 o1 o2 o3 f9
          obtain ⟨m3, m6, m9, hblm, _, _⟩ := KW1.out
          have hbl := HBL.out
          have hszr := HSZ.out
          have q3 := (hbl.block w.heap.size (by omega)).trans m3
          have q6 := (hbl.block (w.heap.size + 1) (by omega)).trans m6
          have q9 := (hbl.block (w.heap.size + 2) (by omega)).trans m9
          have hblr : Below w.heap.size w wr := hblm.trans (hbl.mono (by omega))
          obtain ⟨p0, p1, p2, p3, f3⟩ := boxFacts q3
          have Q6 := hideN q6
          have Q9 := hideN q9
          have HQ3 := hideN q3
          clear m3 m6 m9 hblm q3 q6 q9
          have hbn : bn ≤ bud := by have := HB.out; omega
          by_cases hlt : kk < is.length
          · obtain ⟨b, off, cells, rfl, hSb, hcl, hcell, hfull⟩ := HR2.out kk hlt
            obtain ⟨kd, sd, a2, a3, hcs, hs2, hs3⟩ := hfull.shape
            obtain ⟨ao4, n4, cp4, rfl⟩ := hs2
            obtain ⟨ao5, n5, cp5, rfl⟩ := hs3
            have hki : (kk : Int) < (is.length : Int) := by omega
            have hw : ∀ j, j < 4 → wr.cell? ⟨b, off + kk * 4 + j, none⟩ = cells[j]? := fun j hj => by rw [hblr.cell (by exact hSb)]; exact hcell j hj
            have e0 : wr.cell? ⟨b, off + kk * 4, none⟩ = some (.int .u8 kd) := by have := hw 0 (by omega); rw [hcs] at this; simpa using this
            have e1 : wr.cell? ⟨b, off + kk * 4 + 1, none⟩ = some (.string sd) := by have := hw 1 (by omega); rw [hcs] at this; simpa using this
            have e2 : wr.cell? ⟨b, off + kk * 4 + 2, none⟩ = some (.slice ao4 n4 cp4) := by have := hw 2 (by omega); rw [hcs] at this; simpa using this
            have e3 : wr.cell? ⟨b, off + kk * 4 + 3, none⟩ = some (.slice ao5 n5 cp5) := by have := hw 3 (by omega); rw [hcs] at this; simpa using this
            rw [hcs] at hfull
            have IH : Hid (∀ (uk : Bool) (W : World), Below wr.heap.size wr W → Calls Try.prog 15 #[.agg #[.int .u8 kd, .string sd, .slice ao4 n4 cp4, .slice ao5 n5 cp5], .int .i64 (bn : Int), .bool uk] W (ConvPost n (is[kk]'hlt) bn uk W)) := fun uk W h1 =>
              HI.out (is[kk]'hlt) _ bn uk W (Full.keep (fun k hk => by have := hblr.size; have := h1.size; omega) (fun k hk => by rw [h1.block k (by have := hblr.size; omega)]; exact hblr.block k hk) n _ _ hfull) (HSI.out _ (List.getElem_mem hlt)) (by omega)
            have HBLR := hideN hblr
            have y1 : b < wr.heap.size := by have := hblr.size; omega
            have y2 : w.heap.size < wr.heap.size := by omega
            have y3 : w.heap.size + 3 ≤ wr.heap.size := by omega
            clear hw hcell hcl hfull hcs hbl hszr hblr
            have SK : Hid (∀ w', Below wr.heap.size wr w' → w'.cell? ⟨w.heap.size, 2, none⟩ = some (.slice (some ⟨b, off, none⟩) is.length cp2) ∧ w'.cell? ⟨w.heap.size, 0, none⟩ = some (.int .u8 (k : Int)) ∧ w'.cell? ⟨b, off + kk * 4, none⟩ = some (.int .u8 kd) ∧ w'.cell? ⟨b, off + kk * 4 + 1, none⟩ = some (.string sd) ∧ w'.cell? ⟨b, off + kk * 4 + 2, none⟩ = some (.slice ao4 n4 cp4) ∧ w'.cell? ⟨b, off + kk * 4 + 3, none⟩ = some (.slice ao5 n5 cp5)) := fun w' hw' =>
              ⟨by rw [hw'.cell (by exact y2)]; exact p2, by rw [hw'.cell (by exact y2)]; exact p0, by rw [hw'.cell (by exact y1)]; exact e0, by rw [hw'.cell (by exact y1)]; exact e1, by rw [hw'.cell (by exact y1)]; exact e2, by rw [hw'.cell (by exact y1)]; exact e3⟩
            obtain ⟨gI, HGI⟩ : ∃ gI, Hid (wc.heap.size = gI) := ⟨_, rfl⟩
            go_upto_region 21 with fail
            go_cut [12, 13, 14] (fun c r o wx => ∃ (g12 : Nat) (kd' : Int) (sd' : ByteArray) (ao6 : Option Addr) (n6 cp6 : Nat) (ao7 : Option Addr) (n7 cp7 : Nat) (rest : Int) (ok : Bool), c = .pointer (some ⟨g12, 0, none⟩) ∧ r = .int .i64 rest ∧ o = .bool ok ∧ Hid (NewItem n (is[kk]'hlt) bn (u && decide (k = 5)) wr g12 (.int .u8 kd') (.string sd') (.slice ao6 n6 cp6) (.slice ao7 n7 cp7) rest ok wx))
            case first =>
              cases u with
              | false =>
                have HUK : Hid (True) := trivial
                refine wp_region_noPanic ?_
                refine wp_region_held_drew (S := (fun w' => w'.cell? ⟨w.heap.size, 2, none⟩ = some (.slice (some ⟨b, off, none⟩) is.length cp2) ∧ w'.cell? ⟨w.heap.size, 0, none⟩ = some (.int .u8 (k : Int)) ∧ w'.cell? ⟨b, off + kk * 4, none⟩ = some (.int .u8 kd) ∧ w'.cell? ⟨b, off + kk * 4 + 1, none⟩ = some (.string sd) ∧ w'.cell? ⟨b, off + kk * 4 + 2, none⟩ = some (.slice ao4 n4 cp4) ∧ w'.cell? ⟨b, off + kk * 4 + 3, none⟩ = some (.slice ao5 n5 cp5))) (by kernel_rfl) (SK.out _ (Below.refl _ _).drew) (fun hHeld => ?_)
                refine wpAnyH_take (i := 0) (oi := { dst := some 77, op := Go.Op.fieldAddr 35 (Go.Operand.tmp 3) 2, type := 0, pos := "laws_internal_jsondoc_b1.go:315", after := #[], guard := none }) (v := ?_) rfl (by kernel_rfl) (by kernel_rfl) (by kernel_rfl) (fun _ _ _ h => h) (Or.inl ⟨by rfl, ?_⟩) (by assumption) ?_
                rotate_left
                · (intro w hSw; (try dsimp only at hSw); go_simp; try with_reducible rfl)
                try simp only [Act.put, List.setIfInBounds_toArray, List.set_cons_zero, List.set_cons_succ]
                refine wpAnyH_take (i := 1) (oi := { dst := some 78, op := Go.Op.load 32 (Go.Operand.tmp 77), type := 32, pos := "laws_internal_jsondoc_b1.go:315", after := #[{ on := 0, ground := Go.Ground.data }], guard := none }) (v := ?_) rfl (by kernel_rfl) (by kernel_rfl) (by kernel_rfl) (fun _ _ _ h => h) (Or.inl ⟨by rfl, ?_⟩) (by assumption) ?_
                rotate_left
                · (intro w hSw; (try dsimp only at hSw); go_simp; try with_reducible rfl)
                try simp only [Act.put, List.setIfInBounds_toArray, List.set_cons_zero, List.set_cons_succ]
                refine wpAnyH_take (i := 2) (oi := { dst := some 79, op := Go.Op.move (Go.Operand.tmp 11), type := 3, pos := "laws_internal_jsondoc_b1.go:315", after := #[], guard := none }) (v := ?_) rfl (by kernel_rfl) (by kernel_rfl) (by kernel_rfl) (fun _ _ _ h => h) (Or.inl ⟨by rfl, ?_⟩) (by assumption) ?_
                rotate_left
                · (intro w hSw; (try dsimp only at hSw); go_simp; try with_reducible rfl)
                try simp only [Act.put, List.setIfInBounds_toArray, List.set_cons_zero, List.set_cons_succ]
                refine wpAnyH_take (i := 3) (oi := { dst := some 80, op := Go.Op.indexAddr 32 (Go.Operand.tmp 78) (Go.Operand.tmp 79), type := 0, pos := "laws_internal_jsondoc_b1.go:315", after := #[{ on := 1, ground := Go.Ground.data }, { on := 2, ground := Go.Ground.data }], guard := none }) (v := ?_) rfl (by kernel_rfl) (by kernel_rfl) (by kernel_rfl) (fun _ _ _ h => h) (Or.inl ⟨by rfl, ?_⟩) (by assumption) ?_
                rotate_left
                · (intro w hSw; (try dsimp only at hSw); go_simp; try with_reducible rfl)
                try simp only [Act.put, List.setIfInBounds_toArray, List.set_cons_zero, List.set_cons_succ]
                refine wpAnyH_take (i := 4) (oi := { dst := some 81, op := Go.Op.load 35 (Go.Operand.tmp 80), type := 35, pos := "laws_internal_jsondoc_b1.go:315", after := #[{ on := 3, ground := Go.Ground.data }], guard := none }) (v := ?_) rfl (by kernel_rfl) (by kernel_rfl) (by kernel_rfl) (fun _ _ _ h => h) (Or.inl ⟨by rfl, ?_⟩) (by assumption) ?_
                rotate_left
                · (intro w hSw; (try dsimp only at hSw); go_simp; try with_reducible rfl)
                try simp only [Act.put, List.setIfInBounds_toArray, List.set_cons_zero, List.set_cons_succ]
                refine wpAnyH_take (i := 5) (oi := { dst := some 82, op := Go.Op.move (Go.Operand.tmp 1), type := 3, pos := "laws_internal_jsondoc_b1.go:315", after := #[], guard := none }) (v := ?_) rfl (by kernel_rfl) (by kernel_rfl) (by kernel_rfl) (fun _ _ _ h => h) (Or.inl ⟨by rfl, ?_⟩) (by assumption) ?_
                rotate_left
                · (intro w hSw; (try dsimp only at hSw); go_simp; try with_reducible rfl)
                try simp only [Act.put, List.setIfInBounds_toArray, List.set_cons_zero, List.set_cons_succ]
                refine wpAnyH_take (i := 6) (oi := { dst := some 83, op := Go.Op.move (Go.Operand.tmp 2), type := 4, pos := "laws_internal_jsondoc_b1.go:315", after := #[], guard := none }) (v := ?_) rfl (by kernel_rfl) (by kernel_rfl) (by kernel_rfl) (fun _ _ _ h => h) (Or.inl ⟨by rfl, ?_⟩) (by assumption) ?_
                rotate_left
                · (intro w hSw; (try dsimp only at hSw); go_simp; try with_reducible rfl)
                try simp only [Act.put, List.setIfInBounds_toArray, List.set_cons_zero, List.set_cons_succ]
                refine wpAnyH_take (i := 7) (oi := { dst := some 84, op := Go.Op.move (Go.Operand.tmp 83), type := 4, pos := "laws_internal_jsondoc_b1.go:315", after := #[{ on := 6, ground := Go.Ground.data }], guard := none }) (v := ?_) rfl (by kernel_rfl) (by kernel_rfl) (by kernel_rfl) (fun _ _ _ h => h) (Or.inl ⟨by rfl, ?_⟩) (by assumption) ?_
                rotate_left
                · (intro w hSw; (try dsimp only at hSw); go_simp; try with_reducible rfl)
                try simp only [Act.put, List.setIfInBounds_toArray, List.set_cons_zero, List.set_cons_succ]
                refine wpAnyH_take (i := 8) (oi := { dst := some 85, op := Go.Op.fieldAddr 35 (Go.Operand.tmp 3) 0, type := 0, pos := "laws_internal_jsondoc_b1.go:315", after := #[{ on := 7, ground := Go.Ground.guard }], guard := some (7, true) }) (v := undef) rfl (by kernel_rfl) (by kernel_rfl) (by kernel_rfl) (fun _ _ _ h => h) (Or.inr ⟨by rfl, rfl⟩) (by assumption) ?_
                try simp only [Act.put, List.setIfInBounds_toArray, List.set_cons_zero, List.set_cons_succ]
                refine wpAnyH_take (i := 9) (oi := { dst := some 86, op := Go.Op.load 5 (Go.Operand.tmp 85), type := 5, pos := "laws_internal_jsondoc_b1.go:315", after := #[{ on := 8, ground := Go.Ground.data }, { on := 7, ground := Go.Ground.guard }], guard := some (7, true) }) (v := undef) rfl (by kernel_rfl) (by kernel_rfl) (by kernel_rfl) (fun _ _ _ h => h) (Or.inr ⟨by rfl, rfl⟩) (by assumption) ?_
                try simp only [Act.put, List.setIfInBounds_toArray, List.set_cons_zero, List.set_cons_succ]
                refine wpAnyH_take (i := 10) (oi := { dst := some 87, op := Go.Op.binOp Go.BinOp.eql 5 (Go.Operand.tmp 86) (Go.Operand.const (Go.Value.int Go.IntKind.u8 5)) 5, type := 4, pos := "laws_internal_jsondoc_b1.go:315", after := #[{ on := 9, ground := Go.Ground.data }, { on := 7, ground := Go.Ground.guard }], guard := some (7, true) }) (v := undef) rfl (by kernel_rfl) (by kernel_rfl) (by kernel_rfl) (fun _ _ _ h => h) (Or.inr ⟨by rfl, rfl⟩) (by assumption) ?_
                try simp only [Act.put, List.setIfInBounds_toArray, List.set_cons_zero, List.set_cons_succ]
                refine wpAnyH_take (i := 11) (oi := { dst := some 88, op := Go.Op.pick (Go.Operand.tmp 84) (Go.Operand.tmp 87) (Go.Operand.const (Go.Value.bool false)), type := 4, pos := "laws_internal_jsondoc_b1.go:315", after := #[{ on := 7, ground := Go.Ground.data }, { on := 10, ground := Go.Ground.data }], guard := none }) (v := ?_) rfl (by kernel_rfl) (by kernel_rfl) (by kernel_rfl) (fun _ _ _ h => h) (Or.inl ⟨by rfl, ?_⟩) (by assumption) ?_
                rotate_left
                · (intro w hSw; (try dsimp only at hSw); go_simp; try with_reducible rfl)
                try simp only [Act.put, List.setIfInBounds_toArray, List.set_cons_zero, List.set_cons_succ]
                refine wpAnyH_ready (rs := [12, 17]) (by kernel_rfl) (by simp) ?_
                refine AllReadyH.cons (o := { dst := some 89, op := Go.Op.call { callee := Go.Callee.value (Go.Operand.func 15), args := #[Go.Operand.tmp 81, Go.Operand.tmp 82, Go.Operand.tmp 88], argTypes := #[35, 3, 4] }, type := 41, pos := "laws_internal_jsondoc_b1.go:315", after := #[{ on := 4, ground := Go.Ground.data }, { on := 5, ground := Go.Ground.data }, { on := 11, ground := Go.Ground.data }, { on := 7, ground := Go.Ground.chain }], guard := none }) rfl (fun K hK => ?_) ?_
                · skip
                  go_simp
                  refine (IH.out _ _ (by first | exact (Below.refl _ _).drew | exact ((Below.refl _ _).alloc (Nat.le_refl _) _).drew)).mono ?_
                  rintro e w3 ⟨kd', sd', _, _, rest, ok, ⟨ao6, n6, cp6, rfl⟩, ⟨ao7, n7, cp7, rfl⟩, rfl, hb3, hres⟩
                  have hsz4 : wr.heap.size ≤ w3.heap.size := (by have := hb3.size; simp at this; omega)
                  have hb4 : Below wr.heap.size wr w3 := (Below.refl _ _).drew.trans (hb3.mono (Nat.le_refl _))
                  go_wp2_with fail
                  refine hK.out _ _ (by exact SK.out _ (by first | exact (Below.refl _ _).drew | exact ((Below.refl _ _).alloc (Nat.le_refl _) _).drew | exact (Below.refl _ _).drew.alloc (Nat.le_refl _) _ | exact hb4 | exact hb4.alloc hsz4 _ | exact (((hb4.setCell (Nat.le_refl _) _).setCell (Nat.le_refl _) _).setCell (Nat.le_refl _) _).setCell (Nat.le_refl _) _)) (fun hHeld => ?_)
                  clear hK K
                  try simp only [Act.put, List.setIfInBounds_toArray, List.set_cons_zero, List.set_cons_succ]
                  refine wpAnyH_take (i := 13) (oi := { dst := some 76, op := Go.Op.move (Go.Operand.tmp 89), type := 41, pos := "laws_internal_jsondoc_b1.go:315", after := #[{ on := 12, ground := Go.Ground.data }], guard := none }) (v := ?_) rfl (by kernel_rfl) (by kernel_rfl) (by kernel_rfl) (fun _ _ _ h => h) (Or.inl ⟨by rfl, ?_⟩) (by assumption) ?_
                  rotate_left
                  · (intro w hSw; (try dsimp only at hSw); go_simp; try with_reducible rfl)
                  try simp only [Act.put, List.setIfInBounds_toArray, List.set_cons_zero, List.set_cons_succ]
                  refine wpAnyH_take (i := 14) (oi := { dst := some 90, op := Go.Op.extract (Go.Operand.tmp 76) 0, type := 40, pos := "laws_internal_jsondoc_b1.go:315", after := #[{ on := 13, ground := Go.Ground.data }], guard := none }) (v := ?_) rfl (by kernel_rfl) (by kernel_rfl) (by kernel_rfl) (fun _ _ _ h => h) (Or.inl ⟨by rfl, ?_⟩) (by assumption) ?_
                  rotate_left
                  · (intro w hSw; (try dsimp only at hSw); go_simp; try with_reducible rfl)
                  try simp only [Act.put, List.setIfInBounds_toArray, List.set_cons_zero, List.set_cons_succ]
                  refine wpAnyH_take (i := 15) (oi := { dst := some 91, op := Go.Op.extract (Go.Operand.tmp 76) 1, type := 3, pos := "laws_internal_jsondoc_b1.go:315", after := #[{ on := 13, ground := Go.Ground.data }, { on := 18, ground := Go.Ground.gcOnly Go.Departure.lateStores }], guard := none }) (v := ?_) rfl (by kernel_rfl) (by kernel_rfl) (by kernel_rfl) (fun _ _ _ h => h) (Or.inl ⟨by rfl, ?_⟩) (by assumption) ?_
                  rotate_left
                  · (intro w hSw; (try dsimp only at hSw); go_simp; try with_reducible rfl)
                  try simp only [Act.put, List.setIfInBounds_toArray, List.set_cons_zero, List.set_cons_succ]
                  refine wpAnyH_take (i := 16) (oi := { dst := some 92, op := Go.Op.extract (Go.Operand.tmp 76) 2, type := 4, pos := "laws_internal_jsondoc_b1.go:315", after := #[{ on := 13, ground := Go.Ground.data }, { on := 19, ground := Go.Ground.gcOnly Go.Departure.lateStores }], guard := none }) (v := ?_) rfl (by kernel_rfl) (by kernel_rfl) (by kernel_rfl) (fun _ _ _ h => h) (Or.inl ⟨by rfl, ?_⟩) (by assumption) ?_
                  rotate_left
                  · (intro w hSw; (try dsimp only at hSw); go_simp; try with_reducible rfl)
                  try simp only [Act.put, List.setIfInBounds_toArray, List.set_cons_zero, List.set_cons_succ]
                  refine wpAnyH_ready (rs := [17]) (by kernel_rfl) (by simp) ?_
                  refine AllReadyH.cons (o := { dst := some 12, op := Go.Op.alloc 40, type := 0, pos := "laws_internal_jsondoc_b1.go:315", after := #[], guard := none }) rfl (fun K hK => ?_) ?_
                  · go_simp
                    refine hK.out _ _ (by exact SK.out _ (by first | exact (Below.refl _ _).drew | exact ((Below.refl _ _).alloc (Nat.le_refl _) _).drew | exact (Below.refl _ _).drew.alloc (Nat.le_refl _) _ | exact hb4 | exact hb4.alloc hsz4 _ | exact (((hb4.setCell (Nat.le_refl _) _).setCell (Nat.le_refl _) _).setCell (Nat.le_refl _) _).setCell (Nat.le_refl _) _)) (fun hHeld => ?_)
                    clear hK K
                    try simp only [Act.put, List.setIfInBounds_toArray, List.set_cons_zero, List.set_cons_succ]
                    refine wpAnyH_ready (rs := [18]) (by kernel_rfl) (by simp) ?_
                    refine AllReadyH.cons (o := { dst := none, op := Go.Op.store 40 (Go.Operand.tmp 12) (Go.Operand.tmp 90), type := 0, pos := "laws_internal_jsondoc_b1.go:315", after := #[{ on := 17, ground := Go.Ground.data }, { on := 14, ground := Go.Ground.data }, { on := 12, ground := Go.Ground.chain }, { on := 0, ground := Go.Ground.phase }, { on := 1, ground := Go.Ground.phase }, { on := 2, ground := Go.Ground.phase }, { on := 3, ground := Go.Ground.phase }, { on := 4, ground := Go.Ground.phase }, { on := 5, ground := Go.Ground.phase }, { on := 6, ground := Go.Ground.phase }, { on := 7, ground := Go.Ground.phase }, { on := 8, ground := Go.Ground.phase }, { on := 9, ground := Go.Ground.phase }, { on := 10, ground := Go.Ground.phase }, { on := 11, ground := Go.Ground.phase }, { on := 12, ground := Go.Ground.phase }, { on := 13, ground := Go.Ground.phase }, { on := 14, ground := Go.Ground.phase }, { on := 15, ground := Go.Ground.textOnly Go.Departure.lateStores }, { on := 16, ground := Go.Ground.textOnly Go.Departure.lateStores }, { on := 17, ground := Go.Ground.phase }], guard := none }) rfl (fun K hK => ?_) ?_
                    · go_simp
                      refine hK.out _ _ (by exact SK.out _ (by first | exact (Below.refl _ _).drew | exact ((Below.refl _ _).alloc (Nat.le_refl _) _).drew | exact (Below.refl _ _).drew.alloc (Nat.le_refl _) _ | exact hb4 | exact hb4.alloc hsz4 _ | exact (((hb4.setCell (Nat.le_refl _) _).setCell (Nat.le_refl _) _).setCell (Nat.le_refl _) _).setCell (Nat.le_refl _) _)) (fun hHeld => ?_)
                      clear hK K
                      try simp only [Act.put, List.setIfInBounds_toArray, List.set_cons_zero, List.set_cons_succ]
                      refine wpAnyH_take (i := 19) (oi := { dst := some 13, op := Go.Op.assign (Go.Operand.tmp 91), type := 3, pos := "laws_internal_jsondoc_b1.go:315", after := #[{ on := 15, ground := Go.Ground.data }, { on := 18, ground := Go.Ground.chain }, { on := 0, ground := Go.Ground.phase }, { on := 1, ground := Go.Ground.phase }, { on := 2, ground := Go.Ground.phase }, { on := 3, ground := Go.Ground.phase }, { on := 4, ground := Go.Ground.phase }, { on := 5, ground := Go.Ground.phase }, { on := 6, ground := Go.Ground.phase }, { on := 7, ground := Go.Ground.phase }, { on := 8, ground := Go.Ground.phase }, { on := 9, ground := Go.Ground.phase }, { on := 10, ground := Go.Ground.phase }, { on := 11, ground := Go.Ground.phase }, { on := 12, ground := Go.Ground.phase }, { on := 13, ground := Go.Ground.phase }, { on := 14, ground := Go.Ground.phase }, { on := 15, ground := Go.Ground.phase }, { on := 16, ground := Go.Ground.textOnly Go.Departure.lateStores }, { on := 17, ground := Go.Ground.phase }, { on := 18, ground := Go.Ground.phase }], guard := none }) (v := ?_) rfl (by kernel_rfl) (by kernel_rfl) (by kernel_rfl) (fun _ _ _ h => h) (Or.inl ⟨by rfl, ?_⟩) (by assumption) ?_
                      rotate_left
                      · (intro w hSw; (try dsimp only at hSw); go_simp; try with_reducible rfl)
                      try simp only [Act.put, List.setIfInBounds_toArray, List.set_cons_zero, List.set_cons_succ]
                      refine wpAnyH_take (i := 20) (oi := { dst := some 14, op := Go.Op.assign (Go.Operand.tmp 92), type := 4, pos := "laws_internal_jsondoc_b1.go:315", after := #[{ on := 16, ground := Go.Ground.data }, { on := 19, ground := Go.Ground.chain }, { on := 0, ground := Go.Ground.phase }, { on := 1, ground := Go.Ground.phase }, { on := 2, ground := Go.Ground.phase }, { on := 3, ground := Go.Ground.phase }, { on := 4, ground := Go.Ground.phase }, { on := 5, ground := Go.Ground.phase }, { on := 6, ground := Go.Ground.phase }, { on := 7, ground := Go.Ground.phase }, { on := 8, ground := Go.Ground.phase }, { on := 9, ground := Go.Ground.phase }, { on := 10, ground := Go.Ground.phase }, { on := 11, ground := Go.Ground.phase }, { on := 12, ground := Go.Ground.phase }, { on := 13, ground := Go.Ground.phase }, { on := 14, ground := Go.Ground.phase }, { on := 15, ground := Go.Ground.phase }, { on := 16, ground := Go.Ground.phase }, { on := 17, ground := Go.Ground.phase }, { on := 18, ground := Go.Ground.phase }, { on := 19, ground := Go.Ground.phase }], guard := none }) (v := ?_) rfl (by kernel_rfl) (by kernel_rfl) (by kernel_rfl) (fun _ _ _ h => h) (Or.inl ⟨by rfl, ?_⟩) (by assumption) ?_
                      rotate_left
                      · (intro w hSw; (try dsimp only at hSw); go_simp; try with_reducible rfl)
                      try simp only [Act.put, List.setIfInBounds_toArray, List.set_cons_zero, List.set_cons_succ]
                      refine wpAnyH_done (by kernel_rfl) ?_ _
                      refine NoPanic.normal ?_
                      go_wp2_with fail
                      go_meet
                      case rel => exact ⟨_, kd', sd', ao6, n6, cp6, ao7, n7, cp7, rest, ok, rfl, rfl, rfl, newItem_after (W := wr.drew) rfl (Below.refl _ _).drew hb3 (by simpa [HUK.out] using hres)⟩
                    · exact AllReadyH.nil
                  · exact AllReadyH.nil
                refine AllReadyH.cons (o := { dst := some 12, op := Go.Op.alloc 40, type := 0, pos := "laws_internal_jsondoc_b1.go:315", after := #[], guard := none }) rfl (fun K hK => ?_) ?_
                · go_simp
                  refine hK.out _ _ (by exact SK.out _ (by first | exact (Below.refl _ _).drew | exact ((Below.refl _ _).alloc (Nat.le_refl _) _).drew | exact (Below.refl _ _).drew.alloc (Nat.le_refl _) _ | exact hb4 | exact hb4.alloc hsz4 _ | exact (((hb4.setCell (Nat.le_refl _) _).setCell (Nat.le_refl _) _).setCell (Nat.le_refl _) _).setCell (Nat.le_refl _) _)) (fun hHeld => ?_)
                  clear hK K
                  try simp only [Act.put, List.setIfInBounds_toArray, List.set_cons_zero, List.set_cons_succ]
                  refine wpAnyH_ready (rs := [12]) (by kernel_rfl) (by simp) ?_
                  refine AllReadyH.cons (o := { dst := some 89, op := Go.Op.call { callee := Go.Callee.value (Go.Operand.func 15), args := #[Go.Operand.tmp 81, Go.Operand.tmp 82, Go.Operand.tmp 88], argTypes := #[35, 3, 4] }, type := 41, pos := "laws_internal_jsondoc_b1.go:315", after := #[{ on := 4, ground := Go.Ground.data }, { on := 5, ground := Go.Ground.data }, { on := 11, ground := Go.Ground.data }, { on := 7, ground := Go.Ground.chain }], guard := none }) rfl (fun K hK => ?_) ?_
                  · skip
                    go_simp
                    refine (IH.out _ _ (by first | exact (Below.refl _ _).drew | exact ((Below.refl _ _).alloc (Nat.le_refl _) _).drew)).mono ?_
                    rintro e w3 ⟨kd', sd', _, _, rest, ok, ⟨ao6, n6, cp6, rfl⟩, ⟨ao7, n7, cp7, rfl⟩, rfl, hb3, hres⟩
                    have hsz4 : wr.heap.size ≤ w3.heap.size := (by have := hb3.size; simp at this; omega)
                    have hb4 : Below wr.heap.size wr w3 := (((Below.refl _ _).alloc (Nat.le_refl _) _).drew).trans (hb3.mono (by simp))
                    have kb := (hb3.block wr.heap.size (by simp)).trans (heap_alloc_new wr _)
                    obtain ⟨z0, z1, z2, z3, fz⟩ := boxFacts kb
                    go_wp2_with fail
                    refine hK.out _ _ (by exact SK.out _ (by first | exact (Below.refl _ _).drew | exact ((Below.refl _ _).alloc (Nat.le_refl _) _).drew | exact (Below.refl _ _).drew.alloc (Nat.le_refl _) _ | exact hb4 | exact hb4.alloc hsz4 _ | exact (((hb4.setCell (Nat.le_refl _) _).setCell (Nat.le_refl _) _).setCell (Nat.le_refl _) _).setCell (Nat.le_refl _) _)) (fun hHeld => ?_)
                    clear hK K
                    try simp only [Act.put, List.setIfInBounds_toArray, List.set_cons_zero, List.set_cons_succ]
                    refine wpAnyH_take (i := 13) (oi := { dst := some 76, op := Go.Op.move (Go.Operand.tmp 89), type := 41, pos := "laws_internal_jsondoc_b1.go:315", after := #[{ on := 12, ground := Go.Ground.data }], guard := none }) (v := ?_) rfl (by kernel_rfl) (by kernel_rfl) (by kernel_rfl) (fun _ _ _ h => h) (Or.inl ⟨by rfl, ?_⟩) (by assumption) ?_
                    rotate_left
                    · (intro w hSw; (try dsimp only at hSw); go_simp; try with_reducible rfl)
                    try simp only [Act.put, List.setIfInBounds_toArray, List.set_cons_zero, List.set_cons_succ]
                    refine wpAnyH_take (i := 14) (oi := { dst := some 90, op := Go.Op.extract (Go.Operand.tmp 76) 0, type := 40, pos := "laws_internal_jsondoc_b1.go:315", after := #[{ on := 13, ground := Go.Ground.data }], guard := none }) (v := ?_) rfl (by kernel_rfl) (by kernel_rfl) (by kernel_rfl) (fun _ _ _ h => h) (Or.inl ⟨by rfl, ?_⟩) (by assumption) ?_
                    rotate_left
                    · (intro w hSw; (try dsimp only at hSw); go_simp; try with_reducible rfl)
                    try simp only [Act.put, List.setIfInBounds_toArray, List.set_cons_zero, List.set_cons_succ]
                    refine wpAnyH_take (i := 15) (oi := { dst := some 91, op := Go.Op.extract (Go.Operand.tmp 76) 1, type := 3, pos := "laws_internal_jsondoc_b1.go:315", after := #[{ on := 13, ground := Go.Ground.data }, { on := 18, ground := Go.Ground.gcOnly Go.Departure.lateStores }], guard := none }) (v := ?_) rfl (by kernel_rfl) (by kernel_rfl) (by kernel_rfl) (fun _ _ _ h => h) (Or.inl ⟨by rfl, ?_⟩) (by assumption) ?_
                    rotate_left
                    · (intro w hSw; (try dsimp only at hSw); go_simp; try with_reducible rfl)
                    try simp only [Act.put, List.setIfInBounds_toArray, List.set_cons_zero, List.set_cons_succ]
                    refine wpAnyH_take (i := 16) (oi := { dst := some 92, op := Go.Op.extract (Go.Operand.tmp 76) 2, type := 4, pos := "laws_internal_jsondoc_b1.go:315", after := #[{ on := 13, ground := Go.Ground.data }, { on := 19, ground := Go.Ground.gcOnly Go.Departure.lateStores }], guard := none }) (v := ?_) rfl (by kernel_rfl) (by kernel_rfl) (by kernel_rfl) (fun _ _ _ h => h) (Or.inl ⟨by rfl, ?_⟩) (by assumption) ?_
                    rotate_left
                    · (intro w hSw; (try dsimp only at hSw); go_simp; try with_reducible rfl)
                    try simp only [Act.put, List.setIfInBounds_toArray, List.set_cons_zero, List.set_cons_succ]
                    refine wpAnyH_ready (rs := [18]) (by kernel_rfl) (by simp) ?_
                    refine AllReadyH.cons (o := { dst := none, op := Go.Op.store 40 (Go.Operand.tmp 12) (Go.Operand.tmp 90), type := 0, pos := "laws_internal_jsondoc_b1.go:315", after := #[{ on := 17, ground := Go.Ground.data }, { on := 14, ground := Go.Ground.data }, { on := 12, ground := Go.Ground.chain }, { on := 0, ground := Go.Ground.phase }, { on := 1, ground := Go.Ground.phase }, { on := 2, ground := Go.Ground.phase }, { on := 3, ground := Go.Ground.phase }, { on := 4, ground := Go.Ground.phase }, { on := 5, ground := Go.Ground.phase }, { on := 6, ground := Go.Ground.phase }, { on := 7, ground := Go.Ground.phase }, { on := 8, ground := Go.Ground.phase }, { on := 9, ground := Go.Ground.phase }, { on := 10, ground := Go.Ground.phase }, { on := 11, ground := Go.Ground.phase }, { on := 12, ground := Go.Ground.phase }, { on := 13, ground := Go.Ground.phase }, { on := 14, ground := Go.Ground.phase }, { on := 15, ground := Go.Ground.textOnly Go.Departure.lateStores }, { on := 16, ground := Go.Ground.textOnly Go.Departure.lateStores }, { on := 17, ground := Go.Ground.phase }], guard := none }) rfl (fun K hK => ?_) ?_
                    · go_simp
                      refine hK.out _ _ (by exact SK.out _ (by first | exact (Below.refl _ _).drew | exact ((Below.refl _ _).alloc (Nat.le_refl _) _).drew | exact (Below.refl _ _).drew.alloc (Nat.le_refl _) _ | exact hb4 | exact hb4.alloc hsz4 _ | exact (((hb4.setCell (Nat.le_refl _) _).setCell (Nat.le_refl _) _).setCell (Nat.le_refl _) _).setCell (Nat.le_refl _) _)) (fun hHeld => ?_)
                      clear hK K
                      try simp only [Act.put, List.setIfInBounds_toArray, List.set_cons_zero, List.set_cons_succ]
                      refine wpAnyH_take (i := 19) (oi := { dst := some 13, op := Go.Op.assign (Go.Operand.tmp 91), type := 3, pos := "laws_internal_jsondoc_b1.go:315", after := #[{ on := 15, ground := Go.Ground.data }, { on := 18, ground := Go.Ground.chain }, { on := 0, ground := Go.Ground.phase }, { on := 1, ground := Go.Ground.phase }, { on := 2, ground := Go.Ground.phase }, { on := 3, ground := Go.Ground.phase }, { on := 4, ground := Go.Ground.phase }, { on := 5, ground := Go.Ground.phase }, { on := 6, ground := Go.Ground.phase }, { on := 7, ground := Go.Ground.phase }, { on := 8, ground := Go.Ground.phase }, { on := 9, ground := Go.Ground.phase }, { on := 10, ground := Go.Ground.phase }, { on := 11, ground := Go.Ground.phase }, { on := 12, ground := Go.Ground.phase }, { on := 13, ground := Go.Ground.phase }, { on := 14, ground := Go.Ground.phase }, { on := 15, ground := Go.Ground.phase }, { on := 16, ground := Go.Ground.textOnly Go.Departure.lateStores }, { on := 17, ground := Go.Ground.phase }, { on := 18, ground := Go.Ground.phase }], guard := none }) (v := ?_) rfl (by kernel_rfl) (by kernel_rfl) (by kernel_rfl) (fun _ _ _ h => h) (Or.inl ⟨by rfl, ?_⟩) (by assumption) ?_
                      rotate_left
                      · (intro w hSw; (try dsimp only at hSw); go_simp; try with_reducible rfl)
                      try simp only [Act.put, List.setIfInBounds_toArray, List.set_cons_zero, List.set_cons_succ]
                      refine wpAnyH_take (i := 20) (oi := { dst := some 14, op := Go.Op.assign (Go.Operand.tmp 92), type := 4, pos := "laws_internal_jsondoc_b1.go:315", after := #[{ on := 16, ground := Go.Ground.data }, { on := 19, ground := Go.Ground.chain }, { on := 0, ground := Go.Ground.phase }, { on := 1, ground := Go.Ground.phase }, { on := 2, ground := Go.Ground.phase }, { on := 3, ground := Go.Ground.phase }, { on := 4, ground := Go.Ground.phase }, { on := 5, ground := Go.Ground.phase }, { on := 6, ground := Go.Ground.phase }, { on := 7, ground := Go.Ground.phase }, { on := 8, ground := Go.Ground.phase }, { on := 9, ground := Go.Ground.phase }, { on := 10, ground := Go.Ground.phase }, { on := 11, ground := Go.Ground.phase }, { on := 12, ground := Go.Ground.phase }, { on := 13, ground := Go.Ground.phase }, { on := 14, ground := Go.Ground.phase }, { on := 15, ground := Go.Ground.phase }, { on := 16, ground := Go.Ground.phase }, { on := 17, ground := Go.Ground.phase }, { on := 18, ground := Go.Ground.phase }, { on := 19, ground := Go.Ground.phase }], guard := none }) (v := ?_) rfl (by kernel_rfl) (by kernel_rfl) (by kernel_rfl) (fun _ _ _ h => h) (Or.inl ⟨by rfl, ?_⟩) (by assumption) ?_
                      rotate_left
                      · (intro w hSw; (try dsimp only at hSw); go_simp; try with_reducible rfl)
                      try simp only [Act.put, List.setIfInBounds_toArray, List.set_cons_zero, List.set_cons_succ]
                      refine wpAnyH_done (by kernel_rfl) ?_ _
                      refine NoPanic.normal ?_
                      go_wp2_with fail
                      go_meet
                      case rel => exact ⟨_, kd', sd', ao6, n6, cp6, ao7, n7, cp7, rest, ok, rfl, rfl, rfl, newItem_before (W := (wr.alloc ZeroBox).drew) (by simp) (((Below.refl _ _).alloc (Nat.le_refl _) _).drew) (heap_alloc_new wr _) hb3 (by simpa [HUK.out] using hres)⟩
                    · exact AllReadyH.nil
                  · exact AllReadyH.nil
                exact AllReadyH.nil
              | true =>
                have HUK : Hid (((k : Int) == 5) = decide (k = 5)) := by
                  show _ = _
                  by_cases e5 : k = 5
                  · subst e5; rfl
                  · rw [decide_eq_false e5]; exact beq_eq_false_iff_ne.2 (by omega)
                refine wp_region_noPanic ?_
                refine wp_region_held_drew (S := (fun w' => w'.cell? ⟨w.heap.size, 2, none⟩ = some (.slice (some ⟨b, off, none⟩) is.length cp2) ∧ w'.cell? ⟨w.heap.size, 0, none⟩ = some (.int .u8 (k : Int)) ∧ w'.cell? ⟨b, off + kk * 4, none⟩ = some (.int .u8 kd) ∧ w'.cell? ⟨b, off + kk * 4 + 1, none⟩ = some (.string sd) ∧ w'.cell? ⟨b, off + kk * 4 + 2, none⟩ = some (.slice ao4 n4 cp4) ∧ w'.cell? ⟨b, off + kk * 4 + 3, none⟩ = some (.slice ao5 n5 cp5))) (by kernel_rfl) (SK.out _ (Below.refl _ _).drew) (fun hHeld => ?_)
                refine wpAnyH_take (i := 0) (oi := { dst := some 77, op := Go.Op.fieldAddr 35 (Go.Operand.tmp 3) 2, type := 0, pos := "laws_internal_jsondoc_b1.go:315", after := #[], guard := none }) (v := ?_) rfl (by kernel_rfl) (by kernel_rfl) (by kernel_rfl) (fun _ _ _ h => h) (Or.inl ⟨by rfl, ?_⟩) (by assumption) ?_
                rotate_left
                · (intro w hSw; (try dsimp only at hSw); go_simp; try with_reducible rfl)
                try simp only [Act.put, List.setIfInBounds_toArray, List.set_cons_zero, List.set_cons_succ]
                refine wpAnyH_take (i := 1) (oi := { dst := some 78, op := Go.Op.load 32 (Go.Operand.tmp 77), type := 32, pos := "laws_internal_jsondoc_b1.go:315", after := #[{ on := 0, ground := Go.Ground.data }], guard := none }) (v := ?_) rfl (by kernel_rfl) (by kernel_rfl) (by kernel_rfl) (fun _ _ _ h => h) (Or.inl ⟨by rfl, ?_⟩) (by assumption) ?_
                rotate_left
                · (intro w hSw; (try dsimp only at hSw); go_simp; try with_reducible rfl)
                try simp only [Act.put, List.setIfInBounds_toArray, List.set_cons_zero, List.set_cons_succ]
                refine wpAnyH_take (i := 2) (oi := { dst := some 79, op := Go.Op.move (Go.Operand.tmp 11), type := 3, pos := "laws_internal_jsondoc_b1.go:315", after := #[], guard := none }) (v := ?_) rfl (by kernel_rfl) (by kernel_rfl) (by kernel_rfl) (fun _ _ _ h => h) (Or.inl ⟨by rfl, ?_⟩) (by assumption) ?_
                rotate_left
                · (intro w hSw; (try dsimp only at hSw); go_simp; try with_reducible rfl)
                try simp only [Act.put, List.setIfInBounds_toArray, List.set_cons_zero, List.set_cons_succ]
                refine wpAnyH_take (i := 3) (oi := { dst := some 80, op := Go.Op.indexAddr 32 (Go.Operand.tmp 78) (Go.Operand.tmp 79), type := 0, pos := "laws_internal_jsondoc_b1.go:315", after := #[{ on := 1, ground := Go.Ground.data }, { on := 2, ground := Go.Ground.data }], guard := none }) (v := ?_) rfl (by kernel_rfl) (by kernel_rfl) (by kernel_rfl) (fun _ _ _ h => h) (Or.inl ⟨by rfl, ?_⟩) (by assumption) ?_
                rotate_left
                · (intro w hSw; (try dsimp only at hSw); go_simp; try with_reducible rfl)
                try simp only [Act.put, List.setIfInBounds_toArray, List.set_cons_zero, List.set_cons_succ]
                refine wpAnyH_take (i := 4) (oi := { dst := some 81, op := Go.Op.load 35 (Go.Operand.tmp 80), type := 35, pos := "laws_internal_jsondoc_b1.go:315", after := #[{ on := 3, ground := Go.Ground.data }], guard := none }) (v := ?_) rfl (by kernel_rfl) (by kernel_rfl) (by kernel_rfl) (fun _ _ _ h => h) (Or.inl ⟨by rfl, ?_⟩) (by assumption) ?_
                rotate_left
                · (intro w hSw; (try dsimp only at hSw); go_simp; try with_reducible rfl)
                try simp only [Act.put, List.setIfInBounds_toArray, List.set_cons_zero, List.set_cons_succ]
                refine wpAnyH_take (i := 5) (oi := { dst := some 82, op := Go.Op.move (Go.Operand.tmp 1), type := 3, pos := "laws_internal_jsondoc_b1.go:315", after := #[], guard := none }) (v := ?_) rfl (by kernel_rfl) (by kernel_rfl) (by kernel_rfl) (fun _ _ _ h => h) (Or.inl ⟨by rfl, ?_⟩) (by assumption) ?_
                rotate_left
                · (intro w hSw; (try dsimp only at hSw); go_simp; try with_reducible rfl)
                try simp only [Act.put, List.setIfInBounds_toArray, List.set_cons_zero, List.set_cons_succ]
                refine wpAnyH_take (i := 6) (oi := { dst := some 83, op := Go.Op.move (Go.Operand.tmp 2), type := 4, pos := "laws_internal_jsondoc_b1.go:315", after := #[], guard := none }) (v := ?_) rfl (by kernel_rfl) (by kernel_rfl) (by kernel_rfl) (fun _ _ _ h => h) (Or.inl ⟨by rfl, ?_⟩) (by assumption) ?_
                rotate_left
                · (intro w hSw; (try dsimp only at hSw); go_simp; try with_reducible rfl)
                try simp only [Act.put, List.setIfInBounds_toArray, List.set_cons_zero, List.set_cons_succ]
                refine wpAnyH_take (i := 7) (oi := { dst := some 84, op := Go.Op.move (Go.Operand.tmp 83), type := 4, pos := "laws_internal_jsondoc_b1.go:315", after := #[{ on := 6, ground := Go.Ground.data }], guard := none }) (v := ?_) rfl (by kernel_rfl) (by kernel_rfl) (by kernel_rfl) (fun _ _ _ h => h) (Or.inl ⟨by rfl, ?_⟩) (by assumption) ?_
                rotate_left
                · (intro w hSw; (try dsimp only at hSw); go_simp; try with_reducible rfl)
                try simp only [Act.put, List.setIfInBounds_toArray, List.set_cons_zero, List.set_cons_succ]
                refine wpAnyH_take (i := 8) (oi := { dst := some 85, op := Go.Op.fieldAddr 35 (Go.Operand.tmp 3) 0, type := 0, pos := "laws_internal_jsondoc_b1.go:315", after := #[{ on := 7, ground := Go.Ground.guard }], guard := some (7, true) }) (v := ?_) rfl (by kernel_rfl) (by kernel_rfl) (by kernel_rfl) (fun _ _ _ h => h) (Or.inl ⟨by rfl, ?_⟩) (by assumption) ?_
                rotate_left
                · (intro w hSw; (try dsimp only at hSw); go_simp; try with_reducible rfl)
                try simp only [Act.put, List.setIfInBounds_toArray, List.set_cons_zero, List.set_cons_succ]
                refine wpAnyH_take (i := 9) (oi := { dst := some 86, op := Go.Op.load 5 (Go.Operand.tmp 85), type := 5, pos := "laws_internal_jsondoc_b1.go:315", after := #[{ on := 8, ground := Go.Ground.data }, { on := 7, ground := Go.Ground.guard }], guard := some (7, true) }) (v := ?_) rfl (by kernel_rfl) (by kernel_rfl) (by kernel_rfl) (fun _ _ _ h => h) (Or.inl ⟨by rfl, ?_⟩) (by assumption) ?_
                rotate_left
                · (intro w hSw; (try dsimp only at hSw); go_simp; try with_reducible rfl)
                try simp only [Act.put, List.setIfInBounds_toArray, List.set_cons_zero, List.set_cons_succ]
                refine wpAnyH_take (i := 10) (oi := { dst := some 87, op := Go.Op.binOp Go.BinOp.eql 5 (Go.Operand.tmp 86) (Go.Operand.const (Go.Value.int Go.IntKind.u8 5)) 5, type := 4, pos := "laws_internal_jsondoc_b1.go:315", after := #[{ on := 9, ground := Go.Ground.data }, { on := 7, ground := Go.Ground.guard }], guard := some (7, true) }) (v := ?_) rfl (by kernel_rfl) (by kernel_rfl) (by kernel_rfl) (fun _ _ _ h => h) (Or.inl ⟨by rfl, ?_⟩) (by assumption) ?_
                rotate_left
                · (intro w hSw; (try dsimp only at hSw); go_simp; try with_reducible rfl)
                try simp only [Act.put, List.setIfInBounds_toArray, List.set_cons_zero, List.set_cons_succ]
                refine wpAnyH_take (i := 11) (oi := { dst := some 88, op := Go.Op.pick (Go.Operand.tmp 84) (Go.Operand.tmp 87) (Go.Operand.const (Go.Value.bool false)), type := 4, pos := "laws_internal_jsondoc_b1.go:315", after := #[{ on := 7, ground := Go.Ground.data }, { on := 10, ground := Go.Ground.data }], guard := none }) (v := ?_) rfl (by kernel_rfl) (by kernel_rfl) (by kernel_rfl) (fun _ _ _ h => h) (Or.inl ⟨by rfl, ?_⟩) (by assumption) ?_
                rotate_left
                · (intro w hSw; (try dsimp only at hSw); go_simp; try with_reducible rfl)
                try simp only [Act.put, List.setIfInBounds_toArray, List.set_cons_zero, List.set_cons_succ]
                refine wpAnyH_ready (rs := [12, 17]) (by kernel_rfl) (by simp) ?_
                refine AllReadyH.cons (o := { dst := some 89, op := Go.Op.call { callee := Go.Callee.value (Go.Operand.func 15), args := #[Go.Operand.tmp 81, Go.Operand.tmp 82, Go.Operand.tmp 88], argTypes := #[35, 3, 4] }, type := 41, pos := "laws_internal_jsondoc_b1.go:315", after := #[{ on := 4, ground := Go.Ground.data }, { on := 5, ground := Go.Ground.data }, { on := 11, ground := Go.Ground.data }, { on := 7, ground := Go.Ground.chain }], guard := none }) rfl (fun K hK => ?_) ?_
                · skip
                  go_simp
                  refine (IH.out _ _ (by first | exact (Below.refl _ _).drew | exact ((Below.refl _ _).alloc (Nat.le_refl _) _).drew)).mono ?_
                  rintro e w3 ⟨kd', sd', _, _, rest, ok, ⟨ao6, n6, cp6, rfl⟩, ⟨ao7, n7, cp7, rfl⟩, rfl, hb3, hres⟩
                  have hsz4 : wr.heap.size ≤ w3.heap.size := (by have := hb3.size; simp at this; omega)
                  have hb4 : Below wr.heap.size wr w3 := (Below.refl _ _).drew.trans (hb3.mono (Nat.le_refl _))
                  go_wp2_with fail
                  refine hK.out _ _ (by exact SK.out _ (by first | exact (Below.refl _ _).drew | exact ((Below.refl _ _).alloc (Nat.le_refl _) _).drew | exact (Below.refl _ _).drew.alloc (Nat.le_refl _) _ | exact hb4 | exact hb4.alloc hsz4 _ | exact (((hb4.setCell (Nat.le_refl _) _).setCell (Nat.le_refl _) _).setCell (Nat.le_refl _) _).setCell (Nat.le_refl _) _)) (fun hHeld => ?_)
                  clear hK K
                  try simp only [Act.put, List.setIfInBounds_toArray, List.set_cons_zero, List.set_cons_succ]
                  refine wpAnyH_take (i := 13) (oi := { dst := some 76, op := Go.Op.move (Go.Operand.tmp 89), type := 41, pos := "laws_internal_jsondoc_b1.go:315", after := #[{ on := 12, ground := Go.Ground.data }], guard := none }) (v := ?_) rfl (by kernel_rfl) (by kernel_rfl) (by kernel_rfl) (fun _ _ _ h => h) (Or.inl ⟨by rfl, ?_⟩) (by assumption) ?_
                  rotate_left
                  · (intro w hSw; (try dsimp only at hSw); go_simp; try with_reducible rfl)
                  try simp only [Act.put, List.setIfInBounds_toArray, List.set_cons_zero, List.set_cons_succ]
                  refine wpAnyH_take (i := 14) (oi := { dst := some 90, op := Go.Op.extract (Go.Operand.tmp 76) 0, type := 40, pos := "laws_internal_jsondoc_b1.go:315", after := #[{ on := 13, ground := Go.Ground.data }], guard := none }) (v := ?_) rfl (by kernel_rfl) (by kernel_rfl) (by kernel_rfl) (fun _ _ _ h => h) (Or.inl ⟨by rfl, ?_⟩) (by assumption) ?_
                  rotate_left
                  · (intro w hSw; (try dsimp only at hSw); go_simp; try with_reducible rfl)
                  try simp only [Act.put, List.setIfInBounds_toArray, List.set_cons_zero, List.set_cons_succ]
                  refine wpAnyH_take (i := 15) (oi := { dst := some 91, op := Go.Op.extract (Go.Operand.tmp 76) 1, type := 3, pos := "laws_internal_jsondoc_b1.go:315", after := #[{ on := 13, ground := Go.Ground.data }, { on := 18, ground := Go.Ground.gcOnly Go.Departure.lateStores }], guard := none }) (v := ?_) rfl (by kernel_rfl) (by kernel_rfl) (by kernel_rfl) (fun _ _ _ h => h) (Or.inl ⟨by rfl, ?_⟩) (by assumption) ?_
                  rotate_left
                  · (intro w hSw; (try dsimp only at hSw); go_simp; try with_reducible rfl)
                  try simp only [Act.put, List.setIfInBounds_toArray, List.set_cons_zero, List.set_cons_succ]
                  refine wpAnyH_take (i := 16) (oi := { dst := some 92, op := Go.Op.extract (Go.Operand.tmp 76) 2, type := 4, pos := "laws_internal_jsondoc_b1.go:315", after := #[{ on := 13, ground := Go.Ground.data }, { on := 19, ground := Go.Ground.gcOnly Go.Departure.lateStores }], guard := none }) (v := ?_) rfl (by kernel_rfl) (by kernel_rfl) (by kernel_rfl) (fun _ _ _ h => h) (Or.inl ⟨by rfl, ?_⟩) (by assumption) ?_
                  rotate_left
                  · (intro w hSw; (try dsimp only at hSw); go_simp; try with_reducible rfl)
                  try simp only [Act.put, List.setIfInBounds_toArray, List.set_cons_zero, List.set_cons_succ]
                  refine wpAnyH_ready (rs := [17]) (by kernel_rfl) (by simp) ?_
                  refine AllReadyH.cons (o := { dst := some 12, op := Go.Op.alloc 40, type := 0, pos := "laws_internal_jsondoc_b1.go:315", after := #[], guard := none }) rfl (fun K hK => ?_) ?_
                  · go_simp
                    refine hK.out _ _ (by exact SK.out _ (by first | exact (Below.refl _ _).drew | exact ((Below.refl _ _).alloc (Nat.le_refl _) _).drew | exact (Below.refl _ _).drew.alloc (Nat.le_refl _) _ | exact hb4 | exact hb4.alloc hsz4 _ | exact (((hb4.setCell (Nat.le_refl _) _).setCell (Nat.le_refl _) _).setCell (Nat.le_refl _) _).setCell (Nat.le_refl _) _)) (fun hHeld => ?_)
                    clear hK K
                    try simp only [Act.put, List.setIfInBounds_toArray, List.set_cons_zero, List.set_cons_succ]
                    refine wpAnyH_ready (rs := [18]) (by kernel_rfl) (by simp) ?_
                    refine AllReadyH.cons (o := { dst := none, op := Go.Op.store 40 (Go.Operand.tmp 12) (Go.Operand.tmp 90), type := 0, pos := "laws_internal_jsondoc_b1.go:315", after := #[{ on := 17, ground := Go.Ground.data }, { on := 14, ground := Go.Ground.data }, { on := 12, ground := Go.Ground.chain }, { on := 0, ground := Go.Ground.phase }, { on := 1, ground := Go.Ground.phase }, { on := 2, ground := Go.Ground.phase }, { on := 3, ground := Go.Ground.phase }, { on := 4, ground := Go.Ground.phase }, { on := 5, ground := Go.Ground.phase }, { on := 6, ground := Go.Ground.phase }, { on := 7, ground := Go.Ground.phase }, { on := 8, ground := Go.Ground.phase }, { on := 9, ground := Go.Ground.phase }, { on := 10, ground := Go.Ground.phase }, { on := 11, ground := Go.Ground.phase }, { on := 12, ground := Go.Ground.phase }, { on := 13, ground := Go.Ground.phase }, { on := 14, ground := Go.Ground.phase }, { on := 15, ground := Go.Ground.textOnly Go.Departure.lateStores }, { on := 16, ground := Go.Ground.textOnly Go.Departure.lateStores }, { on := 17, ground := Go.Ground.phase }], guard := none }) rfl (fun K hK => ?_) ?_
                    · go_simp
                      refine hK.out _ _ (by exact SK.out _ (by first | exact (Below.refl _ _).drew | exact ((Below.refl _ _).alloc (Nat.le_refl _) _).drew | exact (Below.refl _ _).drew.alloc (Nat.le_refl _) _ | exact hb4 | exact hb4.alloc hsz4 _ | exact (((hb4.setCell (Nat.le_refl _) _).setCell (Nat.le_refl _) _).setCell (Nat.le_refl _) _).setCell (Nat.le_refl _) _)) (fun hHeld => ?_)
                      clear hK K
                      try simp only [Act.put, List.setIfInBounds_toArray, List.set_cons_zero, List.set_cons_succ]
                      refine wpAnyH_take (i := 19) (oi := { dst := some 13, op := Go.Op.assign (Go.Operand.tmp 91), type := 3, pos := "laws_internal_jsondoc_b1.go:315", after := #[{ on := 15, ground := Go.Ground.data }, { on := 18, ground := Go.Ground.chain }, { on := 0, ground := Go.Ground.phase }, { on := 1, ground := Go.Ground.phase }, { on := 2, ground := Go.Ground.phase }, { on := 3, ground := Go.Ground.phase }, { on := 4, ground := Go.Ground.phase }, { on := 5, ground := Go.Ground.phase }, { on := 6, ground := Go.Ground.phase }, { on := 7, ground := Go.Ground.phase }, { on := 8, ground := Go.Ground.phase }, { on := 9, ground := Go.Ground.phase }, { on := 10, ground := Go.Ground.phase }, { on := 11, ground := Go.Ground.phase }, { on := 12, ground := Go.Ground.phase }, { on := 13, ground := Go.Ground.phase }, { on := 14, ground := Go.Ground.phase }, { on := 15, ground := Go.Ground.phase }, { on := 16, ground := Go.Ground.textOnly Go.Departure.lateStores }, { on := 17, ground := Go.Ground.phase }, { on := 18, ground := Go.Ground.phase }], guard := none }) (v := ?_) rfl (by kernel_rfl) (by kernel_rfl) (by kernel_rfl) (fun _ _ _ h => h) (Or.inl ⟨by rfl, ?_⟩) (by assumption) ?_
                      rotate_left
                      · (intro w hSw; (try dsimp only at hSw); go_simp; try with_reducible rfl)
                      try simp only [Act.put, List.setIfInBounds_toArray, List.set_cons_zero, List.set_cons_succ]
                      refine wpAnyH_take (i := 20) (oi := { dst := some 14, op := Go.Op.assign (Go.Operand.tmp 92), type := 4, pos := "laws_internal_jsondoc_b1.go:315", after := #[{ on := 16, ground := Go.Ground.data }, { on := 19, ground := Go.Ground.chain }, { on := 0, ground := Go.Ground.phase }, { on := 1, ground := Go.Ground.phase }, { on := 2, ground := Go.Ground.phase }, { on := 3, ground := Go.Ground.phase }, { on := 4, ground := Go.Ground.phase }, { on := 5, ground := Go.Ground.phase }, { on := 6, ground := Go.Ground.phase }, { on := 7, ground := Go.Ground.phase }, { on := 8, ground := Go.Ground.phase }, { on := 9, ground := Go.Ground.phase }, { on := 10, ground := Go.Ground.phase }, { on := 11, ground := Go.Ground.phase }, { on := 12, ground := Go.Ground.phase }, { on := 13, ground := Go.Ground.phase }, { on := 14, ground := Go.Ground.phase }, { on := 15, ground := Go.Ground.phase }, { on := 16, ground := Go.Ground.phase }, { on := 17, ground := Go.Ground.phase }, { on := 18, ground := Go.Ground.phase }, { on := 19, ground := Go.Ground.phase }], guard := none }) (v := ?_) rfl (by kernel_rfl) (by kernel_rfl) (by kernel_rfl) (fun _ _ _ h => h) (Or.inl ⟨by rfl, ?_⟩) (by assumption) ?_
                      rotate_left
                      · (intro w hSw; (try dsimp only at hSw); go_simp; try with_reducible rfl)
                      try simp only [Act.put, List.setIfInBounds_toArray, List.set_cons_zero, List.set_cons_succ]
                      refine wpAnyH_done (by kernel_rfl) ?_ _
                      refine NoPanic.normal ?_
                      go_wp2_with fail
                      go_meet
                      case rel => exact ⟨_, kd', sd', ao6, n6, cp6, ao7, n7, cp7, rest, ok, rfl, rfl, rfl, newItem_after (W := wr.drew) rfl (Below.refl _ _).drew hb3 (by simpa [HUK.out] using hres)⟩
                    · exact AllReadyH.nil
                  · exact AllReadyH.nil
                refine AllReadyH.cons (o := { dst := some 12, op := Go.Op.alloc 40, type := 0, pos := "laws_internal_jsondoc_b1.go:315", after := #[], guard := none }) rfl (fun K hK => ?_) ?_
                · go_simp
                  refine hK.out _ _ (by exact SK.out _ (by first | exact (Below.refl _ _).drew | exact ((Below.refl _ _).alloc (Nat.le_refl _) _).drew | exact (Below.refl _ _).drew.alloc (Nat.le_refl _) _ | exact hb4 | exact hb4.alloc hsz4 _ | exact (((hb4.setCell (Nat.le_refl _) _).setCell (Nat.le_refl _) _).setCell (Nat.le_refl _) _).setCell (Nat.le_refl _) _)) (fun hHeld => ?_)
                  clear hK K
                  try simp only [Act.put, List.setIfInBounds_toArray, List.set_cons_zero, List.set_cons_succ]
                  refine wpAnyH_ready (rs := [12]) (by kernel_rfl) (by simp) ?_
                  refine AllReadyH.cons (o := { dst := some 89, op := Go.Op.call { callee := Go.Callee.value (Go.Operand.func 15), args := #[Go.Operand.tmp 81, Go.Operand.tmp 82, Go.Operand.tmp 88], argTypes := #[35, 3, 4] }, type := 41, pos := "laws_internal_jsondoc_b1.go:315", after := #[{ on := 4, ground := Go.Ground.data }, { on := 5, ground := Go.Ground.data }, { on := 11, ground := Go.Ground.data }, { on := 7, ground := Go.Ground.chain }], guard := none }) rfl (fun K hK => ?_) ?_
                  · skip
                    go_simp
                    refine (IH.out _ _ (by first | exact (Below.refl _ _).drew | exact ((Below.refl _ _).alloc (Nat.le_refl _) _).drew)).mono ?_
                    rintro e w3 ⟨kd', sd', _, _, rest, ok, ⟨ao6, n6, cp6, rfl⟩, ⟨ao7, n7, cp7, rfl⟩, rfl, hb3, hres⟩
                    have hsz4 : wr.heap.size ≤ w3.heap.size := (by have := hb3.size; simp at this; omega)
                    have hb4 : Below wr.heap.size wr w3 := (((Below.refl _ _).alloc (Nat.le_refl _) _).drew).trans (hb3.mono (by simp))
                    have kb := (hb3.block wr.heap.size (by simp)).trans (heap_alloc_new wr _)
                    obtain ⟨z0, z1, z2, z3, fz⟩ := boxFacts kb
                    go_wp2_with fail
                    refine hK.out _ _ (by exact SK.out _ (by first | exact (Below.refl _ _).drew | exact ((Below.refl _ _).alloc (Nat.le_refl _) _).drew | exact (Below.refl _ _).drew.alloc (Nat.le_refl _) _ | exact hb4 | exact hb4.alloc hsz4 _ | exact (((hb4.setCell (Nat.le_refl _) _).setCell (Nat.le_refl _) _).setCell (Nat.le_refl _) _).setCell (Nat.le_refl _) _)) (fun hHeld => ?_)
                    clear hK K
                    try simp only [Act.put, List.setIfInBounds_toArray, List.set_cons_zero, List.set_cons_succ]
                    refine wpAnyH_take (i := 13) (oi := { dst := some 76, op := Go.Op.move (Go.Operand.tmp 89), type := 41, pos := "laws_internal_jsondoc_b1.go:315", after := #[{ on := 12, ground := Go.Ground.data }], guard := none }) (v := ?_) rfl (by kernel_rfl) (by kernel_rfl) (by kernel_rfl) (fun _ _ _ h => h) (Or.inl ⟨by rfl, ?_⟩) (by assumption) ?_
                    rotate_left
                    · (intro w hSw; (try dsimp only at hSw); go_simp; try with_reducible rfl)
                    try simp only [Act.put, List.setIfInBounds_toArray, List.set_cons_zero, List.set_cons_succ]
                    refine wpAnyH_take (i := 14) (oi := { dst := some 90, op := Go.Op.extract (Go.Operand.tmp 76) 0, type := 40, pos := "laws_internal_jsondoc_b1.go:315", after := #[{ on := 13, ground := Go.Ground.data }], guard := none }) (v := ?_) rfl (by kernel_rfl) (by kernel_rfl) (by kernel_rfl) (fun _ _ _ h => h) (Or.inl ⟨by rfl, ?_⟩) (by assumption) ?_
                    rotate_left
                    · (intro w hSw; (try dsimp only at hSw); go_simp; try with_reducible rfl)
                    try simp only [Act.put, List.setIfInBounds_toArray, List.set_cons_zero, List.set_cons_succ]
                    refine wpAnyH_take (i := 15) (oi := { dst := some 91, op := Go.Op.extract (Go.Operand.tmp 76) 1, type := 3, pos := "laws_internal_jsondoc_b1.go:315", after := #[{ on := 13, ground := Go.Ground.data }, { on := 18, ground := Go.Ground.gcOnly Go.Departure.lateStores }], guard := none }) (v := ?_) rfl (by kernel_rfl) (by kernel_rfl) (by kernel_rfl) (fun _ _ _ h => h) (Or.inl ⟨by rfl, ?_⟩) (by assumption) ?_
                    rotate_left
                    · (intro w hSw; (try dsimp only at hSw); go_simp; try with_reducible rfl)
                    try simp only [Act.put, List.setIfInBounds_toArray, List.set_cons_zero, List.set_cons_succ]
                    refine wpAnyH_take (i := 16) (oi := { dst := some 92, op := Go.Op.extract (Go.Operand.tmp 76) 2, type := 4, pos := "laws_internal_jsondoc_b1.go:315", after := #[{ on := 13, ground := Go.Ground.data }, { on := 19, ground := Go.Ground.gcOnly Go.Departure.lateStores }], guard := none }) (v := ?_) rfl (by kernel_rfl) (by kernel_rfl) (by kernel_rfl) (fun _ _ _ h => h) (Or.inl ⟨by rfl, ?_⟩) (by assumption) ?_
                    rotate_left
                    · (intro w hSw; (try dsimp only at hSw); go_simp; try with_reducible rfl)
                    try simp only [Act.put, List.setIfInBounds_toArray, List.set_cons_zero, List.set_cons_succ]
                    refine wpAnyH_ready (rs := [18]) (by kernel_rfl) (by simp) ?_
                    refine AllReadyH.cons (o := { dst := none, op := Go.Op.store 40 (Go.Operand.tmp 12) (Go.Operand.tmp 90), type := 0, pos := "laws_internal_jsondoc_b1.go:315", after := #[{ on := 17, ground := Go.Ground.data }, { on := 14, ground := Go.Ground.data }, { on := 12, ground := Go.Ground.chain }, { on := 0, ground := Go.Ground.phase }, { on := 1, ground := Go.Ground.phase }, { on := 2, ground := Go.Ground.phase }, { on := 3, ground := Go.Ground.phase }, { on := 4, ground := Go.Ground.phase }, { on := 5, ground := Go.Ground.phase }, { on := 6, ground := Go.Ground.phase }, { on := 7, ground := Go.Ground.phase }, { on := 8, ground := Go.Ground.phase }, { on := 9, ground := Go.Ground.phase }, { on := 10, ground := Go.Ground.phase }, { on := 11, ground := Go.Ground.phase }, { on := 12, ground := Go.Ground.phase }, { on := 13, ground := Go.Ground.phase }, { on := 14, ground := Go.Ground.phase }, { on := 15, ground := Go.Ground.textOnly Go.Departure.lateStores }, { on := 16, ground := Go.Ground.textOnly Go.Departure.lateStores }, { on := 17, ground := Go.Ground.phase }], guard := none }) rfl (fun K hK => ?_) ?_
                    · go_simp
                      refine hK.out _ _ (by exact SK.out _ (by first | exact (Below.refl _ _).drew | exact ((Below.refl _ _).alloc (Nat.le_refl _) _).drew | exact (Below.refl _ _).drew.alloc (Nat.le_refl _) _ | exact hb4 | exact hb4.alloc hsz4 _ | exact (((hb4.setCell (Nat.le_refl _) _).setCell (Nat.le_refl _) _).setCell (Nat.le_refl _) _).setCell (Nat.le_refl _) _)) (fun hHeld => ?_)
                      clear hK K
                      try simp only [Act.put, List.setIfInBounds_toArray, List.set_cons_zero, List.set_cons_succ]
                      refine wpAnyH_take (i := 19) (oi := { dst := some 13, op := Go.Op.assign (Go.Operand.tmp 91), type := 3, pos := "laws_internal_jsondoc_b1.go:315", after := #[{ on := 15, ground := Go.Ground.data }, { on := 18, ground := Go.Ground.chain }, { on := 0, ground := Go.Ground.phase }, { on := 1, ground := Go.Ground.phase }, { on := 2, ground := Go.Ground.phase }, { on := 3, ground := Go.Ground.phase }, { on := 4, ground := Go.Ground.phase }, { on := 5, ground := Go.Ground.phase }, { on := 6, ground := Go.Ground.phase }, { on := 7, ground := Go.Ground.phase }, { on := 8, ground := Go.Ground.phase }, { on := 9, ground := Go.Ground.phase }, { on := 10, ground := Go.Ground.phase }, { on := 11, ground := Go.Ground.phase }, { on := 12, ground := Go.Ground.phase }, { on := 13, ground := Go.Ground.phase }, { on := 14, ground := Go.Ground.phase }, { on := 15, ground := Go.Ground.phase }, { on := 16, ground := Go.Ground.textOnly Go.Departure.lateStores }, { on := 17, ground := Go.Ground.phase }, { on := 18, ground := Go.Ground.phase }], guard := none }) (v := ?_) rfl (by kernel_rfl) (by kernel_rfl) (by kernel_rfl) (fun _ _ _ h => h) (Or.inl ⟨by rfl, ?_⟩) (by assumption) ?_
                      rotate_left
                      · (intro w hSw; (try dsimp only at hSw); go_simp; try with_reducible rfl)
                      try simp only [Act.put, List.setIfInBounds_toArray, List.set_cons_zero, List.set_cons_succ]
                      refine wpAnyH_take (i := 20) (oi := { dst := some 14, op := Go.Op.assign (Go.Operand.tmp 92), type := 4, pos := "laws_internal_jsondoc_b1.go:315", after := #[{ on := 16, ground := Go.Ground.data }, { on := 19, ground := Go.Ground.chain }, { on := 0, ground := Go.Ground.phase }, { on := 1, ground := Go.Ground.phase }, { on := 2, ground := Go.Ground.phase }, { on := 3, ground := Go.Ground.phase }, { on := 4, ground := Go.Ground.phase }, { on := 5, ground := Go.Ground.phase }, { on := 6, ground := Go.Ground.phase }, { on := 7, ground := Go.Ground.phase }, { on := 8, ground := Go.Ground.phase }, { on := 9, ground := Go.Ground.phase }, { on := 10, ground := Go.Ground.phase }, { on := 11, ground := Go.Ground.phase }, { on := 12, ground := Go.Ground.phase }, { on := 13, ground := Go.Ground.phase }, { on := 14, ground := Go.Ground.phase }, { on := 15, ground := Go.Ground.phase }, { on := 16, ground := Go.Ground.phase }, { on := 17, ground := Go.Ground.phase }, { on := 18, ground := Go.Ground.phase }, { on := 19, ground := Go.Ground.phase }], guard := none }) (v := ?_) rfl (by kernel_rfl) (by kernel_rfl) (by kernel_rfl) (fun _ _ _ h => h) (Or.inl ⟨by rfl, ?_⟩) (by assumption) ?_
                      rotate_left
                      · (intro w hSw; (try dsimp only at hSw); go_simp; try with_reducible rfl)
                      try simp only [Act.put, List.setIfInBounds_toArray, List.set_cons_zero, List.set_cons_succ]
                      refine wpAnyH_done (by kernel_rfl) ?_ _
                      refine NoPanic.normal ?_
                      go_wp2_with fail
                      go_meet
                      case rel => exact ⟨_, kd', sd', ao6, n6, cp6, ao7, n7, cp7, rest, ok, rfl, rfl, rfl, newItem_before (W := (wr.alloc ZeroBox).drew) (by simp) (((Below.refl _ _).alloc (Nat.le_refl _) _).drew) (heap_alloc_new wr _) hb3 (by simpa [HUK.out] using hres)⟩
                    · exact AllReadyH.nil
                  · exact AllReadyH.nil
                exact AllReadyH.nil
            case rest =>
              have hgI := HGI.out
              obtain ⟨g12, kd', sd', ao6, n6, cp6, ao7, n7, cp7, rest, ok, rfl, rfl, rfl, HNI⟩ := hcut
              obtain ⟨hg12, hg12l, kb, hbx, hres⟩ := HNI.out
              have hszx := hbx.size
              have q6 := (hbx.block (w.heap.size + 1) (by omega)).trans Q6.out
              have q9 := (hbx.block (w.heap.size + 2) (by omega)).trans Q9.out
              have hbw : Below w.heap.size w wc := HBLR.out.trans (hbx.mono (by omega))
              have hblx := HBL.out.trans (hbx.mono (by have := HSZ.out; omega))
              obtain ⟨S, cur, hcur, hcsz, _, _⟩ := HRS.out
              rw [hgI] at hcur hblx
              have hgr : gI < wr.heap.size := by have := HSZ.out; omega
              have hcx := (hbx.block gI hgr).trans hcur
              have hbd : kk * 4 + 4 ≤ cur.size := by omega
              have x0 : wc.cell? ⟨gI, kk * 4, none⟩ = some cur[kk * 4] := by rw [cell_of_row wc gI _ cur 40 (0, 0) hcx]; exact Array.getElem?_eq_getElem (by omega)
              have x1 : wc.cell? ⟨gI, kk * 4 + 1, none⟩ = some cur[kk * 4 + 1] := by rw [cell_of_row wc gI _ cur 40 (0, 0) hcx]; exact Array.getElem?_eq_getElem (by omega)
              have x2 : wc.cell? ⟨gI, kk * 4 + 2, none⟩ = some cur[kk * 4 + 2] := by rw [cell_of_row wc gI _ cur 40 (0, 0) hcx]; exact Array.getElem?_eq_getElem (by omega)
              have x3 : wc.cell? ⟨gI, kk * 4 + 3, none⟩ = some cur[kk * 4 + 3] := by rw [cell_of_row wc gI _ cur 40 (0, 0) hcx]; exact Array.getElem?_eq_getElem (by omega)
              have fI : ∀ j, wc.frozen? ⟨gI, j, none⟩ = false := fun j => frozen_of_row wc gI j _ _ hcx
              generalize cur[kk * 4] = y0 at x0
              generalize cur[kk * 4 + 1] = y1' at x1
              generalize cur[kk * 4 + 2] = y2' at x2
              generalize cur[kk * 4 + 3] = y3 at x3
              obtain ⟨hv1, hv2⟩ := HV.out
              rw [hv1, hgI] at q9
              obtain ⟨o0, o1, o2, o3, f9⟩ := boxFacts q9
              obtain ⟨r0, r1, r2, r3, f6⟩ := boxFacts q6
              obtain ⟨b0, b1, b2, b3, fb⟩ := boxFacts kb
              have HBW := hideN hbw
              have HBLX := hideN hblx
              have HBX := hideN hbx
              have HRES := hideN hres
              have HCX := hideN hcx
              clear q6 q9 kb hbw hblx hbx hres hcur hcsz hcx hv1 hv2 p0 p1 p2 p3 f3 e0 e1 e2 e3 SK IH y1 y2 HNI
              by_cases hneg : rest < 0
              · have dn : decide (rest < 0) = true := decide_eq_true hneg
                go_wp2
                refine bodyPost_ret (v := .tuple #[.agg #[.int .u8 (k : Int), .string s, .slice (some ⟨gI, 0, none⟩) is.length is.length, .slice none 0 0], .int .i64 rest, .bool false]) (by simp [results, Try.results15, go_sem, o0, o1, o2, o3, r0, r1, r2, r3]) rfl ⟨_, s, _, _, rest, false, ⟨_, _, _, rfl⟩, ⟨_, _, _, rfl⟩, rfl, ?_, .inl hneg⟩
                iterate 4 refine Below.setCell ?_ (by show w.heap.size ≤ w.heap.size + 1; omega) _
                exact HBW.out
              · have dn : decide (rest < 0) = false := decide_eq_false hneg
                obtain ⟨hr0, hrc, hok, hfl⟩ := HRES.out.resolve_left hneg
                obtain ⟨r, hr⟩ : ∃ r : Nat, rest = (r : Int) := ⟨rest.toNat, by omega⟩
                subst hr
                have HB' : Hid (r + s.size + 72 * is.length + ((is.take (kk + 1)).map (Js.cost n)).sum = bud) := by
                  have := HB.out
                  rw [Js.sum_take _ _ _ hlt]
                  show _ = _
                  omega
                have HG' : Hid ((g0 && (is.take (kk + 1)).all (Js.good n (u && decide (k = 5)))) = ((g0 && (is.take kk).all (Js.good n (u && decide (k = 5)))) && ok)) := by
                  show _ = _
                  rw [Js.all_take _ _ _ hlt, hok, Bool.and_assoc]
                obtain ⟨w5, hw5⟩ : ∃ w5, w5 = (((wc.setCell ⟨gI, kk * 4, none⟩ (.int .u8 kd')).setCell ⟨gI, kk * 4 + 1, none⟩ (.string sd')).setCell ⟨gI, kk * 4 + 2, none⟩ (.slice ao6 n6 cp6)).setCell ⟨gI, kk * 4 + 3, none⟩ (.slice ao7 n7 cp7) := ⟨_, rfl⟩
                have HN : Hid (Below gI w1 w5 ∧ gI < w5.heap.size ∧ RowSet (w.heap.size + 3) gI 40 4 is.length (fun S w cells (d : Js.Doc n) => Full S n w cells d) w5 is (kk + 1)) := by
                  have hrs := HRS.out
                  rw [hgI] at hrs
                  have hx := HBX.out
                  refine ⟨?_, ?_, hrs.step (keeps_full n) hlt (Nat.le_refl _) hx (by omega) (cells := [.int .u8 kd', .string sd', .slice ao6 n6 cp6, .slice ao7 n7 cp7]) rfl hfl (fun cur hc => ?_) (fun x hx hne => ?_) (by rw [hw5]; simp)⟩
                  · rw [hw5]
                    iterate 4 refine Below.setCell ?_ (by show gI ≤ gI; exact Nat.le_refl _) _
                    exact HBLX.out
                  · rw [hw5]; simp; omega
                  · rw [hw5]; exact set4 _ _ _ _ cur hc
                  · rw [hw5]
                    iterate 4 rw [heap_setCell_other _ _ x _ (by show x ≠ gI; exact hne)]
                have HW5 := hideN hw5
                clear hw5 hfl hrc hok HRES HBX HCX
                cases ok with
                | true =>
                  go_wp2
                  go_roundw
                  case rel =>
                    exact ⟨kk + 1, r, by omega, rfl, by go_num, by rw [HG'.out]; simp, HB', by rw [hgI, ← HW5.out]; exact HN.out.1, by rw [hgI, ← HW5.out]; exact HN.out.2.1, by rw [hgI, ← HW5.out]; exact HN.out.2.2⟩
                  case measure => simp [intOf]; omega
                | false =>
                  go_wp2
                  go_roundw
                  case rel =>
                    exact ⟨kk + 1, r, by omega, rfl, by go_num, by rw [HG'.out]; simp, HB', by rw [hgI, ← HW5.out]; exact HN.out.1, by rw [hgI, ← HW5.out]; exact HN.out.2.1, by rw [hgI, ← HW5.out]; exact HN.out.2.2⟩
                  case measure => simp [intOf]; omega
          · have hks : kk = is.length := by omega
            obtain ⟨hv1, hv2⟩ := HV.out
            have HD : Hid (ItemsDone n k s (.slice (some x2) is.length cp2) (.slice ao3 ms.length cp3) is bud w bn vI wr) := by
              have hB := HB.out
              rw [hks, List.take_length] at hB
              have hrs := HRS.out
              refine ⟨hB, HQ3.out, Q6.out, Q9.out, hblr, by omega, ?_⟩
              rw [hv1]
              exact (hrs.rows (keeps_full n) hks rfl (by unfold maxLen; omega) (by omega) (fun _ _ _ => rfl)).inn (by decide) (fun cells x _ hx => Full.inn n cells x hx)
            have HK := hideN hks
            clear hks hv1 hv2
            go_wp2
            go_meet
            case rel => exact ⟨bn, vI, rfl, by rw [HK.out, List.take_length], HD⟩
  case rest =>
  obtain ⟨gg, hgg⟩ : ∃ gg, gg = (g0 && is.all (Js.good n (u && decide (k = 5)))) := ⟨_, rfl⟩
  have HGE : Hid (Js.good (n + 1) u (k, s.data.toList, is, ms) = (gg && ms.all fun m => Js.good n (u && decide (k = 6)) m.2)) := by rw [hgg]; exact HGD.out
  obtain ⟨bn0, vI, rfl, hg, HD⟩ := hcut
  rw [← hgg] at hg
  subst hg
  clear p0 p1 p2 p3 f3 r0 r1 r2 r3 f6 o0 o1 o2 o3 f9 KW hgg HGD hszc hsz0 H2 HSI hn2
  obtain ⟨hbal, k3, k6, k9, hblw, hszx, hrowI⟩ := HD.out
  obtain ⟨aoV, nV, cV, rfl⟩ := hrowI.isSlice
  obtain ⟨p0, p1, p2, p3, f3⟩ := boxFacts k3
  obtain ⟨r0, r1, r2, r3, f6⟩ := boxFacts k6
  obtain ⟨o0, o1, o2, o3, f9⟩ := boxFacts k9
  have HBA := hideN hbal
  have hbn0 : bn0 ≤ 1048576 := by omega
  have HRI := hideN hrowI
  have HBL0 := hideN hblw
  have K3 := hideN k3
  have K6 := hideN k6
  have K9 := hideN k9
  clear hbal k3 k6 k9 hblw hrowI HD
  cases ao3 with
  | none =>
    obtain ⟨rfl, rfl⟩ := hn3 rfl
    go_wp2
    refine bodyPost_ret (v := .tuple #[.agg #[.int .u8 (k : Int), .string s, .slice aoV nV cV, .slice none 0 0], .int .i64 (bn0 : Int), .bool gg]) (by simp [results, Try.results15, go_sem, o0, o1, o2, o3, r0, r1, r2, r3]) rfl ⟨_, s, _, _, (bn0 : Int), gg, ⟨_, _, _, rfl⟩, ⟨_, _, _, rfl⟩, rfl, ?_, .inr ⟨by omega, ?_, ?_, ?_⟩⟩
    · iterate 4 refine Below.setCell ?_ (by show w.heap.size ≤ w.heap.size + 1; omega) _
      exact HBL0.out
    · have h1 := HBA.out
      have h2 := HCO.out
      simp at h2
      omega
    · rw [HGE.out]; simp
    · refine ⟨hk, s, _, _, rfl, rfl, ?_, ⟨none, 0, rfl, Nat.le_refl _, Nat.zero_le _, fun _ => ⟨rfl, rfl⟩, fun i hi => by cases hi⟩⟩
      refine HRI.out.keep (fun x hx => by omega) (fun x hx => ?_) (fun cells d _ hf => Full.keep (fun x hx => by omega) (fun x hx => ?_) n cells d hf)
      · iterate 4 rw [heap_setCell_other _ _ x _ (by have := hx.1; show x ≠ w.heap.size + 1; omega)]
      · iterate 4 rw [heap_setCell_other _ _ x _ (by have := hx.1; show x ≠ w.heap.size + 1; omega)]
  | some x3 =>
    have HR3 : Hid (∀ i, (h : i < ms.length) → ∃ b off cells, x3 = ⟨b, off, none⟩ ∧ b < w.heap.size ∧ cells.length = 5 ∧ (∀ j, j < 5 → w.cell? ⟨b, off + i * 5 + j, none⟩ = cells[j]?) ∧ ∃ nm cs', cells = .string nm :: cs' ∧ nm.data.toList = ms[i].1 ∧ Full (fun k => k < w.heap.size) n w cs' ms[i].2) := by
      obtain ⟨ao, cap, hv, _, _, _, hc⟩ := H3.out
      intro i hi
      obtain ⟨b, off, cells, e, h1, h2, h3, h4⟩ := hc i hi
      rw [e] at hv
      injection hv with hv1 _ _
      exact ⟨b, off, cells, by simpa using hv1, h1, h2, h3, h4⟩
    by_cases hl : (bn0 : Int) / 88 < (ms.length : Int)
    · have d2 : decide ((bn0 : Int) / 88 < (ms.length : Int)) = true := decide_eq_true hl
      go_wp2
      refine bodyPost_ret (v := .tuple #[.agg #[.int .u8 (k : Int), .string s, .slice aoV nV cV, .slice none 0 0], .int .i64 (-1), .bool false]) (by simp [results, Try.results15, go_sem, o0, o1, o2, o3, r0, r1, r2, r3]) rfl ⟨_, s, _, _, -1, false, ⟨_, _, _, rfl⟩, ⟨_, _, _, rfl⟩, rfl, ?_, .inl (by decide)⟩
      iterate 4 refine Below.setCell ?_ (by show w.heap.size ≤ w.heap.size + 1; omega) _
      exact HBL0.out
    · have d2 : decide ((bn0 : Int) / 88 < (ms.length : Int)) = false := decide_eq_false hl
      have hl88 : 88 * ms.length ≤ bn0 := by omega
      obtain ⟨i1, hi, hz0, hz1, hz2⟩ := info_parts memberInfo
      go_wp2_with (at_make; refine wpList_make_full _ rfl _ _ 38 rfl wc.heap.size 53 i1 _ 5 Try.underlying38 hi hz0 hz1 _ _ _ _ ms.length rfl rfl (by omega) (by omega) (by rw [hz2]; omega) (by unfold maxLen; omega) (by simp) ?_; intro wm hown hgrow; revert hgrow)
      intro hgrow
      have hszm : wc.heap.size ≤ wm.heap.size := hgrow.size
      have m3 := (hgrow.block w.heap.size (by omega) (by simp)).trans K3.out
      have m6 := (hgrow.block (w.heap.size + 1) (by omega) (by simp)).trans K6.out
      have m9 := (hgrow.block (w.heap.size + 2) (by omega) (by simp)).trans K9.out
      have hblm := HBL0.out.grown hgrow (by omega) (by simp)
      obtain ⟨cur, hcur, hcs⟩ := made_rows (w := wc) hown
      have hgm : wc.heap.size < wm.heap.size := (Array.getElem?_eq_some_iff.1 hcur).1
      obtain ⟨gM, hgM⟩ : ∃ gM, wc.heap.size = gM := ⟨_, rfl⟩
      obtain ⟨vM, hvM⟩ : ∃ vM, vM = Value.slice (some ⟨gM, 0, none⟩) ms.length ms.length := ⟨_, rfl⟩
      obtain ⟨w1, hw1⟩ : ∃ w1, w1 = wm.setCell ⟨w.heap.size + 2, 3, none⟩ vM := ⟨_, rfl⟩
      have KW1 : Hid (w1.heap[w.heap.size]? = some (.cells #[.int .u8 (k : Int), .string s, .slice ao2 is.length cp2, .slice (some x3) ms.length cp3] 35 (0, 0)) ∧ w1.heap[w.heap.size + 1]? = some ZeroBox ∧
          w1.heap[w.heap.size + 2]? = some (.cells #[.int .u8 (k : Int), .string s, .slice aoV nV cV, vM] 40 (0, 0)) ∧ Below w.heap.size w w1 ∧ gM < w1.heap.size ∧
          RowSet (w.heap.size + 3) gM 53 5 ms.length (fun S w cells (m : List UInt8 × Js.Doc n) => ∃ nm cs', cells = .string nm :: cs' ∧ nm.data.toList = m.1 ∧ Full S n w cs' m.2) w1 ms 0 ∧
          (∀ x, w.heap.size + 3 ≤ x ∧ x < gM → w1.heap[x]? = wc.heap[x]?)) := by
        rw [hw1]
        refine ⟨?_, ?_, heap_setCell_same wm _ 3 _ _ vM m9, hblm.setCell (by show w.heap.size ≤ w.heap.size + 2; omega) _, by rw [← hgM]; simpa using hgm, RowSet.start _ ms ?_ hcs, fun x hx => ?_⟩
        · rw [heap_setCell_other _ _ _ _ (by show w.heap.size ≠ w.heap.size + 2; omega)]; exact m3
        · rw [heap_setCell_other _ _ _ _ (by show w.heap.size + 1 ≠ w.heap.size + 2; omega)]; exact m6
        · rw [heap_setCell_other _ _ _ _ (by show gM ≠ w.heap.size + 2; omega), ← hgM]; exact hcur
        · rw [heap_setCell_other _ _ _ _ (by show x ≠ w.heap.size + 2; omega)]; exact hgrow.block x (by omega) (by simp)
      have hgM3 : w.heap.size + 3 ≤ gM := by omega
      clear p0 p1 p2 p3 f3 r0 r1 r2 r3 f6 o0 o1 o2 o3 f9
      obtain ⟨p0, p1, p2, p3, f3⟩ := boxFacts m3
      obtain ⟨r0, r1, r2, r3, f6⟩ := boxFacts m6
      obtain ⟨o0, o1, o2, o3, f9⟩ := boxFacts m9
      have HV := hideN (And.intro hvM hw1)
      have HRI2 : Hid (RowsOf (fun x => w.heap.size + 3 ≤ x ∧ x < gM) 4 wc (.slice aoV nV cV) is (fun cells d => Full (fun x => w.heap.size + 3 ≤ x ∧ x < gM) n wc cells d)) := by rw [← hgM]; exact HRI.out
      have HGM := hideN hgM
      clear hown hgrow m3 m6 m9 hblm hcur hcs hgm hvM hw1 K3 K6 K9 HRI
      rw [hgM]
      clear hgM
      go_wp2
      go_loopw [1, 10, 15] (fun b g i wr => ∃ (kk bn : Nat), kk ≤ ms.length ∧ b = .int .i64 bn ∧ i = .int .i64 kk ∧ g = .bool (gg && (ms.take kk).all fun m => Js.good n (u && decide (k = 6)) m.2) ∧ Hid (bn + 88 * ms.length + ((ms.take kk).map (Js.mcost n)).sum = bn0) ∧
          Hid (Below gM w1 wr) ∧ Hid (gM < wr.heap.size) ∧ Hid (RowSet (w.heap.size + 3) gM 53 5 ms.length (fun S w cells (m : List UInt8 × Js.Doc n) => ∃ nm cs', cells = .string nm :: cs' ∧ nm.data.toList = m.1 ∧ Full S n w cs' m.2) wr ms kk)) (fun _ _ i _ => ms.length - (intOf i).toNat)
      case atStart =>
        obtain ⟨rfl, rfl⟩ := HV.out
        exact ⟨0, bn0 - 88 * ms.length, Nat.zero_le _, by go_num, rfl, by simp, by show _ = _; simp; omega, Below.refl _ _, KW1.out.2.2.2.2.1, KW1.out.2.2.2.2.2.1⟩
      case round =>
        obtain ⟨kk, bn, hkk, rfl, rfl, rfl, HB, HBL, HSZ, HRS⟩ := hrel
        clear p0 p1 p2 p3 f3 r0 r1 r2 r3 f6 o0 o1 o2 o3 f9
        obtain ⟨m3, m6, m9, hblm, _, _, hkeepI⟩ := KW1.out
        have hbl := HBL.out
        have hszr := HSZ.out
        have q3 := (hbl.block w.heap.size (by omega)).trans m3
        have q6 := (hbl.block (w.heap.size + 1) (by omega)).trans m6
        have q9 := (hbl.block (w.heap.size + 2) (by omega)).trans m9
        have hblr : Below w.heap.size w wr := hblm.trans (hbl.mono (by omega))
        obtain ⟨p0, p1, p2, p3, f3⟩ := boxFacts q3
        have Q6 := hideN q6
        have Q9 := hideN q9
        have HKI := hideN hkeepI
        clear m3 m6 m9 hblm q3 q6 q9 hkeepI
        have hbn : bn ≤ bn0 := by have := HB.out; omega
        by_cases hlt : kk < ms.length
        · obtain ⟨b, off, cells, rfl, hSb, hcl, hcell, nm, cs', hcc, hnm, hfull⟩ := HR3.out kk hlt
          obtain ⟨kd, sd, a2, a3, hcs, hs2, hs3⟩ := hfull.shape
          obtain ⟨ao4, n4, cp4, rfl⟩ := hs2
          obtain ⟨ao5, n5, cp5, rfl⟩ := hs3
          have hki : (kk : Int) < (ms.length : Int) := by omega
          rw [hcs] at hcc
          have hw : ∀ j, j < 5 → wr.cell? ⟨b, off + kk * 5 + j, none⟩ = cells[j]? := fun j hj => by rw [hblr.cell (by exact hSb)]; exact hcell j hj
          have e0 : wr.cell? ⟨b, off + kk * 5, none⟩ = some (.string nm) := by have := hw 0 (by omega); rw [hcc] at this; simpa using this
          have e1 : wr.cell? ⟨b, off + kk * 5 + 1, none⟩ = some (.int .u8 kd) := by have := hw 1 (by omega); rw [hcc] at this; simpa using this
          have e2 : wr.cell? ⟨b, off + kk * 5 + 2, none⟩ = some (.string sd) := by have := hw 2 (by omega); rw [hcc] at this; simpa using this
          have e3 : wr.cell? ⟨b, off + kk * 5 + 3, none⟩ = some (.slice ao4 n4 cp4) := by have := hw 3 (by omega); rw [hcc] at this; simpa using this
          have e4 : wr.cell? ⟨b, off + kk * 5 + 4, none⟩ = some (.slice ao5 n5 cp5) := by have := hw 4 (by omega); rw [hcc] at this; simpa using this
          rw [hcs] at hfull
          have hnl : nm.size = (ms[kk]'hlt).1.length := by rw [← hnm]; rfl
          have hns : nm.size ≤ 9223372036854775807 := by rw [hnl]; exact (HSM.out _ (List.getElem_mem hlt)).1
          have HBLR := hideN hblr
          have y1 : b < wr.heap.size := by have := hblr.size; omega
          have y2 : w.heap.size < wr.heap.size := by omega
          have y3 : w.heap.size + 3 ≤ wr.heap.size := by omega
          have HNM := hideN hnm
          have HNL := hideN hnl
          by_cases hnb : bn < nm.size
          · have dn : decide ((bn : Int) - (nm.size : Int) < 0) = true := decide_eq_true (by omega)
            obtain ⟨o0, o1, o2, o3, f9⟩ := boxFacts Q9.out
            obtain ⟨r0, r1, r2, r3, f6⟩ := boxFacts Q6.out
            have y4 : w.heap.size + 1 < wr.heap.size := by omega
            have y5 : w.heap.size + 2 < wr.heap.size := by omega
            obtain ⟨hv1, _⟩ := HV.out
            subst hv1
            clear hw hcell hcl hfull hcs hbl hszr hblr hcc hnm hnl
            go_wp2
            refine bodyPost_ret (v := .tuple #[.agg #[.int .u8 (k : Int), .string s, .slice aoV nV cV, .slice (some ⟨gM, 0, none⟩) ms.length ms.length], .int .i64 ((bn : Int) - (nm.size : Int)), .bool false]) (by simp [results, Try.results15, go_sem, o0, o1, o2, o3, r0, r1, r2, r3, y4, y2, y5]) rfl ⟨_, s, _, _, (bn : Int) - (nm.size : Int), false, ⟨_, _, _, rfl⟩, ⟨_, _, _, rfl⟩, rfl, ?_, .inl (by omega)⟩
            refine Below.alloc ?_ (by simp; omega) _
            iterate 4 refine Below.setCell ?_ (by show w.heap.size ≤ w.heap.size + 1; omega) _
            exact HBLR.out
          · have dn : decide ((bn : Int) - (nm.size : Int) < 0) = false := decide_eq_false (by omega)
            obtain ⟨w16, hw16⟩ : ∃ w16, w16 = wr.alloc (.cells #[.string nm, .int .u8 kd, .string sd, .slice ao4 n4 cp4, .slice ao5 n5 cp5] 51) := ⟨_, rfl⟩
            have hb16 : Below wr.heap.size wr w16 := by rw [hw16]; exact (Below.refl _ _).alloc (Nat.le_refl _) _
            have hs16 : w16.heap.size = wr.heap.size + 1 := by rw [hw16]; simp
            have IH : Hid (∀ (uk : Bool), Calls Try.prog 15 #[.agg #[.int .u8 kd, .string sd, .slice ao4 n4 cp4, .slice ao5 n5 cp5], .int .i64 ((bn : Int) - (nm.size : Int)), .bool uk] w16 (ConvPost n (ms[kk]'hlt).2 (bn - nm.size) uk w16)) := fun uk => by
              rw [show (bn : Int) - (nm.size : Int) = ((bn - nm.size : Nat) : Int) by omega]
              exact HI.out (ms[kk]'hlt).2 _ (bn - nm.size) uk w16 (Full.keep (fun k hk => by have := hblr.size; omega) (fun k hk => by rw [hb16.block k (by have := hblr.size; omega)]; exact hblr.block k hk) n _ _ hfull) (HSM.out _ (List.getElem_mem hlt)).2 (by omega)
            have HW16 := hideN hw16
            have HB16 := hideN hb16
            clear hw hcell hcl hfull hcs hbl hszr hblr hcc hnm hnl hw16 hb16
            go_upto_region 40 with fail
            go_cut [17, 18, 19] (fun c r o wx => ∃ (g12 : Nat) (kd' : Int) (sd' : ByteArray) (ao6 : Option Addr) (n6 cp6 : Nat) (ao7 : Option Addr) (n7 cp7 : Nat) (rest : Int) (ok : Bool), c = .pointer (some ⟨g12, 0, none⟩) ∧ r = .int .i64 rest ∧ o = .bool ok ∧ Hid (NewItem n (ms[kk]'hlt).2 (bn - nm.size) (u && decide (k = 6)) w16 g12 (.int .u8 kd') (.string sd') (.slice ao6 n6 cp6) (.slice ao7 n7 cp7) rest ok wx))
            case first =>
              cases u with
              | false =>
                go_wp2_with fail
                rw [← HW16.out]
                refine (IH.out _).mono ?_
                rintro e w3 ⟨kd', sd', _, _, rest, ok, ⟨ao6, n6, cp6, rfl⟩, ⟨ao7, n7, cp7, rfl⟩, rfl, hb3, hres⟩
                have HB3 := hideN hb3
                have HRES := hideN hres
                clear hb3 hres
                go_wp2
                go_meet
                case rel => exact ⟨_, kd', sd', ao6, n6, cp6, ao7, n7, cp7, rest, ok, rfl, rfl, rfl, newItem_after (W := w16) rfl (Below.refl _ _) HB3.out (by simpa using HRES.out)⟩
              | true =>
                have HUK : Hid (((k : Int) == 6) = decide (k = 6)) := by
                  show _ = _
                  by_cases e5 : k = 6
                  · subst e5; rfl
                  · rw [decide_eq_false e5]; exact beq_eq_false_iff_ne.2 (by omega)
                go_wp2_with fail
                rw [← HW16.out]
                refine (IH.out _).mono ?_
                rintro e w3 ⟨kd', sd', _, _, rest, ok, ⟨ao6, n6, cp6, rfl⟩, ⟨ao7, n7, cp7, rfl⟩, rfl, hb3, hres⟩
                have HB3 := hideN hb3
                have HRES := hideN hres
                clear hb3 hres
                go_wp2
                go_meet
                case rel => exact ⟨_, kd', sd', ao6, n6, cp6, ao7, n7, cp7, rest, ok, rfl, rfl, rfl, newItem_after (W := w16) rfl (Below.refl _ _) HB3.out (by simpa [HUK.out] using HRES.out)⟩
            case rest =>
              obtain ⟨g12, kd', sd', ao6, n6, cp6, ao7, n7, cp7, rest, ok, rfl, rfl, rfl, HNI⟩ := hcut
              obtain ⟨hg12, hg12l, kb, hbx16, hres⟩ := HNI.out
              have hszx := hbx16.size
              have hbx : Below wr.heap.size wr wc := HB16.out.trans (hbx16.mono (by omega))
              have q6 := (hbx.block (w.heap.size + 1) (by omega)).trans Q6.out
              have q9 := (hbx.block (w.heap.size + 2) (by omega)).trans Q9.out
              have k16 := (hbx16.block wr.heap.size (by omega)).trans ((show w16.heap[wr.heap.size]? = some (.cells #[.string nm, .int .u8 kd, .string sd, .slice ao4 n4 cp4, .slice ao5 n5 cp5] 51 (0, 0)) by rw [HW16.out]; exact heap_alloc_new wr _))
              have t0 : wc.cell? ⟨wr.heap.size, 0, none⟩ = some (.string nm) := by rw [cell_of_row wc _ 0 _ _ _ k16]; rfl
              have hbw : Below w.heap.size w wc := HBLR.out.trans (hbx.mono (by omega))
              have hblx := HBL.out.trans (hbx.mono (by have := HSZ.out; omega))
              obtain ⟨S, cur, hcur, hcsz, _, _⟩ := HRS.out
              have hgr : gM < wr.heap.size := HSZ.out
              have hcx := (hbx.block gM hgr).trans hcur
              have hbd : kk * 5 + 5 ≤ cur.size := by omega
              have x0 : wc.cell? ⟨gM, kk * 5, none⟩ = some cur[kk * 5] := by rw [cell_of_row wc gM _ cur 53 (0, 0) hcx]; exact Array.getElem?_eq_getElem (by omega)
              have x1 : wc.cell? ⟨gM, kk * 5 + 1, none⟩ = some cur[kk * 5 + 1] := by rw [cell_of_row wc gM _ cur 53 (0, 0) hcx]; exact Array.getElem?_eq_getElem (by omega)
              have x2 : wc.cell? ⟨gM, kk * 5 + 2, none⟩ = some cur[kk * 5 + 2] := by rw [cell_of_row wc gM _ cur 53 (0, 0) hcx]; exact Array.getElem?_eq_getElem (by omega)
              have x3 : wc.cell? ⟨gM, kk * 5 + 3, none⟩ = some cur[kk * 5 + 3] := by rw [cell_of_row wc gM _ cur 53 (0, 0) hcx]; exact Array.getElem?_eq_getElem (by omega)
              have x4 : wc.cell? ⟨gM, kk * 5 + 4, none⟩ = some cur[kk * 5 + 4] := by rw [cell_of_row wc gM _ cur 53 (0, 0) hcx]; exact Array.getElem?_eq_getElem (by omega)
              have fI : ∀ j, wc.frozen? ⟨gM, j, none⟩ = false := fun j => frozen_of_row wc gM j _ _ hcx
              generalize cur[kk * 5] = y0 at x0
              generalize cur[kk * 5 + 1] = y1' at x1
              generalize cur[kk * 5 + 2] = y2' at x2
              generalize cur[kk * 5 + 3] = y3' at x3
              generalize cur[kk * 5 + 4] = y4' at x4
              obtain ⟨hv1, hv2⟩ := HV.out
              rw [hv1] at q9
              obtain ⟨o0, o1, o2, o3, f9⟩ := boxFacts q9
              obtain ⟨r0, r1, r2, r3, f6⟩ := boxFacts q6
              obtain ⟨b0, b1, b2, b3, fb⟩ := boxFacts kb
              have HBW := hideN hbw
              have HBLX := hideN hblx
              have HBX := hideN hbx
              have HRES := hideN hres
              clear q6 q9 kb hbw hblx hbx hbx16 hres hcur hcsz hcx hv1 hv2 p0 p1 p2 p3 f3 e0 e1 e2 e3 e4 IH y1 y2 HNI k16
              by_cases hneg : rest < 0
              · have dn2 : decide (rest < 0) = true := decide_eq_true hneg
                go_wp2
                refine bodyPost_ret (v := .tuple #[.agg #[.int .u8 (k : Int), .string s, .slice aoV nV cV, .slice (some ⟨gM, 0, none⟩) ms.length ms.length], .int .i64 rest, .bool false]) (by simp [results, Try.results15, go_sem, o0, o1, o2, o3, r0, r1, r2, r3]) rfl ⟨_, s, _, _, rest, false, ⟨_, _, _, rfl⟩, ⟨_, _, _, rfl⟩, rfl, ?_, .inl hneg⟩
                iterate 4 refine Below.setCell ?_ (by show w.heap.size ≤ w.heap.size + 1; omega) _
                exact HBW.out
              · have dn2 : decide (rest < 0) = false := decide_eq_false hneg
                obtain ⟨hr0, hrc, hok, hfl⟩ := HRES.out.resolve_left hneg
                obtain ⟨r, hr⟩ : ∃ r : Nat, rest = (r : Int) := ⟨rest.toNat, by omega⟩
                subst hr
                have HB' : Hid (r + 88 * ms.length + ((ms.take (kk + 1)).map (Js.mcost n)).sum = bn0) := by
                  have h1 := HB.out
                  have h2 := HNL.out
                  rw [Js.sum_take _ _ _ hlt]
                  show _ + (_ + ((ms[kk]'hlt).1.length + Js.cost n (ms[kk]'hlt).2)) = _
                  omega
                have HG' : Hid ((gg && (ms.take (kk + 1)).all fun m => Js.good n (u && decide (k = 6)) m.2) = ((gg && (ms.take kk).all fun m => Js.good n (u && decide (k = 6)) m.2) && ok)) := by
                  show _ = _
                  rw [Js.all_take _ _ _ hlt, hok, Bool.and_assoc]
                obtain ⟨w5, hw5⟩ : ∃ w5, w5 = ((((wc.setCell ⟨gM, kk * 5, none⟩ (.string nm)).setCell ⟨gM, kk * 5 + 1, none⟩ (.int .u8 kd')).setCell ⟨gM, kk * 5 + 2, none⟩ (.string sd')).setCell ⟨gM, kk * 5 + 3, none⟩ (.slice ao6 n6 cp6)).setCell ⟨gM, kk * 5 + 4, none⟩ (.slice ao7 n7 cp7) := ⟨_, rfl⟩
                have HN : Hid (Below gM w1 w5 ∧ gM < w5.heap.size ∧ RowSet (w.heap.size + 3) gM 53 5 ms.length (fun S w cells (m : List UInt8 × Js.Doc n) => ∃ nm cs', cells = .string nm :: cs' ∧ nm.data.toList = m.1 ∧ Full S n w cs' m.2) w5 ms (kk + 1)) := by
                  have hrs := HRS.out
                  have hx := HBX.out
                  refine ⟨?_, ?_, hrs.step (keeps_fullm n) hlt (Nat.le_refl _) hx (by omega) (cells := [.string nm, .int .u8 kd', .string sd', .slice ao6 n6 cp6, .slice ao7 n7 cp7]) rfl ⟨nm, _, rfl, HNM.out, Full.keep (fun x hx => by omega) (fun _ _ => rfl) n _ _ hfl⟩ (fun cur hc => ?_) (fun x hx hne => ?_) (by rw [hw5]; simp)⟩
                  · rw [hw5]
                    iterate 5 refine Below.setCell ?_ (by show gM ≤ gM; exact Nat.le_refl _) _
                    exact HBLX.out
                  · rw [hw5]; simp; omega
                  · rw [hw5]; exact set5 _ _ _ _ _ cur hc
                  · rw [hw5]
                    iterate 5 rw [heap_setCell_other _ _ x _ (by show x ≠ gM; exact hne)]
                have HW5 := hideN hw5
                clear hw5 hfl hrc hok HRES HBX
                cases ok with
                | true =>
                  go_wp2
                  go_roundw
                  case rel =>
                    exact ⟨kk + 1, r, by omega, rfl, by go_num, by rw [HG'.out]; simp, HB', by rw [← HW5.out]; exact HN.out.1, by rw [← HW5.out]; exact HN.out.2.1, by rw [← HW5.out]; exact HN.out.2.2⟩
                  case measure => simp [intOf]; omega
                | false =>
                  go_wp2
                  go_roundw
                  case rel =>
                    exact ⟨kk + 1, r, by omega, rfl, by go_num, by rw [HG'.out]; simp, HB', by rw [← HW5.out]; exact HN.out.1, by rw [← HW5.out]; exact HN.out.2.1, by rw [← HW5.out]; exact HN.out.2.2⟩
                  case measure => simp [intOf]; omega
        · have hks : kk = ms.length := by omega
          obtain ⟨hv1, _⟩ := HV.out
          subst hv1
          have hB := HB.out
          rw [hks, List.take_length] at hB
          have HC2 : Hid ((bn : Int) + Js.cost (n + 1) (k, s.data.toList, is, ms) = bud) := by
            have h1 := HCO.out
            have h2 := HBA.out
            show _ = _
            omega
          have HG2 : Hid ((gg && (ms.take kk).all fun m => Js.good n (u && decide (k = 6)) m.2) = Js.good (n + 1) u (k, s.data.toList, is, ms)) := by
            rw [hks, List.take_length]; exact HGE.out.symm
          obtain ⟨g9, hg9⟩ : ∃ g9, g9 = (gg && (ms.take kk).all fun m => Js.good n (u && decide (k = 6)) m.2) := ⟨_, rfl⟩
          rw [← hg9]
          rw [← hg9] at HG2
          have HF : Hid (∀ w', (∀ x, w.heap.size + 3 ≤ x → w'.heap[x]? = wr.heap[x]?) → Full (fun x => w.heap.size ≤ x) (n + 1) w' [.int .u8 (k : Int), .string s, .slice aoV nV cV, .slice (some ⟨gM, 0, none⟩) ms.length ms.length] (k, s.data.toList, is, ms)) := fun w' hw' => by
            refine ⟨hk, s, _, _, rfl, rfl, ?_, ?_⟩
            · have hx : ∀ x, w.heap.size + 3 ≤ x ∧ x < gM → w'.heap[x]? = wc.heap[x]? := fun x hx => by rw [hw' x hx.1, hbl.block x hx.2, HKI.out x hx]
              exact HRI2.out.keep (fun x hx => by omega) hx (fun cells d _ hf => Full.keep (fun x hx => by omega) hx n cells d hf)
            · exact ((HRS.out.rows (keeps_fullm n) hks rfl (by unfold maxLen; omega) hgM3 (fun x hx _ => hw' x hx)).keep (fun x hx => by omega) (fun _ _ => rfl) (fun cells m _ hf => keeps_fullm n _ _ _ _ cells m (fun x hx => by omega) (fun _ _ => rfl) hf))
          obtain ⟨o0, o1, o2, o3, f9⟩ := boxFacts Q9.out
          obtain ⟨r0, r1, r2, r3, f6⟩ := boxFacts Q6.out
          have HBLR := hideN hblr
          clear hks hB hbl hszr hblr hg9
          go_wp2
          refine bodyPost_ret (v := .tuple #[.agg #[.int .u8 (k : Int), .string s, .slice aoV nV cV, .slice (some ⟨gM, 0, none⟩) ms.length ms.length], .int .i64 (bn : Int), .bool g9]) (by simp [results, Try.results15, go_sem, o0, o1, o2, o3, r0, r1, r2, r3]) rfl ⟨_, s, _, _, (bn : Int), g9, ⟨_, _, _, rfl⟩, ⟨_, _, _, rfl⟩, rfl, ?_, .inr ⟨by omega, HC2.out, HG2.out, HF.out _ (fun x hx => ?_)⟩⟩
          · iterate 4 refine Below.setCell ?_ (by show w.heap.size ≤ w.heap.size + 1; omega) _
            exact HBLR.out
          · iterate 4 rw [heap_setCell_other _ _ x _ (by show x ≠ w.heap.size + 1; omega)]

theorem conv : ∀ n, ConvSaid n
  | 0 => fun d => d.elim
  | n + 1 => fun (k, t, is, ms) cs bud u w hf hs hb => by
    obtain ⟨hk, s, c2, c3, rfl, rfl, h2, h3⟩ := hf
    obtain ⟨hs1, hs2, hs3⟩ := hs
    by_cases h : bud < s.size
    · exact conv_short n _ k s c2 c3 bud u w hs1 hb h
    · exact conv_main n (conv n) k hk s is ms c2 c3 bud u w h2 h3 hs2 hs3 hb (by omega)
end Go.Proofs.Qxb6601578a
