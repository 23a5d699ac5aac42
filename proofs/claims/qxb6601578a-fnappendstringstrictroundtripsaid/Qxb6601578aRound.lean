import Derived.Test.Qxb6601578aRows
import Derived.Test.Qxb6601578aWalkC
import Derived.WalkKit
import Derived.ProofKit
import Derived.OpenShut
import Derived.ShutString
import Derived.ChangeOld
import Derived.Below
namespace Go.Proofs.Qxb6601578a
open Go.ChangeShapes Go.WideShapes Go.ChangeAt Go.RowKit
open Go.ChangeMaps (open_string shut_string)
set_option linter.unusedVariables false
set_option linter.unusedSimpArgs false

theorem strOfNums_bytes (l : List UInt8) : strOfNums (l.map fun b => (b.toNat : Int)) = ⟨l.toArray⟩ := by
  simp [strOfNums, Function.comp_def]

/-- 'string(b)', b a buffer: its bytes. -/
theorem Buf.toStr {B : Nat} {v : Value} {l : List UInt8} {W0 w : World} (h : Buf B v l W0 w) : (convert 22 9 v).run Try.prog w = .ok (.string ⟨l.toArray⟩) w := by
  have main : ∀ g cap, v = .slice (some ⟨g, 0, none⟩) l.length cap → (convert 22 9 v).run Try.prog w = .ok (.string ⟨l.toArray⟩) w := by
    intro g cap hv
    subst hv
    have := run_convert_bytes_arg (P := Try.prog) w 22 5 Try.underlying22 Try.underlying5 g 0 l.length cap (l.map fun b => (b.toNat : Int)) (by simp) (fun i hi => by
      rw [Nat.zero_add, h.cell i hi]; simp [hi]) 9 Try.underlying9
    rw [strOfNums_bytes] at this
    exact this
  rcases h.1.2 with ⟨hv, hn⟩ | ⟨g, cap, cur, hv, _⟩
  · have hl : l = [] := List.eq_nil_of_length_eq_zero hn
    subst hv; subst hl
    exact run_convert_bytes_nil (P := Try.prog) w 22 5 Try.underlying22 Try.underlying5 0 0 9 Try.underlying9
  · exact main g cap hv

theorem bytes12_yes (a : ByteArray) (w : World) (h : a.size ≤ 1048576) :
    Calls Try.prog 12 #[.string a] w fun e w' => e = .returned (.bool true) ∧ w' = w := by
  go_enter Try.func12, Try.ntmps12
  go_wp2
  go_ret
  exact ⟨rfl, rfl⟩

theorem bytes12_no (a : ByteArray) (w : World) (ha : a.size ≤ maxLen) (h : 1048576 < a.size) :
    Calls Try.prog 12 #[.string a] w fun e w' => e = .returned (.bool false) ∧ w' = w := by
  unfold maxLen at ha
  go_enter Try.func12, Try.ntmps12
  go_wp2
  go_ret
  exact ⟨rfl, rfl⟩

set_option maxHeartbeats 400000 in
theorem round_walk (a : ByteArray) (ha : a.size ≤ maxLen) (w : World) :
    Calls Try.prog 4 #[.string a] w fun e w' => e = .returned (.bool true) ∧ Below w.heap.size w w' := by
  by_cases h : a.size ≤ 1048576
  · go_enter Try.func4, Try.ntmps4
    go_wp2_with (go_at_call 12; refine (bytes12_yes a _ h).mono ?_; rintro e w0 ⟨rfl, rfl⟩)
    have q1 := Js.escs_length a.data.toList
    have l1 := Js.quoted_length a.data.toList
    have hda : a.data.toList.length = a.size := by simp
    refine (appendString w0.heap.size _ [] a w0 _ (Buf.nil w0) (by simp; omega)).mono ?_
    rintro e w1 ⟨v1, rfl, hb1⟩
    rw [List.nil_append] at hb1
    have HD := hide (fun b cap wx (h1 : b < wx.heap.size) (h2 : ∀ j, (h : j < (Js.quoted a.data.toList).length) → wx.cell? ⟨b, 0 + j, none⟩ = some (.int .u8 ((Js.quoted a.data.toList)[j]).toNat)) =>
      decode_core (Js.quoted a.data.toList) a.data.toList [] 0 b 0 cap wx (by omega) (by omega) h1 h2 (by simp))
    generalize Js.quoted a.data.toList = A at *
    have lA : 2 ≤ A.length := by omega
    have uA : A.length ≤ 6291458 := by omega
    obtain ⟨g, c, hv, k1, m1, B1, s1, cell1⟩ := hb1.shape (by omega)
    have bl1 := hb1.2.1
    rw [hv]
    clear hv hb1 q1 l1 hda
    go_wp2_with fail
    refine (HD.out g c _ s1 (by intro j hj; rw [Nat.zero_add]; exact cell1 j hj)).mono ?_
    rintro e w2 ⟨v2, rfl, hb2⟩
    have hcv := hb2.toStr
    have hb3 := hb2.2.1
    have bl : Below w0.heap.size w0 w2 := bl1.trans (hb3.mono bl1.size)
    clear cell1 hb2 HD bl1 hb3
    go_wp2
    go_ret
    exact ⟨rfl, bl⟩
  · unfold maxLen at ha
    go_enter Try.func4, Try.ntmps4
    go_wp2_with (go_at_call 12; refine (bytes12_no a _ ha (by omega)).mono ?_; rintro e w0 ⟨rfl, rfl⟩)
    go_ret
    exact ⟨rfl, Below.refl _ _⟩

theorem round_own : ownKnob Try.prog.godebug = none := by kernel_rfl

set_option maxRecDepth 100000 in
theorem round_lifted (os : Os) (started : os.Started) (H : Type) (enc : TypeId × Value → H) :
    ReturnsInHanded {} Try.checked os 4 .any (Rows.fnAppendStringStrictRoundTripSpec.pre6 enc Try.prog Try.f4 Rows.fnAppendStringStrictRoundTripRow.domain false) (Rows.fnAppendStringStrictRoundTripSpec.post enc Try.prog Try.f4 false true false false) := by
  refine returnsInHanded_of_change (C := Try.checked) round_own started (by kernel_rfl) Try.func4
    (ChangeSpec.witness6 (enc := enc) (C := Try.checked) false ⟨#[], #[.string ByteArray.empty], []⟩ 8 (by kernel_rfl) (by kernel_rfl) (by kernel_rfl) (by kernel_rfl)) ?_
  intro W base args ds gs before hval0 hW hcnd _
  have hval : ∀ (j : Nat) t v, Try.f4.params[j]? = some t → args[j]? = some v → Value.okWide Try.prog W .any base t v := hval0
  have hW' := hW
  obtain ⟨p, q, hA0, hV, rfl, hfz, hnd⟩ := hW
  have hA : DataW.TrodAll enc Try.prog W 0 (fun _ => true) true Try.f4.params.toList args.toList ds p := hA0
  rw [Try.params4] at hA hval
  obtain ⟨v0, vs0, d0, ds0, p0, q0, hargs, rfl, rfl, h0, r0⟩ := trodAll_cons hA
  obtain ⟨rfl, rfl, rfl⟩ := trodAll_nil r0
  obtain rfl : args = #[v0] := by cases args; simp_all
  obtain ⟨rfl, rfl⟩ := trodVars_none hV
  obtain ⟨a0, rfl, rfl, rfl, w0⟩ := open_string Try.underlying9 (hval 0 9 v0 rfl rfl) h0
  clear hA0 hval0
  refine (round_walk a0 w0 W).mono fun e W' ⟨he, bel⟩ => ?_
  subst he
  exact ⟨_, rfl, _, _, _, [], [], [], hW', trodAll_mk1 (shut_bool Try.underlying4 _), (trodAll_cons_mk (shut_string Try.underlying9 w0) trodAll_mk0), rfl, bel.frame _, fun h => by cases h⟩

theorem round_proved : Rows.FnAppendStringStrictRoundTripSaid :=
  OpenClaim.holds_of_wide 4 Try.f4 rfl rfl rfl rfl rfl rfl rfl ⟨rfl, rfl, rfl, rfl, rfl⟩ rfl rfl rfl rfl rfl (by kernel_rfl) Try.func4 (by kernel_rfl)
    (of_decide_eq_true (by kernel_rfl)) (by unfold Func.isWrapper; first | (rw [if_pos (by decide +kernel)]; kernel_rfl) | (rw [if_neg (by decide +kernel)]; exact ⟨rfl, rfl⟩))
    (fun os started H enc _ => round_lifted os started H enc)
#print axioms round_proved
end Go.Proofs.Qxb6601578a
