import Derived.Test.Qxb6601578aRows
import Derived.Test.Qxb6601578aLawW
import Derived.Test.Qxb6601578aOpen
import Derived.WalkKit
import Derived.ProofKit
import Derived.OpenShut
import Derived.ShutString
import Derived.ChangeOld
import Derived.Below
namespace Go.Proofs.Qxb6601578a
open Go.ChangeShapes Go.WideShapes Go.ChangeAt Go.RowKit
open Go.ChangeMaps (open_string shut_string)
set_option linter.unusedVariables false
set_option linter.unusedSimpArgs false

theorem back_own : ownKnob Try.prog.godebug = none := by kernel_rfl
theorem back_laidOut : laidOutB Try.prog = true := by kernel_rfl

/-- Numbers that fit a byte, as bytes. -/
theorem back_bytes (zs : List Int) (h : ∀ n ∈ zs, (Lit.int .u8 n).wf = true) : ∀ i, (hi : i < zs.length) → ((zs.map fun n => UInt8.ofNat n.toNat)[i]'(by simpa using hi)).toNat = zs.getD i 0 := by
  intro i hi
  have hb := Go.bounds_u8 (h zs[i] (List.getElem_mem hi))
  simp only [List.getElem_map, UInt8.toNat_ofNat']
  rw [show zs.getD i 0 = zs[i] from by simp [hi]]
  omega

set_option maxRecDepth 100000 in
theorem back_lifted (os : Os) (started : os.Started) (H : Type) (enc : TypeId × Value → H) :
    ReturnsInHanded {} Try.checked os 6 .any (Rows.fnAppendCanonicalStrictParseBackSpec.pre6 enc Try.prog Try.f6 Rows.fnAppendCanonicalStrictParseBackRow.domain false) (Rows.fnAppendCanonicalStrictParseBackSpec.post enc Try.prog Try.f6 false true false false) := by
  refine returnsInHanded_of_change (C := Try.checked) back_own started (by kernel_rfl) Try.func6
    (ChangeSpec.witness6 (enc := enc) (C := Try.checked) false ⟨#[], #[.slice none 0 0, .agg #[.int .u8 0, .string ByteArray.empty, .slice none 0 0, .slice none 0 0]], []⟩ 8 (by kernel_rfl) (by kernel_rfl) (by kernel_rfl) (by kernel_rfl)) ?_
  intro W base args ds gs before hval0 hW hcnd _
  have hval : ∀ (j : Nat) t v, Try.f6.params[j]? = some t → args[j]? = some v → Value.okWide Try.prog W .any base t v := hval0
  have hW' := hW
  obtain ⟨p, q, hA0, hV, rfl, hfz, hnd⟩ := hW
  have hA : DataW.TrodAll enc Try.prog W 0 (fun _ => true) true Try.f6.params.toList args.toList ds p := hA0
  rw [Try.params6] at hA hval
  obtain ⟨v0, vs0, d0, ds0, p0, q0, hargs, rfl, rfl, h0, r0⟩ := trodAll_cons hA
  obtain ⟨v1, vs1, d1, ds1, p1, q1, rfl, rfl, rfl, h1, r1⟩ := trodAll_cons r0
  obtain ⟨rfl, rfl, rfl⟩ := trodAll_nil r1
  obtain rfl : args = #[v0, v1] := by cases args; simp_all
  obtain ⟨rfl, rfl⟩ := trodVars_none hV
  obtain ⟨a0, len0, cap0, rfl⟩ := okWide_slice Try.underlying22 (hval 0 22 v0 rfl rfl)
  have k0 := h0
  have k1 := h1
  have lt0 : ∀ x ∈ p0, x.block < W.heap.size := by obtain ⟨m, hm⟩ := k0; exact DataW.trod_lt m _ _ _ hm
  have lt1 : ∀ x ∈ p1, x.block < W.heap.size := by obtain ⟨m, hm⟩ := k1; exact DataW.trod_lt m _ _ _ hm
  obtain ⟨l, hlen, hl, hin⟩ : ∃ l : List UInt8, l.length = len0 ∧ l.length ≤ maxLen ∧ InBytes W a0 l cap0 := by
    obtain ⟨fuel, hf⟩ := h0
    rcases open_ints Try.underlying22 Try.underlying5 (by kernel_rfl) hf with ⟨hcs, _⟩ | ⟨x, l, c, zs, hcs, _, hl, hm, hz, _, hcell, hwz⟩
    · simp [Value.cells] at hcs
      obtain ⟨rfl, rfl, rfl⟩ := hcs
      exact ⟨[], rfl, by simp, .inl ⟨rfl, rfl, rfl⟩⟩
    · simp [Value.cells] at hcs
      obtain ⟨rfl, rfl, rfl⟩ := hcs
      have hz' : zs.length = cap0 := by simpa using hz
      have hb := back_bytes zs hwz
      refine ⟨(zs.map fun n => UInt8.ofNat n.toNat).take len0, by simp; omega, by simp; omega, .inr ⟨_, rfl, fun j hj => ?_⟩⟩
      have hj1 : j < zs.length := by simp at hj; omega
      rw [hcell j hj1, List.getElem_take, hb j hj1]
  subst hlen
  obtain ⟨cs1, rfl, hcs1⟩ := okWide_struct Try.underlying35 (hval 1 35 v1 rfl rfl)
  obtain ⟨fuel1, hf1⟩ := h1
  obtain ⟨dd, hfull, hsmall⟩ := open_doc enc W fuel1 fuel1 (Nat.le_refl _) _ _ hf1
  obtain ⟨kd, sd, a2, a3, hshape, _, _⟩ := hfull.shape
  have hcse : cs1 = #[.int .u8 kd, .string sd, a2, a3] := by
    have : (Value.agg cs1).cells.toList = [.int .u8 kd, .string sd, a2, a3] := hshape
    have h2 : cs1.toList = [.int .u8 kd, .string sd, a2, a3] := by simpa [Value.cells] using this
    cases cs1 with | mk x => simp at h2; rw [h2]
  rw [hshape] at hfull
  subst hcse
  clear hA0 hval0
  refine (law_walk fuel1 dd kd sd a2 a3 a0 l cap0 W hl hin hfull hsmall).mono fun e W' ⟨he, bel⟩ => ?_
  subst he
  exact ⟨_, rfl, _, _, _, [], _, [], hW', trodAll_mk1 (shut_bool Try.underlying4 _), (trodAll_cons_mk (Below.trod back_laidOut (by kernel_rfl) (of_decide_eq_true (by kernel_rfl)) k0 bel lt0) (trodAll_cons_mk (Below.trod back_laidOut (by kernel_rfl) (of_decide_eq_true (by kernel_rfl)) k1 bel lt1) trodAll_mk0)), rfl, bel.frame _, fun h => by cases h⟩

theorem back_proved : Rows.FnAppendCanonicalStrictParseBackSaid :=
  OpenClaim.holds_of_wide 6 Try.f6 rfl rfl rfl rfl rfl rfl rfl ⟨rfl, rfl, rfl, rfl, rfl⟩ rfl rfl rfl rfl rfl (by kernel_rfl) Try.func6 (by kernel_rfl)
    (of_decide_eq_true (by kernel_rfl)) (by unfold Func.isWrapper; first | (rw [if_pos (by decide +kernel)]; kernel_rfl) | (rw [if_neg (by decide +kernel)]; exact ⟨rfl, rfl⟩))
    (fun os started H enc _ => back_lifted os started H enc)
#print axioms back_proved
end Go.Proofs.Qxb6601578a
