import Derived.Test.Qxb6602876aDoorKindWalk
import Derived.Test.Qxb6602876aDoorTie
import Derived.Test.Qxb6602876aDoorCards
import Derived.ProofKit
import Derived.LaidMore
import Derived.Lib.LaidTab
import Derived.OpenShut
import Derived.Stop.Joined
import Derived.Stop.LaidErr
import Derived.SevenTiedAt
namespace Go.Proofs.Qxb6602876aDoor
open Go Go.ChangeShapes Go.WideShapes Go.ChangeAt Go.RowKit
set_option linter.unusedVariables false

theorem k_own : ownKnob Tryd.prog.godebug = none := by kernel_rfl
theorem k_gPow : Tryd.prog.globalNamed tabName = some 0 := by kernel_rfl
theorem k_tPow : (Tryd.prog.globals[0]?).map (·.type) = some 42 := by kernel_rfl
theorem k_cPow : Tryd.prog.cellsOf 42 = 20 := by kernel_rfl
theorem k_cElem : Tryd.prog.cellsOf 34 = 1 := by kernel_rfl

/-- The door's k_own heap meets the condition. -/
theorem k_door_met (os : Os) (args : Array Value) : laidMetH Tryd.prog Rows.fnEntryKindStringRoundTripRow.laid ((World.doorLaid Tryd.prog 24 os).forCall (fun _ _ => 0) ⟨#[], args, []⟩).memory :=
  laidMetH_of_parts3 (fuel := 8) (laidMet_of_run' 8 (by kernel_rfl) (by kernel_rfl)) (by kernel_rfl) (by kernel_rfl)

/-- What the condition gives the walk: the table of powers of ten. -/
theorem k_tab_of_laid {W : World} (h : laidMetH Tryd.prog Rows.fnEntryKindStringRoundTripRow.laid W) : Lib.TabIs Tryd.prog W tabName .u64 Lib.pow10Tab := by
  rw [MakeChecks.laidMetH_plain _ _ _ (by kernel_rfl)] at h
  have h2 : laidMet Tryd.prog [(tabName, Lib.tabData .u64 Lib.pow10Tab)] W := laidMet.tail (laidMet.tail h)
  exact Lib.tabIs_of_head k_gPow k_tPow Tryd.underlying42 Tryd.underlying34 k_cElem k_cPow h2

set_option maxRecDepth 100000 in
theorem kind_lifted (os : Os) (started : os.Started) (H : Type) (enc : TypeId × Value → H) :
    ReturnsInHanded {} Tryd.checked os 4 .any (fun w args => (Rows.fnEntryKindStringRoundTripSpec.pre enc Tryd.prog Tryd.f4 [] false w args ∧ laidMetH Tryd.prog Rows.fnEntryKindStringRoundTripRow.laid w) ∧ sizedMet enc Tryd.prog Tryd.f4 (OpenSpec.ofChange Rows.fnEntryKindStringRoundTripSpec) false w args)
      (Rows.fnEntryKindStringRoundTripSpec.post enc Tryd.prog Tryd.f4 false true false false) := by
  refine returnsInHanded_of_change_and (C := Tryd.checked) (X := fun w _ => laidMetH Tryd.prog Rows.fnEntryKindStringRoundTripRow.laid w) (fun _ _ _ hh h => h.of_heap hh) k_own started (by kernel_rfl) Tryd.func4
    (ChangeSpec.witness_shaped (enc := enc) (C := Tryd.checked) (os := os) (X := fun w _ => laidMetH Tryd.prog Rows.fnEntryKindStringRoundTripRow.laid w) false (World.doorLaid Tryd.prog 24 os) #[.int .i64 0] 8 rfl (World.shaped_of_RefB (by kernel_rfl) (by kernel_rfl)) (by kernel_rfl) (by kernel_rfl) (by kernel_rfl) (k_door_met os _)) ?_
  intro W base args ds gs before hval0 hW _ _ hL _
  have hval : ∀ (j : Nat) t v, Tryd.f4.params[j]? = some t → args[j]? = some v → Value.okWide Tryd.prog W .any base t v := hval0
  have hW' := hW
  obtain ⟨p, q, hA0, hV, rfl, hfz, hnd⟩ := hW
  have hA : DataW.TrodAll enc Tryd.prog W 0 (fun _ => true) true Tryd.f4.params.toList args.toList ds p := hA0
  rw [Tryd.params4] at hA hval
  obtain ⟨v0, d0, rfl, rfl, h0⟩ := trodAll_one hA
  obtain ⟨rfl, rfl⟩ := trodVars_none hV
  obtain ⟨n, rfl, rfl, rfl, wn⟩ := open_int Tryd.underlying3 (hval 0 3 v0 rfl rfl) h0
  have htab := k_tab_of_laid hL
  clear hA0 hval0
  refine (kind_walk n wn W htab).mono fun e W' ⟨he, bel⟩ => ?_
  subst he
  exact ⟨_, rfl, _, _, _, [], [], [], hW', trodAll_mk1 (shut_bool Tryd.underlying4 _), trodAll_mk1 (shut_int Tryd.underlying3 wn), rfl, bel.frame _, fun h => by cases h⟩

theorem kind_holds : Rows.FnEntryKindStringRoundTripSaid :=
  OpenClaim.holds_of_wide 4 Tryd.f4 rfl rfl rfl rfl rfl rfl rfl ⟨rfl, rfl, rfl, rfl, rfl⟩ rfl rfl rfl rfl rfl (by kernel_rfl) Tryd.func4 (by kernel_rfl)
    (of_decide_eq_true (by kernel_rfl)) (by unfold Func.isWrapper; first | (rw [if_pos (by decide +kernel)]; kernel_rfl) | (rw [if_neg (by decide +kernel)]; exact ⟨rfl, rfl⟩))
    (fun os started H enc _ => kind_lifted os started H enc)

theorem kind_card : Rows.FnEntryKindStringRoundTripCardSaid :=
  Claim7.holds_tied_plain_at .later [] [.data, .data, .data] true Rows.fnEntryKindStringRoundTripCard.stood.harness false
    kind_holds (fun _ h => by cases h) (by kernel_rfl) (fun _ h => by cases h) fnEntryKindStringRoundTrip_row_tie rfl ⟨rfl, rfl⟩ (by kernel_rfl) rfl
    (fun f fn hf hfn => by
      obtain rfl : f = 4 := Option.some.inj ((show Tryd.prog.funcNamed Tryd.f4.name = some 4 by kernel_rfl).symm.trans hf) |>.symm
      obtain rfl : fn = Tryd.f4 := (Option.some.inj (Tryd.func4.symm.trans hfn)).symm
      exact ⟨by kernel_rfl, fun j t ht => by
        rw [Tryd.params4] at ht
        have hm : t ∈ [3] := by simpa using Array.mem_of_getElem? ht
        have hall : ([3].all fun u => !Tryd.prog.wantsStandIn u) = true := by kernel_rfl
        exact (show Tryd.prog.wantsStandIn t = false by simpa using List.all_eq_true.1 hall t hm)⟩)
    (by kernel_rfl)
#print axioms kind_card
end Go.Proofs.Qxb6602876aDoor
