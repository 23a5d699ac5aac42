import Derived.Test.Qxb6602939aRows
import Derived.Test.Qxb6602939aSwapWalk
import Derived.WalkKit
import Derived.ProofKit
import Derived.OpenShut
import Derived.ShutString
import Derived.ChangeOld
import Derived.Below
namespace Go.Proofs.Qxb6602939a
open Go.ChangeShapes Go.WideShapes Go.ChangeAt Go.RowKit
open Go.ChangeMaps (open_string shut_string)
set_option linter.unusedVariables false
set_option linter.unusedSimpArgs false

/-- 'string(b)' of the row. -/
theorem Row.toStr {w wr : World} {n : Nat} {B : Nat → Int} (h : Row w wr n B) (t : List UInt8) (ht : t.length = n) (hB : ∀ j, j < n → B j = ((t.getD j 0).toNat : Int)) :
    ∀ q, (convert 25 9 (.slice (some ⟨w.heap.size, 0, none⟩) n n)).run Try.prog (wr.drewN q) = .ok (.string ⟨t.toArray⟩) (wr.drewN q) := by
  intro q
  have := run_convert_bytes_arg (P := Try.prog) (wr.drewN q) 25 5 Try.underlying25 Try.underlying5 w.heap.size 0 n n (t.map fun b => (b.toNat : Int)) (by simp [ht]) (fun i hi => by
    rw [Nat.zero_add, World.cell?_drewN, h.1 i hi, hB i hi]
    simp [show i < t.length by omega]) 9 Try.underlying9
  rw [show strOfNums (t.map fun b => (b.toNat : Int)) = ⟨t.toArray⟩ from by simp [strOfNums, Function.comp_def]] at this
  exact this

set_option maxHeartbeats 1000000 in
theorem swap_main (s : ByteArray) (k : Nat) (w : World) (hs : s.size ≤ 1048576) (hd : Dec s) (hk : k + 1 < s.size) (hne : ((s[k].toNat : Int) == (s[k + 1].toNat : Int)) = false) :
    Calls Try.prog 5 #[.string s, .int .i64 k] w fun e w' => e = .returned (.bool true) ∧ Below w.heap.size w w' := by
  obtain ⟨i0, hi, hz0, hz1, hz2⟩ := info_parts byteInfo
  have hk0 : k < s.size := by omega
  have g1 : decide ((k : Int) < 0) = false := decide_eq_false (by omega)
  have g2 : decide ((s.size : Int) - 1 ≤ (k : Int)) = false := decide_eq_false (by omega)
  have g3 : (k : Int) < (s.size : Int) := by omega
  have g4 : (k : Int) + 1 < (s.size : Int) := by omega
  have g5 : (0 : Int) ≤ (k : Int) + 1 := by omega
  have HD := hide hd
  have HN := hide hne
  clear hd
  go_enter Try.func5, Try.ntmps5
  go_wp2_with (first | (go_at_call 11; refine (bytes11_yes s _ _ hs).mono ?_; rintro e w0 ⟨rfl, rfl⟩) | (go_at_call 10; refine (allDec_yes s _ hs HD.out).mono ?_; rintro e w0 ⟨rfl, rfl⟩))
  go_quiet (fail)
  go_wp2_with (at_make; refine wpList_make_full _ rfl _ _ 25 rfl w0.heap.size 5 i0 (.int .u8 0) 1 Try.underlying25 hi hz0 hz1 _ _ _ _ s.size rfl rfl rfl rfl (by rw [hz2]; omega) (by unfold maxLen; omega) (Nat.le_refl _) ?_; intro w4 hown hgrow; obtain ⟨B0, R0⟩ := Row.of (w := w0) hown ⟨hgrow.os, hgrow.tape, hgrow.output, hgrow.size, hgrow.block⟩; clear hown hgrow)
  go_loopw [6] (fun i wr => ∃ (m : Nat) (B : Nat → Int), m ≤ s.size ∧ i = .int .i64 m ∧ Row w0 wr s.size B ∧ Hid (∀ j, j < m → B j = ((s.data.toList.getD j 0).toNat : Int))) (fun i _ => s.size - (intOf i).toNat)
  case atStart => exact ⟨0, B0, Nat.zero_le _, rfl, R0, fun j hj => absurd hj (Nat.not_lt_zero j)⟩
  case round =>
    obtain ⟨m, B, hm, rfl, R, HB⟩ := hrel
    clear R0
    by_cases hlt : m < s.size
    · have hc := R.1 m hlt
      have hf := R.2.1 m hlt
      have hmi : (m : Int) < (s.size : Int) := by omega
      have hg : ((s.data.toList.getD m 0).toNat : Int) = (s[m].toNat : Int) := by simp [hlt]; rfl
      have HB2 : Hid (∀ j, j < m + 1 → (fun j => if j = m then (s[m].toNat : Int) else B j) j = ((s.data.toList.getD j 0).toNat : Int)) := fun j hj => by
        by_cases e : j = m
        · subst e; simp only [if_pos]; exact hg.symm
        · simp only [if_neg e]; exact HB.out j (by omega)
      clear hg
      go_wp2
      go_roundw
      case rel => exact ⟨m + 1, _, by omega, by go_num, R.set m hlt _, HB2⟩
      case measure => simp [intOf]; omega
    · have hms : m = s.size := by omega
      have hg1 : ((s.data.toList.getD k 0).toNat : Int) = (s[k].toNat : Int) := by simp [hk0]; rfl
      have hg2 : ((s.data.toList.getD (k + 1) 0).toNat : Int) = (s[k + 1].toNat : Int) := by simp [hk]; rfl
      have c1 : wr.cell? ⟨w0.heap.size, k, none⟩ = some (.int .u8 (s[k].toNat : Int)) := by rw [R.1 k hk0, HB.out k (by omega), hg1]
      have c2 : wr.cell? ⟨w0.heap.size, k + 1, none⟩ = some (.int .u8 (s[k + 1].toNat : Int)) := by rw [R.1 (k + 1) hk, HB.out (k + 1) (by omega), hg2]
      have f1 := R.2.1 k hk0
      have f2 := R.2.1 (k + 1) hk
      have R2 := (R.set k hk0 (s[k + 1].toNat : Int)).set (k + 1) hk (s[k].toNat : Int)
      have hlen : (Rt.swp s.data.toList k).length = s.size := by rw [Rt.swp_length]; simp
      have hcv := R2.toStr (Rt.swp s.data.toList k) hlen (fun j hj => by
        rw [Rt.swp_at _ k j (by simpa using hk)]
        by_cases e1 : j = k + 1
        · simp only [if_pos e1]; exact hg1.symm
        · by_cases e2 : j = k
          · simp only [if_neg e1, if_pos e2]; exact hg2.symm
          · simp only [if_neg e1, if_neg e2]; exact HB.out j (by omega))
      have hturn : (((Rt.chr (Rt.chk (Rt.total s.data.toList)) : Nat) : Int) != ((Rt.chr (Rt.chk (Rt.total (Rt.swp s.data.toList k))) : Nat) : Int)) = true := by
        rw [bne_iff_ne]
        intro e
        refine Rt.swap_turns s.data.toList k (by simpa using hk) (fun j hj => ?_) ?_ (by omega)
        · have hj' : j < s.size := by simpa using hj
          have := HD.out j hj'
          rw [show s.data.toList.getD j 0 = s[j] from by simp [hj']; rfl]
          omega
        · intro e2
          have := beq_eq_false_iff_ne.1 HN.out
          rw [← hg1, ← hg2, e2] at this
          exact this rfl
      have bl := R2.2.2.1
      have T1 := hide (zzCheck2 s)
      have T2 := hide (zzCheck2 ⟨(Rt.swp s.data.toList k).toArray⟩)
      have hsz2 : (ByteArray.mk (Rt.swp s.data.toList k).toArray).size ≤ 1048576 := by show (Rt.swp s.data.toList k).toArray.size ≤ 1048576; simp [hlen]; omega
      have HT := hide hturn
      have HCV := hide hcv
      have BL := hide bl
      clear R R2 HB hg1 hg2 hcv hturn bl hlen
      go_wp2
      have hcv := HCV.out
      have bl := BL.out
      have hturn := HT.out
      clear HCV BL HT c1 c2 f1 f2 T1 T2
      generalize (wr.setCell ⟨w0.heap.size, k, none⟩ (.int .u8 (s[k + 1].toNat : Int))).setCell ⟨w0.heap.size, k + 1, none⟩ (.int .u8 (s[k].toNat : Int)) = W5 at *
      go_quiet ((go_at_call 7; exact Calls.quiet_of_same (zzCheck2 _ _ (by assumption))))
      go_wp2
      go_ret
      exact ⟨rfl, ⟨bl.os, bl.tape, bl.output, bl.size, bl.block⟩⟩

theorem swap_walk (s : ByteArray) (i : Int) (hs : s.size ≤ maxLen) (hi : (Lit.int .i64 i).wf = true) (w : World) :
    Calls Try.prog 5 #[.string s, .int .i64 i] w fun e w' => e = .returned (.bool true) ∧ Below w.heap.size w w' := by
  have hib := Go.bounds_i64 hi
  by_cases h : s.size ≤ 1048576
  · by_cases hd : Dec s
    · have HD := hide hd
      clear hd
      by_cases h1 : i < 0
      · have g1 : decide (i < 0) = true := decide_eq_true h1
        go_enter Try.func5, Try.ntmps5
        go_wp2_with (first | (go_at_call 11; refine (bytes11_yes s _ _ h).mono ?_; rintro e w0 ⟨rfl, rfl⟩) | (go_at_call 10; refine (allDec_yes s _ h HD.out).mono ?_; rintro e w0 ⟨rfl, rfl⟩))
        go_ret
        exact ⟨rfl, Below.refl _ _⟩
      · by_cases h2 : (s.size : Int) - 1 ≤ i
        · have g1 : decide (i < 0) = false := decide_eq_false h1
          have g2 : decide ((s.size : Int) - 1 ≤ i) = true := decide_eq_true h2
          go_enter Try.func5, Try.ntmps5
          go_wp2_with (first | (go_at_call 11; refine (bytes11_yes s _ _ h).mono ?_; rintro e w0 ⟨rfl, rfl⟩) | (go_at_call 10; refine (allDec_yes s _ h HD.out).mono ?_; rintro e w0 ⟨rfl, rfl⟩))
          go_ret
          exact ⟨rfl, Below.refl _ _⟩
        · obtain ⟨k, rfl⟩ := Int.eq_ofNat_of_zero_le (show 0 ≤ i by omega)
          have hk : k + 1 < s.size := by omega
          have hk0 : k < s.size := by omega
          by_cases hne : ((s[k].toNat : Int) == (s[k + 1].toNat : Int)) = false
          · exact swap_main s k w h HD.out hk hne
          · have heq : ((s[k].toNat : Int) == (s[k + 1].toNat : Int)) = true := by simpa using hne
            have g1 : decide ((k : Int) < 0) = false := decide_eq_false (by omega)
            have g2 : decide ((s.size : Int) - 1 ≤ (k : Int)) = false := decide_eq_false (by omega)
            have g3 : (k : Int) < (s.size : Int) := by omega
            have g4 : (k : Int) + 1 < (s.size : Int) := by omega
            have g5 : (0 : Int) ≤ (k : Int) + 1 := by omega
            clear h1 h2 hne hi hib
            go_enter Try.func5, Try.ntmps5
            go_wp2_with (first | (go_at_call 11; refine (bytes11_yes s _ _ h).mono ?_; rintro e w0 ⟨rfl, rfl⟩) | (go_at_call 10; refine (allDec_yes s _ h HD.out).mono ?_; rintro e w0 ⟨rfl, rfl⟩))
            go_quiet (fail)
            go_wp2
            go_ret
            exact ⟨rfl, ⟨rfl, rfl, rfl, Nat.le_refl _, fun _ _ => rfl⟩⟩
    · have HD := hide hd
      clear hd
      go_enter Try.func5, Try.ntmps5
      go_wp2_with (first | (go_at_call 11; refine (bytes11_yes s _ _ h).mono ?_; rintro e w0 ⟨rfl, rfl⟩) | (go_at_call 10; refine (allDec_no s _ h HD.out).mono ?_; rintro e w0 ⟨rfl, rfl⟩))
      go_ret
      exact ⟨rfl, Below.refl _ _⟩
  · unfold maxLen at hs
    go_enter Try.func5, Try.ntmps5
    go_wp2_with (go_at_call 11; refine (bytes11_no s _ _ hs (by omega)).mono ?_; rintro e w0 ⟨rfl, rfl⟩)
    go_ret
    exact ⟨rfl, Below.refl _ _⟩

theorem swap_own : ownKnob Try.prog.godebug = none := by kernel_rfl

set_option maxRecDepth 100000 in
theorem swap_lifted (os : Os) (started : os.Started) (H : Type) (enc : TypeId × Value → H) :
    ReturnsInHanded {} Try.checked os 5 .any (Rows.fnRutCheckCharDetectsAdjacentSwapSpec.pre6 enc Try.prog Try.f5 Rows.fnRutCheckCharDetectsAdjacentSwapRow.domain false) (Rows.fnRutCheckCharDetectsAdjacentSwapSpec.post enc Try.prog Try.f5 false true false false) := by
  refine returnsInHanded_of_change (C := Try.checked) swap_own started (by kernel_rfl) Try.func5
    (ChangeSpec.witness6 (enc := enc) (C := Try.checked) false ⟨#[], #[.string ByteArray.empty, .int .i64 0], []⟩ 8 (by kernel_rfl) (by kernel_rfl) (by kernel_rfl) (by kernel_rfl)) ?_
  intro W base args ds gs before hval0 hW hcnd _
  have hval : ∀ (j : Nat) t v, Try.f5.params[j]? = some t → args[j]? = some v → Value.okWide Try.prog W .any base t v := hval0
  have hW' := hW
  obtain ⟨p, q, hA0, hV, rfl, hfz, hnd⟩ := hW
  have hA : DataW.TrodAll enc Try.prog W 0 (fun _ => true) true Try.f5.params.toList args.toList ds p := hA0
  rw [Try.params5] at hA hval
  obtain ⟨v0, vs0, d0, ds0, p0, q0, hargs, rfl, rfl, h0, r0⟩ := trodAll_cons hA
  obtain ⟨v1, vs1, d1, ds1, p1, q1, rfl, rfl, rfl, h1, r1⟩ := trodAll_cons r0
  obtain ⟨rfl, rfl, rfl⟩ := trodAll_nil r1
  obtain rfl : args = #[v0, v1] := by cases args; simp_all
  obtain ⟨rfl, rfl⟩ := trodVars_none hV
  obtain ⟨a0, rfl, rfl, rfl, w0⟩ := open_string Try.underlying9 (hval 0 9 v0 rfl rfl) h0
  obtain ⟨a1, rfl, rfl, rfl, w1⟩ := open_int Try.underlying3 (hval 1 3 v1 rfl rfl) h1
  clear hA0 hval0
  refine (swap_walk a0 a1 w0 w1 W).mono fun e W' ⟨he, bel⟩ => ?_
  subst he
  exact ⟨_, rfl, _, _, _, [], [], [], hW', trodAll_mk1 (shut_bool Try.underlying4 _), (trodAll_cons_mk (shut_string Try.underlying9 w0) (trodAll_cons_mk (shut_int Try.underlying3 w1) trodAll_mk0)), rfl, bel.frame _, fun h => by cases h⟩

theorem swap_proved : Rows.FnRutCheckCharDetectsAdjacentSwapSaid :=
  OpenClaim.holds_of_wide 5 Try.f5 rfl rfl rfl rfl rfl rfl rfl ⟨rfl, rfl, rfl, rfl, rfl⟩ rfl rfl rfl rfl rfl (by kernel_rfl) Try.func5 (by kernel_rfl)
    (of_decide_eq_true (by kernel_rfl)) (by unfold Func.isWrapper; first | (rw [if_pos (by decide +kernel)]; kernel_rfl) | (rw [if_neg (by decide +kernel)]; exact ⟨rfl, rfl⟩))
    (fun os started H enc _ => swap_lifted os started H enc)
#print axioms swap_proved
end Go.Proofs.Qxb6602939a
