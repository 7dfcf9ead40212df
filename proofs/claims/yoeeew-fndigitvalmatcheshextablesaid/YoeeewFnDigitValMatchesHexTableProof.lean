/-
  The proof of Rows.FnDigitValMatchesHexTableSaid over the given shell; the walk is ours.
-/
import Derived.Test.YoeeewRows
import Derived.WalkKit
import Derived.ProofKit
import Derived.OpenShut
import Derived.ShutString
import Derived.Test.YoeeewModel
namespace Go.Proofs.Yoeeew.fnDigitValMatchesHexTable
open Go.ChangeShapes Go.WideShapes Go.ChangeAt Go.RowKit
open Go.ChangeMaps (open_string shut_string)
set_option linter.unusedVariables false      -- a walk need not use every 'w<i>' (that an integer argument fits its kind)

theorem own : ownKnob Eeeg.prog.godebug = none := by kernel_rfl

/-! ### THE WALK: both callees by their contracts: each answers dv -/
set_option maxHeartbeats 400000 in
theorem walk (a0 : Int) (w0 : (Lit.int .i32 a0).wf = true) (w : World) :
    Calls Eeeg.prog 3 #[.int .i32 a0] w fun e w' => e = .returned (.bool true) ∧ Grown w w' := by
  obtain ⟨h0, h1⟩ := bounds_i32 w0
  go_enter Eeeg.func3, Eeeg.ntmps3
  go_wp2_with (first | (go_at_call 8; refine (digit.zzdigitVal_any _ _ (by omega) (by omega)).mono ?_; rintro e w' ⟨rfl, rfl⟩) | (go_at_call 9; refine (digit.model_any _ _).mono ?_; rintro e w' ⟨rfl, rfl⟩))
  go_ret
  exact ⟨by simp, Grown.refl _⟩

/-! ### THE ROW's STEP: WRITTEN OUT: LEAVE IT -/
set_option maxRecDepth 100000 in
theorem lifted (os : Os) (started : os.Started) (H : Type) (enc : TypeId × Value → H) :
    ReturnsInHanded {} Eeeg.checked os 3 .any (Rows.fnDigitValMatchesHexTableSpec.pre6 enc Eeeg.prog Eeeg.f3 Rows.fnDigitValMatchesHexTableRow.domain false) (Rows.fnDigitValMatchesHexTableSpec.post enc Eeeg.prog Eeeg.f3 false true false false) := by
  refine returnsInHanded_of_change (C := Eeeg.checked) own started (by kernel_rfl) Eeeg.func3
    (ChangeSpec.witness6 (enc := enc) (C := Eeeg.checked) false ⟨#[], #[.int .i32 0], []⟩ 8 (by kernel_rfl) (by kernel_rfl) (by kernel_rfl) (by kernel_rfl)) ?_
  intro W base args ds gs before hval0 hW hcnd _
  have hval : ∀ (j : Nat) t v, Eeeg.f3.params[j]? = some t → args[j]? = some v → Value.okWide Eeeg.prog W .any base t v := hval0
  have hW' := hW
  obtain ⟨p, q, hA0, hV, rfl, hfz, hnd⟩ := hW
  have hA : DataW.TrodAll enc Eeeg.prog W 0 (fun _ => true) true Eeeg.f3.params.toList args.toList ds p := hA0
  rw [Eeeg.params3] at hA hval
  obtain ⟨v0, vs0, d0, ds0, p0, q0, hargs, rfl, rfl, h0, r0⟩ := trodAll_cons hA
  obtain ⟨rfl, rfl, rfl⟩ := trodAll_nil r0
  obtain rfl : args = #[v0] := by cases args; simp_all
  obtain ⟨rfl, rfl⟩ := trodVars_none hV
  obtain ⟨a0, rfl, rfl, rfl, w0⟩ := open_int Eeeg.underlying21 (hval 0 21 v0 rfl rfl) h0
  clear hA0 hval0
  simp only [List.append_nil] at hW'
  refine (walk a0 w0 W).mono fun e W' ⟨he, hg⟩ => ?_
  subst he
  exact ⟨_, rfl, post_of_same (pa := []) (pv := []) hW' (fun _ _ _ => (trodAll_cons_mk (shut_bool Eeeg.underlying4 _) trodAll_mk0)) (fun sp _ => (trodAll_cons_mk (shut_int Eeeg.underlying21 w0) trodAll_mk0)) (fun _ _ => rfl) rfl
    (hg.frame _) hg.2.1 (ok_one (by kernel_rfl) rfl (okWide_bool_mk Eeeg.underlying4 _))⟩

theorem over : Rows.fnDigitValMatchesHexTableRow.holds Eeeg.pinned (OpenSpec.ofChange Rows.fnDigitValMatchesHexTableSpec) :=
  OpenClaim.holds_of_wide 3 Eeeg.f3 rfl rfl rfl rfl rfl rfl rfl ⟨rfl, rfl, rfl, rfl, rfl⟩ rfl rfl rfl rfl rfl (by kernel_rfl) Eeeg.func3 (by kernel_rfl)
    (of_decide_eq_true (by kernel_rfl)) (by unfold Func.isWrapper; first | (rw [if_pos (by decide +kernel)]; kernel_rfl) | (rw [if_neg (by decide +kernel)]; exact ⟨rfl, rfl⟩))
    (fun os started H enc _ => lifted os started H enc)

/-- ████ THE STATEMENT ████ -/
theorem proved : Rows.FnDigitValMatchesHexTableSaid :=
  over
end Go.Proofs.Yoeeew.fnDigitValMatchesHexTable

namespace Go.Proofs.Yoeeew
theorem fnDigitValMatchesHexTable_proved : Rows.FnDigitValMatchesHexTableSaid := fnDigitValMatchesHexTable.proved
end Go.Proofs.Yoeeew
