/-
  The proof of Rows.FnLowerClosedFormSaid over the given shell; the walk is ours.
-/
import Derived.Test.YoeeewRows
import Derived.WalkKit
import Derived.ProofKit
import Derived.OpenShut
import Derived.ShutString
import Derived.Test.YoeeewLower
namespace Go.Proofs.Yoeeew.fnLowerClosedForm
open Go.ChangeShapes Go.WideShapes Go.ChangeAt Go.RowKit
open Go.ChangeMaps (open_string shut_string)
set_option linter.unusedVariables false      -- a walk need not use every 'w<i>' (that an integer argument fits its kind)

theorem own : ownKnob Eeeg.prog.godebug = none := by kernel_rfl

/-! ### THE WALK: one walk a block of 32; ZZlower by its contract -/
set_option maxHeartbeats 400000 in
theorem walk_even (a0 : Int) (w : World) (h0 : 0 ≤ a0) (h1 : a0 ≤ 255) (he : a0 / 32 % 2 = 0) :
    Calls Eeeg.prog 5 #[.int .u8 a0] w fun e w' => e = .returned (.bool true) ∧ Grown w w' := by
  have hl := bytes.low_even a0 he
  go_enter Eeeg.func5, Eeeg.ntmps5
  go_wp2_with (go_at_call 10; refine (bytes.zzlower_any _ _ (by omega) (by omega)).mono ?_; rintro e w' ⟨rfl, rfl⟩)
  all_goals (go_ret; exact ⟨rfl, Grown.refl _⟩)

set_option maxHeartbeats 400000 in
theorem walk_odd (a0 : Int) (w : World) (h0 : 0 ≤ a0) (h1 : a0 ≤ 255) (he : a0 / 32 % 2 = 1) :
    Calls Eeeg.prog 5 #[.int .u8 a0] w fun e w' => e = .returned (.bool true) ∧ Grown w w' := by
  have hl := bytes.low_odd a0 he
  go_enter Eeeg.func5, Eeeg.ntmps5
  go_wp2_with (go_at_call 10; refine (bytes.zzlower_any _ _ (by omega) (by omega)).mono ?_; rintro e w' ⟨rfl, rfl⟩)
  all_goals (go_ret; exact ⟨rfl, Grown.refl _⟩)

theorem walk (a0 : Int) (w0 : (Lit.int .u8 a0).wf = true) (w : World) :
    Calls Eeeg.prog 5 #[.int .u8 a0] w fun e w' => e = .returned (.bool true) ∧ Grown w w' := by
  obtain ⟨h0, h1⟩ := bounds_u8 w0
  by_cases he : a0 / 32 % 2 = 0
  · exact walk_even a0 w h0 h1 he
  · exact walk_odd a0 w h0 h1 (by omega)

/-! ### THE ROW's STEP: WRITTEN OUT: LEAVE IT -/
set_option maxRecDepth 100000 in
theorem lifted (os : Os) (started : os.Started) (H : Type) (enc : TypeId × Value → H) :
    ReturnsInHanded {} Eeeg.checked os 5 .any (Rows.fnLowerClosedFormSpec.pre6 enc Eeeg.prog Eeeg.f5 Rows.fnLowerClosedFormRow.domain false) (Rows.fnLowerClosedFormSpec.post enc Eeeg.prog Eeeg.f5 false true false false) := by
  refine returnsInHanded_of_change (C := Eeeg.checked) own started (by kernel_rfl) Eeeg.func5
    (ChangeSpec.witness6 (enc := enc) (C := Eeeg.checked) false ⟨#[], #[.int .u8 0], []⟩ 8 (by kernel_rfl) (by kernel_rfl) (by kernel_rfl) (by kernel_rfl)) ?_
  intro W base args ds gs before hval0 hW hcnd _
  have hval : ∀ (j : Nat) t v, Eeeg.f5.params[j]? = some t → args[j]? = some v → Value.okWide Eeeg.prog W .any base t v := hval0
  have hW' := hW
  obtain ⟨p, q, hA0, hV, rfl, hfz, hnd⟩ := hW
  have hA : DataW.TrodAll enc Eeeg.prog W 0 (fun _ => true) true Eeeg.f5.params.toList args.toList ds p := hA0
  rw [Eeeg.params5] at hA hval
  obtain ⟨v0, vs0, d0, ds0, p0, q0, hargs, rfl, rfl, h0, r0⟩ := trodAll_cons hA
  obtain ⟨rfl, rfl, rfl⟩ := trodAll_nil r0
  obtain rfl : args = #[v0] := by cases args; simp_all
  obtain ⟨rfl, rfl⟩ := trodVars_none hV
  obtain ⟨a0, rfl, rfl, rfl, w0⟩ := open_int Eeeg.underlying5 (hval 0 5 v0 rfl rfl) h0
  clear hA0 hval0
  simp only [List.append_nil] at hW'
  refine (walk a0 w0 W).mono fun e W' ⟨he, hg⟩ => ?_
  subst he
  exact ⟨_, rfl, post_of_same (pa := []) (pv := []) hW' (fun _ _ _ => (trodAll_cons_mk (shut_bool Eeeg.underlying4 _) trodAll_mk0)) (fun sp _ => (trodAll_cons_mk (shut_int Eeeg.underlying5 w0) trodAll_mk0)) (fun _ _ => rfl) rfl
    (hg.frame _) hg.2.1 (ok_one (by kernel_rfl) rfl (okWide_bool_mk Eeeg.underlying4 _))⟩

theorem over : Rows.fnLowerClosedFormRow.holds Eeeg.pinned (OpenSpec.ofChange Rows.fnLowerClosedFormSpec) :=
  OpenClaim.holds_of_wide 5 Eeeg.f5 rfl rfl rfl rfl rfl rfl rfl ⟨rfl, rfl, rfl, rfl, rfl⟩ rfl rfl rfl rfl rfl (by kernel_rfl) Eeeg.func5 (by kernel_rfl)
    (of_decide_eq_true (by kernel_rfl)) (by unfold Func.isWrapper; first | (rw [if_pos (by decide +kernel)]; kernel_rfl) | (rw [if_neg (by decide +kernel)]; exact ⟨rfl, rfl⟩))
    (fun os started H enc _ => lifted os started H enc)

/-- ████ THE STATEMENT ████ -/
theorem proved : Rows.FnLowerClosedFormSaid :=
  over
end Go.Proofs.Yoeeew.fnLowerClosedForm

namespace Go.Proofs.Yoeeew
theorem fnLowerClosedForm_proved : Rows.FnLowerClosedFormSaid := fnLowerClosedForm.proved
end Go.Proofs.Yoeeew
