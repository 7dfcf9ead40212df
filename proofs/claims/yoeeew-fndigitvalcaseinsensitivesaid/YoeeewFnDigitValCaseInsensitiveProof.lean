/-
  The proof of Rows.FnDigitValCaseInsensitiveSaid over the given shell; the walk is ours.
-/
import Derived.Test.YoeeewRows
import Derived.WalkKit
import Derived.ProofKit
import Derived.OpenShut
import Derived.ShutString
import Derived.Test.YoeeewLower
import Derived.Test.YoeeewDigit
namespace Go.Proofs.Yoeeew.fnDigitValCaseInsensitive
open Go.ChangeShapes Go.WideShapes Go.ChangeAt Go.RowKit
open Go.ChangeMaps (open_string shut_string)
set_option linter.unusedVariables false      -- a walk need not use every 'w<i>' (that an integer argument fits its kind)

theorem own : ownKnob Eeeg.prog.godebug = none := by kernel_rfl

/-! ### THE PLAIN LAW: from 32 on, lower turns no digit's value -/
theorem dv_low (c : Int) (h : 32 ≤ c) (h1 : c ≤ 255) : digit.dv (bytes.low c) = digit.dv c := by
  unfold bytes.low digit.dv
  (repeat' split) <;> omega

theorem low_bd (c : Int) (h0 : 0 ≤ c) (h1 : c ≤ 255) : 0 ≤ bytes.low c ∧ bytes.low c ≤ 255 := by
  unfold bytes.low
  split <;> omega

/-! ### THE WALK: one for c < 32, one for the others; the callees by their contracts -/
set_option maxHeartbeats 400000 in
theorem walk_big (a0 : Int) (w : World) (h0 : 32 ≤ a0) (h1 : a0 ≤ 255) :
    Calls Eeeg.prog 4 #[.int .u8 a0] w fun e w' => e = .returned (.bool true) ∧ Grown w w' := by
  obtain ⟨d0, d1⟩ := digit.dv_bd a0
  obtain ⟨l0, l1⟩ := low_bd a0 (by omega) h1
  have hdl := dv_low a0 h0 h1
  go_enter Eeeg.func4, Eeeg.ntmps4
  go_wp2_with (first | (go_at_call 8; refine (digit.zzdigitVal_any _ _ (by omega) (by omega)).mono ?_; rintro e w' ⟨rfl, rfl⟩) | (go_at_call 10; refine (bytes.zzlower_any _ _ (by omega) (by omega)).mono ?_; rintro e w' ⟨rfl, rfl⟩))
  go_ret
  exact ⟨by simp, Grown.refl _⟩

set_option maxHeartbeats 400000 in
theorem walk_low (a0 : Int) (w : World) (h0 : a0 < 32) :
    Calls Eeeg.prog 4 #[.int .u8 a0] w fun e w' => e = .returned (.bool true) ∧ Grown w w' := by
  go_enter Eeeg.func4, Eeeg.ntmps4
  go_wp2
  go_ret
  exact ⟨rfl, Grown.refl _⟩

theorem walk (a0 : Int) (w0 : (Lit.int .u8 a0).wf = true) (w : World) :
    Calls Eeeg.prog 4 #[.int .u8 a0] w fun e w' => e = .returned (.bool true) ∧ Grown w w' := by
  obtain ⟨_, h1⟩ := bounds_u8 w0
  by_cases h : a0 < 32
  · exact walk_low a0 w h
  · exact walk_big a0 w (by omega) h1

/-! ### THE ROW's STEP: WRITTEN OUT: LEAVE IT -/
set_option maxRecDepth 100000 in
theorem lifted (os : Os) (started : os.Started) (H : Type) (enc : TypeId × Value → H) :
    ReturnsInHanded {} Eeeg.checked os 4 .any (Rows.fnDigitValCaseInsensitiveSpec.pre6 enc Eeeg.prog Eeeg.f4 Rows.fnDigitValCaseInsensitiveRow.domain false) (Rows.fnDigitValCaseInsensitiveSpec.post enc Eeeg.prog Eeeg.f4 false true false false) := by
  refine returnsInHanded_of_change (C := Eeeg.checked) own started (by kernel_rfl) Eeeg.func4
    (ChangeSpec.witness6 (enc := enc) (C := Eeeg.checked) false ⟨#[], #[.int .u8 0], []⟩ 8 (by kernel_rfl) (by kernel_rfl) (by kernel_rfl) (by kernel_rfl)) ?_
  intro W base args ds gs before hval0 hW hcnd _
  have hval : ∀ (j : Nat) t v, Eeeg.f4.params[j]? = some t → args[j]? = some v → Value.okWide Eeeg.prog W .any base t v := hval0
  have hW' := hW
  obtain ⟨p, q, hA0, hV, rfl, hfz, hnd⟩ := hW
  have hA : DataW.TrodAll enc Eeeg.prog W 0 (fun _ => true) true Eeeg.f4.params.toList args.toList ds p := hA0
  rw [Eeeg.params4] at hA hval
  obtain ⟨v0, vs0, d0, ds0, p0, q0, hargs, rfl, rfl, h0, r0⟩ := trodAll_cons hA
  obtain ⟨rfl, rfl, rfl⟩ := trodAll_nil r0
  obtain rfl : args = #[v0] := by cases args; simp_all
  obtain ⟨rfl, rfl⟩ := trodVars_none hV
  obtain ⟨a0, rfl, rfl, rfl, w0⟩ := open_int Eeeg.underlying5 (hval 0 5 v0 rfl rfl) h0
  clear hA0 hval0
  simp only [List.append_nil] at hW'
  refine (walk a0 w0 W).mono fun e W' ⟨he, hg⟩ => ?_
  subst he
  exact ⟨_, rfl, post_of_same (pa := []) (pv := []) hW' (fun _ _ _ => (trodAll_cons_mk (shut_bool Eeeg.underlying4 _) trodAll_mk0)) (fun sp _ => (trodAll_cons_mk (shut_int Eeeg.underlying5 w0) trodAll_mk0)) (fun _ _ => rfl) rfl
    (hg.frame _) hg.2.1 (ok_one (by kernel_rfl) rfl (okWide_bool_mk Eeeg.underlying4 _))⟩

theorem over : Rows.fnDigitValCaseInsensitiveRow.holds Eeeg.pinned (OpenSpec.ofChange Rows.fnDigitValCaseInsensitiveSpec) :=
  OpenClaim.holds_of_wide 4 Eeeg.f4 rfl rfl rfl rfl rfl rfl rfl ⟨rfl, rfl, rfl, rfl, rfl⟩ rfl rfl rfl rfl rfl (by kernel_rfl) Eeeg.func4 (by kernel_rfl)
    (of_decide_eq_true (by kernel_rfl)) (by unfold Func.isWrapper; first | (rw [if_pos (by decide +kernel)]; kernel_rfl) | (rw [if_neg (by decide +kernel)]; exact ⟨rfl, rfl⟩))
    (fun os started H enc _ => lifted os started H enc)

/-- ████ THE STATEMENT ████ -/
theorem proved : Rows.FnDigitValCaseInsensitiveSaid :=
  over
end Go.Proofs.Yoeeew.fnDigitValCaseInsensitive

namespace Go.Proofs.Yoeeew
theorem fnDigitValCaseInsensitive_proved : Rows.FnDigitValCaseInsensitiveSaid := fnDigitValCaseInsensitive.proved
end Go.Proofs.Yoeeew
