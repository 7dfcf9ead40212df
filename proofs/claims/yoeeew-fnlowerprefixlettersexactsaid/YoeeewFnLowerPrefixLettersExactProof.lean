/-
  The proof of Rows.FnLowerPrefixLettersExactSaid over the given shell; the walk is ours.
-/
import Derived.Test.YoeeewRows
import Derived.WalkKit
import Derived.ProofKit
import Derived.OpenShut
import Derived.ShutString
import Derived.Test.YoeeewLower
namespace Go.Proofs.Yoeeew.fnLowerPrefixLettersExact
open Go.ChangeShapes Go.WideShapes Go.ChangeAt Go.RowKit
open Go.ChangeMaps (open_string shut_string)
set_option linter.unusedVariables false      -- a walk need not use every 'w<i>' (that an integer argument fits its kind)

theorem own : ownKnob Eeeg.prog.godebug = none := by kernel_rfl

/-! ### THE WALK: one walk a letter, one for the other bytes of each block; ZZlower by its contract -/
set_option maxHeartbeats 400000 in
theorem walk_even (a0 : Int) (w : World) (h0 : 0 ≤ a0) (h1 : a0 ≤ 255) (he : a0 / 32 % 2 = 0)
    (c1 : (a0 == 120) = false) (c2 : (a0 == 88) = false) (c3 : (a0 == 98) = false) (c4 : (a0 == 66) = false) (c5 : (a0 == 111) = false) (c6 : (a0 == 79) = false)
    (d1 : (a0 + 32 == 120) = false) (d2 : (a0 + 32 == 98) = false) (d3 : (a0 + 32 == 111) = false) :
    Calls Eeeg.prog 6 #[.int .u8 a0] w fun e w' => e = .returned (.bool true) ∧ Grown w w' := by
  have hl := bytes.low_even a0 he
  have hl2 := bytes.low_odd (a0 + 32) (by omega)
  go_enter Eeeg.func6, Eeeg.ntmps6
  go_wp2_with (go_at_call 10; refine (bytes.zzlower_any _ _ (by omega) (by omega)).mono ?_; rintro e w' ⟨rfl, rfl⟩)
  go_ret
  exact ⟨rfl, Grown.refl _⟩

set_option maxHeartbeats 400000 in
theorem walk_odd (a0 : Int) (w : World) (h0 : 0 ≤ a0) (h1 : a0 ≤ 255) (he : a0 / 32 % 2 = 1)
    (c1 : (a0 == 120) = false) (c2 : (a0 == 88) = false) (c3 : (a0 == 98) = false) (c4 : (a0 == 66) = false) (c5 : (a0 == 111) = false) (c6 : (a0 == 79) = false) :
    Calls Eeeg.prog 6 #[.int .u8 a0] w fun e w' => e = .returned (.bool true) ∧ Grown w w' := by
  have hl := bytes.low_odd a0 he
  go_enter Eeeg.func6, Eeeg.ntmps6
  go_wp2_with (go_at_call 10; refine (bytes.zzlower_any _ _ (by omega) (by omega)).mono ?_; rintro e w' ⟨rfl, rfl⟩)
  go_ret
  exact ⟨rfl, Grown.refl _⟩

set_option maxHeartbeats 400000 in
theorem walk_letter (a0 : Int) (w : World) (hc : a0 = 120 ∨ a0 = 88 ∨ a0 = 98 ∨ a0 = 66 ∨ a0 = 111 ∨ a0 = 79) :
    Calls Eeeg.prog 6 #[.int .u8 a0] w fun e w' => e = .returned (.bool true) ∧ Grown w w' := by
  have e1 := bytes.low_odd 120 (by decide)
  have e2 : bytes.low 88 = 120 := bytes.low_even 88 (by decide)
  have e3 := bytes.low_odd 98 (by decide)
  have e4 : bytes.low 66 = 98 := bytes.low_even 66 (by decide)
  have e5 := bytes.low_odd 111 (by decide)
  have e6 : bytes.low 79 = 111 := bytes.low_even 79 (by decide)
  rcases hc with rfl | rfl | rfl | rfl | rfl | rfl
  all_goals
    go_enter Eeeg.func6, Eeeg.ntmps6
    go_wp2_with (go_at_call 10; refine (bytes.zzlower_any _ _ (by omega) (by omega)).mono ?_; rintro e w' ⟨rfl, rfl⟩)
    go_ret
    exact ⟨rfl, Grown.refl _⟩

theorem walk (a0 : Int) (w0 : (Lit.int .u8 a0).wf = true) (w : World) :
    Calls Eeeg.prog 6 #[.int .u8 a0] w fun e w' => e = .returned (.bool true) ∧ Grown w w' := by
  obtain ⟨h0, h1⟩ := bounds_u8 w0
  by_cases hc : a0 = 120 ∨ a0 = 88 ∨ a0 = 98 ∨ a0 = 66 ∨ a0 = 111 ∨ a0 = 79
  · exact walk_letter a0 w hc
  · have c1 : (a0 == 120) = false := beq_eq_false_iff_ne.2 (by omega)
    have c2 : (a0 == 88) = false := beq_eq_false_iff_ne.2 (by omega)
    have c3 : (a0 == 98) = false := beq_eq_false_iff_ne.2 (by omega)
    have c4 : (a0 == 66) = false := beq_eq_false_iff_ne.2 (by omega)
    have c5 : (a0 == 111) = false := beq_eq_false_iff_ne.2 (by omega)
    have c6 : (a0 == 79) = false := beq_eq_false_iff_ne.2 (by omega)
    by_cases he : a0 / 32 % 2 = 0
    · exact walk_even a0 w h0 h1 he c1 c2 c3 c4 c5 c6 (beq_eq_false_iff_ne.2 (by omega)) (beq_eq_false_iff_ne.2 (by omega)) (beq_eq_false_iff_ne.2 (by omega))
    · exact walk_odd a0 w h0 h1 (by omega) c1 c2 c3 c4 c5 c6

/-! ### THE ROW's STEP: WRITTEN OUT: LEAVE IT -/
set_option maxRecDepth 100000 in
theorem lifted (os : Os) (started : os.Started) (H : Type) (enc : TypeId × Value → H) :
    ReturnsInHanded {} Eeeg.checked os 6 .any (Rows.fnLowerPrefixLettersExactSpec.pre6 enc Eeeg.prog Eeeg.f6 Rows.fnLowerPrefixLettersExactRow.domain false) (Rows.fnLowerPrefixLettersExactSpec.post enc Eeeg.prog Eeeg.f6 false true false false) := by
  refine returnsInHanded_of_change (C := Eeeg.checked) own started (by kernel_rfl) Eeeg.func6
    (ChangeSpec.witness6 (enc := enc) (C := Eeeg.checked) false ⟨#[], #[.int .u8 0], []⟩ 8 (by kernel_rfl) (by kernel_rfl) (by kernel_rfl) (by kernel_rfl)) ?_
  intro W base args ds gs before hval0 hW hcnd _
  have hval : ∀ (j : Nat) t v, Eeeg.f6.params[j]? = some t → args[j]? = some v → Value.okWide Eeeg.prog W .any base t v := hval0
  have hW' := hW
  obtain ⟨p, q, hA0, hV, rfl, hfz, hnd⟩ := hW
  have hA : DataW.TrodAll enc Eeeg.prog W 0 (fun _ => true) true Eeeg.f6.params.toList args.toList ds p := hA0
  rw [Eeeg.params6] at hA hval
  obtain ⟨v0, vs0, d0, ds0, p0, q0, hargs, rfl, rfl, h0, r0⟩ := trodAll_cons hA
  obtain ⟨rfl, rfl, rfl⟩ := trodAll_nil r0
  obtain rfl : args = #[v0] := by cases args; simp_all
  obtain ⟨rfl, rfl⟩ := trodVars_none hV
  obtain ⟨a0, rfl, rfl, rfl, w0⟩ := open_int Eeeg.underlying5 (hval 0 5 v0 rfl rfl) h0
  clear hA0 hval0
  simp only [List.append_nil] at hW'
  refine (walk a0 w0 W).mono fun e W' ⟨he, hg⟩ => ?_
  subst he
  exact ⟨_, rfl, post_of_same (pa := []) (pv := []) hW' (fun _ _ _ => (trodAll_cons_mk (shut_bool Eeeg.underlying4 _) trodAll_mk0)) (fun sp _ => (trodAll_cons_mk (shut_int Eeeg.underlying5 w0) trodAll_mk0)) (fun _ _ => rfl) rfl
    (hg.frame _) hg.2.1 (ok_one (by kernel_rfl) rfl (okWide_bool_mk Eeeg.underlying4 _))⟩

theorem over : Rows.fnLowerPrefixLettersExactRow.holds Eeeg.pinned (OpenSpec.ofChange Rows.fnLowerPrefixLettersExactSpec) :=
  OpenClaim.holds_of_wide 6 Eeeg.f6 rfl rfl rfl rfl rfl rfl rfl ⟨rfl, rfl, rfl, rfl, rfl⟩ rfl rfl rfl rfl rfl (by kernel_rfl) Eeeg.func6 (by kernel_rfl)
    (of_decide_eq_true (by kernel_rfl)) (by unfold Func.isWrapper; first | (rw [if_pos (by decide +kernel)]; kernel_rfl) | (rw [if_neg (by decide +kernel)]; exact ⟨rfl, rfl⟩))
    (fun os started H enc _ => lifted os started H enc)

/-- ████ THE STATEMENT ████ -/
theorem proved : Rows.FnLowerPrefixLettersExactSaid :=
  over
end Go.Proofs.Yoeeew.fnLowerPrefixLettersExact

namespace Go.Proofs.Yoeeew
theorem fnLowerPrefixLettersExact_proved : Rows.FnLowerPrefixLettersExactSaid := fnLowerPrefixLettersExact.proved
end Go.Proofs.Yoeeew
