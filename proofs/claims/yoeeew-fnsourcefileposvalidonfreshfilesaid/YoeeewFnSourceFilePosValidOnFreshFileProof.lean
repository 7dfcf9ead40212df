/-
  The proof of Rows.FnSourceFilePosValidOnFreshFileSaid over the given shell; the walk is ours.
-/
import Derived.Test.YoeeewRows
import Derived.WalkKit
import Derived.ProofKit
import Derived.OpenShut
import Derived.ShutString
import Derived.Test.YoeeewPosLaw
namespace Go.Proofs.Yoeeew.fnSourceFilePosValidOnFreshFile
open Go.ChangeShapes Go.WideShapes Go.ChangeAt Go.RowKit
open Go.ChangeMaps (open_string shut_string)
set_option linter.unusedVariables false      -- a walk need not use every 'w<i>' (that an integer argument fits its kind)

theorem own : ownKnob Eeeg.prog.godebug = none := by kernel_rfl

/-! ### THE WALK: YoeeewPosLaw. Its world: below the old size nothing has turned -/
theorem walk (a0 : ByteArray) (a1 : Int) (a2 : Int) (w : World) :
    Calls Eeeg.prog 7 #[.string a0, .int .i64 a1, .int .i64 a2] w fun e w' => e = .returned (.bool true) ∧ Below w.heap.size w w' :=
  posn.law_any a0 a1 a2 w

/-! ### THE ROW's STEP: the shell's, but for its last rows: 'post' is given limb by limb, its frame out of 'Below' -/
set_option maxRecDepth 100000 in
theorem lifted (os : Os) (started : os.Started) (H : Type) (enc : TypeId × Value → H) :
    ReturnsInHanded {} Eeeg.checked os 7 .any (Rows.fnSourceFilePosValidOnFreshFileSpec.pre6 enc Eeeg.prog Eeeg.f7 Rows.fnSourceFilePosValidOnFreshFileRow.domain false) (Rows.fnSourceFilePosValidOnFreshFileSpec.post enc Eeeg.prog Eeeg.f7 false true false false) := by
  refine returnsInHanded_of_change (C := Eeeg.checked) own started (by kernel_rfl) Eeeg.func7
    (ChangeSpec.witness6 (enc := enc) (C := Eeeg.checked) false ⟨#[], #[.string ByteArray.empty, .int .i64 0, .int .i64 0], []⟩ 8 (by kernel_rfl) (by kernel_rfl) (by kernel_rfl) (by kernel_rfl)) ?_
  intro W base args ds gs before hval0 hW hcnd _
  have hval : ∀ (j : Nat) t v, Eeeg.f7.params[j]? = some t → args[j]? = some v → Value.okWide Eeeg.prog W .any base t v := hval0
  have hW' := hW
  obtain ⟨p, q, hA0, hV, rfl, hfz, hnd⟩ := hW
  have hA : DataW.TrodAll enc Eeeg.prog W 0 (fun _ => true) true Eeeg.f7.params.toList args.toList ds p := hA0
  rw [Eeeg.params7] at hA hval
  obtain ⟨v0, vs0, d0, ds0, p0, q0, hargs, rfl, rfl, h0, r0⟩ := trodAll_cons hA
  obtain ⟨v1, vs1, d1, ds1, p1, q1, rfl, rfl, rfl, h1, r1⟩ := trodAll_cons r0
  obtain ⟨v2, vs2, d2, ds2, p2, q2, rfl, rfl, rfl, h2, r2⟩ := trodAll_cons r1
  obtain ⟨rfl, rfl, rfl⟩ := trodAll_nil r2
  obtain rfl : args = #[v0, v1, v2] := by cases args; simp_all
  obtain ⟨rfl, rfl⟩ := trodVars_none hV
  obtain ⟨a0, rfl, rfl, rfl, w0⟩ := open_string Eeeg.underlying9 (hval 0 9 v0 rfl rfl) h0
  obtain ⟨a1, rfl, rfl, rfl, w1⟩ := open_int Eeeg.underlying3 (hval 1 3 v1 rfl rfl) h1
  obtain ⟨a2, rfl, rfl, rfl, w2⟩ := open_int Eeeg.underlying3 (hval 2 3 v2 rfl rfl) h2
  clear hA0 hval0
  simp only [List.append_nil] at hW'
  refine (walk a0 a1 a2 W).mono fun e W' ⟨he, bel⟩ => ?_
  subst he
  exact ⟨_, rfl, _, _, _, [], [], [], hW', trodAll_mk1 (shut_bool Eeeg.underlying4 _), (trodAll_cons_mk (shut_string Eeeg.underlying9 w0) (trodAll_cons_mk (shut_int Eeeg.underlying3 w1) (trodAll_cons_mk (shut_int Eeeg.underlying3 w2) trodAll_mk0))), rfl, bel.frame _, fun h => by cases h⟩

theorem over : Rows.fnSourceFilePosValidOnFreshFileRow.holds Eeeg.pinned (OpenSpec.ofChange Rows.fnSourceFilePosValidOnFreshFileSpec) :=
  OpenClaim.holds_of_wide 7 Eeeg.f7 rfl rfl rfl rfl rfl rfl rfl ⟨rfl, rfl, rfl, rfl, rfl⟩ rfl rfl rfl rfl rfl (by kernel_rfl) Eeeg.func7 (by kernel_rfl)
    (of_decide_eq_true (by kernel_rfl)) (by unfold Func.isWrapper; first | (rw [if_pos (by decide +kernel)]; kernel_rfl) | (rw [if_neg (by decide +kernel)]; exact ⟨rfl, rfl⟩))
    (fun os started H enc _ => lifted os started H enc)

/-- ████ THE STATEMENT ████ -/
theorem proved : Rows.FnSourceFilePosValidOnFreshFileSaid :=
  over
end Go.Proofs.Yoeeew.fnSourceFilePosValidOnFreshFile

namespace Go.Proofs.Yoeeew
theorem fnSourceFilePosValidOnFreshFile_proved : Rows.FnSourceFilePosValidOnFreshFileSaid := fnSourceFilePosValidOnFreshFile.proved
end Go.Proofs.Yoeeew
