/-
  modelDigitVal: its two loops over the constant tables answer dv.
-/
import Derived.Test.YoeeewDigit
import Derived.LoopTactic
namespace Go.Proofs.Yoeeew.digit
open Go.RowKit

/-- The k-th sign of the first table. -/
def tab1 (k : Nat) : Int := if k < 10 then 48 + k else 87 + k
/-- No sign of the first k of the first table is c. -/
def miss1 (c : Int) (k : Nat) : Prop := ∀ j : Nat, j < k → tab1 j ≠ c
/-- No sign of the first k of the second table is c. -/
def miss2 (c : Int) (k : Nat) : Prop := ∀ j : Nat, j < k → 65 + (j : Int) ≠ c

theorem table1 : ∀ k : Fin 16, wrap32 ↑((⟨#[48, 49, 50, 51, 52, 53, 54, 55, 56, 57, 97, 98, 99, 100, 101, 102]⟩ : ByteArray)[k.val]'k.isLt).toNat = tab1 k.val := by decide +kernel
theorem table2 : ∀ k : Fin 6, wrap32 ↑((⟨#[65, 66, 67, 68, 69, 70]⟩ : ByteArray)[k.val]'k.isLt).toNat = 65 + (k.val : Int) := by decide +kernel

theorem at1 (k : Nat) (h : k < 16) (h' : k < (⟨#[48, 49, 50, 51, 52, 53, 54, 55, 56, 57, 97, 98, 99, 100, 101, 102]⟩ : ByteArray).size) :
    wrap32 ↑((⟨#[48, 49, 50, 51, 52, 53, 54, 55, 56, 57, 97, 98, 99, 100, 101, 102]⟩ : ByteArray)[k]'h').toNat = tab1 k := table1 ⟨k, h⟩
theorem at2 (k : Nat) (h : k < 6) (h' : k < (⟨#[65, 66, 67, 68, 69, 70]⟩ : ByteArray).size) :
    wrap32 ↑((⟨#[65, 66, 67, 68, 69, 70]⟩ : ByteArray)[k]'h').toNat = 65 + (k : Int) := table2 ⟨k, h⟩

theorem hit_of1 {c : Int} {k : Nat} (hk : k < 16) {h' : k < (⟨#[48, 49, 50, 51, 52, 53, 54, 55, 56, 57, 97, 98, 99, 100, 101, 102]⟩ : ByteArray).size} (h : (wrap32 ↑((⟨#[48, 49, 50, 51, 52, 53, 54, 55, 56, 57, 97, 98, 99, 100, 101, 102]⟩ : ByteArray)[k]'h').toNat == c) = true) : tab1 k = c := by
  rw [at1 k hk h'] at h; exact eq_of_beq h
theorem miss_of1 {c : Int} {k : Nat} (hk : k < 16) {h' : k < (⟨#[48, 49, 50, 51, 52, 53, 54, 55, 56, 57, 97, 98, 99, 100, 101, 102]⟩ : ByteArray).size} (h : (wrap32 ↑((⟨#[48, 49, 50, 51, 52, 53, 54, 55, 56, 57, 97, 98, 99, 100, 101, 102]⟩ : ByteArray)[k]'h').toNat == c) = false) : tab1 k ≠ c := by
  rw [at1 k hk h'] at h; exact beq_eq_false_iff_ne.1 h
theorem hit_of2 {c : Int} {k : Nat} (hk : k < 6) {h' : k < (⟨#[65, 66, 67, 68, 69, 70]⟩ : ByteArray).size} (h : (wrap32 ↑((⟨#[65, 66, 67, 68, 69, 70]⟩ : ByteArray)[k]'h').toNat == c) = true) : 65 + (k : Int) = c := by
  rw [at2 k hk h'] at h; exact eq_of_beq h
theorem miss_of2 {c : Int} {k : Nat} (hk : k < 6) {h' : k < (⟨#[65, 66, 67, 68, 69, 70]⟩ : ByteArray).size} (h : (wrap32 ↑((⟨#[65, 66, 67, 68, 69, 70]⟩ : ByteArray)[k]'h').toNat == c) = false) : 65 + (k : Int) ≠ c := by
  rw [at2 k hk h'] at h; exact beq_eq_false_iff_ne.1 h

theorem miss1_succ {c : Int} {k : Nat} (h : miss1 c k) (hk : tab1 k ≠ c) : miss1 c (k + 1) := by
  intro j hj
  by_cases e : j = k
  · subst e; exact hk
  · exact h j (by omega)
theorem miss2_succ {c : Int} {k : Nat} (h : miss2 c k) (hk : 65 + (k : Int) ≠ c) : miss2 c (k + 1) := by
  intro j hj
  by_cases e : j = k
  · subst e; exact hk
  · exact h j (by omega)

theorem dv_hit1 {c : Int} {k : Nat} (hk : k < 16) (h : tab1 k = c) : (k : Int) = dv c := by
  unfold tab1 at h
  unfold dv
  split at h <;> (repeat' split) <;> omega
theorem dv_hit2 {c : Int} {k : Nat} (hk : k < 6) (h : 65 + (k : Int) = c) : 10 + (k : Int) = dv c := by
  unfold dv
  (repeat' split) <;> omega
theorem dv_miss {c : Int} (h1 : miss1 c 16) (h2 : miss2 c 6) : 16 = dv c := by
  rw [dv_else c ?_ ?_ ?_]
  · intro hc
    refine h1 (c - 48).toNat (by omega) ?_
    unfold tab1; rw [if_pos (by omega)]; omega
  · intro hc
    refine h1 (c - 87).toNat (by omega) ?_
    unfold tab1; rw [if_neg (by omega)]; omega
  · intro hc
    exact h2 (c - 65).toNat (by omega) (by omega)

set_option maxHeartbeats 400000 in
theorem model_any (c : Int) (w : World) :
    Calls Eeeg.prog 9 #[.int .i32 c] w fun e w' => e = .returned (.int .i64 (dv c)) ∧ w' = w := by
  go_enter Eeeg.func9, Eeeg.ntmps9
  go_wp2
  go_loop [3] (fun i => ∃ k : Nat, k ≤ 16 ∧ i = .int .i64 k ∧ miss1 c k) (fun i => 16 - (intOf i).toNat)
  case atStart => exact ⟨0, by omega, rfl, fun j hj => absurd hj (by omega)⟩
  case round =>
    obtain ⟨k, hk, rfl, hm⟩ := hrel
    by_cases hlt : k < 16
    · go_wp2
      · go_ret
        exact ⟨ret_int (dv_hit1 hlt (hit_of1 hlt (by assumption))), rfl⟩
      · go_round
        case rel =>
          exact ⟨k + 1, by omega, by go_num, miss1_succ hm (miss_of1 hlt (by assumption))⟩
        case measure => simp [intOf]; omega
    · have hk16 : k = 16 := by omega
      subst hk16
      clear hlt hk
      go_wp2
      go_loop [4] (fun i => ∃ k : Nat, k ≤ 6 ∧ i = .int .i64 k ∧ miss2 c k) (fun i => 6 - (intOf i).toNat)
      case atStart => exact ⟨0, by omega, rfl, fun j hj => absurd hj (by omega)⟩
      case round =>
        obtain ⟨k, hk, rfl, hm2⟩ := hrel
        by_cases hlt : k < 6
        · go_wp2
          · go_ret
            exact ⟨ret_int (dv_hit2 hlt (hit_of2 hlt (by assumption))), rfl⟩
          · go_round
            case rel =>
              exact ⟨k + 1, by omega, by go_num, miss2_succ hm2 (miss_of2 hlt (by assumption))⟩
            case measure => simp [intOf]; omega
        · have hk6 : k = 6 := by omega
          subst hk6
          go_wp2
          go_ret
          exact ⟨ret_int (dv_miss hm hm2), rfl⟩
end Go.Proofs.Yoeeew.digit
