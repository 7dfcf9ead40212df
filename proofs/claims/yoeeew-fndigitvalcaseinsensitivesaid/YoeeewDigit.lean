/-
  digitVal, ZZdigitVal: one contract each: the value of a hexadecimal digit, else 16.
-/
import Derived.Test.YoeeewRows
import Derived.WalkKit
namespace Go.Proofs.Yoeeew.digit
open Go.RowKit

/-- The value of ch as a hexadecimal digit of either case; 16 for any other. -/
def dv (c : Int) : Int :=
  if 48 ≤ c ∧ c ≤ 57 then c - 48 else if 97 ≤ c ∧ c ≤ 102 then c - 87 else if 65 ≤ c ∧ c ≤ 70 then c - 55 else 16

theorem dv_dec (c : Int) (h1 : 48 ≤ c) (h2 : c ≤ 57) : dv c = c - 48 := by unfold dv; rw [if_pos ⟨h1, h2⟩]
theorem dv_small (c : Int) (h1 : 97 ≤ c) (h2 : c ≤ 102) : dv c = c - 97 + 10 := by
  unfold dv; rw [if_neg (by omega), if_pos ⟨h1, h2⟩]; omega
theorem dv_cap (c : Int) (h1 : 65 ≤ c) (h2 : c ≤ 70) : dv c = c - 65 + 10 := by
  unfold dv; rw [if_neg (by omega), if_neg (by omega), if_pos ⟨h1, h2⟩]; omega
theorem dv_else (c : Int) (h1 : ¬ (48 ≤ c ∧ c ≤ 57)) (h2 : ¬ (97 ≤ c ∧ c ≤ 102)) (h3 : ¬ (65 ≤ c ∧ c ≤ 70)) : dv c = 16 := by
  unfold dv; rw [if_neg h1, if_neg h2, if_neg h3]

theorem dv_bd (c : Int) : 0 ≤ dv c ∧ dv c ≤ 16 := by
  unfold dv; split
  · omega
  · split
    · omega
    · split <;> omega

theorem ret_int {k : IntKind} {a b : Int} (h : a = b) : Ending.returned (.int k a) = .returned (.int k b) := by rw [h]

set_option maxHeartbeats 400000 in
theorem digitVal_any (c : Int) (w : World) (h0 : -2147483648 ≤ c) (h1 : c ≤ 2147483647) :
    Calls Eeeg.prog 17 #[.int .i32 c] w fun e w' => e = .returned (.int .i64 (dv c)) ∧ w' = w := by
  go_enter Eeeg.func17, Eeeg.ntmps17
  go_wp2
  all_goals (go_ret; exact ⟨ret_int (by unfold dv; (repeat' split) <;> omega), rfl⟩)

set_option maxHeartbeats 400000 in
theorem zzdigitVal_any (c : Int) (w : World) (h0 : -2147483648 ≤ c) (h1 : c ≤ 2147483647) :
    Calls Eeeg.prog 8 #[.int .i32 c] w fun e w' => e = .returned (.int .i64 (dv c)) ∧ w' = w := by
  go_enter Eeeg.func8, Eeeg.ntmps8
  go_wp2_with (go_at_call 17; refine (digitVal_any _ _ (by omega) (by omega)).mono ?_; rintro e w' ⟨rfl, rfl⟩)
  go_ret
  exact ⟨rfl, rfl⟩
end Go.Proofs.Yoeeew.digit
