/-
  The byte functions on the roads of seat oeee: lower, ZZlower: one contract each, and the plain facts on 'c | 32'.
-/
import Derived.Test.YoeeewRows
import Derived.WalkKit
import Derived.Laws.BitsAllLaws
namespace Go.Proofs.Yoeeew.bytes
open Go.RowKit

/-- What lower answers: 32 more in an even block of 32, else the byte itself. -/
def low (c : Int) : Int := if c / 32 % 2 = 0 then c + 32 else c

theorem or_table : ∀ n : Fin 256, (n.val ||| 32) = if n.val / 32 % 2 = 0 then n.val + 32 else n.val := by decide +kernel

theorem or_low (c : Int) (h0 : 0 ≤ c) (h1 : c ≤ 255) : bits .or .u8 c 32 = low c := by
  rw [u8_or c 32 h0 (by omega) (by omega) (by omega)]
  have h := or_table ⟨c.toNat, by omega⟩
  simp only at h
  have e : (32 : Int).toNat = 32 := rfl
  rw [e, h]
  unfold low
  split <;> split <;> omega

theorem low_even (c : Int) (h : c / 32 % 2 = 0) : low c = c + 32 := by unfold low; rw [if_pos h]
theorem low_odd (c : Int) (h : c / 32 % 2 = 1) : low c = c := by unfold low; rw [if_neg (by omega)]

set_option maxHeartbeats 400000 in
theorem lower_any (c : Int) (w : World) (h0 : 0 ≤ c) (h1 : c ≤ 255) :
    Calls Eeeg.prog 18 #[.int .u8 c] w fun e w' => e = .returned (.int .u8 (low c)) ∧ w' = w := by
  have hb := or_low c h0 h1
  go_enter Eeeg.func18, Eeeg.ntmps18
  go_wp2
  go_ret
  exact ⟨rfl, rfl⟩

set_option maxHeartbeats 400000 in
theorem zzlower_any (c : Int) (w : World) (h0 : 0 ≤ c) (h1 : c ≤ 255) :
    Calls Eeeg.prog 10 #[.int .u8 c] w fun e w' => e = .returned (.int .u8 (low c)) ∧ w' = w := by
  go_enter Eeeg.func10, Eeeg.ntmps10
  go_wp2_with (go_at_call 18; refine (lower_any _ _ (by omega) (by omega)).mono ?_; rintro e w' ⟨rfl, rfl⟩)
  go_ret
  exact ⟨rfl, rfl⟩
end Go.Proofs.Yoeeew.bytes
