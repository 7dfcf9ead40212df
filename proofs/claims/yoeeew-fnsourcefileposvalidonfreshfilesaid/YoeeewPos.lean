/-
  The functions on the road of FnSourceFilePosValidOnFreshFile: contracts, the leaves first.
-/
import Derived.Test.YoeeewRows
import Derived.WalkKit
import Derived.LoopTactic
import Derived.Deep.QuietTactic
import Derived.BigQuiet
namespace Go.Proofs.Yoeeew.posn
open Go.RowKit

/-- searchInts over the one line start 0, at an offset from 0 on: the answer is 0. -/
theorem searchInts_one (lb cap : Nat) (x : Int) (w : World) (h0 : 0 ≤ x)
    (hc : w.cell? ⟨lb, 0, none⟩ = some (.int .i64 0)) :
    Calls Eeeg.prog 21 #[.slice (some ⟨lb, 0, none⟩) 1 cap, .int .i64 x] w fun e w' => e = .returned (.int .i64 0) ∧ w' = w := by
  go_enter Eeeg.func21, Eeeg.ntmps21
  go_wp2
  go_loop [5, 6] (fun i j => ∃ k : Nat, k ≤ 1 ∧ i = .int .i64 k ∧ j = .int .i64 1) (fun i _ => 1 - (intOf i).toNat)
  case atStart => exact ⟨0, by omega, rfl, rfl⟩
  case round =>
    obtain ⟨k, hk, rfl, rfl⟩ := hrel
    by_cases hlt : k = 0
    · subst hlt
      go_wp2
      go_round
      case rel => exact ⟨1, by omega, rfl, rfl⟩
      case measure => simp [intOf]
    · have hk1 : k = 1 := by omega
      subst hk1
      go_wp2
      go_ret
      exact ⟨rfl, rfl⟩

/-- FileSetPos -/
theorem fileSetPos_any (fb : Nat) (size off : Int) (w : World) (h0 : 0 ≤ off) (h1 : off ≤ size) (hs : size ≤ 65536)
    (c2 : w.cell? ⟨fb, 2, none⟩ = some (.int .i64 1)) (c3 : w.cell? ⟨fb, 3, none⟩ = some (.int .i64 size)) :
    Calls Eeeg.prog 14 #[.pointer (some ⟨fb, 0, none⟩), .int .i64 off] w fun e w' => e = .returned (.int .i64 (1 + off)) ∧ w' = w := by
  go_enter Eeeg.func14, Eeeg.ntmps14
  go_wp2
  go_ret
  exact ⟨rfl, rfl⟩

/-- IsValid -/
theorem isValid_any (s : ByteArray) (o l c : Int) (w : World) :
    Calls Eeeg.prog 16 #[.agg #[.string s, .int .i64 o, .int .i64 l, .int .i64 c]] w fun e w' => e = .returned (.bool (decide (0 < l))) ∧ w' = w.alloc (.cells #[.string s, .int .i64 o, .int .i64 l, .int .i64 c] 34) := by
  go_enter Eeeg.func16, Eeeg.ntmps16
  go_wp2
  go_ret
  exact ⟨rfl, rfl⟩

/-- NewFileSet -/
theorem newFileSet_any (w : World) :
    Calls Eeeg.prog 12 #[] w fun e w' => e = .returned (.pointer (some ⟨w.heap.size, 0, none⟩)) ∧ w' = w.alloc (.cells #[.int .i64 1, .slice none 0 0, .pointer none] 39) := by
  go_enter Eeeg.func12, Eeeg.ntmps12
  go_wp2
  go_ret
  exact ⟨rfl, rfl⟩

theorem zzbytes_any (s : ByteArray) (a b : Int) (w : World) (h : s.size ≤ 1048576) :
    Calls Eeeg.prog 11 #[.string s, .int .i64 a, .int .i64 b] w fun e w' => e = .returned (.bool true) ∧ w' = w := by
  go_enter Eeeg.func11, Eeeg.ntmps11
  go_wp2
  go_ret
  exact ⟨rfl, rfl⟩
theorem zzbytes_big (s : ByteArray) (a b : Int) (w : World) (h : 1048576 < s.size) :
    Calls Eeeg.prog 11 #[.string s, .int .i64 a, .int .i64 b] w fun e w' => e = .returned (.bool false) ∧ w' = w := by
  go_enter Eeeg.func11, Eeeg.ntmps11
  go_wp2
  go_ret
  exact ⟨rfl, rfl⟩
end Go.Proofs.Yoeeew.posn
