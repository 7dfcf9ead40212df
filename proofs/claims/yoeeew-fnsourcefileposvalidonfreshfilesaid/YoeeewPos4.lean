/-
  position and Position on a file with the one line start 0.
-/
import Derived.Test.YoeeewPos2
import Derived.WalkSmall
namespace Go.Proofs.Yoeeew.posn
open Go.RowKit

set_option maxHeartbeats 400000 in
theorem position_any (fb lb : Nat) (name : ByteArray) (p : Int) (w : World) (h0 : 1 ≤ p) (hp : p ≤ 65537) (hfb : fb < w.heap.size) (hlb : lb < w.heap.size)
    (c1 : w.cell? ⟨fb, 1, none⟩ = some (.string name)) (c2 : w.cell? ⟨fb, 2, none⟩ = some (.int .i64 1))
    (c4 : w.cell? ⟨fb, 4, none⟩ = some (.slice (some ⟨lb, 0, none⟩) 1 1)) (hc : w.cell? ⟨lb, 0, none⟩ = some (.int .i64 0)) :
    Calls Eeeg.prog 19 #[.pointer (some ⟨fb, 0, none⟩), .int .i64 p] w fun e w' =>
      e = .returned (.agg #[.string name, .int .i64 (p - 1), .int .i64 1, .int .i64 p]) ∧ Below w.heap.size w w' := by
  go_enter Eeeg.func19, Eeeg.ntmps19
  go_wp2_with fail
  refine (unpack_any fb lb 1 name (p - 1) _ (by omega) (by omega) (by go_simp) (by go_simp) (by go_simp)).mono ?_
  rintro e w' ⟨rfl, nq, rfl⟩
  go_wp2
  refine bodyPost_ret (v := .agg #[.string name, .int .i64 (p - 1), .int .i64 1, .int .i64 p]) (by simp [results, Eeeg.results19, go_sem]) rfl ⟨rfl, ?_⟩
  exact (((below_drewN ((Below.refl _ _).alloc (Nat.le_refl _) _) nq).setCell (Nat.le_refl _) _).setCell (Nat.le_refl _) _).setCell (Nat.le_refl _) _

set_option maxHeartbeats 400000 in
theorem position_zero (fb : Nat) (w : World) :
    Calls Eeeg.prog 15 #[.pointer (some ⟨fb, 0, none⟩), .int .i64 0] w fun e w' =>
      e = .returned (.agg #[.string ⟨#[]⟩, .int .i64 0, .int .i64 0, .int .i64 0]) ∧ Below w.heap.size w w' := by
  go_enter Eeeg.func15, Eeeg.ntmps15
  go_wp2_with fail
  exact bodyPost_ret (v := .agg #[.string ⟨#[]⟩, .int .i64 0, .int .i64 0, .int .i64 0]) (by simp [results, Eeeg.results15, go_sem]) rfl ⟨rfl, (Below.refl _ _).alloc (Nat.le_refl _) _⟩

set_option maxHeartbeats 400000 in
theorem positionOf_any (fb lb : Nat) (name : ByteArray) (size p : Int) (w : World) (h0 : 1 ≤ p) (hp : p ≤ 1 + size) (hs : size ≤ 65536) (hfb : fb < w.heap.size) (hlb : lb < w.heap.size)
    (c1 : w.cell? ⟨fb, 1, none⟩ = some (.string name)) (c2 : w.cell? ⟨fb, 2, none⟩ = some (.int .i64 1)) (c3 : w.cell? ⟨fb, 3, none⟩ = some (.int .i64 size))
    (c4 : w.cell? ⟨fb, 4, none⟩ = some (.slice (some ⟨lb, 0, none⟩) 1 1)) (hc : w.cell? ⟨lb, 0, none⟩ = some (.int .i64 0)) :
    Calls Eeeg.prog 15 #[.pointer (some ⟨fb, 0, none⟩), .int .i64 p] w fun e w' =>
      e = .returned (.agg #[.string name, .int .i64 (p - 1), .int .i64 1, .int .i64 p]) ∧ Below w.heap.size w w' := by
  have hd : decide (p < 1) = false := by simp; omega
  have hn : (p != 0) = true := by rw [bne_iff_ne]; omega
  go_enter Eeeg.func15, Eeeg.ntmps15
  go_wp2_with fail
  go_quiet (fail)
  go_wp2_with fail
  refine (position_any fb lb name p _ (by omega) (by omega) (by simp; omega) (by simp; omega) (by go_simp) (by go_simp) (by go_simp) (by go_simp)).mono ?_
  rintro e w2 ⟨rfl, hb2⟩
  have e0 : w2.cell? ⟨w.heap.size, 0, none⟩ = some (.string ⟨#[]⟩) := (hb2.cell (p := ⟨w.heap.size, 0, none⟩) (by simp)).trans (by go_simp)
  have e1 : w2.cell? ⟨w.heap.size, 1, none⟩ = some (.int .i64 0) := (hb2.cell (p := ⟨w.heap.size, 1, none⟩) (by simp)).trans (by go_simp)
  have e2 : w2.cell? ⟨w.heap.size, 2, none⟩ = some (.int .i64 0) := (hb2.cell (p := ⟨w.heap.size, 2, none⟩) (by simp)).trans (by go_simp)
  have e3 : w2.cell? ⟨w.heap.size, 3, none⟩ = some (.int .i64 0) := (hb2.cell (p := ⟨w.heap.size, 3, none⟩) (by simp)).trans (by go_simp)
  have z0 : w2.frozen? ⟨w.heap.size, 0, none⟩ = false := (hb2.frozen (p := ⟨w.heap.size, 0, none⟩) (by simp)).trans (by go_simp)
  have z1 : w2.frozen? ⟨w.heap.size, 1, none⟩ = false := (hb2.frozen (p := ⟨w.heap.size, 1, none⟩) (by simp)).trans (by go_simp)
  have z2 : w2.frozen? ⟨w.heap.size, 2, none⟩ = false := (hb2.frozen (p := ⟨w.heap.size, 2, none⟩) (by simp)).trans (by go_simp)
  have z3 : w2.frozen? ⟨w.heap.size, 3, none⟩ = false := (hb2.frozen (p := ⟨w.heap.size, 3, none⟩) (by simp)).trans (by go_simp)
  have hz : w.heap.size < w2.heap.size := by have := hb2.size; simp at this; omega
  have hb3 : Below w.heap.size w w2 := (below_drewN ((Below.refl _ _).alloc (Nat.le_refl _) _) nq).trans (hb2.mono (by simp))
  clear hb2
  go_wp2
  refine bodyPost_ret (v := .agg #[.string name, .int .i64 (p - 1), .int .i64 1, .int .i64 p]) (by simp [results, Eeeg.results15, go_sem, e0, e1, e2, e3]) rfl ⟨rfl, ?_⟩
  exact (((hb3.setCell (Nat.le_refl _) _).setCell (Nat.le_refl _) _).setCell (Nat.le_refl _) _).setCell (Nat.le_refl _) _

/-- Position at the offset off of the file: the answer as the law reads it. -/
theorem positionOf_off (fb lb : Nat) (name : ByteArray) (size off : Int) (w : World) (h0 : 0 ≤ off) (hp : off ≤ size) (hs : size ≤ 65536) (hfb : fb < w.heap.size) (hlb : lb < w.heap.size)
    (c1 : w.cell? ⟨fb, 1, none⟩ = some (.string name)) (c2 : w.cell? ⟨fb, 2, none⟩ = some (.int .i64 1)) (c3 : w.cell? ⟨fb, 3, none⟩ = some (.int .i64 size))
    (c4 : w.cell? ⟨fb, 4, none⟩ = some (.slice (some ⟨lb, 0, none⟩) 1 1)) (hc : w.cell? ⟨lb, 0, none⟩ = some (.int .i64 0)) :
    Calls Eeeg.prog 15 #[.pointer (some ⟨fb, 0, none⟩), .int .i64 (1 + off)] w fun e w' =>
      e = .returned (.agg #[.string name, .int .i64 off, .int .i64 1, .int .i64 (off + 1)]) ∧ Below w.heap.size w w' := by
  refine (positionOf_any fb lb name size (1 + off) w (by omega) (by omega) hs hfb hlb c1 c2 c3 c4 hc).mono ?_
  rintro e w' ⟨rfl, hb⟩
  refine ⟨?_, hb⟩
  rw [show (1 + off - 1 : Int) = off from by omega, show (1 + off : Int) = off + 1 from by omega]
end Go.Proofs.Yoeeew.posn
