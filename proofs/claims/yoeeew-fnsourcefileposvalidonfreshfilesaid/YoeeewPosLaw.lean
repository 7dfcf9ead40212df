/-
  The law's walk: FnSourceFilePosValidOnFreshFile returns true at every input.
-/
import Derived.Test.YoeeewPos3
import Derived.Test.YoeeewPos4
namespace Go.Proofs.Yoeeew.posn
open Go.RowKit

/-- Two new blocks behind a world that is as it was below the old size. -/
theorem below_two {a x : World} (h : Below a.heap.size a x) (o o' : Obj) : Below a.heap.size a ((x.alloc o).alloc o') := by
  have hz := h.size
  refine Below.alloc (Below.alloc h hz _) ?_ _
  simp; omega
theorem below_two_then {a x y : World} {o o' : Obj} (h : Below a.heap.size a x) (k : Below ((x.alloc o).alloc o').heap.size ((x.alloc o).alloc o') y) : Below a.heap.size a y := by
  have hz := h.size
  refine (below_two h o o').trans (k.mono ?_)
  simp; omega

set_option maxHeartbeats 400000 in
theorem law_long (name : ByteArray) (size off : Int) (w : World) (h : 1048576 < name.size) :
    Calls Eeeg.prog 7 #[.string name, .int .i64 size, .int .i64 off] w fun e w' => e = .returned (.bool true) ∧ Below w.heap.size w w' := by
  go_enter Eeeg.func7, Eeeg.ntmps7
  go_wp2_with (go_at_call 11; refine (zzbytes_big _ _ _ _ (by omega)).mono ?_; rintro e w' ⟨rfl, rfl⟩)
  go_ret
  exact ⟨rfl, Below.refl _ _⟩

set_option maxHeartbeats 400000 in
theorem law_size (name : ByteArray) (size off : Int) (w : World) (h : name.size ≤ 1048576) (hs : size < 0 ∨ 65536 < size) :
    Calls Eeeg.prog 7 #[.string name, .int .i64 size, .int .i64 off] w fun e w' => e = .returned (.bool true) ∧ Below w.heap.size w w' := by
  rcases hs with hs | hs
  · go_enter Eeeg.func7, Eeeg.ntmps7
    go_wp2_with (go_at_call 11; refine (zzbytes_any _ _ _ _ (by omega)).mono ?_; rintro e w' ⟨rfl, rfl⟩)
    go_ret
    exact ⟨rfl, Below.refl _ _⟩
  · have hs0 : ¬ size < 0 := by omega
    go_enter Eeeg.func7, Eeeg.ntmps7
    go_wp2_with (go_at_call 11; refine (zzbytes_any _ _ _ _ (by omega)).mono ?_; rintro e w' ⟨rfl, rfl⟩)
    go_ret
    exact ⟨rfl, Below.refl _ _⟩

set_option maxHeartbeats 400000 in
theorem law_off (name : ByteArray) (size off : Int) (w : World) (h : name.size ≤ 1048576) (h0 : 0 ≤ size) (hs : size ≤ 65536) (ho : off < 0 ∨ size < off) :
    Calls Eeeg.prog 7 #[.string name, .int .i64 size, .int .i64 off] w fun e w' => e = .returned (.bool true) ∧ Below w.heap.size w w' := by
  rcases ho with ho | ho
  · go_enter Eeeg.func7, Eeeg.ntmps7
    go_wp2_with (go_at_call 11; refine (zzbytes_any _ _ _ _ (by omega)).mono ?_; rintro e w' ⟨rfl, rfl⟩)
    go_ret
    exact ⟨rfl, Below.refl _ _⟩
  · have ho0 : ¬ off < 0 := by omega
    go_enter Eeeg.func7, Eeeg.ntmps7
    go_wp2_with (go_at_call 11; refine (zzbytes_any _ _ _ _ (by omega)).mono ?_; rintro e w' ⟨rfl, rfl⟩)
    go_ret
    exact ⟨rfl, Below.refl _ _⟩

set_option maxHeartbeats 800000 in
theorem law_main (name : ByteArray) (size off : Int) (w : World) (h : name.size ≤ 1048576) (h0 : 0 ≤ size) (hs : size ≤ 65536) (o0 : 0 ≤ off) (o1 : off ≤ size) :
    Calls Eeeg.prog 7 #[.string name, .int .i64 size, .int .i64 off] w fun e w' => e = .returned (.bool true) ∧ Below w.heap.size w w' := by
  go_enter Eeeg.func7, Eeeg.ntmps7
  go_wp2_with (first | (go_at_call 11; refine (zzbytes_any _ _ _ _ (by omega)).mono ?_; rintro e w' ⟨rfl, rfl⟩) | (go_at_call 12; refine (newFileSet_any _).mono ?_; rintro e w1 ⟨rfl, rfl⟩))
  refine (addFile_file w'.heap.size name size _ h0 hs (by simp) (by go_simp) (by go_simp) (by go_simp) (by go_simp) (by go_simp) (by go_simp)).mono ?_
  rintro e w2 ⟨fb, lb, rfl, hF, hb2⟩
  have hbel : Below w'.heap.size w' w2 := ((Below.refl _ _).alloc (Nat.le_refl _) _).trans hb2
  clear hb2
  go_wp2_with fail
  refine (fileSetPos_any fb size off _ o0 o1 hs hF.f2 hF.f3).mono ?_
  rintro e w3 ⟨rfl, hw3⟩
  subst hw3
  go_wp2_with fail
  refine (positionOf_off fb lb name size off _ o0 o1 hs hF.hf hF.hl hF.f1 hF.f2 hF.f3 hF.f4 hF.l0).mono ?_
  rintro e w4 ⟨rfl, hb4⟩
  have hbel4 : Below w'.heap.size w' w4 := hbel.trans (hb4.mono hbel.size)
  clear hb4 hF hbel
  go_wp2_with fail
  refine (isValid_any _ _ _ _ _).mono ?_
  rintro e w5 ⟨rfl, rfl⟩
  go_wp2_with fail
  refine (position_zero fb _).mono ?_
  rintro e w6 ⟨rfl, hb6⟩
  have hbel6 := below_two_then hbel4 hb6
  clear hb6 hbel4
  go_wp2_with fail
  refine (isValid_any _ _ _ _ _).mono ?_
  rintro e w7 ⟨rfl, rfl⟩
  go_wp2_with fail
  go_ret
  exact ⟨rfl, below_two hbel6 _ _⟩

theorem law_any (name : ByteArray) (size off : Int) (w : World) :
    Calls Eeeg.prog 7 #[.string name, .int .i64 size, .int .i64 off] w fun e w' => e = .returned (.bool true) ∧ Below w.heap.size w w' := by
  by_cases h : name.size ≤ 1048576
  · by_cases hs : size < 0 ∨ 65536 < size
    · exact law_size name size off w h hs
    · by_cases ho : off < 0 ∨ size < off
      · exact law_off name size off w h (by omega) (by omega) ho
      · exact law_main name size off w h (by omega) (by omega) (by omega) (by omega)
  · exact law_long name size off w (by omega)
end Go.Proofs.Yoeeew.posn
