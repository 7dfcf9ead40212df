/-
  unpack, and what holds behind AddFile's append.
-/
import Derived.Test.YoeeewPos
import Derived.WalkSpells
namespace Go.Proofs.Yoeeew.posn
open Go.RowKit

set_option maxHeartbeats 400000 in
theorem unpack_any (fb lb cap : Nat) (name : ByteArray) (x : Int) (w : World) (h0 : 0 ≤ x) (hx : x ≤ 65536)
    (c1 : w.cell? ⟨fb, 1, none⟩ = some (.string name)) (c4 : w.cell? ⟨fb, 4, none⟩ = some (.slice (some ⟨lb, 0, none⟩) 1 cap))
    (hc : w.cell? ⟨lb, 0, none⟩ = some (.int .i64 0)) :
    Calls Eeeg.prog 20 #[.pointer (some ⟨fb, 0, none⟩), .int .i64 x] w fun e w' => e = .returned (.tuple #[.string name, .int .i64 1, .int .i64 (x + 1)]) ∧ ∃ n, w' = w.drewN n := by
  go_enter Eeeg.func20, Eeeg.ntmps20
  go_wp2_with (go_at_call 21; refine (searchInts_one _ _ _ _ (by omega) (by assumption)).mono ?_; rintro e w' ⟨rfl, rfl⟩)
  go_quiet (fail)
  go_wp2
  go_ret3
  exact ⟨rfl, _, rfl⟩

theorem info29 : (Eeeg.prog.info? 29).map (fun i => (i.zero, i.size, i.bytes)) = some (some (.pointer none), 1, 8) := by kernel_rfl

/-- The cells behind AddFile's append: the set's own fields, the file's fields, the line table. -/
structure Filed (b fb lb : Nat) (name : ByteArray) (size : Int) (w : World) : Prop where
  s1 : w.cell? ⟨b, 1, none⟩ = some (.slice none 0 0)
  s2 : w.cell? ⟨b, 2, none⟩ = some (.pointer none)
  z1 : w.frozen? ⟨b, 1, none⟩ = false
  z2 : w.frozen? ⟨b, 2, none⟩ = false
  f1 : w.cell? ⟨fb, 1, none⟩ = some (.string name)
  f2 : w.cell? ⟨fb, 2, none⟩ = some (.int .i64 1)
  f3 : w.cell? ⟨fb, 3, none⟩ = some (.int .i64 size)
  f4 : w.cell? ⟨fb, 4, none⟩ = some (.slice (some ⟨lb, 0, none⟩) 1 1)
  l0 : w.cell? ⟨lb, 0, none⟩ = some (.int .i64 0)

theorem app_facts (b : Nat) (name : ByteArray) (size : Int) (w w3 : World) (hb : b < w.heap.size)
    (c1 : w.cell? ⟨b, 1, none⟩ = some (.slice none 0 0)) (c2 : w.cell? ⟨b, 2, none⟩ = some (.pointer none))
    (f1 : w.frozen? ⟨b, 1, none⟩ = false) (f2 : w.frozen? ⟨b, 2, none⟩ = false)
    (hg : ((((w.setCell ⟨b, 0, none⟩ (.int .i64 (1 + (size + 1)))).alloc (.cells #[.int .i64 0] 3)).alloc (.cells #[.pointer (some ⟨b, 0, none⟩), .string name, .int .i64 1, .int .i64 size, .slice (some ⟨w.heap.size, 0, none⟩) 1 1] 42)).alloc (.cells #[.pointer (some ⟨w.heap.size + 1, 0, none⟩)] 29)).grownBy w3 none) :
    Filed b (w.heap.size + 1) w.heap.size name size w3 ∧ w.heap.size + 3 ≤ w3.heap.size ∧ Below b w w3 := by
  have hz : w.heap.size + 3 ≤ w3.heap.size := by have := hg.size; simpa using this
  have old : ∀ o v, o ≠ 0 → w.cell? ⟨b, o, none⟩ = some v → w3.cell? ⟨b, o, none⟩ = some v := by
    intro o v ho hv
    refine hg.cell ?_ (by simp)
    refine (World.cell?_alloc_lt _ _ _ ?_).trans ?_
    · simp; omega
    refine (World.cell?_alloc_lt _ _ _ ?_).trans ?_
    · simp; omega
    refine (World.cell?_alloc_lt _ _ _ ?_).trans ?_
    · simp; omega
    refine (World.cell?_setCell_other _ _ _ _ ?_).trans hv
    simp
  have fz : ∀ o, w.frozen? ⟨b, o, none⟩ = false → w3.frozen? ⟨b, o, none⟩ = false := by
    intro o hv
    rw [World.frozen?_of_block (hg.block b (by simp; omega) (by simp)), frozen?_alloc_cells, frozen?_alloc_cells, frozen?_alloc_cells, World.frozen?_setCell]
    exact hv
  refine ⟨⟨old 1 _ (by decide) c1, old 2 _ (by decide) c2, fz 1 f1, fz 2 f2, hg.cell (by go_simp) (by simp), hg.cell (by go_simp) (by simp), hg.cell (by go_simp) (by simp), hg.cell (by go_simp) (by simp), hg.cell (by go_simp) (by simp)⟩, hz, ?_⟩
  refine Below.grown ?_ hg (by simp; omega) (by intro k hk; cases hk)
  refine Below.alloc (Below.alloc (Below.alloc (Below.setCell (Below.refl _ _) ?_ _) ?_ _) ?_ _) ?_ _
  all_goals (simp; try omega)
end Go.Proofs.Yoeeew.posn
