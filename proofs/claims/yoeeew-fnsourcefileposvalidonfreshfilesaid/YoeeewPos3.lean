/-
  AddFile on a fresh set.
-/
import Derived.Test.YoeeewPos2
namespace Go.Proofs.Yoeeew.posn
open Go.RowKit

theorem news_at (W : World) (x : Value) (e : TypeId) (n : Nat) (hn : n = W.heap.size) :
    ∀ (j : Nat) (u : Value), [x][j]? = some u → (W.alloc (.cells #[x] e)).cell? ((⟨n, 0, none⟩ : Addr).add j) = some u := by
  subst hn
  exact cell_one_new _ _ _

theorem row_form {W : World} {base : Nat} {e : TypeId} {v : Value} {xs : List Value} (h : W.ownsRow base e 1 v (0 + 1) xs) : ∃ g cap, v = .slice (some ⟨g, 0, none⟩) 1 cap := by
  rcases h.2 with ⟨_, h⟩ | ⟨g, cap, _, h, _⟩
  · omega
  · exact ⟨g, cap, h⟩

theorem far {W : World} {b k o : Nat} {x y v : Value} (hk : b < k) (h : W.cell? ⟨k, o, none⟩ = some v) : ((W.setCell ⟨b, 1, none⟩ x).setCell ⟨b, 2, none⟩ y).cell? ⟨k, o, none⟩ = some v := by
  refine (World.cell?_setCell_other _ _ _ _ ?_).trans ((World.cell?_setCell_other _ _ _ _ ?_).trans h)
  all_goals (intro he; injection he; omega)

set_option maxHeartbeats 400000 in
theorem addFile_any (b : Nat) (name : ByteArray) (size : Int) (w : World) (h0 : 0 ≤ size) (hs : size ≤ 65536) (hb : b < w.heap.size)
    (c0 : w.cell? ⟨b, 0, none⟩ = some (.int .i64 1)) (c1 : w.cell? ⟨b, 1, none⟩ = some (.slice none 0 0)) (c2 : w.cell? ⟨b, 2, none⟩ = some (.pointer none))
    (f0 : w.frozen? ⟨b, 0, none⟩ = false) (f1 : w.frozen? ⟨b, 1, none⟩ = false) (f2 : w.frozen? ⟨b, 2, none⟩ = false) :
    Calls Eeeg.prog 13 #[.pointer (some ⟨b, 0, none⟩), .string name, .int .i64 (-1), .int .i64 size] w fun e w' =>
      e = .returned (.pointer (some ⟨w.heap.size + 1, 0, none⟩)) ∧
      w'.cell? ⟨w.heap.size + 1, 1, none⟩ = some (.string name) ∧ w'.cell? ⟨w.heap.size + 1, 2, none⟩ = some (.int .i64 1) ∧
      w'.cell? ⟨w.heap.size + 1, 3, none⟩ = some (.int .i64 size) ∧ w'.cell? ⟨w.heap.size + 1, 4, none⟩ = some (.slice (some ⟨w.heap.size, 0, none⟩) 1 1) ∧
      w'.cell? ⟨w.heap.size, 0, none⟩ = some (.int .i64 0) ∧ w.heap.size + 3 ≤ w'.heap.size ∧ Below b w w' := by
  obtain ⟨i0, hi, hz0, hz1, hz2⟩ := info_parts info29
  go_enter Eeeg.func13, Eeeg.ntmps13
  go_wp2_with (at_builtin; refine wpList_append_own _ rfl _ _ 37 rfl (w.heap.size + 3) 29 i0 (.pointer none) 1 8 Eeeg.underlying37 hi hz0 hz1 hz2 rfl (by decide) (.slice none 0 0) 0 [] rfl (World.ownsRow_nil _ _ _ _) ⟨w.heap.size + 2, 0, none⟩ 1 1 [.pointer (some ⟨w.heap.size + 1, 0, none⟩)] rfl rfl (by exact news_at _ _ _ _ (by simp)) (fun x hx => by simp at hx; subst hx; rfl) (by unfold maxLen; omega) (by omega) (by simp) ?_; intro v' w3 hown hgrow hnil; obtain ⟨hF, hz, hbel⟩ := app_facts b name size w w3 hb c1 c2 f1 f2 hgrow; have hex := row_form hown; obtain ⟨g, cap, hv⟩ := hex; rw [hv]; clear hgrow hown hnil hv; have q1 := hF.s1; have q2 := hF.s2; have z1 := hF.z1; have z2 := hF.z2)
  go_ret
  refine ⟨rfl, far (by omega) hF.f1, far (by omega) hF.f2, far (by omega) hF.f3, far (by omega) hF.f4, far hb hF.l0, ?_, ?_⟩
  · simpa using hz
  · exact (hbel.setCell (Nat.le_refl _) _).setCell (Nat.le_refl _) _
/-- A file as AddFile leaves it, with its line table. -/
structure File (fb lb : Nat) (name : ByteArray) (size : Int) (w : World) : Prop where
  f1 : w.cell? ⟨fb, 1, none⟩ = some (.string name)
  f2 : w.cell? ⟨fb, 2, none⟩ = some (.int .i64 1)
  f3 : w.cell? ⟨fb, 3, none⟩ = some (.int .i64 size)
  f4 : w.cell? ⟨fb, 4, none⟩ = some (.slice (some ⟨lb, 0, none⟩) 1 1)
  l0 : w.cell? ⟨lb, 0, none⟩ = some (.int .i64 0)
  hf : fb < w.heap.size
  hl : lb < w.heap.size

theorem addFile_file (b : Nat) (name : ByteArray) (size : Int) (w : World) (h0 : 0 ≤ size) (hs : size ≤ 65536) (hb : b < w.heap.size)
    (c0 : w.cell? ⟨b, 0, none⟩ = some (.int .i64 1)) (c1 : w.cell? ⟨b, 1, none⟩ = some (.slice none 0 0)) (c2 : w.cell? ⟨b, 2, none⟩ = some (.pointer none))
    (f0 : w.frozen? ⟨b, 0, none⟩ = false) (f1 : w.frozen? ⟨b, 1, none⟩ = false) (f2 : w.frozen? ⟨b, 2, none⟩ = false) :
    Calls Eeeg.prog 13 #[.pointer (some ⟨b, 0, none⟩), .string name, .int .i64 (-1), .int .i64 size] w fun e w' =>
      ∃ fb lb : Nat, e = .returned (.pointer (some ⟨fb, 0, none⟩)) ∧ File fb lb name size w' ∧ Below b w w' := by
  refine (addFile_any b name size w h0 hs hb c0 c1 c2 f0 f1 f2).mono ?_
  rintro e w' ⟨rfl, k1, k2, k3, k4, k5, k6, k7⟩
  exact ⟨w.heap.size + 1, w.heap.size, rfl, ⟨k1, k2, k3, k4, k5, by omega, by omega⟩, k7⟩
end Go.Proofs.Yoeeew.posn
