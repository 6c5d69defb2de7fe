/-
  The field's leaves, walked: smallerThanModulus, Add, Double, Set, SetZero: what each leaves in its receiver's four cells.
-/
import Derived.Test.YtodofaoaenddgaaDoorBits
import Derived.Test.YtodofaoaenddgaaDoorFm
import Derived.WalkSpells
import Derived.WalkLawsBesides
import Derived.RegionTactic
import Derived.BigRegion
import Derived.ChangeAlike
import Derived.Deep.Draws
import Derived.Laws.IdiomCopy
import Derived.Outline
namespace Go.Proofs.YtodofaoaenddgaaDoor
open Go.RowKit Go.Lib Fr

/-! ### worlds -/
theorem World.setCell_again (w : World) (a : Addr) (u v : Value) : (w.setCell a u).setCell a v = w.setCell a v := by
  simp only [World.setCell]
  congr 1
  apply Array.ext
  · simp
  · intro i h1 h2
    have hi : i < w.heap.size := by simpa using h1
    simp only [Array.getElem_modify]
    split
    · generalize w.heap[i]'hi = o
      cases o <;> simp
      split <;> simp
    · rfl
theorem World.setCell_swap (w : World) (a b : Addr) (u v : Value) (h : a ≠ b) : (w.setCell a u).setCell b v = (w.setCell b v).setCell a u := by
  simp only [World.setCell]
  congr 1
  apply Array.ext
  · simp
  · intro i h1 h2
    simp only [Array.getElem_modify]
    by_cases ha : a.block = i <;> by_cases hb : b.block = i <;> simp [ha, hb]
    generalize w.heap[i]'(by simpa using h1) = o
    cases o <;> simp
    rename_i c e fr
    obtain ⟨ab, ao, sa⟩ := a
    obtain ⟨bb, bo, sb⟩ := b
    cases sa <;> cases sb <;> simp_all
    exact Array.setIfInBounds_comm _ _ (by omega)

/-- Four cells in a row. -/
def put4 (w : World) (g o : Nat) (a b c d : Int) : World :=
  (((w.setCell ⟨g, o, none⟩ (.int .u64 a)).setCell ⟨g, o + 1, none⟩ (.int .u64 b)).setCell ⟨g, o + 2, none⟩ (.int .u64 c)).setCell ⟨g, o + 3, none⟩ (.int .u64 d)
theorem put4_again (w : World) (g o : Nat) (a b c d a' b' c' d' : Int) : put4 (put4 w g o a b c d) g o a' b' c' d' = put4 w g o a' b' c' d' := by
  have n1 : ∀ i j : Nat, i ≠ j → (⟨g, i, none⟩ : Addr) ≠ ⟨g, j, none⟩ := fun i j h e => h (by injection e)
  unfold put4
  rw [World.setCell_swap _ ⟨g, o + 3, none⟩ ⟨g, o, none⟩ _ _ (n1 _ _ (by omega)), World.setCell_swap _ ⟨g, o + 2, none⟩ ⟨g, o, none⟩ _ _ (n1 _ _ (by omega)),
    World.setCell_swap _ ⟨g, o + 1, none⟩ ⟨g, o, none⟩ _ _ (n1 _ _ (by omega)), World.setCell_again,
    World.setCell_swap _ ⟨g, o + 3, none⟩ ⟨g, o + 1, none⟩ _ _ (n1 _ _ (by omega)), World.setCell_swap _ ⟨g, o + 2, none⟩ ⟨g, o + 1, none⟩ _ _ (n1 _ _ (by omega)), World.setCell_again,
    World.setCell_swap _ ⟨g, o + 3, none⟩ ⟨g, o + 2, none⟩ _ _ (n1 _ _ (by omega)), World.setCell_again, World.setCell_again]
/-- The four cells hold words. -/
structure At4 (w : World) (g o : Nat) (a b c d : Int) : Prop where
  c0 : w.cell? ⟨g, o, none⟩ = some (.int .u64 a)
  c1 : w.cell? ⟨g, o + 1, none⟩ = some (.int .u64 b)
  c2 : w.cell? ⟨g, o + 2, none⟩ = some (.int .u64 c)
  c3 : w.cell? ⟨g, o + 3, none⟩ = some (.int .u64 d)
/-- The four cells are there, and can be written. -/
structure Wr4 (w : World) (g o : Nat) : Prop where
  c : ∃ a b c d : Value, w.cell? ⟨g, o, none⟩ = some a ∧ w.cell? ⟨g, o + 1, none⟩ = some b ∧ w.cell? ⟨g, o + 2, none⟩ = some c ∧ w.cell? ⟨g, o + 3, none⟩ = some d
  f0 : w.frozen? ⟨g, o, none⟩ = false
  f1 : w.frozen? ⟨g, o + 1, none⟩ = false
  f2 : w.frozen? ⟨g, o + 2, none⟩ = false
  f3 : w.frozen? ⟨g, o + 3, none⟩ = false
/-- Two groups of four cells are one, or have no cell in common. -/
def Apart4 (g o g' o' : Nat) : Prop := g = g' → o = o' ∨ o + 4 ≤ o' ∨ o' + 4 ≤ o
theorem Apart4.same (g o : Nat) : Apart4 g o g o := fun _ => .inl rfl
theorem Apart4.blocks {g o g' o' : Nat} (h : g ≠ g') : Apart4 g o g' o' := fun e => absurd e h
/-- An element's four cells. -/
def El (w : World) (g o : Nat) (n : Int) : Prop := At4 w g o (lim n 0) (lim n 1) (lim n 2) (lim n 3)
def putE (w : World) (g o : Nat) (n : Int) : World := put4 w g o (lim n 0) (lim n 1) (lim n 2) (lim n 3)
theorem wd_lim (n : Int) (i : Nat) : Wd (lim n i) := ⟨lim_lo n i, lim_hi n i⟩

/-- A later cell of a group is untouched by stores into earlier cells of a group that is the same or apart. -/
theorem later {w : World} {g o g' o' i j : Nat} {v u : Value} (ap : Apart4 g o g' o') (hi : i < 4) (hj : j < 4) (hij : i ≠ j) (h : w.cell? ⟨g', o' + j, none⟩ = some v) :
    (w.setCell ⟨g, o + i, none⟩ u).cell? ⟨g', o' + j, none⟩ = some v := by
  rw [World.cell?_setCell_other]
  · exact h
  · intro e
    injection e with e1 e2
    have := ap e1
    omega

theorem at4_put4 {w : World} {g o : Nat} (h : Wr4 w g o) (a b c d : Int) : At4 (put4 w g o a b c d) g o a b c d := by
  obtain ⟨⟨z0, z1, z2, z3, c0, c1, c2, c3⟩, _⟩ := h
  have n1 : ∀ i j : Nat, i ≠ j → (⟨g, i, none⟩ : Addr) ≠ ⟨g, j, none⟩ := fun i j h e => h (by injection e)
  constructor
  · simp only [put4]
    rw [World.cell?_setCell_other _ _ _ _ (n1 _ _ (by omega)), World.cell?_setCell_other _ _ _ _ (n1 _ _ (by omega)), World.cell?_setCell_other _ _ _ _ (n1 _ _ (by omega)), World.cell?_setCell_same _ _ _ c0]
  · simp only [put4]
    rw [World.cell?_setCell_other _ _ _ _ (n1 _ _ (by omega)), World.cell?_setCell_other _ _ _ _ (n1 _ _ (by omega)), World.cell?_setCell_same _ _ _ (u := z1) (by rw [World.cell?_setCell_other _ _ _ _ (n1 _ _ (by omega)), c1])]
  · simp only [put4]
    rw [World.cell?_setCell_other _ _ _ _ (n1 _ _ (by omega)), World.cell?_setCell_same _ _ _ (u := z2) (by rw [World.cell?_setCell_other _ _ _ _ (n1 _ _ (by omega)), World.cell?_setCell_other _ _ _ _ (n1 _ _ (by omega)), c2])]
  · simp only [put4]
    rw [World.cell?_setCell_same _ _ _ (u := z3) (by rw [World.cell?_setCell_other _ _ _ _ (n1 _ _ (by omega)), World.cell?_setCell_other _ _ _ _ (n1 _ _ (by omega)), World.cell?_setCell_other _ _ _ _ (n1 _ _ (by omega)), c3])]
theorem At4.drew {w : World} {g o : Nat} {a b c d : Int} (h : At4 w g o a b c d) : At4 w.drew g o a b c d := ⟨h.c0, h.c1, h.c2, h.c3⟩
theorem At4.drewN {w : World} {g o : Nat} {a b c d : Int} (h : At4 w g o a b c d) (k : Nat) : At4 (w.drewN k) g o a b c d := ⟨h.c0, h.c1, h.c2, h.c3⟩

theorem wr4_put4 {w : World} {g o : Nat} (h : Wr4 w g o) (a b c d : Int) : Wr4 (put4 w g o a b c d) g o := by
  have h' := at4_put4 h a b c d
  have fz : ∀ (w : World) (p q : Addr) (u : Value), (w.setCell p u).frozen? q = w.frozen? q := fun w p q u => by simp [go_sem]
  exact ⟨⟨_, _, _, _, h'.c0, h'.c1, h'.c2, h'.c3⟩, by simp only [put4, fz]; exact h.f0, by simp only [put4, fz]; exact h.f1, by simp only [put4, fz]; exact h.f2, by simp only [put4, fz]; exact h.f3⟩
theorem Wr4.drew {w : World} {g o : Nat} (h : Wr4 w g o) : Wr4 w.drew g o := ⟨h.c, h.f0, h.f1, h.f2, h.f3⟩
theorem Wr4.drewN {w : World} {g o : Nat} (h : Wr4 w g o) (k : Nat) : Wr4 (w.drewN k) g o := ⟨h.c, h.f0, h.f1, h.f2, h.f3⟩
theorem put4_drew (w : World) (g o : Nat) (a b c d : Int) : put4 w.drew g o a b c d = (put4 w g o a b c d).drew := rfl
theorem put4_drewN (w : World) (k g o : Nat) (a b c d : Int) : put4 (w.drewN k) g o a b c d = (put4 w g o a b c d).drewN k := rfl

/-! ### smallerThanModulus -/
def sm4 (a b c d : Int) : Bool := decide (val4 a b c d < fp)
theorem ret_sm {b : Bool} {z0 z1 z2 z3 : Int} (h : b = true ↔ val4 z0 z1 z2 z3 < fp) : Ending.returned (.bool b) = .returned (.bool (sm4 z0 z1 z2 z3)) := by
  congr 2
  unfold sm4
  cases b
  · exact (decide_eq_false (fun hh => by simpa using h.2 hh)).symm
  · exact (decide_eq_true (h.1 rfl)).symm

set_option maxHeartbeats 400000 in
set_option maxRecDepth 100000 in
theorem smaller_any (g o : Nat) (z0 z1 z2 z3 : Int) (w : World) (h0 : Wd z0) (h1 : Wd z1) (h2 : Wd z2) (h : At4 w g o z0 z1 z2 z3) :
    Calls Tryd.prog 68 #[.pointer (some ⟨g, o, none⟩)] w fun e w' => e = .returned (.bool (sm4 z0 z1 z2 z3)) ∧ w = w' := by
  obtain ⟨c0, c1, c2, c3⟩ := h
  obtain ⟨a0, b0⟩ := h0
  obtain ⟨a1, b1⟩ := h1
  obtain ⟨a2, b2⟩ := h2
  go_enter Tryd.func68, Tryd.ntmps68
  go_wp2
  all_goals
    go_ret
    refine ⟨ret_sm ?_, rfl⟩
    first
      | (refine iff_of_true rfl ?_; simp only [val4, fp_eq]; omega)
      | (simp only [decide_eq_true_eq, val4, fp_eq]; omega)
end Go.Proofs.YtodofaoaenddgaaDoor
