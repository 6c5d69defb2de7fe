/-
  The reference's numbers, walked: Number.
-/
import Derived.Test.YtodofaoaenddgaaDoorEls
import Derived.BigQuiet
import Derived.Deep.QuietTactic
import Derived.StillTailTactics
namespace Go.Proofs.YtodofaoaenddgaaDoor
open Go.RowKit Go.Lib Fr
attribute [local go_sem] setCell_drewN alloc_drewN

theorem hws_at (n : Int) {i : Nat} (h : i < 8) : (hws n)[i]? = some (.int .i64 (hw n i)) := by
  match i, h with
  | 0, _ => rfl
  | 1, _ => rfl
  | 2, _ => rfl
  | 3, _ => rfl
  | 4, _ => rfl
  | 5, _ => rfl
  | 6, _ => rfl
  | 7, _ => rfl
/-- The number of the first k bytes, with zeros behind them. -/
def trunc (n : Int) (k : Nat) : Int := n - n % 256 ^ (32 - k)

theorem num_words0 (n : Int) : hw (trunc n 1) 0 = hw (trunc n 0) 0 ∧ hw (trunc n 1) 1 = hw (trunc n 0) 1 ∧ hw (trunc n 1) 2 = hw (trunc n 0) 2 ∧ hw (trunc n 1) 3 = hw (trunc n 0) 3 ∧ hw (trunc n 1) 4 = hw (trunc n 0) 4 ∧ hw (trunc n 1) 5 = hw (trunc n 0) 5 ∧ hw (trunc n 1) 6 = hw (trunc n 0) 6 ∧ hw (trunc n 1) 7 = hw (trunc n 0) 7 + byt n 0 * 16777216 := by
  refine ⟨?_, ?_, ?_, ?_, ?_, ?_, ?_, ?_⟩ <;> (simp only [hw, trunc, byt]; omega)
theorem num_words1 (n : Int) : hw (trunc n 2) 0 = hw (trunc n 1) 0 ∧ hw (trunc n 2) 1 = hw (trunc n 1) 1 ∧ hw (trunc n 2) 2 = hw (trunc n 1) 2 ∧ hw (trunc n 2) 3 = hw (trunc n 1) 3 ∧ hw (trunc n 2) 4 = hw (trunc n 1) 4 ∧ hw (trunc n 2) 5 = hw (trunc n 1) 5 ∧ hw (trunc n 2) 6 = hw (trunc n 1) 6 ∧ hw (trunc n 2) 7 = hw (trunc n 1) 7 + byt n 1 * 65536 := by
  refine ⟨?_, ?_, ?_, ?_, ?_, ?_, ?_, ?_⟩ <;> (simp only [hw, trunc, byt]; omega)
theorem num_words2 (n : Int) : hw (trunc n 3) 0 = hw (trunc n 2) 0 ∧ hw (trunc n 3) 1 = hw (trunc n 2) 1 ∧ hw (trunc n 3) 2 = hw (trunc n 2) 2 ∧ hw (trunc n 3) 3 = hw (trunc n 2) 3 ∧ hw (trunc n 3) 4 = hw (trunc n 2) 4 ∧ hw (trunc n 3) 5 = hw (trunc n 2) 5 ∧ hw (trunc n 3) 6 = hw (trunc n 2) 6 ∧ hw (trunc n 3) 7 = hw (trunc n 2) 7 + byt n 2 * 256 := by
  refine ⟨?_, ?_, ?_, ?_, ?_, ?_, ?_, ?_⟩ <;> (simp only [hw, trunc, byt]; omega)
theorem num_words3 (n : Int) : hw (trunc n 4) 0 = hw (trunc n 3) 0 ∧ hw (trunc n 4) 1 = hw (trunc n 3) 1 ∧ hw (trunc n 4) 2 = hw (trunc n 3) 2 ∧ hw (trunc n 4) 3 = hw (trunc n 3) 3 ∧ hw (trunc n 4) 4 = hw (trunc n 3) 4 ∧ hw (trunc n 4) 5 = hw (trunc n 3) 5 ∧ hw (trunc n 4) 6 = hw (trunc n 3) 6 ∧ hw (trunc n 4) 7 = hw (trunc n 3) 7 + byt n 3 * 1 := by
  refine ⟨?_, ?_, ?_, ?_, ?_, ?_, ?_, ?_⟩ <;> (simp only [hw, trunc, byt]; omega)
theorem num_words4 (n : Int) : hw (trunc n 5) 0 = hw (trunc n 4) 0 ∧ hw (trunc n 5) 1 = hw (trunc n 4) 1 ∧ hw (trunc n 5) 2 = hw (trunc n 4) 2 ∧ hw (trunc n 5) 3 = hw (trunc n 4) 3 ∧ hw (trunc n 5) 4 = hw (trunc n 4) 4 ∧ hw (trunc n 5) 5 = hw (trunc n 4) 5 ∧ hw (trunc n 5) 6 = hw (trunc n 4) 6 + byt n 4 * 16777216 ∧ hw (trunc n 5) 7 = hw (trunc n 4) 7 := by
  refine ⟨?_, ?_, ?_, ?_, ?_, ?_, ?_, ?_⟩ <;> (simp only [hw, trunc, byt]; omega)
theorem num_words5 (n : Int) : hw (trunc n 6) 0 = hw (trunc n 5) 0 ∧ hw (trunc n 6) 1 = hw (trunc n 5) 1 ∧ hw (trunc n 6) 2 = hw (trunc n 5) 2 ∧ hw (trunc n 6) 3 = hw (trunc n 5) 3 ∧ hw (trunc n 6) 4 = hw (trunc n 5) 4 ∧ hw (trunc n 6) 5 = hw (trunc n 5) 5 ∧ hw (trunc n 6) 6 = hw (trunc n 5) 6 + byt n 5 * 65536 ∧ hw (trunc n 6) 7 = hw (trunc n 5) 7 := by
  refine ⟨?_, ?_, ?_, ?_, ?_, ?_, ?_, ?_⟩ <;> (simp only [hw, trunc, byt]; omega)
theorem num_words6 (n : Int) : hw (trunc n 7) 0 = hw (trunc n 6) 0 ∧ hw (trunc n 7) 1 = hw (trunc n 6) 1 ∧ hw (trunc n 7) 2 = hw (trunc n 6) 2 ∧ hw (trunc n 7) 3 = hw (trunc n 6) 3 ∧ hw (trunc n 7) 4 = hw (trunc n 6) 4 ∧ hw (trunc n 7) 5 = hw (trunc n 6) 5 ∧ hw (trunc n 7) 6 = hw (trunc n 6) 6 + byt n 6 * 256 ∧ hw (trunc n 7) 7 = hw (trunc n 6) 7 := by
  refine ⟨?_, ?_, ?_, ?_, ?_, ?_, ?_, ?_⟩ <;> (simp only [hw, trunc, byt]; omega)
theorem num_words7 (n : Int) : hw (trunc n 8) 0 = hw (trunc n 7) 0 ∧ hw (trunc n 8) 1 = hw (trunc n 7) 1 ∧ hw (trunc n 8) 2 = hw (trunc n 7) 2 ∧ hw (trunc n 8) 3 = hw (trunc n 7) 3 ∧ hw (trunc n 8) 4 = hw (trunc n 7) 4 ∧ hw (trunc n 8) 5 = hw (trunc n 7) 5 ∧ hw (trunc n 8) 6 = hw (trunc n 7) 6 + byt n 7 * 1 ∧ hw (trunc n 8) 7 = hw (trunc n 7) 7 := by
  refine ⟨?_, ?_, ?_, ?_, ?_, ?_, ?_, ?_⟩ <;> (simp only [hw, trunc, byt]; omega)
theorem num_words8 (n : Int) : hw (trunc n 9) 0 = hw (trunc n 8) 0 ∧ hw (trunc n 9) 1 = hw (trunc n 8) 1 ∧ hw (trunc n 9) 2 = hw (trunc n 8) 2 ∧ hw (trunc n 9) 3 = hw (trunc n 8) 3 ∧ hw (trunc n 9) 4 = hw (trunc n 8) 4 ∧ hw (trunc n 9) 5 = hw (trunc n 8) 5 + byt n 8 * 16777216 ∧ hw (trunc n 9) 6 = hw (trunc n 8) 6 ∧ hw (trunc n 9) 7 = hw (trunc n 8) 7 := by
  refine ⟨?_, ?_, ?_, ?_, ?_, ?_, ?_, ?_⟩ <;> (simp only [hw, trunc, byt]; omega)
theorem num_words9 (n : Int) : hw (trunc n 10) 0 = hw (trunc n 9) 0 ∧ hw (trunc n 10) 1 = hw (trunc n 9) 1 ∧ hw (trunc n 10) 2 = hw (trunc n 9) 2 ∧ hw (trunc n 10) 3 = hw (trunc n 9) 3 ∧ hw (trunc n 10) 4 = hw (trunc n 9) 4 ∧ hw (trunc n 10) 5 = hw (trunc n 9) 5 + byt n 9 * 65536 ∧ hw (trunc n 10) 6 = hw (trunc n 9) 6 ∧ hw (trunc n 10) 7 = hw (trunc n 9) 7 := by
  refine ⟨?_, ?_, ?_, ?_, ?_, ?_, ?_, ?_⟩ <;> (simp only [hw, trunc, byt]; omega)
theorem num_words10 (n : Int) : hw (trunc n 11) 0 = hw (trunc n 10) 0 ∧ hw (trunc n 11) 1 = hw (trunc n 10) 1 ∧ hw (trunc n 11) 2 = hw (trunc n 10) 2 ∧ hw (trunc n 11) 3 = hw (trunc n 10) 3 ∧ hw (trunc n 11) 4 = hw (trunc n 10) 4 ∧ hw (trunc n 11) 5 = hw (trunc n 10) 5 + byt n 10 * 256 ∧ hw (trunc n 11) 6 = hw (trunc n 10) 6 ∧ hw (trunc n 11) 7 = hw (trunc n 10) 7 := by
  refine ⟨?_, ?_, ?_, ?_, ?_, ?_, ?_, ?_⟩ <;> (simp only [hw, trunc, byt]; omega)
theorem num_words11 (n : Int) : hw (trunc n 12) 0 = hw (trunc n 11) 0 ∧ hw (trunc n 12) 1 = hw (trunc n 11) 1 ∧ hw (trunc n 12) 2 = hw (trunc n 11) 2 ∧ hw (trunc n 12) 3 = hw (trunc n 11) 3 ∧ hw (trunc n 12) 4 = hw (trunc n 11) 4 ∧ hw (trunc n 12) 5 = hw (trunc n 11) 5 + byt n 11 * 1 ∧ hw (trunc n 12) 6 = hw (trunc n 11) 6 ∧ hw (trunc n 12) 7 = hw (trunc n 11) 7 := by
  refine ⟨?_, ?_, ?_, ?_, ?_, ?_, ?_, ?_⟩ <;> (simp only [hw, trunc, byt]; omega)
theorem num_words12 (n : Int) : hw (trunc n 13) 0 = hw (trunc n 12) 0 ∧ hw (trunc n 13) 1 = hw (trunc n 12) 1 ∧ hw (trunc n 13) 2 = hw (trunc n 12) 2 ∧ hw (trunc n 13) 3 = hw (trunc n 12) 3 ∧ hw (trunc n 13) 4 = hw (trunc n 12) 4 + byt n 12 * 16777216 ∧ hw (trunc n 13) 5 = hw (trunc n 12) 5 ∧ hw (trunc n 13) 6 = hw (trunc n 12) 6 ∧ hw (trunc n 13) 7 = hw (trunc n 12) 7 := by
  refine ⟨?_, ?_, ?_, ?_, ?_, ?_, ?_, ?_⟩ <;> (simp only [hw, trunc, byt]; omega)
theorem num_words13 (n : Int) : hw (trunc n 14) 0 = hw (trunc n 13) 0 ∧ hw (trunc n 14) 1 = hw (trunc n 13) 1 ∧ hw (trunc n 14) 2 = hw (trunc n 13) 2 ∧ hw (trunc n 14) 3 = hw (trunc n 13) 3 ∧ hw (trunc n 14) 4 = hw (trunc n 13) 4 + byt n 13 * 65536 ∧ hw (trunc n 14) 5 = hw (trunc n 13) 5 ∧ hw (trunc n 14) 6 = hw (trunc n 13) 6 ∧ hw (trunc n 14) 7 = hw (trunc n 13) 7 := by
  refine ⟨?_, ?_, ?_, ?_, ?_, ?_, ?_, ?_⟩ <;> (simp only [hw, trunc, byt]; omega)
theorem num_words14 (n : Int) : hw (trunc n 15) 0 = hw (trunc n 14) 0 ∧ hw (trunc n 15) 1 = hw (trunc n 14) 1 ∧ hw (trunc n 15) 2 = hw (trunc n 14) 2 ∧ hw (trunc n 15) 3 = hw (trunc n 14) 3 ∧ hw (trunc n 15) 4 = hw (trunc n 14) 4 + byt n 14 * 256 ∧ hw (trunc n 15) 5 = hw (trunc n 14) 5 ∧ hw (trunc n 15) 6 = hw (trunc n 14) 6 ∧ hw (trunc n 15) 7 = hw (trunc n 14) 7 := by
  refine ⟨?_, ?_, ?_, ?_, ?_, ?_, ?_, ?_⟩ <;> (simp only [hw, trunc, byt]; omega)
theorem num_words15 (n : Int) : hw (trunc n 16) 0 = hw (trunc n 15) 0 ∧ hw (trunc n 16) 1 = hw (trunc n 15) 1 ∧ hw (trunc n 16) 2 = hw (trunc n 15) 2 ∧ hw (trunc n 16) 3 = hw (trunc n 15) 3 ∧ hw (trunc n 16) 4 = hw (trunc n 15) 4 + byt n 15 * 1 ∧ hw (trunc n 16) 5 = hw (trunc n 15) 5 ∧ hw (trunc n 16) 6 = hw (trunc n 15) 6 ∧ hw (trunc n 16) 7 = hw (trunc n 15) 7 := by
  refine ⟨?_, ?_, ?_, ?_, ?_, ?_, ?_, ?_⟩ <;> (simp only [hw, trunc, byt]; omega)
theorem num_words16 (n : Int) : hw (trunc n 17) 0 = hw (trunc n 16) 0 ∧ hw (trunc n 17) 1 = hw (trunc n 16) 1 ∧ hw (trunc n 17) 2 = hw (trunc n 16) 2 ∧ hw (trunc n 17) 3 = hw (trunc n 16) 3 + byt n 16 * 16777216 ∧ hw (trunc n 17) 4 = hw (trunc n 16) 4 ∧ hw (trunc n 17) 5 = hw (trunc n 16) 5 ∧ hw (trunc n 17) 6 = hw (trunc n 16) 6 ∧ hw (trunc n 17) 7 = hw (trunc n 16) 7 := by
  refine ⟨?_, ?_, ?_, ?_, ?_, ?_, ?_, ?_⟩ <;> (simp only [hw, trunc, byt]; omega)
theorem num_words17 (n : Int) : hw (trunc n 18) 0 = hw (trunc n 17) 0 ∧ hw (trunc n 18) 1 = hw (trunc n 17) 1 ∧ hw (trunc n 18) 2 = hw (trunc n 17) 2 ∧ hw (trunc n 18) 3 = hw (trunc n 17) 3 + byt n 17 * 65536 ∧ hw (trunc n 18) 4 = hw (trunc n 17) 4 ∧ hw (trunc n 18) 5 = hw (trunc n 17) 5 ∧ hw (trunc n 18) 6 = hw (trunc n 17) 6 ∧ hw (trunc n 18) 7 = hw (trunc n 17) 7 := by
  refine ⟨?_, ?_, ?_, ?_, ?_, ?_, ?_, ?_⟩ <;> (simp only [hw, trunc, byt]; omega)
theorem num_words18 (n : Int) : hw (trunc n 19) 0 = hw (trunc n 18) 0 ∧ hw (trunc n 19) 1 = hw (trunc n 18) 1 ∧ hw (trunc n 19) 2 = hw (trunc n 18) 2 ∧ hw (trunc n 19) 3 = hw (trunc n 18) 3 + byt n 18 * 256 ∧ hw (trunc n 19) 4 = hw (trunc n 18) 4 ∧ hw (trunc n 19) 5 = hw (trunc n 18) 5 ∧ hw (trunc n 19) 6 = hw (trunc n 18) 6 ∧ hw (trunc n 19) 7 = hw (trunc n 18) 7 := by
  refine ⟨?_, ?_, ?_, ?_, ?_, ?_, ?_, ?_⟩ <;> (simp only [hw, trunc, byt]; omega)
theorem num_words19 (n : Int) : hw (trunc n 20) 0 = hw (trunc n 19) 0 ∧ hw (trunc n 20) 1 = hw (trunc n 19) 1 ∧ hw (trunc n 20) 2 = hw (trunc n 19) 2 ∧ hw (trunc n 20) 3 = hw (trunc n 19) 3 + byt n 19 * 1 ∧ hw (trunc n 20) 4 = hw (trunc n 19) 4 ∧ hw (trunc n 20) 5 = hw (trunc n 19) 5 ∧ hw (trunc n 20) 6 = hw (trunc n 19) 6 ∧ hw (trunc n 20) 7 = hw (trunc n 19) 7 := by
  refine ⟨?_, ?_, ?_, ?_, ?_, ?_, ?_, ?_⟩ <;> (simp only [hw, trunc, byt]; omega)
theorem num_words20 (n : Int) : hw (trunc n 21) 0 = hw (trunc n 20) 0 ∧ hw (trunc n 21) 1 = hw (trunc n 20) 1 ∧ hw (trunc n 21) 2 = hw (trunc n 20) 2 + byt n 20 * 16777216 ∧ hw (trunc n 21) 3 = hw (trunc n 20) 3 ∧ hw (trunc n 21) 4 = hw (trunc n 20) 4 ∧ hw (trunc n 21) 5 = hw (trunc n 20) 5 ∧ hw (trunc n 21) 6 = hw (trunc n 20) 6 ∧ hw (trunc n 21) 7 = hw (trunc n 20) 7 := by
  refine ⟨?_, ?_, ?_, ?_, ?_, ?_, ?_, ?_⟩ <;> (simp only [hw, trunc, byt]; omega)
theorem num_words21 (n : Int) : hw (trunc n 22) 0 = hw (trunc n 21) 0 ∧ hw (trunc n 22) 1 = hw (trunc n 21) 1 ∧ hw (trunc n 22) 2 = hw (trunc n 21) 2 + byt n 21 * 65536 ∧ hw (trunc n 22) 3 = hw (trunc n 21) 3 ∧ hw (trunc n 22) 4 = hw (trunc n 21) 4 ∧ hw (trunc n 22) 5 = hw (trunc n 21) 5 ∧ hw (trunc n 22) 6 = hw (trunc n 21) 6 ∧ hw (trunc n 22) 7 = hw (trunc n 21) 7 := by
  refine ⟨?_, ?_, ?_, ?_, ?_, ?_, ?_, ?_⟩ <;> (simp only [hw, trunc, byt]; omega)
theorem num_words22 (n : Int) : hw (trunc n 23) 0 = hw (trunc n 22) 0 ∧ hw (trunc n 23) 1 = hw (trunc n 22) 1 ∧ hw (trunc n 23) 2 = hw (trunc n 22) 2 + byt n 22 * 256 ∧ hw (trunc n 23) 3 = hw (trunc n 22) 3 ∧ hw (trunc n 23) 4 = hw (trunc n 22) 4 ∧ hw (trunc n 23) 5 = hw (trunc n 22) 5 ∧ hw (trunc n 23) 6 = hw (trunc n 22) 6 ∧ hw (trunc n 23) 7 = hw (trunc n 22) 7 := by
  refine ⟨?_, ?_, ?_, ?_, ?_, ?_, ?_, ?_⟩ <;> (simp only [hw, trunc, byt]; omega)
theorem num_words23 (n : Int) : hw (trunc n 24) 0 = hw (trunc n 23) 0 ∧ hw (trunc n 24) 1 = hw (trunc n 23) 1 ∧ hw (trunc n 24) 2 = hw (trunc n 23) 2 + byt n 23 * 1 ∧ hw (trunc n 24) 3 = hw (trunc n 23) 3 ∧ hw (trunc n 24) 4 = hw (trunc n 23) 4 ∧ hw (trunc n 24) 5 = hw (trunc n 23) 5 ∧ hw (trunc n 24) 6 = hw (trunc n 23) 6 ∧ hw (trunc n 24) 7 = hw (trunc n 23) 7 := by
  refine ⟨?_, ?_, ?_, ?_, ?_, ?_, ?_, ?_⟩ <;> (simp only [hw, trunc, byt]; omega)
theorem num_words24 (n : Int) : hw (trunc n 25) 0 = hw (trunc n 24) 0 ∧ hw (trunc n 25) 1 = hw (trunc n 24) 1 + byt n 24 * 16777216 ∧ hw (trunc n 25) 2 = hw (trunc n 24) 2 ∧ hw (trunc n 25) 3 = hw (trunc n 24) 3 ∧ hw (trunc n 25) 4 = hw (trunc n 24) 4 ∧ hw (trunc n 25) 5 = hw (trunc n 24) 5 ∧ hw (trunc n 25) 6 = hw (trunc n 24) 6 ∧ hw (trunc n 25) 7 = hw (trunc n 24) 7 := by
  refine ⟨?_, ?_, ?_, ?_, ?_, ?_, ?_, ?_⟩ <;> (simp only [hw, trunc, byt]; omega)
theorem num_words25 (n : Int) : hw (trunc n 26) 0 = hw (trunc n 25) 0 ∧ hw (trunc n 26) 1 = hw (trunc n 25) 1 + byt n 25 * 65536 ∧ hw (trunc n 26) 2 = hw (trunc n 25) 2 ∧ hw (trunc n 26) 3 = hw (trunc n 25) 3 ∧ hw (trunc n 26) 4 = hw (trunc n 25) 4 ∧ hw (trunc n 26) 5 = hw (trunc n 25) 5 ∧ hw (trunc n 26) 6 = hw (trunc n 25) 6 ∧ hw (trunc n 26) 7 = hw (trunc n 25) 7 := by
  refine ⟨?_, ?_, ?_, ?_, ?_, ?_, ?_, ?_⟩ <;> (simp only [hw, trunc, byt]; omega)
theorem num_words26 (n : Int) : hw (trunc n 27) 0 = hw (trunc n 26) 0 ∧ hw (trunc n 27) 1 = hw (trunc n 26) 1 + byt n 26 * 256 ∧ hw (trunc n 27) 2 = hw (trunc n 26) 2 ∧ hw (trunc n 27) 3 = hw (trunc n 26) 3 ∧ hw (trunc n 27) 4 = hw (trunc n 26) 4 ∧ hw (trunc n 27) 5 = hw (trunc n 26) 5 ∧ hw (trunc n 27) 6 = hw (trunc n 26) 6 ∧ hw (trunc n 27) 7 = hw (trunc n 26) 7 := by
  refine ⟨?_, ?_, ?_, ?_, ?_, ?_, ?_, ?_⟩ <;> (simp only [hw, trunc, byt]; omega)
theorem num_words27 (n : Int) : hw (trunc n 28) 0 = hw (trunc n 27) 0 ∧ hw (trunc n 28) 1 = hw (trunc n 27) 1 + byt n 27 * 1 ∧ hw (trunc n 28) 2 = hw (trunc n 27) 2 ∧ hw (trunc n 28) 3 = hw (trunc n 27) 3 ∧ hw (trunc n 28) 4 = hw (trunc n 27) 4 ∧ hw (trunc n 28) 5 = hw (trunc n 27) 5 ∧ hw (trunc n 28) 6 = hw (trunc n 27) 6 ∧ hw (trunc n 28) 7 = hw (trunc n 27) 7 := by
  refine ⟨?_, ?_, ?_, ?_, ?_, ?_, ?_, ?_⟩ <;> (simp only [hw, trunc, byt]; omega)
theorem num_words28 (n : Int) : hw (trunc n 29) 0 = hw (trunc n 28) 0 + byt n 28 * 16777216 ∧ hw (trunc n 29) 1 = hw (trunc n 28) 1 ∧ hw (trunc n 29) 2 = hw (trunc n 28) 2 ∧ hw (trunc n 29) 3 = hw (trunc n 28) 3 ∧ hw (trunc n 29) 4 = hw (trunc n 28) 4 ∧ hw (trunc n 29) 5 = hw (trunc n 28) 5 ∧ hw (trunc n 29) 6 = hw (trunc n 28) 6 ∧ hw (trunc n 29) 7 = hw (trunc n 28) 7 := by
  refine ⟨?_, ?_, ?_, ?_, ?_, ?_, ?_, ?_⟩ <;> (simp only [hw, trunc, byt]; omega)
theorem num_words29 (n : Int) : hw (trunc n 30) 0 = hw (trunc n 29) 0 + byt n 29 * 65536 ∧ hw (trunc n 30) 1 = hw (trunc n 29) 1 ∧ hw (trunc n 30) 2 = hw (trunc n 29) 2 ∧ hw (trunc n 30) 3 = hw (trunc n 29) 3 ∧ hw (trunc n 30) 4 = hw (trunc n 29) 4 ∧ hw (trunc n 30) 5 = hw (trunc n 29) 5 ∧ hw (trunc n 30) 6 = hw (trunc n 29) 6 ∧ hw (trunc n 30) 7 = hw (trunc n 29) 7 := by
  refine ⟨?_, ?_, ?_, ?_, ?_, ?_, ?_, ?_⟩ <;> (simp only [hw, trunc, byt]; omega)
theorem num_words30 (n : Int) : hw (trunc n 31) 0 = hw (trunc n 30) 0 + byt n 30 * 256 ∧ hw (trunc n 31) 1 = hw (trunc n 30) 1 ∧ hw (trunc n 31) 2 = hw (trunc n 30) 2 ∧ hw (trunc n 31) 3 = hw (trunc n 30) 3 ∧ hw (trunc n 31) 4 = hw (trunc n 30) 4 ∧ hw (trunc n 31) 5 = hw (trunc n 30) 5 ∧ hw (trunc n 31) 6 = hw (trunc n 30) 6 ∧ hw (trunc n 31) 7 = hw (trunc n 30) 7 := by
  refine ⟨?_, ?_, ?_, ?_, ?_, ?_, ?_, ?_⟩ <;> (simp only [hw, trunc, byt]; omega)
theorem num_words31 (n : Int) : hw (trunc n 32) 0 = hw (trunc n 31) 0 + byt n 31 * 1 ∧ hw (trunc n 32) 1 = hw (trunc n 31) 1 ∧ hw (trunc n 32) 2 = hw (trunc n 31) 2 ∧ hw (trunc n 32) 3 = hw (trunc n 31) 3 ∧ hw (trunc n 32) 4 = hw (trunc n 31) 4 ∧ hw (trunc n 32) 5 = hw (trunc n 31) 5 ∧ hw (trunc n 32) 6 = hw (trunc n 31) 6 ∧ hw (trunc n 32) 7 = hw (trunc n 31) 7 := by
  refine ⟨?_, ?_, ?_, ?_, ?_, ?_, ?_, ?_⟩ <;> (simp only [hw, trunc, byt]; omega)
theorem num_set {n : Int} {k q : Nat} {x : Int} (hq : q < 8) (h : ∀ j, j < 8 → hw (trunc n (k + 1)) j = if j = q then x else hw (trunc n k) j) :
    (hws (trunc n k)).setIfInBounds q (.int .i64 x) = hws (trunc n (k + 1)) := by
  have a0 := h 0 (by decide); have a1 := h 1 (by decide); have a2 := h 2 (by decide); have a3 := h 3 (by decide)
  have a4 := h 4 (by decide); have a5 := h 5 (by decide); have a6 := h 6 (by decide); have a7 := h 7 (by decide)
  simp only [hws, a0, a1, a2, a3, a4, a5, a6, a7]
  match q, hq with
  | 0, _ => rfl
  | 1, _ => rfl
  | 2, _ => rfl
  | 3, _ => rfl
  | 4, _ => rfl
  | 5, _ => rfl
  | 6, _ => rfl
  | 7, _ => rfl
theorem num_all {n : Int} {k : Nat} (hk : k < 32) : ∀ j, j < 8 → hw (trunc n (k + 1)) j = if j = (31 - k) / 4 then hw (trunc n k) ((31 - k) / 4) + byt n k * 2 ^ (8 * ((31 - k) % 4)) else hw (trunc n k) j := by
  intro j hj
  obtain rfl | rfl | rfl | rfl | rfl | rfl | rfl | rfl | rfl | rfl | rfl | rfl | rfl | rfl | rfl | rfl | rfl | rfl | rfl | rfl | rfl | rfl | rfl | rfl | rfl | rfl | rfl | rfl | rfl | rfl | rfl | rfl : k = 0 ∨ k = 1 ∨ k = 2 ∨ k = 3 ∨ k = 4 ∨ k = 5 ∨ k = 6 ∨ k = 7 ∨ k = 8 ∨ k = 9 ∨ k = 10 ∨ k = 11 ∨ k = 12 ∨ k = 13 ∨ k = 14 ∨ k = 15 ∨ k = 16 ∨ k = 17 ∨ k = 18 ∨ k = 19 ∨ k = 20 ∨ k = 21 ∨ k = 22 ∨ k = 23 ∨ k = 24 ∨ k = 25 ∨ k = 26 ∨ k = 27 ∨ k = 28 ∨ k = 29 ∨ k = 30 ∨ k = 31 := by omega
  · obtain ⟨e0, e1, e2, e3, e4, e5, e6, e7⟩ := num_words0 n
    match j, hj with
    | 0, _ => exact e0
    | 1, _ => exact e1
    | 2, _ => exact e2
    | 3, _ => exact e3
    | 4, _ => exact e4
    | 5, _ => exact e5
    | 6, _ => exact e6
    | 7, _ => exact e7
  · obtain ⟨e0, e1, e2, e3, e4, e5, e6, e7⟩ := num_words1 n
    match j, hj with
    | 0, _ => exact e0
    | 1, _ => exact e1
    | 2, _ => exact e2
    | 3, _ => exact e3
    | 4, _ => exact e4
    | 5, _ => exact e5
    | 6, _ => exact e6
    | 7, _ => exact e7
  · obtain ⟨e0, e1, e2, e3, e4, e5, e6, e7⟩ := num_words2 n
    match j, hj with
    | 0, _ => exact e0
    | 1, _ => exact e1
    | 2, _ => exact e2
    | 3, _ => exact e3
    | 4, _ => exact e4
    | 5, _ => exact e5
    | 6, _ => exact e6
    | 7, _ => exact e7
  · obtain ⟨e0, e1, e2, e3, e4, e5, e6, e7⟩ := num_words3 n
    match j, hj with
    | 0, _ => exact e0
    | 1, _ => exact e1
    | 2, _ => exact e2
    | 3, _ => exact e3
    | 4, _ => exact e4
    | 5, _ => exact e5
    | 6, _ => exact e6
    | 7, _ => exact e7
  · obtain ⟨e0, e1, e2, e3, e4, e5, e6, e7⟩ := num_words4 n
    match j, hj with
    | 0, _ => exact e0
    | 1, _ => exact e1
    | 2, _ => exact e2
    | 3, _ => exact e3
    | 4, _ => exact e4
    | 5, _ => exact e5
    | 6, _ => exact e6
    | 7, _ => exact e7
  · obtain ⟨e0, e1, e2, e3, e4, e5, e6, e7⟩ := num_words5 n
    match j, hj with
    | 0, _ => exact e0
    | 1, _ => exact e1
    | 2, _ => exact e2
    | 3, _ => exact e3
    | 4, _ => exact e4
    | 5, _ => exact e5
    | 6, _ => exact e6
    | 7, _ => exact e7
  · obtain ⟨e0, e1, e2, e3, e4, e5, e6, e7⟩ := num_words6 n
    match j, hj with
    | 0, _ => exact e0
    | 1, _ => exact e1
    | 2, _ => exact e2
    | 3, _ => exact e3
    | 4, _ => exact e4
    | 5, _ => exact e5
    | 6, _ => exact e6
    | 7, _ => exact e7
  · obtain ⟨e0, e1, e2, e3, e4, e5, e6, e7⟩ := num_words7 n
    match j, hj with
    | 0, _ => exact e0
    | 1, _ => exact e1
    | 2, _ => exact e2
    | 3, _ => exact e3
    | 4, _ => exact e4
    | 5, _ => exact e5
    | 6, _ => exact e6
    | 7, _ => exact e7
  · obtain ⟨e0, e1, e2, e3, e4, e5, e6, e7⟩ := num_words8 n
    match j, hj with
    | 0, _ => exact e0
    | 1, _ => exact e1
    | 2, _ => exact e2
    | 3, _ => exact e3
    | 4, _ => exact e4
    | 5, _ => exact e5
    | 6, _ => exact e6
    | 7, _ => exact e7
  · obtain ⟨e0, e1, e2, e3, e4, e5, e6, e7⟩ := num_words9 n
    match j, hj with
    | 0, _ => exact e0
    | 1, _ => exact e1
    | 2, _ => exact e2
    | 3, _ => exact e3
    | 4, _ => exact e4
    | 5, _ => exact e5
    | 6, _ => exact e6
    | 7, _ => exact e7
  · obtain ⟨e0, e1, e2, e3, e4, e5, e6, e7⟩ := num_words10 n
    match j, hj with
    | 0, _ => exact e0
    | 1, _ => exact e1
    | 2, _ => exact e2
    | 3, _ => exact e3
    | 4, _ => exact e4
    | 5, _ => exact e5
    | 6, _ => exact e6
    | 7, _ => exact e7
  · obtain ⟨e0, e1, e2, e3, e4, e5, e6, e7⟩ := num_words11 n
    match j, hj with
    | 0, _ => exact e0
    | 1, _ => exact e1
    | 2, _ => exact e2
    | 3, _ => exact e3
    | 4, _ => exact e4
    | 5, _ => exact e5
    | 6, _ => exact e6
    | 7, _ => exact e7
  · obtain ⟨e0, e1, e2, e3, e4, e5, e6, e7⟩ := num_words12 n
    match j, hj with
    | 0, _ => exact e0
    | 1, _ => exact e1
    | 2, _ => exact e2
    | 3, _ => exact e3
    | 4, _ => exact e4
    | 5, _ => exact e5
    | 6, _ => exact e6
    | 7, _ => exact e7
  · obtain ⟨e0, e1, e2, e3, e4, e5, e6, e7⟩ := num_words13 n
    match j, hj with
    | 0, _ => exact e0
    | 1, _ => exact e1
    | 2, _ => exact e2
    | 3, _ => exact e3
    | 4, _ => exact e4
    | 5, _ => exact e5
    | 6, _ => exact e6
    | 7, _ => exact e7
  · obtain ⟨e0, e1, e2, e3, e4, e5, e6, e7⟩ := num_words14 n
    match j, hj with
    | 0, _ => exact e0
    | 1, _ => exact e1
    | 2, _ => exact e2
    | 3, _ => exact e3
    | 4, _ => exact e4
    | 5, _ => exact e5
    | 6, _ => exact e6
    | 7, _ => exact e7
  · obtain ⟨e0, e1, e2, e3, e4, e5, e6, e7⟩ := num_words15 n
    match j, hj with
    | 0, _ => exact e0
    | 1, _ => exact e1
    | 2, _ => exact e2
    | 3, _ => exact e3
    | 4, _ => exact e4
    | 5, _ => exact e5
    | 6, _ => exact e6
    | 7, _ => exact e7
  · obtain ⟨e0, e1, e2, e3, e4, e5, e6, e7⟩ := num_words16 n
    match j, hj with
    | 0, _ => exact e0
    | 1, _ => exact e1
    | 2, _ => exact e2
    | 3, _ => exact e3
    | 4, _ => exact e4
    | 5, _ => exact e5
    | 6, _ => exact e6
    | 7, _ => exact e7
  · obtain ⟨e0, e1, e2, e3, e4, e5, e6, e7⟩ := num_words17 n
    match j, hj with
    | 0, _ => exact e0
    | 1, _ => exact e1
    | 2, _ => exact e2
    | 3, _ => exact e3
    | 4, _ => exact e4
    | 5, _ => exact e5
    | 6, _ => exact e6
    | 7, _ => exact e7
  · obtain ⟨e0, e1, e2, e3, e4, e5, e6, e7⟩ := num_words18 n
    match j, hj with
    | 0, _ => exact e0
    | 1, _ => exact e1
    | 2, _ => exact e2
    | 3, _ => exact e3
    | 4, _ => exact e4
    | 5, _ => exact e5
    | 6, _ => exact e6
    | 7, _ => exact e7
  · obtain ⟨e0, e1, e2, e3, e4, e5, e6, e7⟩ := num_words19 n
    match j, hj with
    | 0, _ => exact e0
    | 1, _ => exact e1
    | 2, _ => exact e2
    | 3, _ => exact e3
    | 4, _ => exact e4
    | 5, _ => exact e5
    | 6, _ => exact e6
    | 7, _ => exact e7
  · obtain ⟨e0, e1, e2, e3, e4, e5, e6, e7⟩ := num_words20 n
    match j, hj with
    | 0, _ => exact e0
    | 1, _ => exact e1
    | 2, _ => exact e2
    | 3, _ => exact e3
    | 4, _ => exact e4
    | 5, _ => exact e5
    | 6, _ => exact e6
    | 7, _ => exact e7
  · obtain ⟨e0, e1, e2, e3, e4, e5, e6, e7⟩ := num_words21 n
    match j, hj with
    | 0, _ => exact e0
    | 1, _ => exact e1
    | 2, _ => exact e2
    | 3, _ => exact e3
    | 4, _ => exact e4
    | 5, _ => exact e5
    | 6, _ => exact e6
    | 7, _ => exact e7
  · obtain ⟨e0, e1, e2, e3, e4, e5, e6, e7⟩ := num_words22 n
    match j, hj with
    | 0, _ => exact e0
    | 1, _ => exact e1
    | 2, _ => exact e2
    | 3, _ => exact e3
    | 4, _ => exact e4
    | 5, _ => exact e5
    | 6, _ => exact e6
    | 7, _ => exact e7
  · obtain ⟨e0, e1, e2, e3, e4, e5, e6, e7⟩ := num_words23 n
    match j, hj with
    | 0, _ => exact e0
    | 1, _ => exact e1
    | 2, _ => exact e2
    | 3, _ => exact e3
    | 4, _ => exact e4
    | 5, _ => exact e5
    | 6, _ => exact e6
    | 7, _ => exact e7
  · obtain ⟨e0, e1, e2, e3, e4, e5, e6, e7⟩ := num_words24 n
    match j, hj with
    | 0, _ => exact e0
    | 1, _ => exact e1
    | 2, _ => exact e2
    | 3, _ => exact e3
    | 4, _ => exact e4
    | 5, _ => exact e5
    | 6, _ => exact e6
    | 7, _ => exact e7
  · obtain ⟨e0, e1, e2, e3, e4, e5, e6, e7⟩ := num_words25 n
    match j, hj with
    | 0, _ => exact e0
    | 1, _ => exact e1
    | 2, _ => exact e2
    | 3, _ => exact e3
    | 4, _ => exact e4
    | 5, _ => exact e5
    | 6, _ => exact e6
    | 7, _ => exact e7
  · obtain ⟨e0, e1, e2, e3, e4, e5, e6, e7⟩ := num_words26 n
    match j, hj with
    | 0, _ => exact e0
    | 1, _ => exact e1
    | 2, _ => exact e2
    | 3, _ => exact e3
    | 4, _ => exact e4
    | 5, _ => exact e5
    | 6, _ => exact e6
    | 7, _ => exact e7
  · obtain ⟨e0, e1, e2, e3, e4, e5, e6, e7⟩ := num_words27 n
    match j, hj with
    | 0, _ => exact e0
    | 1, _ => exact e1
    | 2, _ => exact e2
    | 3, _ => exact e3
    | 4, _ => exact e4
    | 5, _ => exact e5
    | 6, _ => exact e6
    | 7, _ => exact e7
  · obtain ⟨e0, e1, e2, e3, e4, e5, e6, e7⟩ := num_words28 n
    match j, hj with
    | 0, _ => exact e0
    | 1, _ => exact e1
    | 2, _ => exact e2
    | 3, _ => exact e3
    | 4, _ => exact e4
    | 5, _ => exact e5
    | 6, _ => exact e6
    | 7, _ => exact e7
  · obtain ⟨e0, e1, e2, e3, e4, e5, e6, e7⟩ := num_words29 n
    match j, hj with
    | 0, _ => exact e0
    | 1, _ => exact e1
    | 2, _ => exact e2
    | 3, _ => exact e3
    | 4, _ => exact e4
    | 5, _ => exact e5
    | 6, _ => exact e6
    | 7, _ => exact e7
  · obtain ⟨e0, e1, e2, e3, e4, e5, e6, e7⟩ := num_words30 n
    match j, hj with
    | 0, _ => exact e0
    | 1, _ => exact e1
    | 2, _ => exact e2
    | 3, _ => exact e3
    | 4, _ => exact e4
    | 5, _ => exact e5
    | 6, _ => exact e6
    | 7, _ => exact e7
  · obtain ⟨e0, e1, e2, e3, e4, e5, e6, e7⟩ := num_words31 n
    match j, hj with
    | 0, _ => exact e0
    | 1, _ => exact e1
    | 2, _ => exact e2
    | 3, _ => exact e3
    | 4, _ => exact e4
    | 5, _ => exact e5
    | 6, _ => exact e6
    | 7, _ => exact e7
theorem num_step {n : Int} {k : Nat} (hk : k < 32) : (hws (trunc n k)).setIfInBounds ((31 - k) / 4) (.int .i64 (wrap64 (hw (trunc n k) ((31 - k) / 4) + wrap64 (byt n k * 2 ^ (8 * ((31 - k) % 4)))))) = hws (trunc n (k + 1)) := by
  have l0 := byt_lo n k
  have l1 := byt_hi n k
  have g0 := hw_lo (trunc n k) ((31 - k) / 4)
  have g1 := hw_hi (trunc n k) ((31 - k) / 4)
  have hp : (2 : Int) ^ (8 * ((31 - k) % 4)) = 1 ∨ (2 : Int) ^ (8 * ((31 - k) % 4)) = 256 ∨ (2 : Int) ^ (8 * ((31 - k) % 4)) = 65536 ∨ (2 : Int) ^ (8 * ((31 - k) % 4)) = 16777216 := by
    have : (31 - k) % 4 < 4 := Nat.mod_lt _ (by decide)
    match (31 - k) % 4, this with
    | 0, _ => simp
    | 1, _ => simp
    | 2, _ => simp
    | 3, _ => simp
  have ha := num_all (n := n) hk
  have hb : 0 ≤ byt n k * 2 ^ (8 * ((31 - k) % 4)) ∧ byt n k * 2 ^ (8 * ((31 - k) % 4)) < 4294967296 := by
    rcases hp with h | h | h | h <;> rw [h] <;> omega
  have w1 : wrap64 (byt n k * 2 ^ (8 * ((31 - k) % 4))) = byt n k * 2 ^ (8 * ((31 - k) % 4)) := IntWalk.wrap64_in _ ⟨by omega, by omega⟩
  rw [w1, IntWalk.wrap64_in _ ⟨by omega, by omega⟩]
  exact num_set (by omega) ha
theorem trunc_zero {n : Int} (h : Num n) : trunc n 0 = 0 := by
  obtain ⟨h0, h1⟩ := h
  simp only [trunc]
  omega
theorem trunc_full (n : Int) : trunc n 32 = n := by
  simp only [trunc]
  omega

set_option maxHeartbeats 1000000 in
set_option maxRecDepth 100000 in
theorem number_any (n : Int) (w : World) (hn : Num n) :
    Calls Tryd.prog 26 #[.agg (bts n)] w fun e w' =>
      e = .returned (.agg (hws n)) ∧ Below w.heap.size w w' := by
  go_enter Tryd.func26, Tryd.ntmps26
  go_wp2_with fail
  go_loopw [6] (fun v wr => ∃ k : Nat, k ≤ 32 ∧ v = .int .i64 k ∧ Blk wr w.heap.size 38 (bts n) ∧ Blk wr (w.heap.size + 1) 44 (hws 0) ∧ Blk wr (w.heap.size + 1 + 1) 44 (hws (trunc n k)) ∧ Below w.heap.size w wr) (fun v _ => 32 - (intOf v).toNat)
  case atStart =>
    refine ⟨0, by decide, rfl, ((Blk.new _ _ _ rfl).alloc _).alloc _, (Blk.new _ _ _ (by simp)).alloc _, ?_, (((RowKit.Below.refl _ _).alloc (Nat.le_refl _) _).alloc (by simp) _).alloc (by simp; omega) _⟩
    rw [trunc_zero hn]
    exact Blk.new _ _ (hws 0) (by simp)
  case round =>
    obtain ⟨k, hk', rfl, hB0, hB1, hB2, hb⟩ := hrel
    by_cases hlt : k < 32
    · have cb : wr.cell? ⟨w.heap.size, k, none⟩ = some (.int .u8 (byt n k)) := by rw [hB0.cell]; exact bts_at n hlt
      have co : wr.cell? ⟨w.heap.size + 1 + 1, (31 - k) / 4, none⟩ = some (.int .i64 (hw (trunc n k) ((31 - k) / 4))) := by rw [hB2.cell]; exact hws_at _ (by omega)
      have fo := hB2.frozen ((31 - k) / 4)
      have l0 := byt_lo n k
      have l1 := byt_hi n k
      have HB0 := Lib.hid hB0; have HB1 := Lib.hid hB1; have HB2 := Lib.hid hB2
      clear hB0 hB1 hB2
      go_wp2_with fail
      go_region
      go_wp2_with fail
      go_roundw
      case rel =>
        refine ⟨k + 1, by omega, by go_num, (HB0.out.far (by simp <;> omega) _), (HB1.out.far (by simp) _), ?_, (RowKit.Below.setCell hb (by simp; omega) _).drew⟩
        rw [← num_step hlt]
        exact HB2.out.set_ _ _
      case measure => simp [intOf]; omega
    · obtain rfl : k = 32 := by omega
      rw [trunc_full] at hB2
      have hB2' := Lib.hid hB2
      have a0 := hB2.cell 0; have a1 := hB2.cell 1; have a2 := hB2.cell 2; have a3 := hB2.cell 3
      have a4 := hB2.cell 4; have a5 := hB2.cell 5; have a6 := hB2.cell 6; have a7 := hB2.cell 7
      have z0 := hB1.cell 0; have z1 := hB1.cell 1; have z2 := hB1.cell 2; have z3 := hB1.cell 3
      have z4 := hB1.cell 4; have z5 := hB1.cell 5; have z6 := hB1.cell 6; have z7 := hB1.cell 7
      have f0 := hB1.frozen 0; have f1 := hB1.frozen 1; have f2 := hB1.frozen 2; have f3 := hB1.frozen 3
      have f4 := hB1.frozen 4; have f5 := hB1.frozen 5; have f6 := hB1.frozen 6; have f7 := hB1.frozen 7
      simp at a0 a1 a2 a3 a4 a5 a6 a7 z0 z1 z2 z3 z4 z5 z6 z7
      clear hB0 hB1 hB2
      go_wp2_with fail
      refine bodyPost_ret (v := .agg (hws n)) ?_ rfl ⟨rfl, ?_⟩
      · simp [results, Tryd.results26, go_sem, z0, z1, z2, z3, z4, z5, z6, z7]
      · repeat (refine RowKit.Below.setCell ?_ (by simp) _)
        exact hb
end Go.Proofs.YtodofaoaenddgaaDoor
