/-
  The reference's numbers, walked: Bytes.
-/
import Derived.Test.YtodofaoaenddgaaDoorSpn
import Derived.Test.YtodofaoaenddgaaDoorMem
namespace Go.Proofs.YtodofaoaenddgaaDoor
open Go.RowKit Go.Lib Fr
attribute [local go_sem] setCell_drewN alloc_drewN

/-- The first k bytes, and zeros behind them. -/
def bpre (n : Int) (k : Nat) : Array Value := ((List.range 32).map fun i => Value.int .u8 (if i < k then byt n i else 0)).toArray
theorem bpre_full (n : Int) : bpre n 32 = bts n := by
  simp only [bpre, bts]
  congr 1
theorem byte_word {n : Int} {k : Nat} (hk : k < 32) : hw n ((31 - k) / 4) / 2 ^ (8 * ((31 - k) % 4)) % 256 = byt n k := by
  obtain rfl | rfl | rfl | rfl | rfl | rfl | rfl | rfl | rfl | rfl | rfl | rfl | rfl | rfl | rfl | rfl | rfl | rfl | rfl | rfl | rfl | rfl | rfl | rfl | rfl | rfl | rfl | rfl | rfl | rfl | rfl | rfl : k = 0 ∨ k = 1 ∨ k = 2 ∨ k = 3 ∨ k = 4 ∨ k = 5 ∨ k = 6 ∨ k = 7 ∨ k = 8 ∨ k = 9 ∨ k = 10 ∨ k = 11 ∨ k = 12 ∨ k = 13 ∨ k = 14 ∨ k = 15 ∨ k = 16 ∨ k = 17 ∨ k = 18 ∨ k = 19 ∨ k = 20 ∨ k = 21 ∨ k = 22 ∨ k = 23 ∨ k = 24 ∨ k = 25 ∨ k = 26 ∨ k = 27 ∨ k = 28 ∨ k = 29 ∨ k = 30 ∨ k = 31 := by omega
  · show hw n 7 / 16777216 % 256 = byt n 0
    simp only [hw, byt]; omega
  · show hw n 7 / 65536 % 256 = byt n 1
    simp only [hw, byt]; omega
  · show hw n 7 / 256 % 256 = byt n 2
    simp only [hw, byt]; omega
  · show hw n 7 / 1 % 256 = byt n 3
    simp only [hw, byt]; omega
  · show hw n 6 / 16777216 % 256 = byt n 4
    simp only [hw, byt]; omega
  · show hw n 6 / 65536 % 256 = byt n 5
    simp only [hw, byt]; omega
  · show hw n 6 / 256 % 256 = byt n 6
    simp only [hw, byt]; omega
  · show hw n 6 / 1 % 256 = byt n 7
    simp only [hw, byt]; omega
  · show hw n 5 / 16777216 % 256 = byt n 8
    simp only [hw, byt]; omega
  · show hw n 5 / 65536 % 256 = byt n 9
    simp only [hw, byt]; omega
  · show hw n 5 / 256 % 256 = byt n 10
    simp only [hw, byt]; omega
  · show hw n 5 / 1 % 256 = byt n 11
    simp only [hw, byt]; omega
  · show hw n 4 / 16777216 % 256 = byt n 12
    simp only [hw, byt]; omega
  · show hw n 4 / 65536 % 256 = byt n 13
    simp only [hw, byt]; omega
  · show hw n 4 / 256 % 256 = byt n 14
    simp only [hw, byt]; omega
  · show hw n 4 / 1 % 256 = byt n 15
    simp only [hw, byt]; omega
  · show hw n 3 / 16777216 % 256 = byt n 16
    simp only [hw, byt]; omega
  · show hw n 3 / 65536 % 256 = byt n 17
    simp only [hw, byt]; omega
  · show hw n 3 / 256 % 256 = byt n 18
    simp only [hw, byt]; omega
  · show hw n 3 / 1 % 256 = byt n 19
    simp only [hw, byt]; omega
  · show hw n 2 / 16777216 % 256 = byt n 20
    simp only [hw, byt]; omega
  · show hw n 2 / 65536 % 256 = byt n 21
    simp only [hw, byt]; omega
  · show hw n 2 / 256 % 256 = byt n 22
    simp only [hw, byt]; omega
  · show hw n 2 / 1 % 256 = byt n 23
    simp only [hw, byt]; omega
  · show hw n 1 / 16777216 % 256 = byt n 24
    simp only [hw, byt]; omega
  · show hw n 1 / 65536 % 256 = byt n 25
    simp only [hw, byt]; omega
  · show hw n 1 / 256 % 256 = byt n 26
    simp only [hw, byt]; omega
  · show hw n 1 / 1 % 256 = byt n 27
    simp only [hw, byt]; omega
  · show hw n 0 / 16777216 % 256 = byt n 28
    simp only [hw, byt]; omega
  · show hw n 0 / 65536 % 256 = byt n 29
    simp only [hw, byt]; omega
  · show hw n 0 / 256 % 256 = byt n 30
    simp only [hw, byt]; omega
  · show hw n 0 / 1 % 256 = byt n 31
    simp only [hw, byt]; omega
theorem one_bpre (n : Int) (k : Nat) : (bpre n k).all (·.oneCell') = true := by
  rw [Array.all_eq_true_iff_forall_mem]
  intro v hv
  simp only [bpre, List.mem_toArray, List.mem_map] at hv
  obtain ⟨i, _, rfl⟩ := hv
  rfl
theorem size_bpre (n : Int) (k : Nat) : (bpre n k).size = 32 := by simp [bpre]
theorem bpre_at (n : Int) {k i : Nat} (h : i < 32) : (bpre n k)[i]? = some (.int .u8 (if i < k then byt n i else 0)) := by simp [bpre, h]
theorem bpre_step (n : Int) {k : Nat} : (bpre n k).setIfInBounds k (.int .u8 (byt n k)) = bpre n (k + 1) := by
  apply Array.ext
  · simp [bpre]
  · intro i h1 h2
    rw [Array.getElem_setIfInBounds (by simpa [bpre] using h2)]
    simp only [bpre, List.getElem_toArray, List.getElem_map, List.getElem_range]
    by_cases h : k = i
    · subst h; simp
    · rw [if_neg h]
      congr 1
      by_cases h3 : i < k
      · rw [if_pos h3, if_pos (by omega)]
      · rw [if_neg h3, if_neg (by omega)]

set_option maxHeartbeats 1000000 in
set_option maxRecDepth 100000 in
theorem bytes_any (n : Int) (w : World) :
    Calls Tryd.prog 39 #[.agg (hws n)] w fun e w' =>
      e = .returned (.agg (bts n)) ∧ Below w.heap.size w w' := by
  go_enter Tryd.func39, Tryd.ntmps39
  have Z : #[Value.int .u8 0, Value.int .u8 0, Value.int .u8 0, Value.int .u8 0, Value.int .u8 0, Value.int .u8 0, Value.int .u8 0, Value.int .u8 0, Value.int .u8 0, Value.int .u8 0, Value.int .u8 0, Value.int .u8 0, Value.int .u8 0, Value.int .u8 0, Value.int .u8 0, Value.int .u8 0, Value.int .u8 0, Value.int .u8 0, Value.int .u8 0, Value.int .u8 0, Value.int .u8 0, Value.int .u8 0, Value.int .u8 0, Value.int .u8 0, Value.int .u8 0, Value.int .u8 0, Value.int .u8 0, Value.int .u8 0, Value.int .u8 0, Value.int .u8 0, Value.int .u8 0, Value.int .u8 0] = bpre n 0 := rfl
  have HZ := Lib.hid Z
  clear Z
  go_wp2_with (first | (rw [HZ.out]; refine wpList_store_blk rfl 38 _ _ rfl (w.heap.size + 1 + 1) 38 (bpre n 0) (bpre n 0) (Blk.new _ _ _ (by simp)) rfl rfl (by kernel_rfl) rfl (one_bpre n 0) ?_; go_frame))
  go_loopw [6] (fun v wr => ∃ k : Nat, k ≤ 32 ∧ v = .int .i64 k ∧ Blk wr w.heap.size 44 (hws n) ∧ Blk wr (w.heap.size + 1) 38 (bpre n 0) ∧ Blk wr (w.heap.size + 1 + 1) 38 (bpre n k) ∧ Below w.heap.size w wr) (fun v _ => 32 - (intOf v).toNat)
  case atStart =>
    refine ⟨0, by decide, rfl, ?_, ?_, ?_, ?_⟩
    · exact (((Blk.new _ _ _ rfl).alloc _).alloc _).setRow_far (by omega) _
    · exact ((Blk.new _ _ _ (by simp)).alloc _).setRow_far (by omega) _
    · exact (Blk.new _ _ (bpre n 0) (by simp)).setRow _
    · exact Below.setRow ((((RowKit.Below.refl _ _).alloc (Nat.le_refl _) _).alloc (by simp) _).alloc (by simp; omega) _) (by omega) _
  case round =>
    obtain ⟨k, hk', rfl, hB0, hB1, hB2, hb⟩ := hrel
    by_cases hlt : k < 32
    · have cb : wr.cell? ⟨w.heap.size, (31 - k) / 4, none⟩ = some (.int .i64 (hw n ((31 - k) / 4))) := by rw [hB0.cell]; exact hws_at _ (by omega)
      have co : wr.cell? ⟨w.heap.size + 1 + 1, k, none⟩ = some (.int .u8 0) := by rw [hB2.cell, bpre_at n hlt, if_neg (Nat.lt_irrefl _)]
      have fo := hB2.frozen k
      have l0 := hw_lo n ((31 - k) / 4)
      have l1 := hw_hi n ((31 - k) / 4)
      have HB0 := Lib.hid hB0; have HB1 := Lib.hid hB1; have HB2 := Lib.hid hB2
      clear hB0 hB1 hB2
      go_wp2_with fail
      go_roundw
      case rel =>
        rw [byte_word hlt]
        refine ⟨k + 1, by omega, by go_num, (HB0.out.far (by simp <;> omega) _), (HB1.out.far (by simp) _), ?_, (RowKit.Below.setCell hb (by simp; omega) _)⟩
        rw [← bpre_step]
        exact HB2.out.set_ _ _
      case measure => simp [intOf]; omega
    · obtain rfl : k = 32 := by omega
      rw [bpre_full] at hB2
      have HB1 := Lib.hid hB1; have HB2 := Lib.hid hB2
      clear hB0 hB1 hB2
      go_wp2_with (first | (refine wpList_load_at rfl 38 _ rfl ⟨w.heap.size + 1 + 1, 0, none⟩ rfl (bts n) _ HB2.out.load Tryd.underlying38 rfl (by kernel_rfl) ?_; go_frame) | (refine wpList_store_blk rfl 38 _ _ rfl (w.heap.size + 1) 38 _ (bts n) HB1.out rfl rfl (by kernel_rfl) (by rw [size_bpre, size_bts]) (one_bts n) ?_; go_frame))
      refine bodyPost_ret (results_blk Tryd.results39 _ _ (HB1.out.setRow _) rfl Tryd.underlying38 rfl (by kernel_rfl)) rfl ⟨rfl, ?_⟩
      exact Below.setRow hb (by omega) _
end Go.Proofs.YtodofaoaenddgaaDoor
