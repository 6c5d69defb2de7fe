/-
  SetBytesCanonical and impl.element, walked, at a number below the prime.
-/
import Derived.Test.YtodofaoaenddgaaDoorElt
import Derived.Laws.Cover3
namespace Go.Proofs.YtodofaoaenddgaaDoor
open Go.RowKit Go.Lib Fr
attribute [local go_sem] setCell_drewN alloc_drewN

set_option maxHeartbeats 1000000 in
set_option maxRecDepth 100000 in
theorem setCanon_yes (g o gb ob cap : Nat) (n : Int) (w : World) (h0 : 0 ≤ n) (h1 : n < fp) (hz : Wr4 w g o) (hc : ∀ i, i < 32 → w.cell? ⟨gb, ob + i, none⟩ = some (.int .u8 (byt n i))) :
    Calls Tryd.prog 53 #[.pointer (some ⟨g, o, none⟩), .slice (some ⟨gb, ob, none⟩) 32 cap] w fun e w' =>
      e = .returned .nilIface ∧ Below w.heap.size (putE w g o n) w' := by
  have lt := hz.lt
  have E := Lib.hid (beElement_yes gb ob 0 n w h0 h1 hc)
  have hat : ∀ w, (Instr.arrayAt 38 (.slice (some ⟨gb, ob, none⟩) 32 cap)).run Tryd.prog w = .ok (.pointer (some ⟨gb, ob, none⟩)) w := fun w => run_arrayAt w 38 _ 32 _ 32 cap Tryd.underlying38 (Nat.le_refl _)
  clear hc
  go_enter Tryd.func53, Tryd.ntmps53
  go_wp2_with fail
  refine E.out.mono ?_
  rintro e w1 ⟨rfl, hb⟩
  have hz1 := (hz.below hb lt).alloc (.cells (lms n) 69)
  obtain ⟨⟨z0, z1, z2, z3, z0c, z1c, z2c, z3c⟩, f0, f1, f2, f3⟩ := hz1
  have sz := hb.size
  go_wp2
  go_ret
  refine ⟨rfl, ?_⟩
  exact Below.put4_both (hb.alloc sz _) g o _ _ _ _

set_option maxHeartbeats 1000000 in
set_option maxRecDepth 100000 in
theorem element_yes (n : Int) (w : World) (h0 : 0 ≤ n) (h1 : n < fp) :
    Calls Tryd.prog 42 #[.agg (bts n)] w fun e w' =>
      e = .returned (.tuple #[.agg (lms n), .bool true]) ∧ Below w.heap.size w w' := by
  go_enter Tryd.func42, Tryd.ntmps42
  have A0 : Blk (((w.alloc (.cells (bts n) 38)).alloc (.cells #[.int .u64 0, .int .u64 0, .int .u64 0, .int .u64 0] 69)).alloc (.cells #[.int .u64 0, .int .u64 0, .int .u64 0, .int .u64 0] 69)) w.heap.size 38 (bts n) := ((Blk.new _ _ _ rfl).alloc _).alloc _
  have A1 : Blk (((w.alloc (.cells (bts n) 38)).alloc (.cells #[.int .u64 0, .int .u64 0, .int .u64 0, .int .u64 0] 69)).alloc (.cells #[.int .u64 0, .int .u64 0, .int .u64 0, .int .u64 0] 69)) (w.heap.size + 1) 69 #[.int .u64 0, .int .u64 0, .int .u64 0, .int .u64 0] := (Blk.new _ _ _ (by simp)).alloc _
  have A2 : Blk (((w.alloc (.cells (bts n) 38)).alloc (.cells #[.int .u64 0, .int .u64 0, .int .u64 0, .int .u64 0] 69)).alloc (.cells #[.int .u64 0, .int .u64 0, .int .u64 0, .int .u64 0] 69)) (w.heap.size + 1 + 1) 69 #[.int .u64 0, .int .u64 0, .int .u64 0, .int .u64 0] := Blk.new _ _ _ (by simp)
  go_wp2_with fail
  refine (setCanon_yes (w.heap.size + 1 + 1) 0 w.heap.size 0 32 n _ h0 h1 (A2.wr4 (by simp)) (fun i hi => by rw [A0.cell, Nat.zero_add]; exact bts_at n hi)).mono ?_
  rintro e w1 ⟨rfl, hb⟩
  have sz : w.heap.size + 1 + 1 < w1.heap.size := by have := hb.size; simp [putE, size_put4] at this; omega
  have C2 : Blk w1 (w.heap.size + 1 + 1) 69 (lms n) := Blk.below (w := putE _ (w.heap.size + 1 + 1) 0 n) (A2.put4 0 (lim n 0) (lim n 1) (lim n 2) (lim n 3)) hb (by simp)
  have C1 : Blk w1 (w.heap.size + 1) 69 #[.int .u64 0, .int .u64 0, .int .u64 0, .int .u64 0] := Blk.below (w := putE _ (w.heap.size + 1 + 1) 0 n) (A1.put4_far (g' := w.heap.size + 1 + 1) (by omega) 0 (lim n 0) (lim n 1) (lim n 2) (lim n 3)) hb (by simp)
  have D : Below w.heap.size w w1 := RowKit.Below.trans (b := putE _ (w.heap.size + 1 + 1) 0 n) (Below.put4 ((((RowKit.Below.refl _ _).alloc (Nat.le_refl _) _).alloc (by simp) _).alloc (by simp <;> omega) _) (by omega) _ _ _ _ _) (hb.mono (by simp; omega))
  have a0 := C2.cell 0; have a1 := C2.cell 1; have a2 := C2.cell 2; have a3 := C2.cell 3
  have z0 := C1.cell 0; have z1 := C1.cell 1; have z2 := C1.cell 2; have z3 := C1.cell 3
  have f0 := C1.frozen 0; have f1 := C1.frozen 1; have f2 := C1.frozen 2; have f3 := C1.frozen 3
  simp at a0 a1 a2 a3 z0 z1 z2 z3
  clear A0 A1 A2 hb C1 C2
  go_wp2
  go_region
  go_wp2
  refine bodyPost_ret (v := .tuple #[.agg (lms n), .bool true]) ?_ rfl ⟨rfl, ?_⟩
  · simp [results, Tryd.results42, go_sem, z0, z1, z2, z3]
  · exact ((((D.setCell (p := ⟨w.heap.size + 1, 0, none⟩) (by simp) _).setCell (p := ⟨w.heap.size + 1, 1, none⟩) (by simp) _).setCell (p := ⟨w.heap.size + 1, 2, none⟩) (by simp) _).setCell (p := ⟨w.heap.size + 1, 3, none⟩) (by simp) _).drew

end Go.Proofs.YtodofaoaenddgaaDoor
