/-
  laws.is, walked: 32 bytes that are those of a number.
-/
import Derived.Test.YtodofaoaenddgaaDoorImd
import Derived.BigQuiet
import Derived.Deep.QuietTactic
import Derived.Stop.BytesEq
namespace Go.Proofs.YtodofaoaenddgaaDoor
open Go.RowKit Go.Lib Fr
attribute [local go_sem] setCell_drewN alloc_drewN

/-- The bytes of a number. -/
def bys (n : Int) : List UInt8 := (List.range 32).map fun i => UInt8.ofNat (byt n i).toNat
theorem length_bys (n : Int) : (bys n).length = 32 := by simp [bys]
theorem bts_bys (n : Int) : bts n = ((bys n).map Extern.Stop.cell).toArray := by
  simp only [bts, bys, List.map_map]
  congr 1
  apply List.map_congr_left
  intro i _
  have h0 := byt_lo n i
  have h1 := byt_hi n i
  simp only [Function.comp, Extern.Stop.cell]
  congr 1
  rw [UInt8.toNat_ofNat', Nat.mod_eq_of_lt (by omega)]
  exact (Int.toNat_of_nonneg h0).symm
theorem run_eql_bts (n m : Int) (w : World) : (binOp .eql 38 (.agg (bts n)) (.agg (bts m))).run Tryd.prog w = .ok (.bool (bys n == bys m)) w := by
  rw [bts_bys n, bts_bys m]
  exact run_eql_bytes w 38 5 32 Tryd.underlying38 Tryd.underlying5 (fun _ => by kernel_rfl) _ _ (length_bys n) (length_bys m)
theorem Blk.range {w : World} {b : Nat} {t : TypeId} {cs : Array Value} (h : Blk w b t cs) : w.rangeAt b 0 cs.toList := fun j v hj => by
  rw [Nat.zero_add, h.cell]
  simpa using hj
theorem b32_size (n : Int) : (Tryd.prog.info? 38).map (·.size) = some (bts n).toList.length := by
  rw [Array.length_toList, size_bts]; kernel_rfl

set_option maxHeartbeats 1000000 in
set_option maxRecDepth 100000 in
theorem is_yes (n : Int) (w : World) :
    Calls Tryd.prog 24 #[.agg (bts n), .agg (hws n)] w fun e w' =>
      e = .returned (.bool true) ∧ Below w.heap.size w w' := by
  have K0 := Lib.hid (((Kp.nil (RowKit.Below.refl w.heap.size w)).alloc (bts n) 38 rfl).alloc (hws n) 44 (b := w.heap.size + 1) (by simp))
  have heq := run_eql_bts n n
  rw [beq_self_eq_true] at heq
  have hu := Tryd.underlying38
  have hi := b32_size n
  go_enter Tryd.func24, Tryd.ntmps24
  go_wp2_with fail
  have hd := Lib.hid K0.out.drew
  go_region_held3 (fun w' => w'.rangeAt w.heap.size 0 (bts n).toList ∧ w'.cell? ⟨w.heap.size + 1, 0, none⟩ = some (.int .i64 (hw (n) 0)) ∧ w'.cell? ⟨w.heap.size + 1, 1, none⟩ = some (.int .i64 (hw (n) 1)) ∧ w'.cell? ⟨w.heap.size + 1, 2, none⟩ = some (.int .i64 (hw (n) 2)) ∧ w'.cell? ⟨w.heap.size + 1, 3, none⟩ = some (.int .i64 (hw (n) 3)) ∧ w'.cell? ⟨w.heap.size + 1, 4, none⟩ = some (.int .i64 (hw (n) 4)) ∧ w'.cell? ⟨w.heap.size + 1, 5, none⟩ = some (.int .i64 (hw (n) 5)) ∧ w'.cell? ⟨w.heap.size + 1, 6, none⟩ = some (.int .i64 (hw (n) 6)) ∧ w'.cell? ⟨w.heap.size + 1, 7, none⟩ = some (.int .i64 (hw (n) 7))) (first | exact ⟨K1.out.tl.b0.range, K1.out.b0.cells8⟩ | exact ⟨hd.out.tl.b0.range, hd.out.b0.cells8⟩)
    (first | (go_at_call 39; refine (bytes_any n _).mono ?_; rintro e w1 ⟨rfl, h1⟩; have K1 := Lib.hid (hd.out.next h1); clear h1))
  go_wp2_with fail
  go_ret
  exact ⟨rfl, K1.out.1⟩
end Go.Proofs.YtodofaoaenddgaaDoor
