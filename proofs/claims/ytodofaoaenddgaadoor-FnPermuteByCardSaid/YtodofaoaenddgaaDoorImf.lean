/-
  The permutation's matrices of width 2 and 3, walked: a row becomes what the plain matrix makes of it. Printed by gen_perm.py.
-/
import Derived.Test.YtodofaoaenddgaaDoorRg
import Derived.Test.YtodofaoaenddgaaDoorPlw
namespace Go.Proofs.YtodofaoaenddgaaDoor
open Go.RowKit Go.Lib Fr
attribute [local go_sem] setCell_drewN alloc_drewN

theorem alloc_cell {w : World} {a : Addr} {v : Value} (h : w.cell? a = some v) (o : Obj) : (w.alloc o).cell? a = some v := (World.cell?_of_block (Below.heap_alloc w o a.block (block_lt_of_cell h))).trans h
set_option maxHeartbeats 1000000 in
set_option maxRecDepth 100000 in
theorem ext2_any (gp op gq oq g cap : Nat) (a b : Int) (w : World) (hp : w.cell? ⟨gp, op, none⟩ = some (.pointer (some ⟨gq, oq, none⟩))) (hq : w.cell? ⟨gq, oq, none⟩ = some (.int .i64 2)) (hr : Row w g [a, b]) :
    Calls Tryd.prog 52 #[.pointer (some ⟨gp, op, none⟩), .slice (some ⟨g, 0, none⟩) 2 cap] w fun e w' =>
      e = .returned (.tuple #[]) ∧ Row w' g (extL [a, b]) ∧ w.grownBy w' (some g) := by
  have K0 := Lib.hid (show Rg w (w.alloc (.cells #[.int .u64 0, .int .u64 0, .int .u64 0, .int .u64 0] 69)) (some g) [(w.heap.size, [0]), (g, [a, b])] from
    ((Rg.nil (World.grownBy.refl w (some g))).cons hr (.inl rfl) (fun x hx => nomatch hx)).alloc [0] zero_row rfl)
  replace hp := alloc_cell hp (.cells #[.int .u64 0, .int .u64 0, .int .u64 0, .int .u64 0] 69)
  replace hq := alloc_cell hq (.cells #[.int .u64 0, .int .u64 0, .int .u64 0, .int .u64 0] 69)
  clear hr
  go_enter Tryd.func52, Tryd.ntmps52
  go_wp2_with fail
  have K0d := Lib.hid K0.out.drew
  clear K0
  have K0 := K0d
  clear K0d
  go_region_held3 (fun _ => True) (exact trivial)
    (first | (go_at_call 57; refine (K0.out.add 0 0 1 0 1 1 rfl rfl rfl (by simp) rfl rfl rfl rfl rfl).mono ?_; rintro e w1 ⟨rfl, h⟩; have K1 := Lib.hid (show Rg w w1 (some g) [(w.heap.size, [(a + b) % fp]), (g, [a, b])] from h); clear K0 h))
  go_wp2_with fail
  have K1d := Lib.hid K1.out.drew
  clear K1
  have K1 := K1d
  clear K1d
  go_region_held3 (fun _ => True) (exact trivial)
    (first | (go_at_call 57; refine (K1.out.add 1 0 0 0 1 0 rfl rfl rfl (by simp) rfl rfl rfl rfl rfl).mono ?_; rintro e w2 ⟨rfl, h⟩; have K2 := Lib.hid (show Rg w w2 (some g) [(w.heap.size, [(a + b) % fp]), (g, [(((a + b) % fp) + a) % fp, b])] from h); clear K1 h))
  go_wp2_with fail
  have K2d := Lib.hid K2.out.drew
  clear K2
  have K2 := K2d
  clear K2d
  go_region_held3 (fun _ => True) (exact trivial)
    (first | (go_at_call 57; refine (K2.out.add 1 1 0 0 1 1 rfl rfl rfl (by simp) rfl rfl rfl rfl rfl).mono ?_; rintro e w3 ⟨rfl, h⟩; have K3 := Lib.hid (show Rg w w3 (some g) [(w.heap.size, [(a + b) % fp]), (g, [(((a + b) % fp) + a) % fp, (((a + b) % fp) + b) % fp])] from h); clear K2 h))
  go_wp2_with fail
  go_end0
  refine ⟨rfl, ?_, K3.out.1⟩
  rw [ext2_eq]
  exact K3.out.row (j := 1) rfl

set_option maxHeartbeats 1000000 in
set_option maxRecDepth 100000 in
theorem ext3_any (gp op gq oq g cap : Nat) (a b c : Int) (w : World) (hp : w.cell? ⟨gp, op, none⟩ = some (.pointer (some ⟨gq, oq, none⟩))) (hq : w.cell? ⟨gq, oq, none⟩ = some (.int .i64 3)) (hr : Row w g [a, b, c]) :
    Calls Tryd.prog 52 #[.pointer (some ⟨gp, op, none⟩), .slice (some ⟨g, 0, none⟩) 3 cap] w fun e w' =>
      e = .returned (.tuple #[]) ∧ Row w' g (extL [a, b, c]) ∧ w.grownBy w' (some g) := by
  have K0 := Lib.hid (show Rg w (w.alloc (.cells #[.int .u64 0, .int .u64 0, .int .u64 0, .int .u64 0] 69)) (some g) [(w.heap.size, [0]), (g, [a, b, c])] from
    ((Rg.nil (World.grownBy.refl w (some g))).cons hr (.inl rfl) (fun x hx => nomatch hx)).alloc [0] zero_row rfl)
  replace hp := alloc_cell hp (.cells #[.int .u64 0, .int .u64 0, .int .u64 0, .int .u64 0] 69)
  replace hq := alloc_cell hq (.cells #[.int .u64 0, .int .u64 0, .int .u64 0, .int .u64 0] 69)
  clear hr
  go_enter Tryd.func52, Tryd.ntmps52
  go_wp2_with fail
  have K0d := Lib.hid K0.out.drew
  clear K0
  have K0 := K0d
  clear K0d
  go_region_held3 (fun _ => True) (exact trivial)
    (first | (go_at_call 57; refine (K1.out.add 0 0 0 0 1 2 rfl rfl rfl (by simp) rfl rfl rfl rfl rfl).mono ?_; rintro e w2 ⟨rfl, h⟩; have K2 := Lib.hid (show Rg w w2 (some g) [(w.heap.size, [(((a + b) % fp) + c) % fp]), (g, [a, b, c])] from h); clear K1 h) | (go_at_call 57; refine (K0.out.add 0 0 1 0 1 1 rfl rfl rfl (by simp) rfl rfl rfl rfl rfl).mono ?_; rintro e w1 ⟨rfl, h⟩; have K1 := Lib.hid (show Rg w w1 (some g) [(w.heap.size, [(a + b) % fp]), (g, [a, b, c])] from h); clear K0 h))
  go_wp2_with fail
  have K2d := Lib.hid K2.out.drew
  clear K2
  have K2 := K2d
  clear K2d
  go_region_held3 (fun _ => True) (exact trivial)
    (first | (go_at_call 57; refine (K2.out.add 1 0 0 0 1 0 rfl rfl rfl (by simp) rfl rfl rfl rfl rfl).mono ?_; rintro e w3 ⟨rfl, h⟩; have K3 := Lib.hid (show Rg w w3 (some g) [(w.heap.size, [(((a + b) % fp) + c) % fp]), (g, [(((((a + b) % fp) + c) % fp) + a) % fp, b, c])] from h); clear K2 h))
  go_wp2_with fail
  have K3d := Lib.hid K3.out.drew
  clear K3
  have K3 := K3d
  clear K3d
  go_region_held3 (fun _ => True) (exact trivial)
    (first | (go_at_call 57; refine (K3.out.add 1 1 0 0 1 1 rfl rfl rfl (by simp) rfl rfl rfl rfl rfl).mono ?_; rintro e w4 ⟨rfl, h⟩; have K4 := Lib.hid (show Rg w w4 (some g) [(w.heap.size, [(((a + b) % fp) + c) % fp]), (g, [(((((a + b) % fp) + c) % fp) + a) % fp, (((((a + b) % fp) + c) % fp) + b) % fp, c])] from h); clear K3 h))
  go_wp2_with fail
  have K4d := Lib.hid K4.out.drew
  clear K4
  have K4 := K4d
  clear K4d
  go_region_held3 (fun _ => True) (exact trivial)
    (first | (go_at_call 57; refine (K4.out.add 1 2 0 0 1 2 rfl rfl rfl (by simp) rfl rfl rfl rfl rfl).mono ?_; rintro e w5 ⟨rfl, h⟩; have K5 := Lib.hid (show Rg w w5 (some g) [(w.heap.size, [(((a + b) % fp) + c) % fp]), (g, [(((((a + b) % fp) + c) % fp) + a) % fp, (((((a + b) % fp) + c) % fp) + b) % fp, (((((a + b) % fp) + c) % fp) + c) % fp])] from h); clear K4 h))
  go_wp2_with fail
  go_end0
  refine ⟨rfl, ?_, K5.out.1⟩
  rw [ext3_eq]
  exact K5.out.row (j := 1) rfl

set_option maxHeartbeats 1000000 in
set_option maxRecDepth 100000 in
theorem int2_any (gp op gq oq g cap : Nat) (a b : Int) (w : World) (hp : w.cell? ⟨gp, op, none⟩ = some (.pointer (some ⟨gq, oq, none⟩))) (hq : w.cell? ⟨gq, oq, none⟩ = some (.int .i64 2)) (hr : Row w g [a, b]) :
    Calls Tryd.prog 51 #[.pointer (some ⟨gp, op, none⟩), .slice (some ⟨g, 0, none⟩) 2 cap] w fun e w' =>
      e = .returned (.tuple #[]) ∧ Row w' g (intL [1, 2] [a, b]) ∧ w.grownBy w' (some g) := by
  have K0 := Lib.hid (show Rg w (w.alloc (.cells #[.int .u64 0, .int .u64 0, .int .u64 0, .int .u64 0] 69)) (some g) [(w.heap.size, [0]), (g, [a, b])] from
    ((Rg.nil (World.grownBy.refl w (some g))).cons hr (.inl rfl) (fun x hx => nomatch hx)).alloc [0] zero_row rfl)
  clear hr
  go_enter Tryd.func51, Tryd.ntmps51
  go_wp2_with fail
  have K0d := Lib.hid K0.out.drew
  clear K0
  have K0 := K0d
  clear K0d
  go_region_held3 (fun _ => True) (exact trivial)
    (first | (go_at_call 57; refine (K0.out.add 0 0 1 0 1 1 rfl rfl rfl (by simp) rfl rfl rfl rfl rfl).mono ?_; rintro e w1 ⟨rfl, h⟩; have K1 := Lib.hid (show Rg w w1 (some g) [(w.heap.size, [(a + b) % fp]), (g, [a, b])] from h); clear K0 h))
  go_wp2_with fail
  have K1d := Lib.hid K1.out.drew
  clear K1
  have K1 := K1d
  clear K1d
  go_region_held3 (fun _ => True) (exact trivial)
    (first | (go_at_call 57; refine (K1.out.add 1 0 1 0 0 0 rfl rfl rfl (by simp) rfl rfl rfl rfl rfl).mono ?_; rintro e w2 ⟨rfl, h⟩; have K2 := Lib.hid (show Rg w w2 (some g) [(w.heap.size, [(a + b) % fp]), (g, [(a + ((a + b) % fp)) % fp, b])] from h); clear K1 h))
  go_wp2_with fail
  have K2d := Lib.hid K2.out.drew
  clear K2
  have K2 := K2d
  clear K2d
  go_region_held3 (fun _ => True) (exact trivial)
    (first | (go_at_call 57; refine (K3.out.add 1 1 1 1 0 0 rfl rfl rfl (by simp) rfl rfl rfl rfl rfl).mono ?_; rintro e w4 ⟨rfl, h⟩; have K4 := Lib.hid (show Rg w w4 (some g) [(w.heap.size, [(a + b) % fp]), (g, [(a + ((a + b) % fp)) % fp, (((b + b) % fp) + ((a + b) % fp)) % fp])] from h); clear K3 h) | (go_at_call 58; refine (K2.out.dbl 1 1 1 1 rfl rfl (by simp) rfl rfl rfl).mono ?_; rintro e w3 ⟨rfl, h⟩; have K3 := Lib.hid (show Rg w w3 (some g) [(w.heap.size, [(a + b) % fp]), (g, [(a + ((a + b) % fp)) % fp, (b + b) % fp])] from h); clear K2 h))
  go_wp2_with fail
  go_end0
  refine ⟨rfl, ?_, K4.out.1⟩
  rw [int2_eq]
  exact K4.out.row (j := 1) rfl

set_option maxHeartbeats 1000000 in
set_option maxRecDepth 100000 in
theorem int3_any (gp op gq oq g cap : Nat) (a b c : Int) (w : World) (hp : w.cell? ⟨gp, op, none⟩ = some (.pointer (some ⟨gq, oq, none⟩))) (hq : w.cell? ⟨gq, oq, none⟩ = some (.int .i64 3)) (hr : Row w g [a, b, c]) :
    Calls Tryd.prog 51 #[.pointer (some ⟨gp, op, none⟩), .slice (some ⟨g, 0, none⟩) 3 cap] w fun e w' =>
      e = .returned (.tuple #[]) ∧ Row w' g (intL [1, 1, 2] [a, b, c]) ∧ w.grownBy w' (some g) := by
  have K0 := Lib.hid (show Rg w (w.alloc (.cells #[.int .u64 0, .int .u64 0, .int .u64 0, .int .u64 0] 69)) (some g) [(w.heap.size, [0]), (g, [a, b, c])] from
    ((Rg.nil (World.grownBy.refl w (some g))).cons hr (.inl rfl) (fun x hx => nomatch hx)).alloc [0] zero_row rfl)
  clear hr
  go_enter Tryd.func51, Tryd.ntmps51
  go_wp2_with fail
  have K0d := Lib.hid K0.out.drew
  clear K0
  have K0 := K0d
  clear K0d
  go_region_held3 (fun _ => True) (exact trivial)
    (first | (go_at_call 57; refine (K1.out.add 0 0 0 0 1 2 rfl rfl rfl (by simp) rfl rfl rfl rfl rfl).mono ?_; rintro e w2 ⟨rfl, h⟩; have K2 := Lib.hid (show Rg w w2 (some g) [(w.heap.size, [(((a + b) % fp) + c) % fp]), (g, [a, b, c])] from h); clear K1 h) | (go_at_call 57; refine (K0.out.add 0 0 1 0 1 1 rfl rfl rfl (by simp) rfl rfl rfl rfl rfl).mono ?_; rintro e w1 ⟨rfl, h⟩; have K1 := Lib.hid (show Rg w w1 (some g) [(w.heap.size, [(a + b) % fp]), (g, [a, b, c])] from h); clear K0 h))
  go_wp2_with fail
  have K2d := Lib.hid K2.out.drew
  clear K2
  have K2 := K2d
  clear K2d
  go_region_held3 (fun _ => True) (exact trivial)
    (first | (go_at_call 57; refine (K2.out.add 1 0 1 0 0 0 rfl rfl rfl (by simp) rfl rfl rfl rfl rfl).mono ?_; rintro e w3 ⟨rfl, h⟩; have K3 := Lib.hid (show Rg w w3 (some g) [(w.heap.size, [(((a + b) % fp) + c) % fp]), (g, [(a + ((((a + b) % fp) + c) % fp)) % fp, b, c])] from h); clear K2 h))
  go_wp2_with fail
  have K3d := Lib.hid K3.out.drew
  clear K3
  have K3 := K3d
  clear K3d
  go_region_held3 (fun _ => True) (exact trivial)
    (first | (go_at_call 57; refine (K3.out.add 1 1 1 1 0 0 rfl rfl rfl (by simp) rfl rfl rfl rfl rfl).mono ?_; rintro e w4 ⟨rfl, h⟩; have K4 := Lib.hid (show Rg w w4 (some g) [(w.heap.size, [(((a + b) % fp) + c) % fp]), (g, [(a + ((((a + b) % fp) + c) % fp)) % fp, (b + ((((a + b) % fp) + c) % fp)) % fp, c])] from h); clear K3 h))
  go_wp2_with fail
  have K4d := Lib.hid K4.out.drew
  clear K4
  have K4 := K4d
  clear K4d
  go_region_held3 (fun _ => True) (exact trivial)
    (first | (go_at_call 57; refine (K5.out.add 1 2 1 2 0 0 rfl rfl rfl (by simp) rfl rfl rfl rfl rfl).mono ?_; rintro e w6 ⟨rfl, h⟩; have K6 := Lib.hid (show Rg w w6 (some g) [(w.heap.size, [(((a + b) % fp) + c) % fp]), (g, [(a + ((((a + b) % fp) + c) % fp)) % fp, (b + ((((a + b) % fp) + c) % fp)) % fp, (((c + c) % fp) + ((((a + b) % fp) + c) % fp)) % fp])] from h); clear K5 h) | (go_at_call 58; refine (K4.out.dbl 1 2 1 2 rfl rfl (by simp) rfl rfl rfl).mono ?_; rintro e w5 ⟨rfl, h⟩; have K5 := Lib.hid (show Rg w w5 (some g) [(w.heap.size, [(((a + b) % fp) + c) % fp]), (g, [(a + ((((a + b) % fp) + c) % fp)) % fp, (b + ((((a + b) % fp) + c) % fp)) % fp, (c + c) % fp])] from h); clear K4 h))
  go_wp2_with fail
  go_end0
  refine ⟨rfl, ?_, K6.out.1⟩
  rw [int3_eq]
  exact K6.out.row (j := 1) rfl

end Go.Proofs.YtodofaoaenddgaaDoor
