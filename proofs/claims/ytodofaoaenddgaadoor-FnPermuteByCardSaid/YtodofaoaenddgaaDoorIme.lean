/-
  The permutation's S-box, walked: one element of a row becomes its fifth power.
-/
import Derived.Test.YtodofaoaenddgaaDoorRg
import Derived.Test.YtodofaoaenddgaaDoorSpd
namespace Go.Proofs.YtodofaoaenddgaaDoor
open Go.RowKit Go.Lib Fr
attribute [local go_sem] setCell_drewN alloc_drewN

theorem set_at {ns : List Int} {i : Nat} (h : i < ns.length) (v : Int) : (ns.set i v)[i]? = some v := List.getElem?_set_self h
theorem len_set {ns : List Int} {i j : Nat} (h : i < ns.length) (v : Int) : i < (ns.set j v).length := by rw [List.length_set]; exact h

set_option maxHeartbeats 1000000 in
set_option maxRecDepth 100000 in
theorem sBox_any (hp : Value) (g cap : Nat) (ns : List Int) (i : Nat) (n : Int) (w : World) (hr : Row w g ns) (hi : ns[i]? = some n) :
    Calls Tryd.prog 54 #[hp, .int .i64 i, .slice (some ⟨g, 0, none⟩) ns.length cap] w fun e w' =>
      e = .returned (.tuple #[]) ∧ Row w' g (ns.set i (p5 n)) ∧ w.grownBy w' (some g) := by
  have hlt : i < ns.length := (List.getElem?_eq_some_iff.1 hi).1
  have hlt0 : (i : Int) < (ns.length : Int) := by omega
  have HI := Lib.hid hi
  have HL := Lib.hid hlt
  have K0 := Lib.hid (show Rg w (w.alloc (.cells #[.int .u64 0, .int .u64 0, .int .u64 0, .int .u64 0] 69)) (some g) [(w.heap.size, [0]), (g, ns)] from
    ((Rg.nil (World.grownBy.refl w (some g))).cons hr (.inl rfl) (fun x hx => nomatch hx)).alloc [0] zero_row rfl)
  clear hr hi
  go_enter Tryd.func54, Tryd.ntmps54
  go_wp2_with fail
  refine (K0.out.set_ 0 0 1 i rfl rfl (by decide) HI.out rfl rfl).mono ?_
  rintro e w1 ⟨rfl, h1⟩
  have K1 := Lib.hid (Rg.drew (show Rg w w1 (some g) [(w.heap.size, [n]), (g, ns)] from h1))
  clear h1 K0
  go_wp2_with fail
  go_region_held3 (fun _ => True) (exact trivial)
    (first
      | (go_at_call 60; refine (K3.out.mul 1 i 1 i 0 0 rfl rfl rfl (len_set (len_set HL.out _) _) (set_at (len_set HL.out _) _) rfl rfl rfl rfl).mono ?_; rintro e w4 ⟨rfl, h4⟩; have K4 := Lib.hid h4; clear K3 h4)
      | (go_at_call 63; refine (K2.out.sqr 1 i 1 i rfl rfl (len_set HL.out _) (set_at HL.out _) rfl rfl).mono ?_; rintro e w3 ⟨rfl, h3⟩; have K3 := Lib.hid h3; clear K2 h3)
      | (go_at_call 63; refine (K1.out.sqr 1 i 1 i rfl rfl HL.out HI.out rfl rfl).mono ?_; rintro e w2 ⟨rfl, h2⟩; have K2 := Lib.hid h2; clear K1 h2))
  go_wp2_with fail
  go_end0
  refine ⟨rfl, ?_, K4.out.1⟩
  have h := K4.out.row (j := 1) rfl
  rw [List.set_set, List.set_set] at h
  exact h
end Go.Proofs.YtodofaoaenddgaaDoor
