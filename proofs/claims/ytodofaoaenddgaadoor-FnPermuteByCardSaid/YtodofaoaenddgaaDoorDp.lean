/-
  impl.SBox, Degree, walked.
-/
import Derived.Test.YtodofaoaenddgaaDoorDo
namespace Go.Proofs.YtodofaoaenddgaaDoor
open Go.RowKit Go.Lib Fr
attribute [local go_sem] setCell_drewN alloc_drewN

theorem results_blk2 {P : Program} {fn : Func} {p q : Tmp} {ty : TypeId} (h : fn.results = #[.cell p ty, .tmp q]) (tmps : Array Value) {w : World} {g : Nat} {t : TypeId} {cs : Array Value} (d : TypeDesc) {v : Value}
    (hB : Blk w g t cs) (hp : tmps.getD p undef = .pointer (some ⟨g, 0, none⟩)) (hu : P.underlying ty = some d) (hd : (match d with | .struct _ | .array _ _ => true | _ => false) = true) (hi : (P.info? ty).map (·.size) = some cs.size) (hq : tmps.getD q undef = v) :
    (results fn tmps).run P w = .ok (.tuple #[.agg cs, v]) w := by
  have hp' : tmps[p]?.getD undef = .pointer (some ⟨g, 0, none⟩) := by simpa using hp
  have hq' : tmps[q]?.getD undef = v := by simpa using hq
  simp [results, h, hp', hq', asAddr, run_loadVar_row w g t ty cs (0, 0) d hB hu hd hi]

theorem degree_any (w : World) : Calls Tryd.prog 27 #[] w fun e w' => e = .returned (.int .i64 5) ∧ w = w' := by
  go_enter Tryd.func27, Tryd.ntmps27
  go_wp2
  go_ret
  exact ⟨rfl, rfl⟩

set_option maxHeartbeats 1000000 in
set_option maxRecDepth 100000 in
theorem doSBox_any (n : Int) (w : World) (h0 : 0 ≤ n) (h1 : n < fp) :
    Calls Tryd.prog 23 #[.agg (bts n)] w fun e w' =>
      e = .returned (.tuple #[.agg (bts (p5 n)), .bool true]) ∧ Below w.heap.size w w' := by
  have K0 := Lib.hid (((Kp.nil (RowKit.Below.refl w.heap.size w)).alloc (bts n) 38 rfl).alloc (bpre 0 0) 38 (b := w.heap.size + 1) (by simp))
  have HN := Lib.hid (And.intro h0 h1)
  have HP := Lib.hid (show 0 ≤ p5 n ∧ p5 n < fp from ⟨mod_fp_lo _, mod_fp_hi _⟩)
  clear h0 h1
  go_enter Tryd.func23, Tryd.ntmps23
  go_wp2_with (first | (rw [z32 0]; refine wpList_load_at rfl 38 _ rfl ⟨w.heap.size, 0, none⟩ rfl (bts n) _ K0.out.tl.b0.load Tryd.underlying38 rfl (by kernel_rfl) ?_; go_frame))
  refine (element_yes n _ HN.out.1 HN.out.2).mono ?_
  rintro e w1 ⟨rfl, h1⟩
  have K1 := Lib.hid ((K0.out.next h1).alloc (lms n) 69 (b := w1.heap.size) rfl)
  clear h1 K0
  go_wp2_with fail
  refine (zzSBox_any n _).mono ?_
  rintro e w2 ⟨rfl, h2⟩
  have K2 := Lib.hid ((K1.out.next h2).alloc (lms (p5 n)) 69 (b := w2.heap.size) rfl)
  clear h2 K1
  go_wp2_with fail
  refine (bytesE_any _ _ (p5 n) _ HP.out.1 HP.out.2 K2.out.b0.el).mono ?_
  rintro e w3 ⟨rfl, h3⟩
  have K3 := Lib.hid (K2.out.next h3).tl.tl
  have H1 := Lib.hid (one_bts (p5 n))
  clear h3 K2
  go_wp2_with (first | (refine wpList_store_blk rfl 38 _ _ rfl (w.heap.size + 1) 38 (bpre 0 0) (bts (p5 n)) (K3.out.b0) rfl rfl (by kernel_rfl) rfl (H1.out) ?_; go_frame))
  exact bodyPost_ret (results_blk2 Tryd.results23 _ _ (K3.out.b0.setRow _) rfl Tryd.underlying38 rfl (by kernel_rfl) rfl) rfl ⟨rfl, Below.setRow K3.out.1 (by omega) _⟩
end Go.Proofs.YtodofaoaenddgaaDoor
