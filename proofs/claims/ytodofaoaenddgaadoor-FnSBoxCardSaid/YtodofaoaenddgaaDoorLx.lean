/-
  The laws FnSBox and FnInternal4, walked.
-/
import Derived.Test.YtodofaoaenddgaaDoorLw
namespace Go.Proofs.YtodofaoaenddgaaDoor
open Go.RowKit Go.Lib Fr
attribute [local go_sem] setCell_drewN alloc_drewN

set_option maxHeartbeats 1000000 in
set_option maxRecDepth 100000 in
theorem fnSBox_any (n : Int) (w : World) (hn : Num n) :
    Calls Tryd.prog 8 #[.agg (bts n)] w fun e w' =>
      e = .returned (.bool true) ∧ Below w.heap.size w w' := by
  have K0 := Lib.hid ((Kp.nil (RowKit.Below.refl w.heap.size w)).alloc (bts n) 38 rfl)
  have HN := Lib.hid hn
  have hpos := hn.1
  by_cases hlt : n < fp
  · have HL := Lib.hid (And.intro hpos hlt)
    have HP := Lib.hid (show 0 ≤ p5 n ∧ p5 n < fp from ⟨mod_fp_lo _, mod_fp_hi _⟩)
    have IS := Lib.hid (fun w => is_any n w hn)
    rw [decide_eq_true hlt] at IS
    clear hlt hpos hn
    go_enter Tryd.func8, Tryd.ntmps8
    go_wp2_with (first | (refine wpList_load_at rfl 38 _ rfl ⟨w.heap.size, 0, none⟩ rfl (bts n) _ (K0.out.b0).load Tryd.underlying38 rfl (by kernel_rfl) ?_; go_frame))
    refine (IS.out _).mono ?_
    rintro e w1 ⟨rfl, h1⟩
    have K1 := Lib.hid (K0.out.next h1)
    clear h1 K0
    go_wp2_with (first | (refine wpList_load_at rfl 38 _ rfl ⟨w.heap.size, 0, none⟩ rfl (bts n) _ (K1.out.b0).load Tryd.underlying38 rfl (by kernel_rfl) ?_; go_frame))
    refine (doSBox_any n _ HL.out.1 HL.out.2).mono ?_
    rintro e w2 ⟨rfl, h2⟩
    have hs2 := Lib.hid (K1.out.next h2).b0.lt
    have K2z := Lib.hid ((K1.out.next h2).alloc (bpre 0 0) 38 (b := w2.heap.size) rfl)
    have H1 := Lib.hid (one_bts (p5 n))
    clear h2 K1
    go_wp2_with (first | (rw [z32 0]; refine wpList_store_blk rfl 38 _ _ rfl w2.heap.size 38 (bpre 0 0) (bts (p5 n)) K2z.out.b0 rfl rfl (by kernel_rfl) (by rw [size_bpre, size_bts]) H1.out ?_; go_frame))
    have K3 := Lib.hid (K2z.out.setRow (Nat.le_of_lt hs2.out) (fun x hx => by rw [List.mem_singleton] at hx; subst hx; exact Nat.ne_of_lt hs2.out) (bts (p5 n)))
    have hd := Lib.hid K3.out.drew
    have hu := Tryd.underlying38
    have hi := b32_size n
    have hi2 := b32_size (p5 n)
    clear K2z K3
    refine wp_region_noPanic ?_
    refine wp_region_held_drew (S := fun w' => w'.rangeAt w2.heap.size 0 (bts (p5 n)).toList ∧ w'.rangeAt w.heap.size 0 (bts n).toList) (by kernel_rfl) ⟨hd.out.b0.range, hd.out.tl.b0.range⟩ (fun hS0 => ?_)
    refine wpAnyH_take (i := 0) (oi := _) (v := .bool true) rfl (by kernel_rfl) (by kernel_rfl) (by kernel_rfl) (fun _ _ _ h => h) (Or.inl ⟨by rfl, ?_⟩) (by assumption) ?_
    · (intro w hSw; (try dsimp only at hSw); go_simp)
    try simp only [Act.put, List.setIfInBounds_toArray, List.set_cons_zero, List.set_cons_succ]
    refine wpAnyH_take (i := 1) (oi := _) (v := .bool true) rfl (by kernel_rfl) (by kernel_rfl) (by kernel_rfl) (fun _ _ _ h => h) (Or.inl ⟨by rfl, ?_⟩) (by assumption) ?_
    · (intro w hSw; (try dsimp only at hSw); go_simp)
    try simp only [Act.put, List.setIfInBounds_toArray, List.set_cons_zero, List.set_cons_succ]
    refine wpAnyH_take (i := 2) (oi := _) (v := _) rfl (by kernel_rfl) (by kernel_rfl) (by kernel_rfl) (fun _ _ _ h => h) (yieldsIf_load_mid (by rfl) _ _ rfl _ _ rfl (bts (p5 n)).toList _ (fun _ h => h.1) hu rfl hi2) (by assumption) ?_
    try simp only [Act.put, List.setIfInBounds_toArray, List.set_cons_zero, List.set_cons_succ]
    refine wpAnyH_take (i := 3) (oi := _) (v := _) rfl (by kernel_rfl) (by kernel_rfl) (by kernel_rfl) (fun _ _ _ h => h) (yieldsIf_load_mid (by rfl) _ _ rfl _ _ rfl (bts (n)).toList _ (fun _ h => h.2) hu rfl hi) (by assumption) ?_
    try simp only [Act.put, List.setIfInBounds_toArray, List.set_cons_zero, List.set_cons_succ]
    refine wpAnyH_ready (rs := [4]) (by kernel_rfl) (by simp) ?_
    refine AllReadyH.cons (o := _) rfl (fun K hK => ?_) AllReadyH.nil
    go_simp
    go_at_call 26
    refine (number_any n _ HN.out).mono ?_
    rintro e w4 ⟨rfl, h⟩
    have K4 := Lib.hid (hd.out.next h)
    clear h
    go_wp2_with fail
    refine hK.out _ _ ⟨K4.out.b0.range, K4.out.tl.b0.range⟩ (fun hHeld => ?_)
    clear hK K
    try simp only [Act.put, List.setIfInBounds_toArray, List.set_cons_zero, List.set_cons_succ]
    refine wpAnyH_ready (rs := [5]) (by kernel_rfl) (by simp) ?_
    refine AllReadyH.cons (o := _) rfl (fun K hK => ?_) AllReadyH.nil
    go_simp
    go_at_call 25
    refine (fifth_any n _ HL.out.1 HL.out.2).mono ?_
    rintro e w5 ⟨rfl, h⟩
    have K5 := Lib.hid (K4.out.next h)
    clear h
    go_wp2_with fail
    refine hK.out _ _ ⟨K5.out.b0.range, K5.out.tl.b0.range⟩ (fun hHeld => ?_)
    clear hK K
    try simp only [Act.put, List.setIfInBounds_toArray, List.set_cons_zero, List.set_cons_succ]
    refine wpAnyH_ready (rs := [6]) (by kernel_rfl) (by simp) ?_
    refine AllReadyH.cons (o := _) rfl (fun K hK => ?_) AllReadyH.nil
    go_simp
    go_at_call 24
    refine (is_yes (p5 n) _).mono ?_
    rintro e w6 ⟨rfl, h⟩
    have K6 := Lib.hid (K5.out.next h)
    clear h
    go_wp2_with fail
    refine hK.out _ _ ⟨K6.out.b0.range, K6.out.tl.b0.range⟩ (fun hHeld => ?_)
    clear hK K
    try simp only [Act.put, List.setIfInBounds_toArray, List.set_cons_zero, List.set_cons_succ]
    refine wpAnyH_take (i := 7) (oi := _) (v := .bool true) rfl (by kernel_rfl) (by kernel_rfl) (by kernel_rfl) (fun _ _ _ h => h) (Or.inl ⟨by rfl, ?_⟩) (by assumption) ?_
    · (intro w hSw; (try dsimp only at hSw); go_simp)
    try simp only [Act.put, List.setIfInBounds_toArray, List.set_cons_zero, List.set_cons_succ]
    refine wpAnyH_take (i := 8) (oi := _) (v := .bool true) rfl (by kernel_rfl) (by kernel_rfl) (by kernel_rfl) (fun _ _ _ h => h) (Or.inl ⟨by rfl, ?_⟩) (by assumption) ?_
    · (intro w hSw; (try dsimp only at hSw); go_simp)
    try simp only [Act.put, List.setIfInBounds_toArray, List.set_cons_zero, List.set_cons_succ]
    refine wpAnyH_ready (rs := [9]) (by kernel_rfl) (by simp) ?_
    refine AllReadyH.cons (o := _) rfl (fun K hK => ?_) AllReadyH.nil
    go_simp
    go_at_call 27
    refine (degree_any _).mono ?_
    rintro e w' ⟨rfl, rfl⟩
    go_wp2_with fail
    refine hK.out _ _ ⟨K6.out.b0.range, K6.out.tl.b0.range⟩ (fun hHeld => ?_)
    clear hK K
    try simp only [Act.put, List.setIfInBounds_toArray, List.set_cons_zero, List.set_cons_succ]
    refine wpAnyH_take (i := 10) (oi := _) (v := .bool true) rfl (by kernel_rfl) (by kernel_rfl) (by kernel_rfl) (fun _ _ _ h => h) (Or.inl ⟨by rfl, ?_⟩) (by assumption) ?_
    · (intro w hSw; (try dsimp only at hSw); go_simp)
    try simp only [Act.put, List.setIfInBounds_toArray, List.set_cons_zero, List.set_cons_succ]
    refine wpAnyH_take (i := 11) (oi := _) (v := .bool true) rfl (by kernel_rfl) (by kernel_rfl) (by kernel_rfl) (fun _ _ _ h => h) (Or.inl ⟨by rfl, ?_⟩) (by assumption) ?_
    · (intro w hSw; (try dsimp only at hSw); go_simp)
    try simp only [Act.put, List.setIfInBounds_toArray, List.set_cons_zero, List.set_cons_succ]
    refine wpAnyH_take (i := 12) (oi := _) (v := .bool true) rfl (by kernel_rfl) (by kernel_rfl) (by kernel_rfl) (fun _ _ _ h => h) (Or.inl ⟨by rfl, ?_⟩) (by assumption) ?_
    · (intro w hSw; (try dsimp only at hSw); go_simp)
    try simp only [Act.put, List.setIfInBounds_toArray, List.set_cons_zero, List.set_cons_succ]
    refine wpAnyH_done (by kernel_rfl) ?_ _
    refine NoPanic.normal ?_
    simp only [List.getElem_toArray, List.getElem_cons_succ, List.getElem_cons_zero]
    go_wp2_with fail
    go_ret
    exact ⟨rfl, K6.out.1⟩
  · have IS := Lib.hid (fun w => is_any n w hn)
    rw [decide_eq_false hlt] at IS
    clear hlt hpos hn
    go_enter Tryd.func8, Tryd.ntmps8
    go_wp2_with (first | (refine wpList_load_at rfl 38 _ rfl ⟨w.heap.size, 0, none⟩ rfl (bts n) _ (K0.out.b0).load Tryd.underlying38 rfl (by kernel_rfl) ?_; go_frame))
    refine (IS.out _).mono ?_
    rintro e w1 ⟨rfl, h1⟩
    have K1 := Lib.hid (K0.out.next h1)
    clear h1 K0
    go_wp2_with fail
    go_ret
    exact ⟨rfl, K1.out.1⟩
end Go.Proofs.YtodofaoaenddgaaDoor
