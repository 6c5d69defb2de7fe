/-
  The law FnMatricesSum over the inner matrix, walked. Printed by gen_msum.py.
-/
import Derived.Test.YtodofaoaenddgaaDoorMs
namespace Go.Proofs.YtodofaoaenddgaaDoor
open Go.RowKit Go.Lib Fr
attribute [local go_sem] setCell_drewN alloc_drewN

set_option maxHeartbeats 16000000 in
set_option maxRecDepth 100000 in
theorem sumI_main (g o cap g2 o2 cap2 n : Nat) (ns ms : List Int) (w : World) (hl : LB w g o ns) (hl2 : LB w g2 o2 ms) (hn : ∀ n ∈ ns, 0 ≤ n ∧ n < fp) (hm : ∀ n ∈ ms, 0 ≤ n ∧ n < fp) (hnl : ns.length = n) (hml : ms.length = n) (h2 : 2 ≤ n) (h3 : n ≤ 3) :
    Calls Tryd.prog 7 #[.bool true, .slice (some ⟨g, o, none⟩) n cap, .slice (some ⟨g2, o2, none⟩) n cap2] w fun e w' =>
      e = .returned (.bool true) ∧ Below w.heap.size w w' := by
  have HL := Lib.hid hl
  have HL2 := Lib.hid hl2
  have HN := Lib.hid hn
  have HM := Lib.hid hm
  have H := Lib.hid (And.intro hnl (And.intro hml (And.intro h2 h3)))
  have HS := Lib.hid (show intL (dgL n) (addL ns ms) = addL (intL (dgL n) ns) (intL (dgL n) ms) from by have h := intL_add (ns := ns) (ms := ms) (by omega) (by omega) (by omega); (try rw [hnl] at h); exact h)
  have hA := Lib.hid ((length_addL (hnl.trans hml.symm)).trans hnl)
  clear hl hl2 hn hm hnl hml
  go_enter Tryd.func7, Tryd.ntmps7
  go_wp2_with fail
  refine (allN_any g o cap n ns w HL.out HN.out H.out.1 H.out.2.2.2).mono ?_
  rintro e w1 ⟨rfl, h⟩
  have B1 := Lib.hid h
  clear h
  go_wp2_with fail
  refine (allN_any g2 o2 cap2 n ms w1 (HL2.out.next B1.out) HM.out H.out.2.1 H.out.2.2.2).mono ?_
  rintro e w2 ⟨rfl, h⟩
  have B2 := Lib.hid (bel B1.out h)
  clear h B1
  go_wp2_with fail
  refine (cloN_any g o cap n ns w2 (HL.out.next B2.out) HN.out H.out.1 H.out.2.2.1 H.out.2.2.2).mono ?_
  rintro e w3 ⟨bx, rfl, hbx, hBx, h⟩
  have X3 := Lib.hid hBx.lb
  have B3 := Lib.hid (bel B2.out h)
  clear h hbx hBx B2
  go_wp2_with fail
  refine (cloN_any g2 o2 cap2 n ms w3 (HL2.out.next B3.out) HM.out H.out.2.1 H.out.2.2.1 H.out.2.2.2).mono ?_
  rintro e w4 ⟨by_, rfl, hby, hBy, h⟩
  have X4 := Lib.hid (X3.out.next h)
  have Y4 := Lib.hid hBy.lb
  have B4 := Lib.hid (bel B3.out h)
  clear h hby hBy B3 X3
  go_wp2_with fail
  refine (sumsN_any g o cap g2 o2 cap2 n ns ms w4 (HL.out.next B4.out) (HL2.out.next B4.out) HN.out HM.out H.out.1 H.out.2.1 H.out.2.2.1 H.out.2.2.2).mono ?_
  rintro e w5 ⟨bs, cs, rfl, hS, h⟩
  have X5 := Lib.hid (X4.out.next h)
  have Y5 := Lib.hid (Y4.out.next h)
  have S5 := Lib.hid hS
  have B5 := Lib.hid (bel B4.out h)
  clear h hS B4 X4 Y4
  go_wp2_with fail
  refine (cloN_any bs 0 cs n (addL ns ms) w5 S5.out (addL_bd ns ms) hA.out H.out.2.2.1 H.out.2.2.2).mono ?_
  rintro e w6 ⟨bz, rfl, hbz, hBz, h⟩
  have X6 := Lib.hid (X5.out.next h).drew
  have Y6 := Lib.hid (Y5.out.next h).drew
  have Z6 := Lib.hid hBz.lb.drew
  have B6 := Lib.hid (bel B5.out h).drew
  clear h hbz hBz B5 X5 Y5 S5
  go_wp2_with fail
  refine wp_region_noPanic ?_
  refine wp_region_held_drew (S := fun _ => True) (by kernel_rfl) trivial (fun hS0 => ?_)
  refine wpAnyH_take (i := 0) (oi := _) (v := .bool true) rfl (by kernel_rfl) (by kernel_rfl) (by kernel_rfl) (fun _ _ _ h => h) (Or.inl ⟨by rfl, ?_⟩) trivial ?_
  · (intro w hSw; (try dsimp only at hSw); go_simp)
  try simp only [Act.put, List.getElem_toArray, List.getElem_cons_succ, List.getElem_cons_zero, List.setIfInBounds_toArray, List.set_cons_zero, List.set_cons_succ]
  refine wpAnyH_take (i := 1) (oi := _) (v := .bool true) rfl (by kernel_rfl) (by kernel_rfl) (by kernel_rfl) (fun _ _ _ h => h) (Or.inl ⟨by rfl, ?_⟩) trivial ?_
  · (intro w hSw; (try dsimp only at hSw); go_simp)
  try simp only [Act.put, List.getElem_toArray, List.getElem_cons_succ, List.getElem_cons_zero, List.setIfInBounds_toArray, List.set_cons_zero, List.set_cons_succ]
  refine wpAnyH_take (i := 2) (oi := _) (v := .bool true) rfl (by kernel_rfl) (by kernel_rfl) (by kernel_rfl) (fun _ _ _ h => h) (Or.inl ⟨by rfl, ?_⟩) trivial ?_
  · (intro w hSw; (try dsimp only at hSw); go_simp)
  try simp only [Act.put, List.getElem_toArray, List.getElem_cons_succ, List.getElem_cons_zero, List.setIfInBounds_toArray, List.set_cons_zero, List.set_cons_succ]
  refine wpAnyH_take (i := 3) (oi := _) (v := .bool true) rfl (by kernel_rfl) (by kernel_rfl) (by kernel_rfl) (fun _ _ _ h => h) (Or.inl ⟨by rfl, ?_⟩) trivial ?_
  · (intro w hSw; (try dsimp only at hSw); go_simp)
  try simp only [Act.put, List.getElem_toArray, List.getElem_cons_succ, List.getElem_cons_zero, List.setIfInBounds_toArray, List.set_cons_zero, List.set_cons_succ]
  refine wpAnyH_take (i := 4) (oi := _) (v := .bool true) rfl (by kernel_rfl) (by kernel_rfl) (by kernel_rfl) (fun _ _ _ h => h) (Or.inl ⟨by rfl, ?_⟩) trivial ?_
  · (intro w hSw; (try dsimp only at hSw); go_simp)
  try simp only [Act.put, List.getElem_toArray, List.getElem_cons_succ, List.getElem_cons_zero, List.setIfInBounds_toArray, List.set_cons_zero, List.set_cons_succ]
  refine wpAnyH_take (i := 5) (oi := _) (v := .bool true) rfl (by kernel_rfl) (by kernel_rfl) (by kernel_rfl) (fun _ _ _ h => h) (Or.inl ⟨by rfl, ?_⟩) trivial ?_
  · (intro w hSw; (try dsimp only at hSw); go_simp)
  try simp only [Act.put, List.getElem_toArray, List.getElem_cons_succ, List.getElem_cons_zero, List.setIfInBounds_toArray, List.set_cons_zero, List.set_cons_succ]
  refine wpAnyH_take (i := 6) (oi := _) (v := .bool true) rfl (by kernel_rfl) (by kernel_rfl) (by kernel_rfl) (fun _ _ _ h => h) (Or.inl ⟨by rfl, ?_⟩) trivial ?_
  · (intro w hSw; (try dsimp only at hSw); go_simp)
  try simp only [Act.put, List.getElem_toArray, List.getElem_cons_succ, List.getElem_cons_zero, List.setIfInBounds_toArray, List.set_cons_zero, List.set_cons_succ]
  refine wpAnyH_take (i := 7) (oi := _) (v := .bool true) rfl (by kernel_rfl) (by kernel_rfl) (by kernel_rfl) (fun _ _ _ h => h) (Or.inl ⟨by rfl, ?_⟩) trivial ?_
  · (intro w hSw; (try dsimp only at hSw); go_simp)
  try simp only [Act.put, List.getElem_toArray, List.getElem_cons_succ, List.getElem_cons_zero, List.setIfInBounds_toArray, List.set_cons_zero, List.set_cons_succ]
  refine wpAnyH_take (i := 8) (oi := _) (v := .slice (some ⟨bx, 0, none⟩) n n) rfl (by kernel_rfl) (by kernel_rfl) (by kernel_rfl) (fun _ _ _ h => h) (Or.inl ⟨by rfl, ?_⟩) trivial ?_
  · (intro w hSw; (try dsimp only at hSw); go_simp)
  try simp only [Act.put, List.getElem_toArray, List.getElem_cons_succ, List.getElem_cons_zero, List.setIfInBounds_toArray, List.set_cons_zero, List.set_cons_succ]
  refine wpAnyH_take (i := 9) (oi := _) (v := .int .i64 n) rfl (by kernel_rfl) (by kernel_rfl) (by kernel_rfl) (fun _ _ _ h => h) (Or.inl ⟨by rfl, ?_⟩) trivial ?_
  · (intro w hSw; (try dsimp only at hSw); go_simp)
  try simp only [Act.put, List.getElem_toArray, List.getElem_cons_succ, List.getElem_cons_zero, List.setIfInBounds_toArray, List.set_cons_zero, List.set_cons_succ]
  refine wpAnyH_take (i := 10) (oi := _) (v := .slice (some ⟨g, o, none⟩) n cap) rfl (by kernel_rfl) (by kernel_rfl) (by kernel_rfl) (fun _ _ _ h => h) (Or.inl ⟨by rfl, ?_⟩) trivial ?_
  · (intro w hSw; (try dsimp only at hSw); go_simp)
  try simp only [Act.put, List.getElem_toArray, List.getElem_cons_succ, List.getElem_cons_zero, List.setIfInBounds_toArray, List.set_cons_zero, List.set_cons_succ]
  refine wpAnyH_take (i := 11) (oi := _) (v := .int .i64 n) rfl (by kernel_rfl) (by kernel_rfl) (by kernel_rfl) (fun _ _ _ h => h) (Or.inl ⟨by rfl, ?_⟩) trivial ?_
  · (intro w hSw; (try dsimp only at hSw); go_simp)
  try simp only [Act.put, List.getElem_toArray, List.getElem_cons_succ, List.getElem_cons_zero, List.setIfInBounds_toArray, List.set_cons_zero, List.set_cons_succ]
  refine wpAnyH_take (i := 12) (oi := _) (v := .bool true) rfl (by kernel_rfl) (by kernel_rfl) (by kernel_rfl) (fun _ _ _ h => h) (Or.inl ⟨by rfl, ?_⟩) trivial ?_
  · (intro w hSw; (try dsimp only at hSw); go_simp)
  try simp only [Act.put, List.getElem_toArray, List.getElem_cons_succ, List.getElem_cons_zero, List.setIfInBounds_toArray, List.set_cons_zero, List.set_cons_succ]
  refine wpAnyH_take (i := 13) (oi := _) (v := .bool true) rfl (by kernel_rfl) (by kernel_rfl) (by kernel_rfl) (fun _ _ _ h => h) (Or.inl ⟨by rfl, ?_⟩) trivial ?_
  · (intro w hSw; (try dsimp only at hSw); go_simp)
  try simp only [Act.put, List.getElem_toArray, List.getElem_cons_succ, List.getElem_cons_zero, List.setIfInBounds_toArray, List.set_cons_zero, List.set_cons_succ]
  refine wpAnyH_take (i := 14) (oi := _) (v := .bool true) rfl (by kernel_rfl) (by kernel_rfl) (by kernel_rfl) (fun _ _ _ h => h) (Or.inl ⟨by rfl, ?_⟩) trivial ?_
  · (intro w hSw; (try dsimp only at hSw); go_simp)
  try simp only [Act.put, List.getElem_toArray, List.getElem_cons_succ, List.getElem_cons_zero, List.setIfInBounds_toArray, List.set_cons_zero, List.set_cons_succ]
  refine wpAnyH_take (i := 15) (oi := _) (v := .slice (some ⟨by_, 0, none⟩) n n) rfl (by kernel_rfl) (by kernel_rfl) (by kernel_rfl) (fun _ _ _ h => h) (Or.inl ⟨by rfl, ?_⟩) trivial ?_
  · (intro w hSw; (try dsimp only at hSw); go_simp)
  try simp only [Act.put, List.getElem_toArray, List.getElem_cons_succ, List.getElem_cons_zero, List.setIfInBounds_toArray, List.set_cons_zero, List.set_cons_succ]
  refine wpAnyH_take (i := 16) (oi := _) (v := .int .i64 n) rfl (by kernel_rfl) (by kernel_rfl) (by kernel_rfl) (fun _ _ _ h => h) (Or.inl ⟨by rfl, ?_⟩) trivial ?_
  · (intro w hSw; (try dsimp only at hSw); go_simp)
  try simp only [Act.put, List.getElem_toArray, List.getElem_cons_succ, List.getElem_cons_zero, List.setIfInBounds_toArray, List.set_cons_zero, List.set_cons_succ]
  refine wpAnyH_take (i := 17) (oi := _) (v := .slice (some ⟨g, o, none⟩) n cap) rfl (by kernel_rfl) (by kernel_rfl) (by kernel_rfl) (fun _ _ _ h => h) (Or.inl ⟨by rfl, ?_⟩) trivial ?_
  · (intro w hSw; (try dsimp only at hSw); go_simp)
  try simp only [Act.put, List.getElem_toArray, List.getElem_cons_succ, List.getElem_cons_zero, List.setIfInBounds_toArray, List.set_cons_zero, List.set_cons_succ]
  refine wpAnyH_take (i := 18) (oi := _) (v := .int .i64 n) rfl (by kernel_rfl) (by kernel_rfl) (by kernel_rfl) (fun _ _ _ h => h) (Or.inl ⟨by rfl, ?_⟩) trivial ?_
  · (intro w hSw; (try dsimp only at hSw); go_simp)
  try simp only [Act.put, List.getElem_toArray, List.getElem_cons_succ, List.getElem_cons_zero, List.setIfInBounds_toArray, List.set_cons_zero, List.set_cons_succ]
  refine wpAnyH_take (i := 19) (oi := _) (v := .bool true) rfl (by kernel_rfl) (by kernel_rfl) (by kernel_rfl) (fun _ _ _ h => h) (Or.inl ⟨by rfl, ?_⟩) trivial ?_
  · (intro w hSw; (try dsimp only at hSw); go_simp)
  try simp only [Act.put, List.getElem_toArray, List.getElem_cons_succ, List.getElem_cons_zero, List.setIfInBounds_toArray, List.set_cons_zero, List.set_cons_succ]
  refine wpAnyH_take (i := 20) (oi := _) (v := .bool true) rfl (by kernel_rfl) (by kernel_rfl) (by kernel_rfl) (fun _ _ _ h => h) (Or.inl ⟨by rfl, ?_⟩) trivial ?_
  · (intro w hSw; (try dsimp only at hSw); go_simp)
  try simp only [Act.put, List.getElem_toArray, List.getElem_cons_succ, List.getElem_cons_zero, List.setIfInBounds_toArray, List.set_cons_zero, List.set_cons_succ]
  refine wpAnyH_take (i := 21) (oi := _) (v := .bool true) rfl (by kernel_rfl) (by kernel_rfl) (by kernel_rfl) (fun _ _ _ h => h) (Or.inl ⟨by rfl, ?_⟩) trivial ?_
  · (intro w hSw; (try dsimp only at hSw); go_simp)
  try simp only [Act.put, List.getElem_toArray, List.getElem_cons_succ, List.getElem_cons_zero, List.setIfInBounds_toArray, List.set_cons_zero, List.set_cons_succ]
  refine wpAnyH_take (i := 22) (oi := _) (v := .slice (some ⟨bx, 0, none⟩) n n) rfl (by kernel_rfl) (by kernel_rfl) (by kernel_rfl) (fun _ _ _ h => h) (Or.inl ⟨by rfl, ?_⟩) trivial ?_
  · (intro w hSw; (try dsimp only at hSw); go_simp)
  try simp only [Act.put, List.getElem_toArray, List.getElem_cons_succ, List.getElem_cons_zero, List.setIfInBounds_toArray, List.set_cons_zero, List.set_cons_succ]
  refine wpAnyH_ready (rs := [23]) (by kernel_rfl) (by simp) ?_
  refine AllReadyH.cons (o := _) rfl (fun K hK => ?_) (AllReadyH.nil)
  go_simp
  go_at_call 10
  refine (allN_any bx 0 n n _ _ X6.out (intL_bd _ _ _) (length_dgL H.out.1 H.out.2.2.1 H.out.2.2.2) H.out.2.2.2).mono ?_
  rintro e w7 ⟨rfl, h⟩
  have X7 := Lib.hid (X6.out.next h)
  have Y7 := Lib.hid (Y6.out.next h)
  have Z7 := Lib.hid (Z6.out.next h)
  have B7 := Lib.hid (bel B6.out h)
  clear h X6 Y6 Z6
  go_wp2_with fail
  refine hK.out _ _ trivial (fun hHeld => ?_)
  clear hK K
  try simp only [Act.put, List.getElem_toArray, List.getElem_cons_succ, List.getElem_cons_zero, List.setIfInBounds_toArray, List.set_cons_zero, List.set_cons_succ]
  refine wpAnyH_take (i := 24) (oi := _) (v := .bool true) rfl (by kernel_rfl) (by kernel_rfl) (by kernel_rfl) (fun _ _ _ h => h) (Or.inl ⟨by rfl, ?_⟩) trivial ?_
  · (intro w hSw; (try dsimp only at hSw); go_simp)
  try simp only [Act.put, List.getElem_toArray, List.getElem_cons_succ, List.getElem_cons_zero, List.setIfInBounds_toArray, List.set_cons_zero, List.set_cons_succ]
  refine wpAnyH_take (i := 25) (oi := _) (v := .bool true) rfl (by kernel_rfl) (by kernel_rfl) (by kernel_rfl) (fun _ _ _ h => h) (Or.inl ⟨by rfl, ?_⟩) trivial ?_
  · (intro w hSw; (try dsimp only at hSw); go_simp)
  try simp only [Act.put, List.getElem_toArray, List.getElem_cons_succ, List.getElem_cons_zero, List.setIfInBounds_toArray, List.set_cons_zero, List.set_cons_succ]
  refine wpAnyH_take (i := 26) (oi := _) (v := .slice (some ⟨by_, 0, none⟩) n n) rfl (by kernel_rfl) (by kernel_rfl) (by kernel_rfl) (fun _ _ _ h => h) (Or.inl ⟨by rfl, ?_⟩) trivial ?_
  · (intro w hSw; (try dsimp only at hSw); go_simp)
  try simp only [Act.put, List.getElem_toArray, List.getElem_cons_succ, List.getElem_cons_zero, List.setIfInBounds_toArray, List.set_cons_zero, List.set_cons_succ]
  refine wpAnyH_ready (rs := [27]) (by kernel_rfl) (by simp) ?_
  refine AllReadyH.cons (o := _) rfl (fun K hK => ?_) (AllReadyH.nil)
  go_simp
  go_at_call 10
  refine (allN_any by_ 0 n n _ w7 Y7.out (intL_bd _ _ _) (length_dgL H.out.2.1 H.out.2.2.1 H.out.2.2.2) H.out.2.2.2).mono ?_
  rintro e w8 ⟨rfl, h⟩
  have X8 := Lib.hid (X7.out.next h)
  have Y8 := Lib.hid (Y7.out.next h)
  have Z8 := Lib.hid (Z7.out.next h)
  have B8 := Lib.hid (bel B7.out h)
  clear h X7 Y7 Z7
  go_wp2_with fail
  refine hK.out _ _ trivial (fun hHeld => ?_)
  clear hK K
  try simp only [Act.put, List.getElem_toArray, List.getElem_cons_succ, List.getElem_cons_zero, List.setIfInBounds_toArray, List.set_cons_zero, List.set_cons_succ]
  refine wpAnyH_take (i := 28) (oi := _) (v := .bool true) rfl (by kernel_rfl) (by kernel_rfl) (by kernel_rfl) (fun _ _ _ h => h) (Or.inl ⟨by rfl, ?_⟩) trivial ?_
  · (intro w hSw; (try dsimp only at hSw); go_simp)
  try simp only [Act.put, List.getElem_toArray, List.getElem_cons_succ, List.getElem_cons_zero, List.setIfInBounds_toArray, List.set_cons_zero, List.set_cons_succ]
  refine wpAnyH_take (i := 29) (oi := _) (v := .bool true) rfl (by kernel_rfl) (by kernel_rfl) (by kernel_rfl) (fun _ _ _ h => h) (Or.inl ⟨by rfl, ?_⟩) trivial ?_
  · (intro w hSw; (try dsimp only at hSw); go_simp)
  try simp only [Act.put, List.getElem_toArray, List.getElem_cons_succ, List.getElem_cons_zero, List.setIfInBounds_toArray, List.set_cons_zero, List.set_cons_succ]
  refine wpAnyH_take (i := 30) (oi := _) (v := .slice (some ⟨bz, 0, none⟩) n n) rfl (by kernel_rfl) (by kernel_rfl) (by kernel_rfl) (fun _ _ _ h => h) (Or.inl ⟨by rfl, ?_⟩) trivial ?_
  · (intro w hSw; (try dsimp only at hSw); go_simp)
  try simp only [Act.put, List.getElem_toArray, List.getElem_cons_succ, List.getElem_cons_zero, List.setIfInBounds_toArray, List.set_cons_zero, List.set_cons_succ]
  refine wpAnyH_take (i := 33) (oi := _) (v := .slice (some ⟨bx, 0, none⟩) n n) rfl (by kernel_rfl) (by kernel_rfl) (by kernel_rfl) (fun _ _ _ h => h) (Or.inl ⟨by rfl, ?_⟩) trivial ?_
  · (intro w hSw; (try dsimp only at hSw); go_simp)
  try simp only [Act.put, List.getElem_toArray, List.getElem_cons_succ, List.getElem_cons_zero, List.setIfInBounds_toArray, List.set_cons_zero, List.set_cons_succ]
  refine wpAnyH_take (i := 34) (oi := _) (v := .slice (some ⟨by_, 0, none⟩) n n) rfl (by kernel_rfl) (by kernel_rfl) (by kernel_rfl) (fun _ _ _ h => h) (Or.inl ⟨by rfl, ?_⟩) trivial ?_
  · (intro w hSw; (try dsimp only at hSw); go_simp)
  try simp only [Act.put, List.getElem_toArray, List.getElem_cons_succ, List.getElem_cons_zero, List.setIfInBounds_toArray, List.set_cons_zero, List.set_cons_succ]
  refine wpAnyH_ready (rs := [31]) (by kernel_rfl) (by simp) ?_
  refine AllReadyH.cons (o := _) rfl (fun K hK => ?_) (AllReadyH.nil)
  go_simp
  go_at_call 21
  refine (flatN_any bz 0 n n _ w8 Z8.out (length_dgL hA.out H.out.2.2.1 H.out.2.2.2) H.out.2.2.1 H.out.2.2.2).mono ?_
  rintro e w9 ⟨bf, cf', rfl, hF, h⟩
  have CF := Lib.hid hF
  have X9 := Lib.hid (X8.out.next h)
  have Y9 := Lib.hid (Y8.out.next h)
  have B9 := Lib.hid (bel B8.out h)
  clear h hF X8 Y8 Z8
  go_wp2_with fail
  refine hK.out _ _ trivial (fun hHeld => ?_)
  clear hK K
  try simp only [Act.put, List.getElem_toArray, List.getElem_cons_succ, List.getElem_cons_zero, List.setIfInBounds_toArray, List.set_cons_zero, List.set_cons_succ]
  rw [HS.out] at CF
  refine wpAnyH_ready (rs := [32, 35]) (by kernel_rfl) (by simp) ?_
  refine AllReadyH.cons (o := _) rfl (fun K hK => ?_) (AllReadyH.cons (o := _) rfl (fun K hK => ?_) (AllReadyH.nil))
  · skip
    have CV := CF.out w9 (RowKit.Below.refl _ _)
    go_simp
    refine hK.out _ _ trivial (fun hHeld => ?_)
    clear hK K
    try simp only [Act.put, List.getElem_toArray, List.getElem_cons_succ, List.getElem_cons_zero, List.setIfInBounds_toArray, List.set_cons_zero, List.set_cons_succ]
    clear CV
    refine wpAnyH_ready (rs := [35]) (by kernel_rfl) (by simp) ?_
    refine AllReadyH.cons (o := _) rfl (fun K hK => ?_) (AllReadyH.nil)
    go_simp
    go_at_call 20
    refine (sumsN_any bx 0 n by_ 0 n n _ _ w9 X9.out Y9.out (intL_bd _ _ _) (intL_bd _ _ _) (length_dgL H.out.1 H.out.2.2.1 H.out.2.2.2) (length_dgL H.out.2.1 H.out.2.2.1 H.out.2.2.2) H.out.2.2.1 H.out.2.2.2).mono ?_
    rintro e w10 ⟨bt, ct, rfl, hT, h⟩
    have T10 := Lib.hid hT
    have CF10 := Lib.hid (fun (v : World) (k : RowKit.Below w10.heap.size w10 v) => CF.out v (bel h k))
    have B10 := Lib.hid (bel B9.out h)
    clear h hT X9 Y9
    go_wp2_with fail
    refine hK.out _ _ trivial (fun hHeld => ?_)
    clear hK K
    try simp only [Act.put, List.getElem_toArray, List.getElem_cons_succ, List.getElem_cons_zero, List.setIfInBounds_toArray, List.set_cons_zero, List.set_cons_succ]
    refine wpAnyH_ready (rs := [36]) (by kernel_rfl) (by simp) ?_
    refine AllReadyH.cons (o := _) rfl (fun K hK => ?_) (AllReadyH.nil)
    go_simp
    go_at_call 21
    refine (flatN_any bt 0 ct n _ w10 T10.out (by rw [length_addL ((length_dgL H.out.1 H.out.2.2.1 H.out.2.2.2).trans (length_dgL H.out.2.1 H.out.2.2.1 H.out.2.2.2).symm)]; exact (length_dgL H.out.1 H.out.2.2.1 H.out.2.2.2)) H.out.2.2.1 H.out.2.2.2).mono ?_
    rintro e w11 ⟨bg, cg, rfl, hG, h⟩
    have CF11 := CF10.out _ h
    have CG := hG w11 (RowKit.Below.refl _ _)
    have B11 := Lib.hid (bel B10.out h)
    clear h hG T10
    go_wp2_with fail
    refine hK.out _ _ trivial (fun hHeld => ?_)
    clear hK K
    try simp only [Act.put, List.getElem_toArray, List.getElem_cons_succ, List.getElem_cons_zero, List.setIfInBounds_toArray, List.set_cons_zero, List.set_cons_succ]
    refine wpAnyH_ready (rs := [37]) (by kernel_rfl) (by simp) ?_
    refine AllReadyH.cons (o := _) rfl (fun K hK => ?_) (AllReadyH.nil)
    have CV := CG
    go_simp
    refine hK.out _ _ trivial (fun hHeld => ?_)
    clear hK K
    try simp only [Act.put, List.getElem_toArray, List.getElem_cons_succ, List.getElem_cons_zero, List.setIfInBounds_toArray, List.set_cons_zero, List.set_cons_succ]
    clear CV
    refine wpAnyH_take (i := 38) (oi := _) (v := .bool true) rfl (by kernel_rfl) (by kernel_rfl) (by kernel_rfl) (fun _ _ _ h => h) (Or.inl ⟨by rfl, ?_⟩) trivial ?_
    · (intro w hSw; (try dsimp only at hSw); go_simp)
    try simp only [Act.put, List.getElem_toArray, List.getElem_cons_succ, List.getElem_cons_zero, List.setIfInBounds_toArray, List.set_cons_zero, List.set_cons_succ]
    refine wpAnyH_take (i := 39) (oi := _) (v := .bool true) rfl (by kernel_rfl) (by kernel_rfl) (by kernel_rfl) (fun _ _ _ h => h) (Or.inl ⟨by rfl, ?_⟩) trivial ?_
    · (intro w hSw; (try dsimp only at hSw); go_simp)
    try simp only [Act.put, List.getElem_toArray, List.getElem_cons_succ, List.getElem_cons_zero, List.setIfInBounds_toArray, List.set_cons_zero, List.set_cons_succ]
    refine wpAnyH_take (i := 40) (oi := _) (v := .bool true) rfl (by kernel_rfl) (by kernel_rfl) (by kernel_rfl) (fun _ _ _ h => h) (Or.inl ⟨by rfl, ?_⟩) trivial ?_
    · (intro w hSw; (try dsimp only at hSw); go_simp)
    try simp only [Act.put, List.getElem_toArray, List.getElem_cons_succ, List.getElem_cons_zero, List.setIfInBounds_toArray, List.set_cons_zero, List.set_cons_succ]
    refine wpAnyH_done (by kernel_rfl) ?_ _
    refine NoPanic.normal ?_
    try simp only [List.getElem_toArray, List.getElem_cons_succ, List.getElem_cons_zero]
    go_wp2_with fail
    go_ret
    exact ⟨rfl, B11.out⟩
  · skip
    go_simp
    go_at_call 20
    refine (sumsN_any bx 0 n by_ 0 n n _ _ w9 X9.out Y9.out (intL_bd _ _ _) (intL_bd _ _ _) (length_dgL H.out.1 H.out.2.2.1 H.out.2.2.2) (length_dgL H.out.2.1 H.out.2.2.1 H.out.2.2.2) H.out.2.2.1 H.out.2.2.2).mono ?_
    rintro e w10 ⟨bt, ct, rfl, hT, h⟩
    have T10 := Lib.hid hT
    have CF10 := Lib.hid (fun (v : World) (k : RowKit.Below w10.heap.size w10 v) => CF.out v (bel h k))
    have B10 := Lib.hid (bel B9.out h)
    clear h hT X9 Y9
    go_wp2_with fail
    refine hK.out _ _ trivial (fun hHeld => ?_)
    clear hK K
    try simp only [Act.put, List.getElem_toArray, List.getElem_cons_succ, List.getElem_cons_zero, List.setIfInBounds_toArray, List.set_cons_zero, List.set_cons_succ]
    refine wpAnyH_ready (rs := [32, 36]) (by kernel_rfl) (by simp) ?_
    refine AllReadyH.cons (o := _) rfl (fun K hK => ?_) (AllReadyH.cons (o := _) rfl (fun K hK => ?_) (AllReadyH.nil))
    · skip
      have CV := CF10.out w10 (RowKit.Below.refl _ _)
      go_simp
      refine hK.out _ _ trivial (fun hHeld => ?_)
      clear hK K
      try simp only [Act.put, List.getElem_toArray, List.getElem_cons_succ, List.getElem_cons_zero, List.setIfInBounds_toArray, List.set_cons_zero, List.set_cons_succ]
      clear CV
      refine wpAnyH_ready (rs := [36]) (by kernel_rfl) (by simp) ?_
      refine AllReadyH.cons (o := _) rfl (fun K hK => ?_) (AllReadyH.nil)
      go_simp
      go_at_call 21
      refine (flatN_any bt 0 ct n _ w10 T10.out (by rw [length_addL ((length_dgL H.out.1 H.out.2.2.1 H.out.2.2.2).trans (length_dgL H.out.2.1 H.out.2.2.1 H.out.2.2.2).symm)]; exact (length_dgL H.out.1 H.out.2.2.1 H.out.2.2.2)) H.out.2.2.1 H.out.2.2.2).mono ?_
      rintro e w11 ⟨bg, cg, rfl, hG, h⟩
      have CF11 := CF10.out _ h
      have CG := hG w11 (RowKit.Below.refl _ _)
      have B11 := Lib.hid (bel B10.out h)
      clear h hG T10
      go_wp2_with fail
      refine hK.out _ _ trivial (fun hHeld => ?_)
      clear hK K
      try simp only [Act.put, List.getElem_toArray, List.getElem_cons_succ, List.getElem_cons_zero, List.setIfInBounds_toArray, List.set_cons_zero, List.set_cons_succ]
      refine wpAnyH_ready (rs := [37]) (by kernel_rfl) (by simp) ?_
      refine AllReadyH.cons (o := _) rfl (fun K hK => ?_) (AllReadyH.nil)
      have CV := CG
      go_simp
      refine hK.out _ _ trivial (fun hHeld => ?_)
      clear hK K
      try simp only [Act.put, List.getElem_toArray, List.getElem_cons_succ, List.getElem_cons_zero, List.setIfInBounds_toArray, List.set_cons_zero, List.set_cons_succ]
      clear CV
      refine wpAnyH_take (i := 38) (oi := _) (v := .bool true) rfl (by kernel_rfl) (by kernel_rfl) (by kernel_rfl) (fun _ _ _ h => h) (Or.inl ⟨by rfl, ?_⟩) trivial ?_
      · (intro w hSw; (try dsimp only at hSw); go_simp)
      try simp only [Act.put, List.getElem_toArray, List.getElem_cons_succ, List.getElem_cons_zero, List.setIfInBounds_toArray, List.set_cons_zero, List.set_cons_succ]
      refine wpAnyH_take (i := 39) (oi := _) (v := .bool true) rfl (by kernel_rfl) (by kernel_rfl) (by kernel_rfl) (fun _ _ _ h => h) (Or.inl ⟨by rfl, ?_⟩) trivial ?_
      · (intro w hSw; (try dsimp only at hSw); go_simp)
      try simp only [Act.put, List.getElem_toArray, List.getElem_cons_succ, List.getElem_cons_zero, List.setIfInBounds_toArray, List.set_cons_zero, List.set_cons_succ]
      refine wpAnyH_take (i := 40) (oi := _) (v := .bool true) rfl (by kernel_rfl) (by kernel_rfl) (by kernel_rfl) (fun _ _ _ h => h) (Or.inl ⟨by rfl, ?_⟩) trivial ?_
      · (intro w hSw; (try dsimp only at hSw); go_simp)
      try simp only [Act.put, List.getElem_toArray, List.getElem_cons_succ, List.getElem_cons_zero, List.setIfInBounds_toArray, List.set_cons_zero, List.set_cons_succ]
      refine wpAnyH_done (by kernel_rfl) ?_ _
      refine NoPanic.normal ?_
      try simp only [List.getElem_toArray, List.getElem_cons_succ, List.getElem_cons_zero]
      go_wp2_with fail
      go_ret
      exact ⟨rfl, B11.out⟩
    · skip
      go_simp
      go_at_call 21
      refine (flatN_any bt 0 ct n _ w10 T10.out (by rw [length_addL ((length_dgL H.out.1 H.out.2.2.1 H.out.2.2.2).trans (length_dgL H.out.2.1 H.out.2.2.1 H.out.2.2.2).symm)]; exact (length_dgL H.out.1 H.out.2.2.1 H.out.2.2.2)) H.out.2.2.1 H.out.2.2.2).mono ?_
      rintro e w11 ⟨bg, cg, rfl, hG, h⟩
      have CF11 := CF10.out _ h
      have CG := hG w11 (RowKit.Below.refl _ _)
      have B11 := Lib.hid (bel B10.out h)
      clear h hG T10
      go_wp2_with fail
      refine hK.out _ _ trivial (fun hHeld => ?_)
      clear hK K
      try simp only [Act.put, List.getElem_toArray, List.getElem_cons_succ, List.getElem_cons_zero, List.setIfInBounds_toArray, List.set_cons_zero, List.set_cons_succ]
      refine wpAnyH_ready (rs := [32, 37]) (by kernel_rfl) (by simp) ?_
      refine AllReadyH.cons (o := _) rfl (fun K hK => ?_) (AllReadyH.cons (o := _) rfl (fun K hK => ?_) (AllReadyH.nil))
      · skip
        have CV := CF11
        go_simp
        refine hK.out _ _ trivial (fun hHeld => ?_)
        clear hK K
        try simp only [Act.put, List.getElem_toArray, List.getElem_cons_succ, List.getElem_cons_zero, List.setIfInBounds_toArray, List.set_cons_zero, List.set_cons_succ]
        clear CV
        refine wpAnyH_ready (rs := [37]) (by kernel_rfl) (by simp) ?_
        refine AllReadyH.cons (o := _) rfl (fun K hK => ?_) (AllReadyH.nil)
        have CV := CG
        go_simp
        refine hK.out _ _ trivial (fun hHeld => ?_)
        clear hK K
        try simp only [Act.put, List.getElem_toArray, List.getElem_cons_succ, List.getElem_cons_zero, List.setIfInBounds_toArray, List.set_cons_zero, List.set_cons_succ]
        clear CV
        refine wpAnyH_take (i := 38) (oi := _) (v := .bool true) rfl (by kernel_rfl) (by kernel_rfl) (by kernel_rfl) (fun _ _ _ h => h) (Or.inl ⟨by rfl, ?_⟩) trivial ?_
        · (intro w hSw; (try dsimp only at hSw); go_simp)
        try simp only [Act.put, List.getElem_toArray, List.getElem_cons_succ, List.getElem_cons_zero, List.setIfInBounds_toArray, List.set_cons_zero, List.set_cons_succ]
        refine wpAnyH_take (i := 39) (oi := _) (v := .bool true) rfl (by kernel_rfl) (by kernel_rfl) (by kernel_rfl) (fun _ _ _ h => h) (Or.inl ⟨by rfl, ?_⟩) trivial ?_
        · (intro w hSw; (try dsimp only at hSw); go_simp)
        try simp only [Act.put, List.getElem_toArray, List.getElem_cons_succ, List.getElem_cons_zero, List.setIfInBounds_toArray, List.set_cons_zero, List.set_cons_succ]
        refine wpAnyH_take (i := 40) (oi := _) (v := .bool true) rfl (by kernel_rfl) (by kernel_rfl) (by kernel_rfl) (fun _ _ _ h => h) (Or.inl ⟨by rfl, ?_⟩) trivial ?_
        · (intro w hSw; (try dsimp only at hSw); go_simp)
        try simp only [Act.put, List.getElem_toArray, List.getElem_cons_succ, List.getElem_cons_zero, List.setIfInBounds_toArray, List.set_cons_zero, List.set_cons_succ]
        refine wpAnyH_done (by kernel_rfl) ?_ _
        refine NoPanic.normal ?_
        try simp only [List.getElem_toArray, List.getElem_cons_succ, List.getElem_cons_zero]
        go_wp2_with fail
        go_ret
        exact ⟨rfl, B11.out⟩
      · skip
        have CV := CG
        go_simp
        refine hK.out _ _ trivial (fun hHeld => ?_)
        clear hK K
        try simp only [Act.put, List.getElem_toArray, List.getElem_cons_succ, List.getElem_cons_zero, List.setIfInBounds_toArray, List.set_cons_zero, List.set_cons_succ]
        clear CV
        refine wpAnyH_ready (rs := [32]) (by kernel_rfl) (by simp) ?_
        refine AllReadyH.cons (o := _) rfl (fun K hK => ?_) (AllReadyH.nil)
        have CV := CF11
        go_simp
        refine hK.out _ _ trivial (fun hHeld => ?_)
        clear hK K
        try simp only [Act.put, List.getElem_toArray, List.getElem_cons_succ, List.getElem_cons_zero, List.setIfInBounds_toArray, List.set_cons_zero, List.set_cons_succ]
        clear CV
        refine wpAnyH_take (i := 38) (oi := _) (v := .bool true) rfl (by kernel_rfl) (by kernel_rfl) (by kernel_rfl) (fun _ _ _ h => h) (Or.inl ⟨by rfl, ?_⟩) trivial ?_
        · (intro w hSw; (try dsimp only at hSw); go_simp)
        try simp only [Act.put, List.getElem_toArray, List.getElem_cons_succ, List.getElem_cons_zero, List.setIfInBounds_toArray, List.set_cons_zero, List.set_cons_succ]
        refine wpAnyH_take (i := 39) (oi := _) (v := .bool true) rfl (by kernel_rfl) (by kernel_rfl) (by kernel_rfl) (fun _ _ _ h => h) (Or.inl ⟨by rfl, ?_⟩) trivial ?_
        · (intro w hSw; (try dsimp only at hSw); go_simp)
        try simp only [Act.put, List.getElem_toArray, List.getElem_cons_succ, List.getElem_cons_zero, List.setIfInBounds_toArray, List.set_cons_zero, List.set_cons_succ]
        refine wpAnyH_take (i := 40) (oi := _) (v := .bool true) rfl (by kernel_rfl) (by kernel_rfl) (by kernel_rfl) (fun _ _ _ h => h) (Or.inl ⟨by rfl, ?_⟩) trivial ?_
        · (intro w hSw; (try dsimp only at hSw); go_simp)
        try simp only [Act.put, List.getElem_toArray, List.getElem_cons_succ, List.getElem_cons_zero, List.setIfInBounds_toArray, List.set_cons_zero, List.set_cons_succ]
        refine wpAnyH_done (by kernel_rfl) ?_ _
        refine NoPanic.normal ?_
        try simp only [List.getElem_toArray, List.getElem_cons_succ, List.getElem_cons_zero]
        go_wp2_with fail
        go_ret
        exact ⟨rfl, B11.out⟩
end Go.Proofs.YtodofaoaenddgaaDoor
