/-
  _fromMontGeneric, walked: the four cells hold the number itself. The rounds' lines are printed by gen_from.py.
-/
import Derived.Test.YtodofaoaenddgaaDoorFromA
import Derived.StillTailTactics
namespace Go.Proofs.YtodofaoaenddgaaDoor
open Go.RowKit Go.Lib Fr

set_option maxHeartbeats 20000000 in
set_option maxRecDepth 100000 in
theorem fromMontG_any (g o : Nat) (n : Int) (w : World) (hn : 0 ≤ n) (hn' : n < fp) (hx : El w g o n) (hz : Wr4 w g o) :
    Calls Tryd.prog 75 #[.pointer (some ⟨g, o, none⟩)] w fun e w' =>
      e = .returned (.tuple #[]) ∧ ∃ k, w' = (put4 w g o (rl n 0) (rl n 1) (rl n 2) (rl n 3)).drewN k := by
  have hx0 : El w g o n := hx
  obtain ⟨z0c, z1c, z2c, z3c⟩ := hx
  have hz0 := hz
  obtain ⟨_, f0, f1, f2, f3⟩ := hz
  have HX := Lib.hid (val_lim n)
  have wz0 := wd_lim n 0; have wz1 := wd_lim n 1; have wz2 := wd_lim n 2; have wz3 := wd_lim n 3
  clear hx0
  generalize lim n 0 = z0 at *; generalize lim n 1 = z1 at *; generalize lim n 2 = z2 at *; generalize lim n 3 = z3 at *
  go_enter Tryd.func75, Tryd.ntmps75
  obtain ⟨m0, hm0, M0, wm0⟩ := qinv_ex' z0
  obtain ⟨c00, l00, R00, E00, wc00, wl00⟩ := madd0_ex wm0 (show Wd 4891460686036598785 from ⟨by decide, by decide⟩) wz0
  go_wp2_with fail
  refine (R00.out _).mono ?_
  rintro e w' ⟨rfl, rfl⟩
  clear R00
  obtain ⟨c01, n01, R01, E01, wc01, wn01⟩ := madd2_ex wm0 (show Wd 2896914383306846353 from ⟨by decide, by decide⟩) wz1 wc00
  go_wp2_with fail
  (refine wp_region_still_tail 14 (by kernel_rfl) (by kernel_rfl) ?_; simp only [List.take_succ_cons, List.take_zero, List.drop_succ_cons, List.drop_zero]; change wpStill _ _ (World.drew _) _ _ _; (repeat still_step); still_call ((R01.out _).mono (fun _ _ h => ⟨h.1, h.2.symm⟩)); (repeat still_step); refine wpStill_nil ?_; change wpList _ _ _ _ _ (World.drew _); go_wp2_with fail)
  clear R01
  obtain ⟨c02, n02, R02, E02, wc02, wn02⟩ := madd2_ex wm0 (show Wd 13281191951274694749 from ⟨by decide, by decide⟩) wz2 wc01
  go_wp2_with fail
  (refine wp_region_still_tail 14 (by kernel_rfl) (by kernel_rfl) ?_; simp only [List.take_succ_cons, List.take_zero, List.drop_succ_cons, List.drop_zero]; change wpStill _ _ (World.drew _) _ _ _; (repeat still_step); still_call ((R02.out _).mono (fun _ _ h => ⟨h.1, h.2.symm⟩)); (repeat still_step); refine wpStill_nil ?_; change wpList _ _ _ _ _ (World.drew _); go_wp2_with fail)
  clear R02
  obtain ⟨c03, n03, R03, E03, wc03, wn03⟩ := madd2_ex wm0 (show Wd 3486998266802970665 from ⟨by decide, by decide⟩) wz3 wc02
  go_wp2_with fail
  (refine wp_region_still_tail 14 (by kernel_rfl) (by kernel_rfl) ?_; simp only [List.take_succ_cons, List.take_zero, List.drop_succ_cons, List.drop_zero]; change wpStill _ _ (World.drew _) _ _ _; (repeat still_step); still_call ((R03.out _).mono (fun _ _ h => ⟨h.1, h.2.symm⟩)); (repeat still_step); refine wpStill_nil ?_; change wpList _ _ _ _ _ (World.drew _); go_wp2_with fail)
  clear R03
  have T0 := from_round (z0 := z0) (z1 := z1) (z2 := z2) (z3 := z3) M0.out E00.out E01.out E02.out E03.out wl00
  have HT0 := Lib.hid T0
  clear T0 hm0 M0 E00 E01 E02 E03
  clear wm0 wl00 wc00 wc01 wc02 wz0 wz1 wz2 wz3
  as_aux_lemma =>
    obtain ⟨m1, hm1, M1, wm1⟩ := qinv_ex' n01
    obtain ⟨c10, l10, R10, E10, wc10, wl10⟩ := madd0_ex wm1 (show Wd 4891460686036598785 from ⟨by decide, by decide⟩) wn01
    rw [hm1]
    refine (R10.out _).mono ?_
    rintro e w1 ⟨rfl, hw1⟩
    clear R10
    have A1 : At4 w1 g o n01 n02 n03 c03 := hw1 ▸ (at4_put4 hz0 n01 n02 n03 c03).drew.drew.drew
    have hz1 : Wr4 w1 g o := hw1 ▸ (wr4_put4 hz0 n01 n02 n03 c03).drew.drew.drew
    have HW1 : Hid (w1 = (put4 w g o n01 n02 n03 c03).drewN 3) := Lib.hid hw1.symm
    clear hw1 z0c z1c z2c z3c f0 f1 f2 f3
    obtain ⟨z0c, z1c, z2c, z3c⟩ := A1
    have hz1' := hz1
    obtain ⟨_, f0, f1, f2, f3⟩ := hz1'
    obtain ⟨c11, n11, R11, E11, wc11, wn11⟩ := madd2_ex wm1 (show Wd 2896914383306846353 from ⟨by decide, by decide⟩) wn02 wc10
    go_wp2_with fail
    (refine wp_region_still_tail 14 (by kernel_rfl) (by kernel_rfl) ?_; simp only [List.take_succ_cons, List.take_zero, List.drop_succ_cons, List.drop_zero]; change wpStill _ _ (World.drew _) _ _ _; (repeat still_step); still_call ((R11.out _).mono (fun _ _ h => ⟨h.1, h.2.symm⟩)); (repeat still_step); refine wpStill_nil ?_; change wpList _ _ _ _ _ (World.drew _); go_wp2_with fail)
    clear R11
    obtain ⟨c12, n12, R12, E12, wc12, wn12⟩ := madd2_ex wm1 (show Wd 13281191951274694749 from ⟨by decide, by decide⟩) wn03 wc11
    go_wp2_with fail
    (refine wp_region_still_tail 14 (by kernel_rfl) (by kernel_rfl) ?_; simp only [List.take_succ_cons, List.take_zero, List.drop_succ_cons, List.drop_zero]; change wpStill _ _ (World.drew _) _ _ _; (repeat still_step); still_call ((R12.out _).mono (fun _ _ h => ⟨h.1, h.2.symm⟩)); (repeat still_step); refine wpStill_nil ?_; change wpList _ _ _ _ _ (World.drew _); go_wp2_with fail)
    clear R12
    obtain ⟨c13, n13, R13, E13, wc13, wn13⟩ := madd2_ex wm1 (show Wd 3486998266802970665 from ⟨by decide, by decide⟩) wc03 wc12
    go_wp2_with fail
    (refine wp_region_still_tail 14 (by kernel_rfl) (by kernel_rfl) ?_; simp only [List.take_succ_cons, List.take_zero, List.drop_succ_cons, List.drop_zero]; change wpStill _ _ (World.drew _) _ _ _; (repeat still_step); still_call ((R13.out _).mono (fun _ _ h => ⟨h.1, h.2.symm⟩)); (repeat still_step); refine wpStill_nil ?_; change wpList _ _ _ _ _ (World.drew _); go_wp2_with fail)
    clear R13
    have T1 := from_round (z0 := n01) (z1 := n02) (z2 := n03) (z3 := c03) M1.out E10.out E11.out E12.out E13.out wl10
    have HT1 := Lib.hid T1
    clear T1 hm1 M1 E10 E11 E12 E13
    clear wm1 wl10 wc10 wc11 wc12 wn01 wn02 wn03 wc03
    as_aux_lemma =>
      obtain ⟨m2, hm2, M2, wm2⟩ := qinv_ex' n11
      obtain ⟨c20, l20, R20, E20, wc20, wl20⟩ := madd0_ex wm2 (show Wd 4891460686036598785 from ⟨by decide, by decide⟩) wn11
      rw [hm2]
      refine (R20.out _).mono ?_
      rintro e w2 ⟨rfl, hw2⟩
      clear R20
      have A2 : At4 w2 g o n11 n12 n13 c13 := hw2 ▸ (at4_put4 hz1 n11 n12 n13 c13).drew.drew.drew
      have hz2 : Wr4 w2 g o := hw2 ▸ (wr4_put4 hz1 n11 n12 n13 c13).drew.drew.drew
      have HW2 : Hid (w2 = (put4 w1 g o n11 n12 n13 c13).drewN 3) := Lib.hid hw2.symm
      clear hw2 z0c z1c z2c z3c f0 f1 f2 f3
      obtain ⟨z0c, z1c, z2c, z3c⟩ := A2
      have hz2' := hz2
      obtain ⟨_, f0, f1, f2, f3⟩ := hz2'
      obtain ⟨c21, n21, R21, E21, wc21, wn21⟩ := madd2_ex wm2 (show Wd 2896914383306846353 from ⟨by decide, by decide⟩) wn12 wc20
      go_wp2_with fail
      (refine wp_region_still_tail 14 (by kernel_rfl) (by kernel_rfl) ?_; simp only [List.take_succ_cons, List.take_zero, List.drop_succ_cons, List.drop_zero]; change wpStill _ _ (World.drew _) _ _ _; (repeat still_step); still_call ((R21.out _).mono (fun _ _ h => ⟨h.1, h.2.symm⟩)); (repeat still_step); refine wpStill_nil ?_; change wpList _ _ _ _ _ (World.drew _); go_wp2_with fail)
      clear R21
      obtain ⟨c22, n22, R22, E22, wc22, wn22⟩ := madd2_ex wm2 (show Wd 13281191951274694749 from ⟨by decide, by decide⟩) wn13 wc21
      go_wp2_with fail
      (refine wp_region_still_tail 14 (by kernel_rfl) (by kernel_rfl) ?_; simp only [List.take_succ_cons, List.take_zero, List.drop_succ_cons, List.drop_zero]; change wpStill _ _ (World.drew _) _ _ _; (repeat still_step); still_call ((R22.out _).mono (fun _ _ h => ⟨h.1, h.2.symm⟩)); (repeat still_step); refine wpStill_nil ?_; change wpList _ _ _ _ _ (World.drew _); go_wp2_with fail)
      clear R22
      obtain ⟨c23, n23, R23, E23, wc23, wn23⟩ := madd2_ex wm2 (show Wd 3486998266802970665 from ⟨by decide, by decide⟩) wc13 wc22
      go_wp2_with fail
      (refine wp_region_still_tail 14 (by kernel_rfl) (by kernel_rfl) ?_; simp only [List.take_succ_cons, List.take_zero, List.drop_succ_cons, List.drop_zero]; change wpStill _ _ (World.drew _) _ _ _; (repeat still_step); still_call ((R23.out _).mono (fun _ _ h => ⟨h.1, h.2.symm⟩)); (repeat still_step); refine wpStill_nil ?_; change wpList _ _ _ _ _ (World.drew _); go_wp2_with fail)
      clear R23
      have T2 := from_round (z0 := n11) (z1 := n12) (z2 := n13) (z3 := c13) M2.out E20.out E21.out E22.out E23.out wl20
      have HT2 := Lib.hid T2
      clear T2 hm2 M2 E20 E21 E22 E23
      clear wm2 wl20 wc20 wc21 wc22 wn11 wn12 wn13 wc13
      as_aux_lemma =>
        obtain ⟨m3, hm3, M3, wm3⟩ := qinv_ex' n21
        obtain ⟨c30, l30, R30, E30, wc30, wl30⟩ := madd0_ex wm3 (show Wd 4891460686036598785 from ⟨by decide, by decide⟩) wn21
        rw [hm3]
        refine (R30.out _).mono ?_
        rintro e w3 ⟨rfl, hw3⟩
        clear R30
        have A3 : At4 w3 g o n21 n22 n23 c23 := hw3 ▸ (at4_put4 hz2 n21 n22 n23 c23).drew.drew.drew
        have hz3 : Wr4 w3 g o := hw3 ▸ (wr4_put4 hz2 n21 n22 n23 c23).drew.drew.drew
        have HW3 : Hid (w3 = (put4 w2 g o n21 n22 n23 c23).drewN 3) := Lib.hid hw3.symm
        clear hw3 z0c z1c z2c z3c f0 f1 f2 f3
        obtain ⟨z0c, z1c, z2c, z3c⟩ := A3
        have hz3' := hz3
        obtain ⟨_, f0, f1, f2, f3⟩ := hz3'
        obtain ⟨c31, n31, R31, E31, wc31, wn31⟩ := madd2_ex wm3 (show Wd 2896914383306846353 from ⟨by decide, by decide⟩) wn22 wc30
        go_wp2_with fail
        (refine wp_region_still_tail 14 (by kernel_rfl) (by kernel_rfl) ?_; simp only [List.take_succ_cons, List.take_zero, List.drop_succ_cons, List.drop_zero]; change wpStill _ _ (World.drew _) _ _ _; (repeat still_step); still_call ((R31.out _).mono (fun _ _ h => ⟨h.1, h.2.symm⟩)); (repeat still_step); refine wpStill_nil ?_; change wpList _ _ _ _ _ (World.drew _); go_wp2_with fail)
        clear R31
        obtain ⟨c32, n32, R32, E32, wc32, wn32⟩ := madd2_ex wm3 (show Wd 13281191951274694749 from ⟨by decide, by decide⟩) wn23 wc31
        go_wp2_with fail
        (refine wp_region_still_tail 14 (by kernel_rfl) (by kernel_rfl) ?_; simp only [List.take_succ_cons, List.take_zero, List.drop_succ_cons, List.drop_zero]; change wpStill _ _ (World.drew _) _ _ _; (repeat still_step); still_call ((R32.out _).mono (fun _ _ h => ⟨h.1, h.2.symm⟩)); (repeat still_step); refine wpStill_nil ?_; change wpList _ _ _ _ _ (World.drew _); go_wp2_with fail)
        clear R32
        obtain ⟨c33, n33, R33, E33, wc33, wn33⟩ := madd2_ex wm3 (show Wd 3486998266802970665 from ⟨by decide, by decide⟩) wc23 wc32
        go_wp2_with fail
        (refine wp_region_still_tail 14 (by kernel_rfl) (by kernel_rfl) ?_; simp only [List.take_succ_cons, List.take_zero, List.drop_succ_cons, List.drop_zero]; change wpStill _ _ (World.drew _) _ _ _; (repeat still_step); still_call ((R33.out _).mono (fun _ _ h => ⟨h.1, h.2.symm⟩)); (repeat still_step); refine wpStill_nil ?_; change wpList _ _ _ _ _ (World.drew _); go_wp2_with fail)
        clear R33
        have T3 := from_round (z0 := n21) (z1 := n22) (z2 := n23) (z3 := c23) M3.out E30.out E31.out E32.out E33.out wl30
        have HT3 := Lib.hid T3
        clear T3 hm3 M3 E30 E31 E32 E33
        clear wm3 wl30 wc30 wc31 wc32 wn21 wn22 wn23 wc23
        as_aux_lemma =>
          go_wp2_with fail
          refine (smaller_any g o n31 n32 n33 c33 _ wn31 wn32 wn33 (at4_put4 hz3 n31 n32 n33 c33).drew.drew.drew).mono ?_
          rintro e w4 ⟨rfl, hw4⟩
          have A4 : At4 w4 g o n31 n32 n33 c33 := hw4 ▸ (at4_put4 hz3 n31 n32 n33 c33).drew.drew.drew
          have hz4 : Wr4 w4 g o := hw4 ▸ (wr4_put4 hz3 n31 n32 n33 c33).drew.drew.drew
          have HW4 : Hid (w4 = (put4 w3 g o n31 n32 n33 c33).drewN 3) := Lib.hid hw4.symm
          clear hw4 z0c z1c z2c z3c f0 f1 f2 f3
          obtain ⟨c0, c1, c2, c3⟩ := A4
          obtain ⟨_, f0, f1, f2, f3⟩ := hz4
          obtain ⟨MM, hMM, hMM'⟩ : ∃ MM, val4 n31 n32 n33 c33 * 115792089237316195423570985008687907853269984665640564039457584007913129639936 = mont n + fp * MM ∧ MM < 115792089237316195423570985008687907853269984665640564039457584007913129639936 := by
            have h1 := HT0.out; have h2 := HT1.out; have h3 := HT2.out; have h4 := HT3.out
            have h := from_four h1.1 h2.1 h3.1 h4.1
            rw [HX.out] at h
            exact ⟨_, h, val4_le h1.2.2 h2.2.2 h3.2.2 h4.2.2⟩
          have HM := Lib.hid hMM
          have lt2 : val4 n31 n32 n33 c33 < 2 * fp := by
            have := mont_hi n
            rw [fp_eq] at *
            omega
          have pos : 0 ≤ val4 n31 n32 n33 c33 := by
            have := wn31.1; have := wn32.1; have := wn33.1; have := wc33.1
            simp only [val4]; omega
          clear hMM hMM' HT0 HT1 HT2 HT3
          cases hb : sm4 n31 n32 n33 c33
          · obtain ⟨d0, b0, q0, D0, wd0, b0a, b0b⟩ := sub64_ex wn31 (y := 4891460686036598785) ⟨by decide, by decide⟩ (Int.le_refl 0) (by decide)
            obtain ⟨d1, b1, q1, D1, wd1, b1a, b1b⟩ := sub64_ex wn32 (y := 2896914383306846353) ⟨by decide, by decide⟩ b0a b0b
            obtain ⟨d2, b2, q2, D2, wd2, b2a, b2b⟩ := sub64_ex wn33 (y := 13281191951274694749) ⟨by decide, by decide⟩ b1a b1b
            obtain ⟨d3, b3, q3, D3, wd3, b3a, b3b⟩ := sub64_ex wc33 (y := 3486998266802970665) ⟨by decide, by decide⟩ b2a b2b
            have hge : ¬ val4 n31 n32 n33 c33 < fp := by simpa [sm4] using hb
            have hv := sub_math hge lt2 D0.out D1.out D2.out D3.out wd0.1 wd0.2 wd1.1 wd1.2 wd2.1 wd2.2 wd3.1 wd3.2 b3a b3b
            have FIN := Lib.hid (rl_of_val wd0 wd1 wd2 hn hn' (from_end hn hn' HM.out (.inr hv) (by omega) (by omega)))
            clear hv hge lt2 pos HM D0 D1 D2 D3
            go_wp2
            go_region
            go_wp2
            go_region
            go_wp2
            go_region
            go_wp2
            go_region
            go_wp2
            go_end0
            refine ⟨rfl, 16, ?_⟩
            show (put4 w4 g o d0 d1 d2 d3).drew.drew.drew.drew = _
            rw [HW4.out, put4_drewN, put4_again, HW3.out, put4_drewN, put4_again, HW2.out, put4_drewN, put4_again, HW1.out, put4_drewN, put4_again, ends4 FIN.out]
            rfl
          · have FIN := Lib.hid (rl_of_val wn31 wn32 wn33 hn hn' (from_end hn hn' HM.out (.inl rfl) pos (by simpa [sm4] using hb)))
            clear lt2 pos HM
            go_wp2
            go_end0
            refine ⟨rfl, 12, ?_⟩
            rw [HW4.out, HW3.out, put4_drewN, put4_again, HW2.out, put4_drewN, put4_again, HW1.out, put4_drewN, put4_again, ends4 FIN.out]
            rfl
end Go.Proofs.YtodofaoaenddgaaDoor
