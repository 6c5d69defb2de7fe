/-
  Element.Mul, walked: the receiver's four cells hold the product's form. The lines of the four rounds are printed by gen_mul.py.
-/
import Derived.Test.YtodofaoaenddgaaDoorDbl
namespace Go.Proofs.YtodofaoaenddgaaDoor
open Go.RowKit Go.Lib Fr

theorem zero_le_sum {Y : Int} (h : 0 ≤ Y) : val4 0 0 0 0 ≤ Y + fp := by
  rw [fp_eq]; simp only [val4]; omega
theorem wd_carry {k : Int} (h0 : 0 ≤ k) (h1 : k ≤ 1) : Wd k := ⟨h0, by omega⟩
theorem eq0' {s k a b : Int} (h : s + 18446744073709551616 * k = a + b + 0) : s + 18446744073709551616 * k = a + b := by omega
theorem qinv_ex (t : Int) : ∃ m : Int, (IntKind.u64.wrap (14042775128853446655 * t) = m) ∧ Hid (m = 14042775128853446655 * t % 18446744073709551616) ∧ Wd m :=
  ⟨_, rfl, Lib.hid (IntKind.wrap_u64 _), by rw [IntKind.wrap_u64]; exact ⟨by omega, by omega⟩⟩

set_option maxHeartbeats 4000000 in
set_option maxRecDepth 100000 in
theorem mul_any (gz oz gx ox gy oy : Nat) (n m : Int) (w : World) (hx : El w gx ox n) (hy : El w gy oy m) (hz : Wr4 w gz oz) :
    Calls Tryd.prog 60 #[.pointer (some ⟨gz, oz, none⟩), .pointer (some ⟨gx, ox, none⟩), .pointer (some ⟨gy, oy, none⟩)] w fun e w' =>
      e = .returned (.pointer (some ⟨gz, oz, none⟩)) ∧ ∃ k, w' = (putE w gz oz (n * m % fp)).drewN k := by
  obtain ⟨x0c, x1c, x2c, x3c⟩ := hx
  obtain ⟨y0c, y1c, y2c, y3c⟩ := hy
  have hz0 := hz
  obtain ⟨⟨z0, z1, z2, z3, z0c, z1c, z2c, z3c⟩, f0, f1, f2, f3⟩ := hz
  have HX := Lib.hid (val_lim n)
  have HY := Lib.hid (val_lim m)
  have X0a : 0 ≤ val4 (lim n 0) (lim n 1) (lim n 2) (lim n 3) := by rw [val_lim]; exact mont_lo n
  have X0b : val4 (lim n 0) (lim n 1) (lim n 2) (lim n 3) < fp := by rw [val_lim]; exact mont_hi n
  have Y0a : 0 ≤ val4 (lim m 0) (lim m 1) (lim m 2) (lim m 3) := by rw [val_lim]; exact mont_lo m
  have Y0b : val4 (lim m 0) (lim m 1) (lim m 2) (lim m 3) < fp := by rw [val_lim]; exact mont_hi m
  have wx0 := wd_lim n 0; have wx1 := wd_lim n 1; have wx2 := wd_lim n 2; have wx3 := wd_lim n 3
  have wy0 := wd_lim m 0; have wy1 := wd_lim m 1; have wy2 := wd_lim m 2; have wy3 := wd_lim m 3
  generalize lim n 0 = x0 at *; generalize lim n 1 = x1 at *; generalize lim n 2 = x2 at *; generalize lim n 3 = x3 at *
  generalize lim m 0 = y0 at *; generalize lim m 1 = y1 at *; generalize lim m 2 = y2 at *; generalize lim m 3 = y3 at *
  go_enter Tryd.func60, Tryd.ntmps60
  obtain ⟨h1, l2, R2, E2, wh2, wl2, _⟩ := mul64_ex wx0 wy0
  go_wp2_with fail
  refine (R2.out _).mono ?_
  rintro e w' ⟨rfl, rfl⟩
  clear R2
  obtain ⟨h3, l4, R4, E4, wh4, wl4, _⟩ := mul64_ex wx0 wy1
  go_wp2_with fail
  refine (R4.out _).mono ?_
  rintro e w' ⟨rfl, rfl⟩
  clear R4
  obtain ⟨h5, l6, R6, E6, wh6, wl6, _⟩ := mul64_ex wx0 wy2
  go_wp2_with fail
  refine (R6.out _).mono ?_
  rintro e w' ⟨rfl, rfl⟩
  clear R6
  obtain ⟨h7, l8, R8, E8, wh8, wl8, _⟩ := mul64_ex wx0 wy3
  go_wp2_with fail
  refine (R8.out _).mono ?_
  rintro e w' ⟨rfl, rfl⟩
  clear R8
  obtain ⟨s9, k10, r10, E10, ws10, ka10, kb10⟩ := add64_ex wh2 wl4 (Int.le_refl 0) (by decide)
  obtain ⟨s11, k12, r12, E12, ws12, ka12, kb12⟩ := add64_ex wh4 wl6 ka10 kb10
  obtain ⟨s13, k14, r14, E14, ws14, ka14, kb14⟩ := add64_ex wh6 wl8 ka12 kb12
  obtain ⟨s15, k16, r16, E16, ws16, ka16, kb16⟩ := add64_ex wh8 (show Wd 0 from ⟨by decide, by decide⟩) ka14 kb14
  obtain ⟨m17, hm17, M17, wm17⟩ := qinv_ex l2
  as_aux_lemma =>
    obtain ⟨h18, l19, R19, E19, wh19, wl19, _⟩ := mul64_ex wm17 (show Wd 4891460686036598785 from ⟨by decide, by decide⟩)
    go_wp2_with fail
    refine (R19.out _).mono ?_
    rintro e w' ⟨rfl, rfl⟩
    clear R19
    obtain ⟨s20, k21, r21, E21, ws21, ka21, kb21⟩ := add64_ex wl2 wl19 (Int.le_refl 0) (by decide)
    obtain ⟨h22, l23, R23, E23, wh23, wl23, _⟩ := mul64_ex wm17 (show Wd 2896914383306846353 from ⟨by decide, by decide⟩)
    go_wp2_with fail
    refine (R23.out _).mono ?_
    rintro e w' ⟨rfl, rfl⟩
    clear R23
    obtain ⟨s24, k25, r25, E25, ws25, ka25, kb25⟩ := add64_ex ws10 wl23 ka21 kb21
    obtain ⟨h26, l27, R27, E27, wh27, wl27, _⟩ := mul64_ex wm17 (show Wd 13281191951274694749 from ⟨by decide, by decide⟩)
    go_wp2_with fail
    refine (R27.out _).mono ?_
    rintro e w' ⟨rfl, rfl⟩
    clear R27
    obtain ⟨s28, k29, r29, E29, ws29, ka29, kb29⟩ := add64_ex ws12 wl27 ka25 kb25
    obtain ⟨h30, l31, R31, E31, wh31, wl31, _⟩ := mul64_ex wm17 (show Wd 3486998266802970665 from ⟨by decide, by decide⟩)
    go_wp2_with fail
    refine (R31.out _).mono ?_
    rintro e w' ⟨rfl, rfl⟩
    clear R31
    obtain ⟨s32, k33, r33, E33, ws33, ka33, kb33⟩ := add64_ex (show Wd 0 from ⟨by decide, by decide⟩) wl31 ka29 kb29
    obtain ⟨s34, k35, r35, E35, ws35, ka35, kb35⟩ := add64_ex wh31 (show Wd 0 from ⟨by decide, by decide⟩) ka33 kb33
    obtain ⟨s36, k37, r37, E37, ws37, ka37, kb37⟩ := add64_ex wh19 ws25 (Int.le_refl 0) (by decide)
    obtain ⟨s38, k39, r39, E39, ws39, ka39, kb39⟩ := add64_ex wh23 ws29 ka37 kb37
    obtain ⟨s40, k41, r41, E41, ws41, ka41, kb41⟩ := add64_ex wh27 ws33 ka39 kb39
    obtain ⟨s42, k43, r43, E43, ws43, ka43, kb43⟩ := add64_ex ws16 (show Wd 0 from ⟨by decide, by decide⟩) ka41 kb41
    obtain ⟨s44, k45, r45, E45, ws45, ka45, kb45⟩ := add64_ex ws14 ws41 (Int.le_refl 0) (by decide)
    obtain ⟨s46, k47, r47, E47, ws47, ka47, kb47⟩ := add64_ex ws35 ws43 ka45 kb45
    go_wp2_with fail
    have T0 := round_all (v := x0) (y0 := y0) (y1 := y1) (y2 := y2) (y3 := y3) (t0 := 0) (t1 := 0) (t2 := 0) (t3 := 0)
      (u0 := h1) (l0 := l2) (u1 := h3) (l1 := l4) (u2 := h5) (l2 := l6) (u3 := h7) (l3 := l8)
      (a0 := l2) (ca0 := 0) (a1 := l4) (ca1 := 0) (a2 := l6) (ca2 := 0) (a3 := l8) (ca3 := 0) (z := 0) (cz := 0) (b1 := s9) (cb1 := k10) (b2 := s11) (cb2 := k12) (b3 := s13) (cb3 := k14) (b4 := s15) (cb4 := k16)
      (m := m17) (p0h := h18) (p0l := l19) (p1h := h22) (p1l := l23) (p2h := h26) (p2l := l27) (p3h := h30) (p3l := l31)
      (s0 := s20) (d0 := k21) (e0 := s24) (d1 := k25) (e1 := s28) (d2 := k29) (e2 := s32) (d3 := k33) (r3 := s34) (x1 := k35) (f0 := s36) (g0 := k37) (f1 := s38) (g1 := k39) (f2 := s40) (g2 := k41) (c2 := s42) (x2 := k43) (h2 := s44) (g3 := k45) (h3 := s46) (x3 := k47)
      wx0.1 wx0.2 Y0a (zero_le_sum Y0a) Y0b
      E2.out E4.out E6.out E8.out
      (by omega) (by omega) (by omega) (by omega) (by omega)
      (eq0' E10.out) E12.out E14.out E16.out
      M17.out E19.out E23.out E27.out E31.out
      (by have := E21.out; omega) (by have := E25.out; omega) (by have := E29.out; omega) (by have := E33.out; omega) (by have := E35.out; omega) (by have := E37.out; omega) (by have := E39.out; omega) (by have := E41.out; omega) (by have := E43.out; omega) (by have := E45.out; omega) (by have := E47.out; omega)
      ws21.1 ws21.2 ws37.1 ws39.1 ws45.1 ws47.1
      (Int.le_refl 0) ka16 ka35 ka43 ka47
    have HT0 := Lib.hid T0
    clear T0 E2 E4 E6 E8 r10 E10 r12 E12 r14 E14 r16 E16 hm17 M17 E19 r21 E21 E23 r25 E25 E27 r29 E29 E31 r33 E33 r35 E35 r37 E37 r39 E39 r41 E41 r43 E43 r45 E45 r47 E47
    as_aux_lemma =>
      obtain ⟨h48, l49, R49, E49, wh49, wl49, _⟩ := mul64_ex wx1 wy0
      go_wp2_with fail
      refine (R49.out _).mono ?_
      rintro e w' ⟨rfl, rfl⟩
      clear R49
      obtain ⟨s50, k51, r51, E51, ws51, ka51, kb51⟩ := add64_ex wl49 ws37 (Int.le_refl 0) (by decide)
      obtain ⟨h52, l53, R53, E53, wh53, wl53, _⟩ := mul64_ex wx1 wy1
      go_wp2_with fail
      refine (R53.out _).mono ?_
      rintro e w' ⟨rfl, rfl⟩
      clear R53
      obtain ⟨s54, k55, r55, E55, ws55, ka55, kb55⟩ := add64_ex wl53 ws39 ka51 kb51
      obtain ⟨h56, l57, R57, E57, wh57, wl57, _⟩ := mul64_ex wx1 wy2
      go_wp2_with fail
      refine (R57.out _).mono ?_
      rintro e w' ⟨rfl, rfl⟩
      clear R57
      obtain ⟨s58, k59, r59, E59, ws59, ka59, kb59⟩ := add64_ex wl57 ws45 ka55 kb55
      obtain ⟨h60, l61, R61, E61, wh61, wl61, _⟩ := mul64_ex wx1 wy3
      go_wp2_with fail
      refine (R61.out _).mono ?_
      rintro e w' ⟨rfl, rfl⟩
      clear R61
      obtain ⟨s62, k63, r63, E63, ws63, ka63, kb63⟩ := add64_ex wl61 ws47 ka59 kb59
      obtain ⟨s64, k65, r65, E65, ws65, ka65, kb65⟩ := add64_ex (show Wd 0 from ⟨by decide, by decide⟩) (show Wd 0 from ⟨by decide, by decide⟩) ka63 kb63
      obtain ⟨s66, k67, r67, E67, ws67, ka67, kb67⟩ := add64_ex wh49 ws55 (Int.le_refl 0) (by decide)
      obtain ⟨s68, k69, r69, E69, ws69, ka69, kb69⟩ := add64_ex wh53 ws59 ka67 kb67
      obtain ⟨s70, k71, r71, E71, ws71, ka71, kb71⟩ := add64_ex wh57 ws63 ka69 kb69
      obtain ⟨s72, k73, r73, E73, ws73, ka73, kb73⟩ := add64_ex wh61 ws65 ka71 kb71
      obtain ⟨m74, hm74, M74, wm74⟩ := qinv_ex s50
      as_aux_lemma =>
        obtain ⟨h75, l76, R76, E76, wh76, wl76, _⟩ := mul64_ex wm74 (show Wd 4891460686036598785 from ⟨by decide, by decide⟩)
        go_wp2_with fail
        refine (R76.out _).mono ?_
        rintro e w' ⟨rfl, rfl⟩
        clear R76
        obtain ⟨s77, k78, r78, E78, ws78, ka78, kb78⟩ := add64_ex ws51 wl76 (Int.le_refl 0) (by decide)
        obtain ⟨h79, l80, R80, E80, wh80, wl80, _⟩ := mul64_ex wm74 (show Wd 2896914383306846353 from ⟨by decide, by decide⟩)
        go_wp2_with fail
        refine (R80.out _).mono ?_
        rintro e w' ⟨rfl, rfl⟩
        clear R80
        obtain ⟨s81, k82, r82, E82, ws82, ka82, kb82⟩ := add64_ex ws67 wl80 ka78 kb78
        obtain ⟨h83, l84, R84, E84, wh84, wl84, _⟩ := mul64_ex wm74 (show Wd 13281191951274694749 from ⟨by decide, by decide⟩)
        go_wp2_with fail
        refine (R84.out _).mono ?_
        rintro e w' ⟨rfl, rfl⟩
        clear R84
        obtain ⟨s85, k86, r86, E86, ws86, ka86, kb86⟩ := add64_ex ws69 wl84 ka82 kb82
        obtain ⟨h87, l88, R88, E88, wh88, wl88, _⟩ := mul64_ex wm74 (show Wd 3486998266802970665 from ⟨by decide, by decide⟩)
        go_wp2_with fail
        refine (R88.out _).mono ?_
        rintro e w' ⟨rfl, rfl⟩
        clear R88
        obtain ⟨s89, k90, r90, E90, ws90, ka90, kb90⟩ := add64_ex (show Wd 0 from ⟨by decide, by decide⟩) wl88 ka86 kb86
        obtain ⟨s91, k92, r92, E92, ws92, ka92, kb92⟩ := add64_ex wh88 (show Wd 0 from ⟨by decide, by decide⟩) ka90 kb90
        obtain ⟨s93, k94, r94, E94, ws94, ka94, kb94⟩ := add64_ex wh76 ws82 (Int.le_refl 0) (by decide)
        obtain ⟨s95, k96, r96, E96, ws96, ka96, kb96⟩ := add64_ex wh80 ws86 ka94 kb94
        obtain ⟨s97, k98, r98, E98, ws98, ka98, kb98⟩ := add64_ex wh84 ws90 ka96 kb96
        obtain ⟨s99, k100, r100, E100, ws100, ka100, kb100⟩ := add64_ex ws73 (show Wd 0 from ⟨by decide, by decide⟩) ka98 kb98
        obtain ⟨s101, k102, r102, E102, ws102, ka102, kb102⟩ := add64_ex ws71 ws98 (Int.le_refl 0) (by decide)
        obtain ⟨s103, k104, r104, E104, ws104, ka104, kb104⟩ := add64_ex ws92 ws100 ka102 kb102
        go_wp2_with fail
        have T1 := round_all (v := x1) (y0 := y0) (y1 := y1) (y2 := y2) (y3 := y3) (t0 := s36) (t1 := s38) (t2 := s44) (t3 := s46)
          (u0 := h48) (l0 := l49) (u1 := h52) (l1 := l53) (u2 := h56) (l2 := l57) (u3 := h60) (l3 := l61)
          (a0 := s50) (ca0 := k51) (a1 := s54) (ca1 := k55) (a2 := s58) (ca2 := k59) (a3 := s62) (ca3 := k63) (z := s64) (cz := k65) (b1 := s66) (cb1 := k67) (b2 := s68) (cb2 := k69) (b3 := s70) (cb3 := k71) (b4 := s72) (cb4 := k73)
          (m := m74) (p0h := h75) (p0l := l76) (p1h := h79) (p1l := l80) (p2h := h83) (p2l := l84) (p3h := h87) (p3l := l88)
          (s0 := s77) (d0 := k78) (e0 := s81) (d1 := k82) (e1 := s85) (d2 := k86) (e2 := s89) (d3 := k90) (r3 := s91) (x1 := k92) (f0 := s93) (g0 := k94) (f1 := s95) (g1 := k96) (f2 := s97) (g2 := k98) (c2 := s99) (x2 := k100) (h2 := s101) (g3 := k102) (h3 := s103) (x3 := k104)
          wx1.1 wx1.2 Y0a HT0.out.2.1 Y0b
          E49.out E53.out E57.out E61.out
          (by have := E51.out; omega) (by have := E55.out; omega) (by have := E59.out; omega) (by have := E63.out; omega) (by have := E65.out; omega) (by have := E67.out; omega) (by have := E69.out; omega) (by have := E71.out; omega) (by have := E73.out; omega)
          M74.out E76.out E80.out E84.out E88.out
          (by have := E78.out; omega) (by have := E82.out; omega) (by have := E86.out; omega) (by have := E90.out; omega) (by have := E92.out; omega) (by have := E94.out; omega) (by have := E96.out; omega) (by have := E98.out; omega) (by have := E100.out; omega) (by have := E102.out; omega) (by have := E104.out; omega)
          ws78.1 ws78.2 ws94.1 ws96.1 ws102.1 ws104.1
          ka65 ka73 ka92 ka100 ka104
        have HT1 := Lib.hid T1
        clear T1 E49 r51 E51 E53 r55 E55 E57 r59 E59 E61 r63 E63 r65 E65 r67 E67 r69 E69 r71 E71 r73 E73 hm74 M74 E76 r78 E78 E80 r82 E82 E84 r86 E86 E88 r90 E90 r92 E92 r94 E94 r96 E96 r98 E98 r100 E100 r102 E102 r104 E104
        as_aux_lemma =>
          obtain ⟨h105, l106, R106, E106, wh106, wl106, _⟩ := mul64_ex wx2 wy0
          go_wp2_with fail
          refine (R106.out _).mono ?_
          rintro e w' ⟨rfl, rfl⟩
          clear R106
          obtain ⟨s107, k108, r108, E108, ws108, ka108, kb108⟩ := add64_ex wl106 ws94 (Int.le_refl 0) (by decide)
          obtain ⟨h109, l110, R110, E110, wh110, wl110, _⟩ := mul64_ex wx2 wy1
          go_wp2_with fail
          refine (R110.out _).mono ?_
          rintro e w' ⟨rfl, rfl⟩
          clear R110
          obtain ⟨s111, k112, r112, E112, ws112, ka112, kb112⟩ := add64_ex wl110 ws96 ka108 kb108
          obtain ⟨h113, l114, R114, E114, wh114, wl114, _⟩ := mul64_ex wx2 wy2
          go_wp2_with fail
          refine (R114.out _).mono ?_
          rintro e w' ⟨rfl, rfl⟩
          clear R114
          obtain ⟨s115, k116, r116, E116, ws116, ka116, kb116⟩ := add64_ex wl114 ws102 ka112 kb112
          obtain ⟨h117, l118, R118, E118, wh118, wl118, _⟩ := mul64_ex wx2 wy3
          go_wp2_with fail
          refine (R118.out _).mono ?_
          rintro e w' ⟨rfl, rfl⟩
          clear R118
          obtain ⟨s119, k120, r120, E120, ws120, ka120, kb120⟩ := add64_ex wl118 ws104 ka116 kb116
          obtain ⟨s121, k122, r122, E122, ws122, ka122, kb122⟩ := add64_ex (show Wd 0 from ⟨by decide, by decide⟩) (show Wd 0 from ⟨by decide, by decide⟩) ka120 kb120
          obtain ⟨s123, k124, r124, E124, ws124, ka124, kb124⟩ := add64_ex wh106 ws112 (Int.le_refl 0) (by decide)
          obtain ⟨s125, k126, r126, E126, ws126, ka126, kb126⟩ := add64_ex wh110 ws116 ka124 kb124
          obtain ⟨s127, k128, r128, E128, ws128, ka128, kb128⟩ := add64_ex wh114 ws120 ka126 kb126
          obtain ⟨s129, k130, r130, E130, ws130, ka130, kb130⟩ := add64_ex wh118 ws122 ka128 kb128
          obtain ⟨m131, hm131, M131, wm131⟩ := qinv_ex s107
          as_aux_lemma =>
            obtain ⟨h132, l133, R133, E133, wh133, wl133, _⟩ := mul64_ex wm131 (show Wd 4891460686036598785 from ⟨by decide, by decide⟩)
            go_wp2_with fail
            refine (R133.out _).mono ?_
            rintro e w' ⟨rfl, rfl⟩
            clear R133
            obtain ⟨s134, k135, r135, E135, ws135, ka135, kb135⟩ := add64_ex ws108 wl133 (Int.le_refl 0) (by decide)
            obtain ⟨h136, l137, R137, E137, wh137, wl137, _⟩ := mul64_ex wm131 (show Wd 2896914383306846353 from ⟨by decide, by decide⟩)
            go_wp2_with fail
            refine (R137.out _).mono ?_
            rintro e w' ⟨rfl, rfl⟩
            clear R137
            obtain ⟨s138, k139, r139, E139, ws139, ka139, kb139⟩ := add64_ex ws124 wl137 ka135 kb135
            obtain ⟨h140, l141, R141, E141, wh141, wl141, _⟩ := mul64_ex wm131 (show Wd 13281191951274694749 from ⟨by decide, by decide⟩)
            go_wp2_with fail
            refine (R141.out _).mono ?_
            rintro e w' ⟨rfl, rfl⟩
            clear R141
            obtain ⟨s142, k143, r143, E143, ws143, ka143, kb143⟩ := add64_ex ws126 wl141 ka139 kb139
            obtain ⟨h144, l145, R145, E145, wh145, wl145, _⟩ := mul64_ex wm131 (show Wd 3486998266802970665 from ⟨by decide, by decide⟩)
            go_wp2_with fail
            refine (R145.out _).mono ?_
            rintro e w' ⟨rfl, rfl⟩
            clear R145
            obtain ⟨s146, k147, r147, E147, ws147, ka147, kb147⟩ := add64_ex (show Wd 0 from ⟨by decide, by decide⟩) wl145 ka143 kb143
            obtain ⟨s148, k149, r149, E149, ws149, ka149, kb149⟩ := add64_ex wh145 (show Wd 0 from ⟨by decide, by decide⟩) ka147 kb147
            obtain ⟨s150, k151, r151, E151, ws151, ka151, kb151⟩ := add64_ex wh133 ws139 (Int.le_refl 0) (by decide)
            obtain ⟨s152, k153, r153, E153, ws153, ka153, kb153⟩ := add64_ex wh137 ws143 ka151 kb151
            obtain ⟨s154, k155, r155, E155, ws155, ka155, kb155⟩ := add64_ex wh141 ws147 ka153 kb153
            obtain ⟨s156, k157, r157, E157, ws157, ka157, kb157⟩ := add64_ex ws130 (show Wd 0 from ⟨by decide, by decide⟩) ka155 kb155
            obtain ⟨s158, k159, r159, E159, ws159, ka159, kb159⟩ := add64_ex ws128 ws155 (Int.le_refl 0) (by decide)
            obtain ⟨s160, k161, r161, E161, ws161, ka161, kb161⟩ := add64_ex ws149 ws157 ka159 kb159
            go_wp2_with fail
            have T2 := round_all (v := x2) (y0 := y0) (y1 := y1) (y2 := y2) (y3 := y3) (t0 := s93) (t1 := s95) (t2 := s101) (t3 := s103)
              (u0 := h105) (l0 := l106) (u1 := h109) (l1 := l110) (u2 := h113) (l2 := l114) (u3 := h117) (l3 := l118)
              (a0 := s107) (ca0 := k108) (a1 := s111) (ca1 := k112) (a2 := s115) (ca2 := k116) (a3 := s119) (ca3 := k120) (z := s121) (cz := k122) (b1 := s123) (cb1 := k124) (b2 := s125) (cb2 := k126) (b3 := s127) (cb3 := k128) (b4 := s129) (cb4 := k130)
              (m := m131) (p0h := h132) (p0l := l133) (p1h := h136) (p1l := l137) (p2h := h140) (p2l := l141) (p3h := h144) (p3l := l145)
              (s0 := s134) (d0 := k135) (e0 := s138) (d1 := k139) (e1 := s142) (d2 := k143) (e2 := s146) (d3 := k147) (r3 := s148) (x1 := k149) (f0 := s150) (g0 := k151) (f1 := s152) (g1 := k153) (f2 := s154) (g2 := k155) (c2 := s156) (x2 := k157) (h2 := s158) (g3 := k159) (h3 := s160) (x3 := k161)
              wx2.1 wx2.2 Y0a HT1.out.2.1 Y0b
              E106.out E110.out E114.out E118.out
              (by have := E108.out; omega) (by have := E112.out; omega) (by have := E116.out; omega) (by have := E120.out; omega) (by have := E122.out; omega) (by have := E124.out; omega) (by have := E126.out; omega) (by have := E128.out; omega) (by have := E130.out; omega)
              M131.out E133.out E137.out E141.out E145.out
              (by have := E135.out; omega) (by have := E139.out; omega) (by have := E143.out; omega) (by have := E147.out; omega) (by have := E149.out; omega) (by have := E151.out; omega) (by have := E153.out; omega) (by have := E155.out; omega) (by have := E157.out; omega) (by have := E159.out; omega) (by have := E161.out; omega)
              ws135.1 ws135.2 ws151.1 ws153.1 ws159.1 ws161.1
              ka122 ka130 ka149 ka157 ka161
            have HT2 := Lib.hid T2
            clear T2 E106 r108 E108 E110 r112 E112 E114 r116 E116 E118 r120 E120 r122 E122 r124 E124 r126 E126 r128 E128 r130 E130 hm131 M131 E133 r135 E135 E137 r139 E139 E141 r143 E143 E145 r147 E147 r149 E149 r151 E151 r153 E153 r155 E155 r157 E157 r159 E159 r161 E161
            as_aux_lemma =>
              obtain ⟨h162, l163, R163, E163, wh163, wl163, _⟩ := mul64_ex wx3 wy0
              go_wp2_with fail
              refine (R163.out _).mono ?_
              rintro e w' ⟨rfl, rfl⟩
              clear R163
              obtain ⟨s164, k165, r165, E165, ws165, ka165, kb165⟩ := add64_ex wl163 ws151 (Int.le_refl 0) (by decide)
              obtain ⟨h166, l167, R167, E167, wh167, wl167, _⟩ := mul64_ex wx3 wy1
              go_wp2_with fail
              refine (R167.out _).mono ?_
              rintro e w' ⟨rfl, rfl⟩
              clear R167
              obtain ⟨s168, k169, r169, E169, ws169, ka169, kb169⟩ := add64_ex wl167 ws153 ka165 kb165
              obtain ⟨h170, l171, R171, E171, wh171, wl171, _⟩ := mul64_ex wx3 wy2
              go_wp2_with fail
              refine (R171.out _).mono ?_
              rintro e w' ⟨rfl, rfl⟩
              clear R171
              obtain ⟨s172, k173, r173, E173, ws173, ka173, kb173⟩ := add64_ex wl171 ws159 ka169 kb169
              obtain ⟨h174, l175, R175, E175, wh175, wl175, _⟩ := mul64_ex wx3 wy3
              go_wp2_with fail
              refine (R175.out _).mono ?_
              rintro e w' ⟨rfl, rfl⟩
              clear R175
              obtain ⟨s176, k177, r177, E177, ws177, ka177, kb177⟩ := add64_ex wl175 ws161 ka173 kb173
              obtain ⟨s178, k179, r179, E179, ws179, ka179, kb179⟩ := add64_ex (show Wd 0 from ⟨by decide, by decide⟩) (show Wd 0 from ⟨by decide, by decide⟩) ka177 kb177
              obtain ⟨s180, k181, r181, E181, ws181, ka181, kb181⟩ := add64_ex wh163 ws169 (Int.le_refl 0) (by decide)
              obtain ⟨s182, k183, r183, E183, ws183, ka183, kb183⟩ := add64_ex wh167 ws173 ka181 kb181
              obtain ⟨s184, k185, r185, E185, ws185, ka185, kb185⟩ := add64_ex wh171 ws177 ka183 kb183
              obtain ⟨s186, k187, r187, E187, ws187, ka187, kb187⟩ := add64_ex wh175 ws179 ka185 kb185
              obtain ⟨m188, hm188, M188, wm188⟩ := qinv_ex s164
              as_aux_lemma =>
                obtain ⟨h189, l190, R190, E190, wh190, wl190, _⟩ := mul64_ex wm188 (show Wd 4891460686036598785 from ⟨by decide, by decide⟩)
                go_wp2_with fail
                refine (R190.out _).mono ?_
                rintro e w' ⟨rfl, rfl⟩
                clear R190
                obtain ⟨s191, k192, r192, E192, ws192, ka192, kb192⟩ := add64_ex ws165 wl190 (Int.le_refl 0) (by decide)
                obtain ⟨h193, l194, R194, E194, wh194, wl194, _⟩ := mul64_ex wm188 (show Wd 2896914383306846353 from ⟨by decide, by decide⟩)
                go_wp2_with fail
                refine (R194.out _).mono ?_
                rintro e w' ⟨rfl, rfl⟩
                clear R194
                obtain ⟨s195, k196, r196, E196, ws196, ka196, kb196⟩ := add64_ex ws181 wl194 ka192 kb192
                obtain ⟨h197, l198, R198, E198, wh198, wl198, _⟩ := mul64_ex wm188 (show Wd 13281191951274694749 from ⟨by decide, by decide⟩)
                go_wp2_with fail
                refine (R198.out _).mono ?_
                rintro e w' ⟨rfl, rfl⟩
                clear R198
                obtain ⟨s199, k200, r200, E200, ws200, ka200, kb200⟩ := add64_ex ws183 wl198 ka196 kb196
                obtain ⟨h201, l202, R202, E202, wh202, wl202, _⟩ := mul64_ex wm188 (show Wd 3486998266802970665 from ⟨by decide, by decide⟩)
                go_wp2_with fail
                refine (R202.out _).mono ?_
                rintro e w' ⟨rfl, rfl⟩
                clear R202
                obtain ⟨s203, k204, r204, E204, ws204, ka204, kb204⟩ := add64_ex (show Wd 0 from ⟨by decide, by decide⟩) wl202 ka200 kb200
                obtain ⟨s205, k206, r206, E206, ws206, ka206, kb206⟩ := add64_ex wh202 (show Wd 0 from ⟨by decide, by decide⟩) ka204 kb204
                obtain ⟨s207, k208, r208, E208, ws208, ka208, kb208⟩ := add64_ex wh190 ws196 (Int.le_refl 0) (by decide)
                obtain ⟨s209, k210, r210, E210, ws210, ka210, kb210⟩ := add64_ex wh194 ws200 ka208 kb208
                obtain ⟨s211, k212, r212, E212, ws212, ka212, kb212⟩ := add64_ex wh198 ws204 ka210 kb210
                obtain ⟨s213, k214, r214, E214, ws214, ka214, kb214⟩ := add64_ex ws187 (show Wd 0 from ⟨by decide, by decide⟩) ka212 kb212
                obtain ⟨s215, k216, r216, E216, ws216, ka216, kb216⟩ := add64_ex ws185 ws212 (Int.le_refl 0) (by decide)
                obtain ⟨s217, k218, r218, E218, ws218, ka218, kb218⟩ := add64_ex ws206 ws214 ka216 kb216
                go_wp2_with fail
                have T3 := round_all (v := x3) (y0 := y0) (y1 := y1) (y2 := y2) (y3 := y3) (t0 := s150) (t1 := s152) (t2 := s158) (t3 := s160)
                  (u0 := h162) (l0 := l163) (u1 := h166) (l1 := l167) (u2 := h170) (l2 := l171) (u3 := h174) (l3 := l175)
                  (a0 := s164) (ca0 := k165) (a1 := s168) (ca1 := k169) (a2 := s172) (ca2 := k173) (a3 := s176) (ca3 := k177) (z := s178) (cz := k179) (b1 := s180) (cb1 := k181) (b2 := s182) (cb2 := k183) (b3 := s184) (cb3 := k185) (b4 := s186) (cb4 := k187)
                  (m := m188) (p0h := h189) (p0l := l190) (p1h := h193) (p1l := l194) (p2h := h197) (p2l := l198) (p3h := h201) (p3l := l202)
                  (s0 := s191) (d0 := k192) (e0 := s195) (d1 := k196) (e1 := s199) (d2 := k200) (e2 := s203) (d3 := k204) (r3 := s205) (x1 := k206) (f0 := s207) (g0 := k208) (f1 := s209) (g1 := k210) (f2 := s211) (g2 := k212) (c2 := s213) (x2 := k214) (h2 := s215) (g3 := k216) (h3 := s217) (x3 := k218)
                  wx3.1 wx3.2 Y0a HT2.out.2.1 Y0b
                  E163.out E167.out E171.out E175.out
                  (by have := E165.out; omega) (by have := E169.out; omega) (by have := E173.out; omega) (by have := E177.out; omega) (by have := E179.out; omega) (by have := E181.out; omega) (by have := E183.out; omega) (by have := E185.out; omega) (by have := E187.out; omega)
                  M188.out E190.out E194.out E198.out E202.out
                  (by have := E192.out; omega) (by have := E196.out; omega) (by have := E200.out; omega) (by have := E204.out; omega) (by have := E206.out; omega) (by have := E208.out; omega) (by have := E210.out; omega) (by have := E212.out; omega) (by have := E214.out; omega) (by have := E216.out; omega) (by have := E218.out; omega)
                  ws192.1 ws192.2 ws208.1 ws210.1 ws216.1 ws218.1
                  ka179 ka187 ka206 ka214 ka218
                have HT3 := Lib.hid T3
                clear T3 E163 r165 E165 E167 r169 E169 E171 r173 E173 E175 r177 E177 r179 E179 r181 E181 r183 E183 r185 E185 r187 E187 hm188 M188 E190 r192 E192 E194 r196 E196 E198 r200 E200 E202 r204 E204 r206 E206 r208 E208 r210 E210 r212 E212 r214 E214 r216 E216 r218 E218
                as_aux_lemma =>
                  refine (smaller_any gz oz s207 s209 s215 s217 _ ws208 ws210 ws216 (at4_put4 hz0 s207 s209 s215 s217)).mono ?_
                  rintro e w1 ⟨rfl, hw1⟩
                  have A1 : At4 w1 gz oz s207 s209 s215 s217 := hw1 ▸ (at4_put4 hz0 s207 s209 s215 s217)
                  have W1 : Wr4 w1 gz oz := hw1 ▸ (wr4_put4 hz0 s207 s209 s215 s217)
                  have HW : Hid (w1 = put4 w gz oz s207 s209 s215 s217) := Lib.hid hw1.symm
                  clear hw1 x0c x1c x2c x3c y0c y1c y2c y3c z0c z1c z2c z3c f0 f1 f2 f3
                  obtain ⟨c0, c1, c2, c3⟩ := A1
                  obtain ⟨_, f0, f1, f2, f3⟩ := W1
                  obtain ⟨MM, hMM, hMM'⟩ : ∃ MM, val4 s207 s209 s215 s217 * 115792089237316195423570985008687907853269984665640564039457584007913129639936 = mont n * mont m + fp * MM ∧ MM < 115792089237316195423570985008687907853269984665640564039457584007913129639936 := by
                    have h1 := HT0.out; have h2 := HT1.out; have h3 := HT2.out; have h4 := HT3.out
                    have h := four_rounds (x0 := x0) (x1 := x1) (x2 := x2) (x3 := x3) (by rw [h1.1]; rfl) h2.1 h3.1 h4.1
                    rw [HX.out, HY.out] at h
                    exact ⟨_, h, val4_le h1.2.2.2 h2.2.2.2 h3.2.2.2 h4.2.2.2⟩
                  have HM := Lib.hid hMM
                  have lt2 := four_lt hMM (mont_lo n) (mont_hi n) (mont_hi m) hMM'
                  have pos : 0 ≤ val4 s207 s209 s215 s217 := by
                    have := ws208.1; have := ws210.1; have := ws216.1; have := ws218.1
                    simp only [val4]; omega
                  clear hMM hMM' HT0 HT1 HT2 HT3
                  cases hb : sm4 s207 s209 s215 s217
                  · obtain ⟨d0, b0, q0, D0, wd0, b0a, b0b⟩ := sub64_ex ws208 (y := 4891460686036598785) ⟨by decide, by decide⟩ (Int.le_refl 0) (by decide)
                    obtain ⟨d1, b1, q1, D1, wd1, b1a, b1b⟩ := sub64_ex ws210 (y := 2896914383306846353) ⟨by decide, by decide⟩ b0a b0b
                    obtain ⟨d2, b2, q2, D2, wd2, b2a, b2b⟩ := sub64_ex ws216 (y := 13281191951274694749) ⟨by decide, by decide⟩ b1a b1b
                    obtain ⟨d3, b3, q3, D3, wd3, b3a, b3b⟩ := sub64_ex ws218 (y := 3486998266802970665) ⟨by decide, by decide⟩ b2a b2b
                    have hge : ¬ val4 s207 s209 s215 s217 < fp := by simpa [sm4] using hb
                    have hv := sub_math hge lt2 D0.out D1.out D2.out D3.out wd0.1 wd0.2 wd1.1 wd1.2 wd2.1 wd2.2 wd3.1 wd3.2 b3a b3b
                    have fin := lim_of_val wd0.1 wd0.2 wd1.1 wd1.2 wd2.1 wd2.2 (mul_end HM.out (.inr hv) (by omega) (by omega))
                    have FIN := Lib.hid fin
                    clear fin hv hge lt2 pos HM D0 D1 D2 D3
                    go_wp2
                    go_region
                    go_wp2
                    go_region
                    go_wp2
                    go_region
                    go_wp2
                    go_region
                    go_wp2
                    go_ret
                    refine ⟨rfl, 4, ?_⟩
                    show (put4 w1 gz oz d0 d1 d2 d3).drew.drew.drew.drew = _
                    rw [HW.out, put4_again, ends4 FIN.out]
                    rfl
                  · have FIN := Lib.hid (lim_of_val ws208.1 ws208.2 ws210.1 ws210.2 ws216.1 ws216.2 (mul_end HM.out (.inl rfl) pos (by simpa [sm4] using hb)))
                    clear lt2 pos HM
                    go_wp2
                    go_ret
                    refine ⟨rfl, 0, ?_⟩
                    rw [HW.out, ends4 FIN.out]
                    rfl
end Go.Proofs.YtodofaoaenddgaaDoor
