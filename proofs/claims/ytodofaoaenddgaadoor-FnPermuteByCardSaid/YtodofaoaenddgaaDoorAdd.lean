/-
  Element.Add and Element.Double, walked: the receiver's four cells hold the sum's form.
-/
import Derived.Test.YtodofaoaenddgaaDoorFld
namespace Go.Proofs.YtodofaoaenddgaaDoor
open Go.RowKit Go.Lib Fr

/-- The sum of two forms, the prime taken off or not. -/
theorem add_math {n m s0 s1 s2 s3 k0 k1 k2 k3 x0 x1 x2 x3 y0 y1 y2 y3 : Int} (hX : val4 x0 x1 x2 x3 = mont n) (hY : val4 y0 y1 y2 y3 = mont m)
    (e0 : s0 + 18446744073709551616 * k0 = x0 + y0 + 0) (e1 : s1 + 18446744073709551616 * k1 = x1 + y1 + k0) (e2 : s2 + 18446744073709551616 * k2 = x2 + y2 + k1) (e3 : s3 + 18446744073709551616 * k3 = x3 + y3 + k2)
    (h0 : 0 ≤ s0) (h1 : 0 ≤ s1) (h2 : 0 ≤ s2) (h3 : 0 ≤ s3) (hk : 0 ≤ k3) : val4 s0 s1 s2 s3 = mont n + mont m := by
  have a1 := mont_hi n
  have a2 := mont_hi m
  have b1 := mont_lo n
  have b2 := mont_lo m
  rw [← hX] at a1 b1 ⊢
  rw [← hY] at a2 b2 ⊢
  rw [fp_eq] at a1 a2
  simp only [val4] at *
  omega
theorem sub_math {s0 s1 s2 s3 d0 d1 d2 d3 b0 b1 b2 b3 : Int} (hs : ¬ val4 s0 s1 s2 s3 < fp) (hs' : val4 s0 s1 s2 s3 < 2 * fp)
    (e0 : d0 - 18446744073709551616 * b0 = s0 - 4891460686036598785 - 0) (e1 : d1 - 18446744073709551616 * b1 = s1 - 2896914383306846353 - b0) (e2 : d2 - 18446744073709551616 * b2 = s2 - 13281191951274694749 - b1) (e3 : d3 - 18446744073709551616 * b3 = s3 - 3486998266802970665 - b2)
    (h0 : 0 ≤ d0) (h0' : d0 < 18446744073709551616) (h1 : 0 ≤ d1) (h1' : d1 < 18446744073709551616) (h2 : 0 ≤ d2) (h2' : d2 < 18446744073709551616) (h3 : 0 ≤ d3) (h3' : d3 < 18446744073709551616) (hb : 0 ≤ b3) (hb' : b3 ≤ 1) :
    val4 d0 d1 d2 d3 = val4 s0 s1 s2 s3 - fp := by
  rw [fp_eq] at *
  simp only [val4] at *
  omega
/-- The sum's form, from what was added up and the test. -/
theorem add_no {n m s0 s1 s2 s3 : Int} (h : val4 s0 s1 s2 s3 = mont n + mont m) (hlt : val4 s0 s1 s2 s3 < fp)
    (h0 : Wd s0) (h1 : Wd s1) (h2 : Wd s2) (h3 : Wd s3) : s0 = lim ((n + m) % fp) 0 ∧ s1 = lim ((n + m) % fp) 1 ∧ s2 = lim ((n + m) % fp) 2 ∧ s3 = lim ((n + m) % fp) 3 := by
  refine lim_of_val h0.1 h0.2 h1.1 h1.2 h2.1 h2.2 (mont_add ?_ hlt (Eqv.of_eq h))
  have := h0.1; have := h1.1; have := h2.1; have := h3.1
  simp only [val4]; omega
theorem add_yes {n m s0 s1 s2 s3 d0 d1 d2 d3 : Int} (h : val4 s0 s1 s2 s3 = mont n + mont m) (hge : ¬ val4 s0 s1 s2 s3 < fp) (hd : val4 d0 d1 d2 d3 = val4 s0 s1 s2 s3 - fp)
    (h0 : Wd d0) (h1 : Wd d1) (h2 : Wd d2) : d0 = lim ((n + m) % fp) 0 ∧ d1 = lim ((n + m) % fp) 1 ∧ d2 = lim ((n + m) % fp) 2 ∧ d3 = lim ((n + m) % fp) 3 := by
  have a1 := mont_hi n
  have a2 := mont_hi m
  refine lim_of_val h0.1 h0.2 h1.1 h1.2 h2.1 h2.2 (mont_add (by omega) (by omega) ?_)
  rw [hd, h]
  exact ⟨-1, by omega⟩

theorem ends4 {w : World} {g o : Nat} {a b c d a' b' c' d' : Int} (h : a = a' ∧ b = b' ∧ c = c' ∧ d = d') : put4 w g o a b c d = put4 w g o a' b' c' d' := by
  obtain ⟨rfl, rfl, rfl, rfl⟩ := h; rfl

set_option maxHeartbeats 1000000 in
set_option maxRecDepth 100000 in
theorem add_any (gz oz gx ox gy oy : Nat) (n m : Int) (w : World) (hx : El w gx ox n) (hy : El w gy oy m) (hz : Wr4 w gz oz) (axz : Apart4 gz oz gx ox) (ayz : Apart4 gz oz gy oy) :
    Calls Tryd.prog 57 #[.pointer (some ⟨gz, oz, none⟩), .pointer (some ⟨gx, ox, none⟩), .pointer (some ⟨gy, oy, none⟩)] w fun e w' =>
      e = .returned (.pointer (some ⟨gz, oz, none⟩)) ∧ ∃ k, w' = (putE w gz oz ((n + m) % fp)).drewN k := by
  obtain ⟨x0c, x1c, x2c, x3c⟩ := hx
  obtain ⟨y0c, y1c, y2c, y3c⟩ := hy
  have hz0 := hz
  obtain ⟨⟨z0, z1, z2, z3, z0c, z1c, z2c, z3c⟩, f0, f1, f2, f3⟩ := hz
  have HX := Lib.hid (val_lim n)
  have HY := Lib.hid (val_lim m)
  have wx0 := wd_lim n 0; have wx1 := wd_lim n 1; have wx2 := wd_lim n 2; have wx3 := wd_lim n 3
  have wy0 := wd_lim m 0; have wy1 := wd_lim m 1; have wy2 := wd_lim m 2; have wy3 := wd_lim m 3
  generalize lim n 0 = x0 at *; generalize lim n 1 = x1 at *; generalize lim n 2 = x2 at *; generalize lim n 3 = x3 at *
  generalize lim m 0 = y0 at *; generalize lim m 1 = y1 at *; generalize lim m 2 = y2 at *; generalize lim m 3 = y3 at *
  obtain ⟨s0, k0, r0, E0, ws0, k0a, k0b⟩ := add64_ex wx0 wy0 (Int.le_refl 0) (by decide)
  obtain ⟨s1, k1, r1, E1, ws1, k1a, k1b⟩ := add64_ex wx1 wy1 k0a k0b
  obtain ⟨s2, k2, r2, E2, ws2, k2a, k2b⟩ := add64_ex wx2 wy2 k1a k1b
  obtain ⟨s3, k3, r3, E3, ws3, k3a, k3b⟩ := add64_ex wx3 wy3 k2a k2b
  have V := Lib.hid (add_math HX.out HY.out E0.out E1.out E2.out E3.out ws0.1 ws1.1 ws2.1 ws3.1 k3a)
  -- the cells that are read behind stores
  have x1d : ∀ u, (w.setCell ⟨gz, oz, none⟩ u).cell? ⟨gx, ox + 1, none⟩ = some (.int .u64 x1) := fun u => later (i := 0) axz (by decide) (by decide) (by decide) x1c
  have y1d : ∀ u, (w.setCell ⟨gz, oz, none⟩ u).cell? ⟨gy, oy + 1, none⟩ = some (.int .u64 y1) := fun u => later (i := 0) ayz (by decide) (by decide) (by decide) y1c
  have x2d : ∀ u v, ((w.setCell ⟨gz, oz, none⟩ u).setCell ⟨gz, oz + 1, none⟩ v).cell? ⟨gx, ox + 2, none⟩ = some (.int .u64 x2) := fun u v => later axz (by decide) (by decide) (by decide) (later (i := 0) axz (by decide) (by decide) (by decide) x2c)
  have y2d : ∀ u v, ((w.setCell ⟨gz, oz, none⟩ u).setCell ⟨gz, oz + 1, none⟩ v).cell? ⟨gy, oy + 2, none⟩ = some (.int .u64 y2) := fun u v => later ayz (by decide) (by decide) (by decide) (later (i := 0) ayz (by decide) (by decide) (by decide) y2c)
  have x3d : ∀ u v t, (((w.setCell ⟨gz, oz, none⟩ u).setCell ⟨gz, oz + 1, none⟩ v).setCell ⟨gz, oz + 2, none⟩ t).cell? ⟨gx, ox + 3, none⟩ = some (.int .u64 x3) := fun u v t => later axz (by decide) (by decide) (by decide) (later axz (by decide) (by decide) (by decide) (later (i := 0) axz (by decide) (by decide) (by decide) x3c))
  have y3d : ∀ u v t, (((w.setCell ⟨gz, oz, none⟩ u).setCell ⟨gz, oz + 1, none⟩ v).setCell ⟨gz, oz + 2, none⟩ t).cell? ⟨gy, oy + 3, none⟩ = some (.int .u64 y3) := fun u v t => later ayz (by decide) (by decide) (by decide) (later ayz (by decide) (by decide) (by decide) (later (i := 0) ayz (by decide) (by decide) (by decide) y3c))
  clear HX HY E0 E1 E2 E3
  go_enter Tryd.func57, Tryd.ntmps57
  go_wp2
  go_region
  go_wp2
  go_region
  go_wp2
  go_region
  go_wp2
  go_region
  go_wp2_with fail
  refine (smaller_any gz oz s0 s1 s2 s3 _ ws0 ws1 ws2 (at4_put4 hz0 s0 s1 s2 s3).drew.drew.drew.drew).mono ?_
  rintro e w1 ⟨rfl, hw1⟩
  have A1 : At4 w1 gz oz s0 s1 s2 s3 := hw1 ▸ (at4_put4 hz0 s0 s1 s2 s3).drew.drew.drew.drew
  have W1 : Wr4 w1 gz oz := hw1 ▸ (wr4_put4 hz0 s0 s1 s2 s3).drew.drew.drew.drew
  have HW : Hid (w1 = (put4 w gz oz s0 s1 s2 s3).drewN 4) := Lib.hid hw1.symm
  clear hw1 x0c x1c x2c x3c y0c y1c y2c y3c z0c z1c z2c z3c f0 f1 f2 f3 x1d x2d x3d y1d y2d y3d r0 r1 r2 r3
  obtain ⟨c0, c1, c2, c3⟩ := A1
  obtain ⟨_, f0, f1, f2, f3⟩ := W1
  cases hb : sm4 s0 s1 s2 s3
  · obtain ⟨d0, b0, q0, D0, wd0, b0a, b0b⟩ := sub64_ex ws0 (y := 4891460686036598785) ⟨by decide, by decide⟩ (Int.le_refl 0) (by decide)
    obtain ⟨d1, b1, q1, D1, wd1, b1a, b1b⟩ := sub64_ex ws1 (y := 2896914383306846353) ⟨by decide, by decide⟩ b0a b0b
    obtain ⟨d2, b2, q2, D2, wd2, b2a, b2b⟩ := sub64_ex ws2 (y := 13281191951274694749) ⟨by decide, by decide⟩ b1a b1b
    obtain ⟨d3, b3, q3, D3, wd3, b3a, b3b⟩ := sub64_ex ws3 (y := 3486998266802970665) ⟨by decide, by decide⟩ b2a b2b
    go_wp2
    go_region
    go_wp2
    go_region
    go_wp2
    go_region
    go_wp2
    go_region
    go_wp2
    go_ret
    have hge : ¬ val4 s0 s1 s2 s3 < fp := by simpa [sm4] using hb
    have hm1 := mont_hi n
    have hm2 := mont_hi m
    have hv := sub_math hge (by rw [V.out]; omega) D0.out D1.out D2.out D3.out wd0.1 wd0.2 wd1.1 wd1.2 wd2.1 wd2.2 wd3.1 wd3.2 b3a b3b
    refine ⟨rfl, 8, ?_⟩
    show (put4 w1 gz oz d0 d1 d2 d3).drew.drew.drew.drew = _
    rw [HW.out, put4_drewN, put4_again, ends4 (add_yes V.out hge hv wd0 wd1 wd2)]
    rfl
  · go_wp2
    go_ret
    refine ⟨rfl, 4, ?_⟩
    rw [HW.out, ends4 (add_no V.out (by simpa [sm4] using hb) ws0 ws1 ws2 ws3)]
    rfl
end Go.Proofs.YtodofaoaenddgaaDoor
