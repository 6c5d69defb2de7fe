/-
  Element.Double, Set and SetZero, walked.
-/
import Derived.Test.YtodofaoaenddgaaDoorAdd
namespace Go.Proofs.YtodofaoaenddgaaDoor
open Go.RowKit Go.Lib Fr

set_option maxHeartbeats 1000000 in
set_option maxRecDepth 100000 in
theorem double_any (gz oz gx ox : Nat) (n : Int) (w : World) (hx : El w gx ox n) (hz : Wr4 w gz oz) (axz : Apart4 gz oz gx ox) :
    Calls Tryd.prog 58 #[.pointer (some ⟨gz, oz, none⟩), .pointer (some ⟨gx, ox, none⟩)] w fun e w' =>
      e = .returned (.pointer (some ⟨gz, oz, none⟩)) ∧ ∃ k, w' = (putE w gz oz ((n + n) % fp)).drewN k := by
  obtain ⟨x0c, x1c, x2c, x3c⟩ := hx
  have hz0 := hz
  obtain ⟨⟨z0, z1, z2, z3, z0c, z1c, z2c, z3c⟩, f0, f1, f2, f3⟩ := hz
  have HX := Lib.hid (val_lim n)
  have wx0 := wd_lim n 0; have wx1 := wd_lim n 1; have wx2 := wd_lim n 2; have wx3 := wd_lim n 3
  generalize lim n 0 = x0 at *; generalize lim n 1 = x1 at *; generalize lim n 2 = x2 at *; generalize lim n 3 = x3 at *
  obtain ⟨s0, k0, r0, E0, ws0, k0a, k0b⟩ := add64_ex wx0 wx0 (Int.le_refl 0) (by decide)
  obtain ⟨s1, k1, r1, E1, ws1, k1a, k1b⟩ := add64_ex wx1 wx1 k0a k0b
  obtain ⟨s2, k2, r2, E2, ws2, k2a, k2b⟩ := add64_ex wx2 wx2 k1a k1b
  obtain ⟨s3, k3, r3, E3, ws3, k3a, k3b⟩ := add64_ex wx3 wx3 k2a k2b
  have V := Lib.hid (add_math HX.out HX.out E0.out E1.out E2.out E3.out ws0.1 ws1.1 ws2.1 ws3.1 k3a)
  -- the cells that are read behind stores
  have x1d : ∀ u, (w.setCell ⟨gz, oz, none⟩ u).cell? ⟨gx, ox + 1, none⟩ = some (.int .u64 x1) := fun u => later (i := 0) axz (by decide) (by decide) (by decide) x1c
  have x2d : ∀ u v, ((w.setCell ⟨gz, oz, none⟩ u).setCell ⟨gz, oz + 1, none⟩ v).cell? ⟨gx, ox + 2, none⟩ = some (.int .u64 x2) := fun u v => later axz (by decide) (by decide) (by decide) (later (i := 0) axz (by decide) (by decide) (by decide) x2c)
  have x3d : ∀ u v t, (((w.setCell ⟨gz, oz, none⟩ u).setCell ⟨gz, oz + 1, none⟩ v).setCell ⟨gz, oz + 2, none⟩ t).cell? ⟨gx, ox + 3, none⟩ = some (.int .u64 x3) := fun u v t => later axz (by decide) (by decide) (by decide) (later axz (by decide) (by decide) (by decide) (later (i := 0) axz (by decide) (by decide) (by decide) x3c))
  clear HX E0 E1 E2 E3
  go_enter Tryd.func58, Tryd.ntmps58
  go_wp2
  go_region
  go_wp2
  go_region
  go_wp2
  go_region
  go_wp2
  go_region
  go_wp2_with fail
  refine (smaller_any gz oz s0 s1 s2 s3 _ ws0 ws1 ws2 (at4_put4 hz0 s0 s1 s2 s3).drew.drew.drew.drew).mono ?_
  rintro e w1 ⟨rfl, hw1⟩
  have A1 : At4 w1 gz oz s0 s1 s2 s3 := hw1 ▸ (at4_put4 hz0 s0 s1 s2 s3).drew.drew.drew.drew
  have W1 : Wr4 w1 gz oz := hw1 ▸ (wr4_put4 hz0 s0 s1 s2 s3).drew.drew.drew.drew
  have HW : Hid (w1 = (put4 w gz oz s0 s1 s2 s3).drewN 4) := Lib.hid hw1.symm
  clear hw1 x0c x1c x2c x3c z0c z1c z2c z3c f0 f1 f2 f3 x1d x2d x3d r0 r1 r2 r3
  obtain ⟨c0, c1, c2, c3⟩ := A1
  obtain ⟨_, f0, f1, f2, f3⟩ := W1
  cases hb : sm4 s0 s1 s2 s3
  · obtain ⟨d0, b0, q0, D0, wd0, b0a, b0b⟩ := sub64_ex ws0 (y := 4891460686036598785) ⟨by decide, by decide⟩ (Int.le_refl 0) (by decide)
    obtain ⟨d1, b1, q1, D1, wd1, b1a, b1b⟩ := sub64_ex ws1 (y := 2896914383306846353) ⟨by decide, by decide⟩ b0a b0b
    obtain ⟨d2, b2, q2, D2, wd2, b2a, b2b⟩ := sub64_ex ws2 (y := 13281191951274694749) ⟨by decide, by decide⟩ b1a b1b
    obtain ⟨d3, b3, q3, D3, wd3, b3a, b3b⟩ := sub64_ex ws3 (y := 3486998266802970665) ⟨by decide, by decide⟩ b2a b2b
    go_wp2
    go_region
    go_wp2
    go_region
    go_wp2
    go_region
    go_wp2
    go_region
    go_wp2
    go_ret
    have hge : ¬ val4 s0 s1 s2 s3 < fp := by simpa [sm4] using hb
    have hm1 := mont_hi n
    have hv := sub_math hge (by rw [V.out]; omega) D0.out D1.out D2.out D3.out wd0.1 wd0.2 wd1.1 wd1.2 wd2.1 wd2.2 wd3.1 wd3.2 b3a b3b
    refine ⟨rfl, 8, ?_⟩
    show (put4 w1 gz oz d0 d1 d2 d3).drew.drew.drew.drew = _
    rw [HW.out, put4_drewN, put4_again, ends4 (add_yes V.out hge hv wd0 wd1 wd2)]
    rfl
  · go_wp2
    go_ret
    refine ⟨rfl, 4, ?_⟩
    rw [HW.out, ends4 (add_no V.out (by simpa [sm4] using hb) ws0 ws1 ws2 ws3)]
    rfl

set_option maxHeartbeats 400000 in
set_option maxRecDepth 100000 in
theorem set_any (gz oz gx ox : Nat) (n : Int) (w : World) (hx : El w gx ox n) (hz : Wr4 w gz oz) (axz : Apart4 gz oz gx ox) :
    Calls Tryd.prog 59 #[.pointer (some ⟨gz, oz, none⟩), .pointer (some ⟨gx, ox, none⟩)] w fun e w' =>
      e = .returned (.pointer (some ⟨gz, oz, none⟩)) ∧ ∃ k, w' = (putE w gz oz n).drewN k := by
  obtain ⟨x0c, x1c, x2c, x3c⟩ := hx
  obtain ⟨⟨z0, z1, z2, z3, z0c, z1c, z2c, z3c⟩, f0, f1, f2, f3⟩ := hz
  generalize h0 : lim n 0 = x0 at *; generalize h1 : lim n 1 = x1 at *; generalize h2 : lim n 2 = x2 at *; generalize h3 : lim n 3 = x3 at *
  have H0 := Lib.hid h0; have H1 := Lib.hid h1; have H2 := Lib.hid h2; have H3 := Lib.hid h3
  clear h0 h1 h2 h3
  have x1d : ∀ u, (w.setCell ⟨gz, oz, none⟩ u).cell? ⟨gx, ox + 1, none⟩ = some (.int .u64 x1) := fun u => later (i := 0) axz (by decide) (by decide) (by decide) x1c
  have x2d : ∀ u v, ((w.setCell ⟨gz, oz, none⟩ u).setCell ⟨gz, oz + 1, none⟩ v).cell? ⟨gx, ox + 2, none⟩ = some (.int .u64 x2) := fun u v => later axz (by decide) (by decide) (by decide) (later (i := 0) axz (by decide) (by decide) (by decide) x2c)
  have x3d : ∀ u v t, (((w.setCell ⟨gz, oz, none⟩ u).setCell ⟨gz, oz + 1, none⟩ v).setCell ⟨gz, oz + 2, none⟩ t).cell? ⟨gx, ox + 3, none⟩ = some (.int .u64 x3) := fun u v t => later axz (by decide) (by decide) (by decide) (later axz (by decide) (by decide) (by decide) (later (i := 0) axz (by decide) (by decide) (by decide) x3c))
  go_enter Tryd.func59, Tryd.ntmps59
  go_wp2
  go_region
  go_wp2
  go_region
  go_wp2
  go_region
  go_wp2
  go_region
  go_wp2
  go_ret
  refine ⟨rfl, 4, ?_⟩
  show (put4 w gz oz x0 x1 x2 x3).drew.drew.drew.drew = _
  rw [← H0.out, ← H1.out, ← H2.out, ← H3.out]
  rfl
end Go.Proofs.YtodofaoaenddgaaDoor
