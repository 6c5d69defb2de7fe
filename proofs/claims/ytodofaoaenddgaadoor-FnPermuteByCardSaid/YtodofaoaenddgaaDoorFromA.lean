/-
  madd0 and madd2, walked; and the plain law of a number taken out of Montgomery's form.
-/
import Derived.Test.YtodofaoaenddgaaDoorMul
import Derived.Deep.RegionWith
namespace Go.Proofs.YtodofaoaenddgaaDoor
open Go.RowKit Go.Lib Fr

theorem mul_le_w {a b : Int} (ha : Wd a) (hb : Wd b) : a * b ≤ 340282366920938463426481119284349108225 :=
  Int.le_trans (Int.mul_le_mul_of_nonneg_right (by have := ha.2; omega : a ≤ 18446744073709551615) hb.1) (by have := hb.2; omega)
theorem qinv_ex' (t : Int) : ∃ m : Int, (IntKind.u64.wrap (t * 14042775128853446655) = m) ∧ Hid (m = 14042775128853446655 * t % 18446744073709551616) ∧ Wd m :=
  ⟨_, rfl, Lib.hid (by rw [IntKind.wrap_u64, Int.mul_comm]), by rw [IntKind.wrap_u64]; exact ⟨by omega, by omega⟩⟩

set_option maxRecDepth 100000 in
theorem madd0_ex {a b c : Int} (ha : Wd a) (hb : Wd b) (hc : Wd c) : ∃ h l : Int,
    Hid (∀ w, Calls Tryd.prog 76 #[.int .u64 a, .int .u64 b, .int .u64 c] w fun e w' => e = .returned (.int .u64 h) ∧ w = w') ∧
    Hid (h * 18446744073709551616 + l = a * b + c) ∧ Wd h ∧ Wd l := by
  obtain ⟨p, q, R, E, wp, wq, hp⟩ := mul64_ex ha hb
  obtain ⟨s, k, r1, E1, ws, ka, kb⟩ := add64_ex wq hc (Int.le_refl 0) (by decide)
  obtain ⟨u, x, r2, E2, wu, xa, xb⟩ := add64_ex wp (show Wd 0 from ⟨by decide, by decide⟩) ka kb
  have hle := mul_le_w ha hb
  refine ⟨u, s, Lib.hid (fun w => ?_), Lib.hid ?_, wu, ws⟩
  · clear E E1 E2
    go_enter Tryd.func76, Tryd.ntmps76
    go_wp2_with fail
    refine (R.out _).mono ?_
    rintro e w' ⟨rfl, rfl⟩
    go_wp2
    go_ret
    exact ⟨rfl, rfl⟩
  · have e0 := E.out; have e1 := E1.out; have e2 := E2.out
    have := wu.1; have := ws.1; have := ws.2
    generalize a * b = ab at *
    omega
set_option maxRecDepth 100000 in
theorem madd2_ex {a b c d : Int} (ha : Wd a) (hb : Wd b) (hc : Wd c) (hd : Wd d) : ∃ h l : Int,
    Hid (∀ w, Calls Tryd.prog 77 #[.int .u64 a, .int .u64 b, .int .u64 c, .int .u64 d] w fun e w' => e = .returned (.tuple #[.int .u64 h, .int .u64 l]) ∧ w = w') ∧
    Hid (h * 18446744073709551616 + l = a * b + c + d) ∧ Wd h ∧ Wd l := by
  obtain ⟨p, q, R, E, wp, wq, hp⟩ := mul64_ex ha hb
  obtain ⟨s0, k0, r0, E0, ws0, k0a, k0b⟩ := add64_ex hc hd (Int.le_refl 0) (by decide)
  obtain ⟨u, x, r2, E2, wu, xa, xb⟩ := add64_ex wp (show Wd 0 from ⟨by decide, by decide⟩) k0a k0b
  obtain ⟨s1, k1, r1, E1, ws1, k1a, k1b⟩ := add64_ex wq ws0 (Int.le_refl 0) (by decide)
  obtain ⟨v, y, r3, E3, wv, ya, yb⟩ := add64_ex wu (show Wd 0 from ⟨by decide, by decide⟩) k1a k1b
  have hle := mul_le_w ha hb
  refine ⟨v, s1, Lib.hid (fun w => ?_), Lib.hid ?_, wv, ws1⟩
  · clear E E0 E1 E2 E3
    go_enter Tryd.func77, Tryd.ntmps77
    go_wp2_with fail
    refine (R.out _).mono ?_
    rintro e w' ⟨rfl, rfl⟩
    go_wp2
    go_ret2
    exact ⟨rfl, rfl⟩
  · have e := E.out; have e0 := E0.out; have e1 := E1.out; have e2 := E2.out; have e3 := E3.out
    have := wv.1; have := ws1.1; have := ws1.2; have := hc.2; have := hd.2; have := wu.1
    generalize a * b = ab at *
    omega

/-- One round: what is held, and the prime so many times, is 2^64 times what is held next. -/
theorem from_round {z0 z1 z2 z3 m c0 l0 c1 n1 c2 n2 c3 n3 : Int} (hm : m = 14042775128853446655 * z0 % 18446744073709551616)
    (e0 : c0 * 18446744073709551616 + l0 = m * 4891460686036598785 + z0) (e1 : c1 * 18446744073709551616 + n1 = m * 2896914383306846353 + z1 + c0)
    (e2 : c2 * 18446744073709551616 + n2 = m * 13281191951274694749 + z2 + c1) (e3 : c3 * 18446744073709551616 + n3 = m * 3486998266802970665 + z3 + c2) (hl : Wd l0) :
    18446744073709551616 * val4 n1 n2 n3 c3 = val4 z0 z1 z2 z3 + m * fp ∧ 0 ≤ m ∧ m < 18446744073709551616 := by
  have h0 := red_zero hm
  have := hl.1; have := hl.2
  have hl0 : l0 = 0 := by omega
  subst hl0
  refine ⟨?_, by omega, by omega⟩
  rw [← val4_fp, mul_val4]
  simp only [val4]
  omega
theorem from_four {Z T1 T2 T3 T4 m0 m1 m2 m3 : Int} (h1 : 18446744073709551616 * T1 = Z + m0 * fp) (h2 : 18446744073709551616 * T2 = T1 + m1 * fp)
    (h3 : 18446744073709551616 * T3 = T2 + m2 * fp) (h4 : 18446744073709551616 * T4 = T3 + m3 * fp) :
    T4 * 115792089237316195423570985008687907853269984665640564039457584007913129639936 = Z + fp * val4 m0 m1 m2 m3 := by
  simp only [val4]
  grind
/-- The word i of a number. -/
def rl (n : Int) (i : Nat) : Int := n / 18446744073709551616 ^ i % 18446744073709551616
theorem wd_rl (n : Int) (i : Nat) : Wd (rl n i) := ⟨Int.emod_nonneg _ (by decide), Int.emod_lt_of_pos _ (by decide)⟩
theorem val_rl {n : Int} (h0 : 0 ≤ n) (h1 : n < fp) : val4 (rl n 0) (rl n 1) (rl n 2) (rl n 3) = n := by
  rw [fp_eq] at h1
  simp only [val4, rl]
  omega
theorem rl_of_val {a b c d n : Int} (ha : Wd a) (hb : Wd b) (hc : Wd c) (h0 : 0 ≤ n) (h1 : n < fp) (h : val4 a b c d = n) : a = rl n 0 ∧ b = rl n 1 ∧ c = rl n 2 ∧ d = rl n 3 :=
  val4_inj ha.1 ha.2 hb.1 hb.2 hc.1 hc.2 (wd_rl _ _).1 (wd_rl _ _).2 (wd_rl _ _).1 (wd_rl _ _).2 (wd_rl _ _).1 (wd_rl _ _).2 (h.trans (val_rl h0 h1).symm)
/-- Out of the form: the number itself. -/
theorem from_end {n T M Z : Int} (hn : 0 ≤ n) (hn' : n < fp) (h : T * 115792089237316195423570985008687907853269984665640564039457584007913129639936 = mont n + fp * M) (hZ : Z = T ∨ Z = T - fp) (h0 : 0 ≤ Z) (h1 : Z < fp) : Z = n := by
  have e1 : Eqv (Z * 115792089237316195423570985008687907853269984665640564039457584007913129639936) (mont n) := by
    rcases hZ with rfl | rfl
    · exact ⟨M, h⟩
    · exact ⟨M - 115792089237316195423570985008687907853269984665640564039457584007913129639936, by grind⟩
  have e2 : Eqv (mont n) (n * 115792089237316195423570985008687907853269984665640564039457584007913129639936) := (mont_eqv n).trans ((Eqv.refl n).mul (Eqv.mod _))
  have e3 := ((e1.trans e2).mul (Eqv.refl ri))
  have e4 : ∀ x : Int, Eqv (x * 115792089237316195423570985008687907853269984665640564039457584007913129639936 * ri) x := fun x => by
    rw [Int.mul_assoc]
    have := (Eqv.refl x).mul rr_ri'
    rwa [Int.mul_one] at this
  exact Eqv.eq ((e4 Z).symm.trans (e3.trans (e4 n))) h0 h1 hn hn'

end Go.Proofs.YtodofaoaenddgaaDoor
