/-
  Plain: the prime, what four words of an element hold, and Montgomery products. No program in sight.
-/
namespace Fr
/-- The prime of bn254's scalar field. -/
def fp : Int := 21888242871839275222246405745257275088548364400416034343698204186575808495617
theorem fp_eq : fp = 21888242871839275222246405745257275088548364400416034343698204186575808495617 := rfl
/-- 2^256 modulo the prime, and its inverse. -/
def rm : Int := 115792089237316195423570985008687907853269984665640564039457584007913129639936 % fp
def ri : Int := 9915499612839321149637521777990102151350674507940716049588462388200839649614
theorem rm_ri : rm * ri % fp = 1 := by decide +kernel
theorem rr_ri : 115792089237316195423570985008687907853269984665640564039457584007913129639936 * ri % fp = 1 := by decide +kernel
/-- What the four words hold of an element n: n * 2^256 modulo the prime. -/
def mont (n : Int) : Int := n * rm % fp
def lim (n : Int) (i : Nat) : Int := mont n / 18446744073709551616 ^ i % 18446744073709551616
theorem mont_lo (n : Int) : 0 ≤ mont n := Int.emod_nonneg _ (by decide)
theorem mont_hi (n : Int) : mont n < fp := Int.emod_lt_of_pos _ (by decide)
theorem lim_lo (n : Int) (i : Nat) : 0 ≤ lim n i := Int.emod_nonneg _ (by decide)
theorem lim_hi (n : Int) (i : Nat) : lim n i < 18446744073709551616 := Int.emod_lt_of_pos _ (by decide)
/-- Four words are one number. -/
def val4 (a b c d : Int) : Int := a + 18446744073709551616 * b + 340282366920938463463374607431768211456 * c + 6277101735386680763835789423207666416102355444464034512896 * d
theorem val_lim (n : Int) : val4 (lim n 0) (lim n 1) (lim n 2) (lim n 3) = mont n := by
  have h0 := mont_lo n
  have h1 := mont_hi n
  rw [fp_eq] at h1
  simp only [val4, lim]
  generalize mont n = m at *
  omega
theorem val4_inj {a b c d a' b' c' d' : Int} (ha : 0 ≤ a) (ha' : a < 18446744073709551616) (hb : 0 ≤ b) (hb' : b < 18446744073709551616) (hc : 0 ≤ c) (hc' : c < 18446744073709551616)
    (ka : 0 ≤ a') (ka' : a' < 18446744073709551616) (kb : 0 ≤ b') (kb' : b' < 18446744073709551616) (kc : 0 ≤ c') (kc' : c' < 18446744073709551616)
    (h : val4 a b c d = val4 a' b' c' d') : a = a' ∧ b = b' ∧ c = c' ∧ d = d' := by
  simp only [val4] at h
  omega
theorem lim_of_val {a b c d n : Int} (ha : 0 ≤ a) (ha' : a < 18446744073709551616) (hb : 0 ≤ b) (hb' : b < 18446744073709551616) (hc : 0 ≤ c) (hc' : c < 18446744073709551616)
    (h : val4 a b c d = mont n) : a = lim n 0 ∧ b = lim n 1 ∧ c = lim n 2 ∧ d = lim n 3 :=
  val4_inj ha ha' hb hb' hc hc' (lim_lo _ _) (lim_hi _ _) (lim_lo _ _) (lim_hi _ _) (lim_lo _ _) (lim_hi _ _) (h.trans (val_lim n).symm)
/-- Equal modulo the prime. -/
def Eqv (a b : Int) : Prop := ∃ k, a = b + fp * k
theorem Eqv.refl (a : Int) : Eqv a a := ⟨0, by simp⟩
theorem Eqv.of_eq {a b : Int} (h : a = b) : Eqv a b := h ▸ Eqv.refl a
theorem Eqv.symm {a b : Int} (h : Eqv a b) : Eqv b a := by
  obtain ⟨k, hk⟩ := h
  exact ⟨-k, by grind⟩
theorem Eqv.trans {a b c : Int} (h : Eqv a b) (h' : Eqv b c) : Eqv a c := by
  obtain ⟨k, hk⟩ := h
  obtain ⟨l, hl⟩ := h'
  exact ⟨k + l, by grind⟩
theorem Eqv.add {a b c d : Int} (h : Eqv a b) (h' : Eqv c d) : Eqv (a + c) (b + d) := by
  obtain ⟨k, hk⟩ := h
  obtain ⟨l, hl⟩ := h'
  exact ⟨k + l, by grind⟩
theorem Eqv.mul {a b c d : Int} (h : Eqv a b) (h' : Eqv c d) : Eqv (a * c) (b * d) := by
  obtain ⟨k, hk⟩ := h
  obtain ⟨l, hl⟩ := h'
  exact ⟨k * d + b * l + fp * k * l, by grind⟩
theorem Eqv.sub {a b c d : Int} (h : Eqv a b) (h' : Eqv c d) : Eqv (a - c) (b - d) := by
  obtain ⟨k, hk⟩ := h
  obtain ⟨l, hl⟩ := h'
  exact ⟨k - l, by grind⟩
theorem Eqv.mod (a : Int) : Eqv (a % fp) a := ⟨-(a / fp), by have := Int.emod_add_mul_ediv a fp; grind⟩
theorem Eqv.emod {a b : Int} (h : Eqv a b) : a % fp = b % fp := by
  obtain ⟨k, rfl⟩ := h
  rw [Int.add_mul_emod_self_left]
theorem Eqv.of_emod {a b : Int} (h : a % fp = b % fp) : Eqv a b := (Eqv.mod a).symm.trans ((Eqv.of_eq h).trans (Eqv.mod b))
theorem Eqv.eq {a b : Int} (h : Eqv a b) (ha : 0 ≤ a) (ha' : a < fp) (hb : 0 ≤ b) (hb' : b < fp) : a = b := by
  have := h.emod
  rwa [Int.emod_eq_of_lt ha ha', Int.emod_eq_of_lt hb hb'] at this
theorem rm_ri' : Eqv (rm * ri) 1 := .of_emod (rm_ri.trans (by decide +kernel))
theorem rr_ri' : Eqv (115792089237316195423570985008687907853269984665640564039457584007913129639936 * ri) 1 := .of_emod (rr_ri.trans (by decide +kernel))
theorem mont_eqv (n : Int) : Eqv (mont n) (n * rm) := Eqv.mod _
/-- A Montgomery product is the product's form. -/
theorem mont_mul {z n m : Int} (hz : 0 ≤ z) (hz' : z < fp) (h : Eqv (z * 115792089237316195423570985008687907853269984665640564039457584007913129639936) (mont n * mont m)) : z = mont (n * m % fp) := by
  refine Eqv.eq ?_ hz hz' (mont_lo _) (mont_hi _)
  have h1 : Eqv (z * 115792089237316195423570985008687907853269984665640564039457584007913129639936 * ri) (n * rm * (m * rm) * ri) := (h.trans ((mont_eqv n).mul (mont_eqv m))).mul (.refl ri)
  have h2 : Eqv (z * (115792089237316195423570985008687907853269984665640564039457584007913129639936 * ri)) (z * 1) := (Eqv.refl z).mul rr_ri'
  have h3 : Eqv (n * m * rm * (rm * ri)) (n * m * rm * 1) := (Eqv.refl _).mul rm_ri'
  have h4 : Eqv (mont (n * m % fp)) (n * m * rm) := (mont_eqv _).trans ((Eqv.mod _).mul (.refl _))
  have e1 : z * 115792089237316195423570985008687907853269984665640564039457584007913129639936 * ri = z * (115792089237316195423570985008687907853269984665640564039457584007913129639936 * ri) := by rw [Int.mul_assoc]
  have e3 : n * rm * (m * rm) * ri = n * m * rm * (rm * ri) := by grind
  rw [e1, e3] at h1
  rw [Int.mul_one] at h2 h3
  exact h2.symm.trans (h1.trans (h3.trans h4.symm))
theorem mont_add {z n m : Int} (hz : 0 ≤ z) (hz' : z < fp) (h : Eqv z (mont n + mont m)) : z = mont ((n + m) % fp) := by
  refine Eqv.eq ?_ hz hz' (mont_lo _) (mont_hi _)
  have h4 : Eqv (mont ((n + m) % fp)) ((n + m) * rm) := (mont_eqv _).trans ((Eqv.mod _).mul (.refl _))
  have h5 : Eqv z (n * rm + m * rm) := h.trans ((mont_eqv n).add (mont_eqv m))
  rw [← Int.add_mul] at h5
  exact h5.trans h4.symm
/-! ### one round of Mul -/
/-- The words of the prime. -/
def fpW0 : Int := 4891460686036598785
theorem val4_le {a b c d : Int} (ha : a < 18446744073709551616) (hb : b < 18446744073709551616) (hc : c < 18446744073709551616) (hd : d < 18446744073709551616) : val4 a b c d < 115792089237316195423570985008687907853269984665640564039457584007913129639936 := by
  simp only [val4]; omega
theorem mul_val4 (v a b c d : Int) : v * val4 a b c d = v * a + 18446744073709551616 * (v * b) + 340282366920938463463374607431768211456 * (v * c) + 6277101735386680763835789423207666416102355444464034512896 * (v * d) := by
  simp only [val4]; grind
theorem val4_fp : val4 4891460686036598785 2896914383306846353 13281191951274694749 3486998266802970665 = fp := by decide +kernel
/-- The word that is added so many times ends the lowest word in nought. -/
theorem red_zero {a m : Int} (hm : m = 14042775128853446655 * a % 18446744073709551616) : (a + m * 4891460686036598785) % 18446744073709551616 = 0 := by
  omega
/-- The sums of the upper half: what is added is v * y. -/
theorem half_a {v y0 y1 y2 y3 t0 t1 t2 t3 u0 l0 u1 l1 u2 l2 u3 l3 a0 ca0 a1 ca1 a2 ca2 a3 ca3 z cz b1 cb1 b2 cb2 b3 cb3 b4 cb4 : Int}
    (h0 : u0 * 18446744073709551616 + l0 = v * y0) (h1 : u1 * 18446744073709551616 + l1 = v * y1) (h2 : u2 * 18446744073709551616 + l2 = v * y2) (h3 : u3 * 18446744073709551616 + l3 = v * y3)
    (e0 : a0 + 18446744073709551616 * ca0 = l0 + t0) (e1 : a1 + 18446744073709551616 * ca1 = l1 + t1 + ca0) (e2 : a2 + 18446744073709551616 * ca2 = l2 + t2 + ca1) (e3 : a3 + 18446744073709551616 * ca3 = l3 + t3 + ca2)
    (ez : z + 18446744073709551616 * cz = ca3) 
    (f1 : b1 + 18446744073709551616 * cb1 = u0 + a1) (f2 : b2 + 18446744073709551616 * cb2 = u1 + a2 + cb1) (f3 : b3 + 18446744073709551616 * cb3 = u2 + a3 + cb2) (f4 : b4 + 18446744073709551616 * cb4 = u3 + z + cb3) :
    a0 + 18446744073709551616 * b1 + 340282366920938463463374607431768211456 * b2 + 6277101735386680763835789423207666416102355444464034512896 * b3 + 115792089237316195423570985008687907853269984665640564039457584007913129639936 * b4
      + 2135987035920910082395021706169552114602704522356652769947041607822219725780640550022962086936576 * (cb4 + cz) = val4 t0 t1 t2 t3 + v * val4 y0 y1 y2 y3 := by
  rw [mul_val4]; simp only [val4]; omega
theorem half_b {m a0 b1 b2 b3 b4 p0h p0l p1h p1l p2h p2l p3h p3l s0 d0 e0 d1 e1 d2 e2 d3 r3 x1 f0 g0 f1 g1 f2 g2 c2 x2 h2 g3 h3 x3 : Int}
    (k0 : p0h * 18446744073709551616 + p0l = m * 4891460686036598785) (k1 : p1h * 18446744073709551616 + p1l = m * 2896914383306846353) (k2 : p2h * 18446744073709551616 + p2l = m * 13281191951274694749) (k3 : p3h * 18446744073709551616 + p3l = m * 3486998266802970665)
    (z0 : s0 + 18446744073709551616 * d0 = a0 + p0l) (z1 : e0 + 18446744073709551616 * d1 = b1 + p1l + d0) (z2 : e1 + 18446744073709551616 * d2 = b2 + p2l + d1) (z3 : e2 + 18446744073709551616 * d3 = p3l + d2)
    (z4 : r3 + 18446744073709551616 * x1 = p3h + d3) (z5 : f0 + 18446744073709551616 * g0 = p0h + e0) (z6 : f1 + 18446744073709551616 * g1 = p1h + e1 + g0) (z7 : f2 + 18446744073709551616 * g2 = p2h + e2 + g1)
    (z8 : c2 + 18446744073709551616 * x2 = b4 + g2) (z9 : h2 + 18446744073709551616 * g3 = b3 + f2) (z10 : h3 + 18446744073709551616 * x3 = r3 + c2 + g3) :
    s0 + 18446744073709551616 * val4 f0 f1 h2 h3 + 2135987035920910082395021706169552114602704522356652769947041607822219725780640550022962086936576 * (x1 + x2 + x3) = a0 + 18446744073709551616 * b1 + 340282366920938463463374607431768211456 * b2 + 6277101735386680763835789423207666416102355444464034512896 * b3 + 115792089237316195423570985008687907853269984665640564039457584007913129639936 * b4
      + m * val4 4891460686036598785 2896914383306846353 13281191951274694749 3486998266802970665 := by
  rw [mul_val4]; simp only [val4]; omega
/-- ONE ROUND: what the four words become. -/
theorem round_all {v y0 y1 y2 y3 t0 t1 t2 t3 u0 l0 u1 l1 u2 l2 u3 l3 a0 ca0 a1 ca1 a2 ca2 a3 ca3 z cz b1 cb1 b2 cb2 b3 cb3 b4 cb4 m p0h p0l p1h p1l p2h p2l p3h p3l s0 d0 e0 d1 e1 d2 e2 d3 r3 x1 f0 g0 f1 g1 f2 g2 c2 x2 h2 g3 h3 x3 : Int}
    (hv : 0 ≤ v) (hv' : v < 18446744073709551616) (hY : 0 ≤ val4 y0 y1 y2 y3) (hT : val4 t0 t1 t2 t3 ≤ val4 y0 y1 y2 y3 + fp) (hY' : val4 y0 y1 y2 y3 < fp)
    (i0 : u0 * 18446744073709551616 + l0 = v * y0) (i1 : u1 * 18446744073709551616 + l1 = v * y1) (i2 : u2 * 18446744073709551616 + l2 = v * y2) (i3 : u3 * 18446744073709551616 + l3 = v * y3)
    (e0' : a0 + 18446744073709551616 * ca0 = l0 + t0) (e1' : a1 + 18446744073709551616 * ca1 = l1 + t1 + ca0) (e2' : a2 + 18446744073709551616 * ca2 = l2 + t2 + ca1) (e3' : a3 + 18446744073709551616 * ca3 = l3 + t3 + ca2)
    (ez : z + 18446744073709551616 * cz = ca3)
    (f1' : b1 + 18446744073709551616 * cb1 = u0 + a1) (f2' : b2 + 18446744073709551616 * cb2 = u1 + a2 + cb1) (f3' : b3 + 18446744073709551616 * cb3 = u2 + a3 + cb2) (f4' : b4 + 18446744073709551616 * cb4 = u3 + z + cb3)
    (hm : m = 14042775128853446655 * a0 % 18446744073709551616)
    (k0 : p0h * 18446744073709551616 + p0l = m * 4891460686036598785) (k1 : p1h * 18446744073709551616 + p1l = m * 2896914383306846353) (k2 : p2h * 18446744073709551616 + p2l = m * 13281191951274694749) (k3 : p3h * 18446744073709551616 + p3l = m * 3486998266802970665)
    (z0 : s0 + 18446744073709551616 * d0 = a0 + p0l) (z1 : e0 + 18446744073709551616 * d1 = b1 + p1l + d0) (z2 : e1 + 18446744073709551616 * d2 = b2 + p2l + d1) (z3 : e2 + 18446744073709551616 * d3 = p3l + d2)
    (z4 : r3 + 18446744073709551616 * x1 = p3h + d3) (z5 : f0 + 18446744073709551616 * g0 = p0h + e0) (z6 : f1 + 18446744073709551616 * g1 = p1h + e1 + g0) (z7 : f2 + 18446744073709551616 * g2 = p2h + e2 + g1)
    (z8 : c2 + 18446744073709551616 * x2 = b4 + g2) (z9 : h2 + 18446744073709551616 * g3 = b3 + f2) (z10 : h3 + 18446744073709551616 * x3 = r3 + c2 + g3)
    (n0 : 0 ≤ s0) (n0' : s0 < 18446744073709551616) (nf0 : 0 ≤ f0) (nf1 : 0 ≤ f1) (nh2 : 0 ≤ h2) (nh3 : 0 ≤ h3)
    (n1 : 0 ≤ cz) (n2 : 0 ≤ cb4) (n3 : 0 ≤ x1) (n4 : 0 ≤ x2) (n5 : 0 ≤ x3) :
    18446744073709551616 * val4 f0 f1 h2 h3 = val4 t0 t1 t2 t3 + v * val4 y0 y1 y2 y3 + m * fp ∧ val4 f0 f1 h2 h3 ≤ val4 y0 y1 y2 y3 + fp ∧ 0 ≤ m ∧ m < 18446744073709551616 := by
  have m0 : 0 ≤ m := by omega
  have m1 : m < 18446744073709551616 := by omega
  have hs : s0 = 0 := by
    have := red_zero hm
    omega
  subst hs
  have A := half_a i0 i1 i2 i3 e0' e1' e2' e3' ez f1' f2' f3' f4'
  have B := half_b k0 k1 k2 k3 z0 z1 z2 z3 z4 z5 z6 z7 z8 z9 z10
  have hvY : v * val4 y0 y1 y2 y3 ≤ 18446744073709551615 * val4 y0 y1 y2 y3 := Int.mul_le_mul_of_nonneg_right (by omega) hY
  have hT' : 0 ≤ val4 f0 f1 h2 h3 := by simp only [val4]; omega
  rw [val4_fp] at B
  clear i0 i1 i2 i3 e0' e1' e2' e3' ez f1' f2' f3' f4' k0 k1 k2 k3 z0 z1 z2 z3 z4 z5 z6 z7 z8 z9 z10 hm
  generalize val4 f0 f1 h2 h3 = T' at *
  generalize v * val4 y0 y1 y2 y3 = vY at *
  generalize val4 y0 y1 y2 y3 = Y at *
  generalize val4 t0 t1 t2 t3 = T at *
  rw [fp_eq] at *
  omega
/-- FOUR ROUNDS are a Montgomery product below twice the prime. -/
theorem four_rounds {x0 x1 x2 x3 Y T1 T2 T3 T4 m0 m1 m2 m3 : Int} (h1 : 18446744073709551616 * T1 = 0 + x0 * Y + m0 * fp) (h2 : 18446744073709551616 * T2 = T1 + x1 * Y + m1 * fp)
    (h3 : 18446744073709551616 * T3 = T2 + x2 * Y + m2 * fp) (h4 : 18446744073709551616 * T4 = T3 + x3 * Y + m3 * fp) :
    T4 * 115792089237316195423570985008687907853269984665640564039457584007913129639936 = val4 x0 x1 x2 x3 * Y + fp * val4 m0 m1 m2 m3 := by
  simp only [val4]
  grind
theorem four_lt {X Y T4 M : Int} (h : T4 * 115792089237316195423570985008687907853269984665640564039457584007913129639936 = X * Y + fp * M) (hX : 0 ≤ X) (hX' : X < fp) (hY' : Y < fp) (hM : M < 115792089237316195423570985008687907853269984665640564039457584007913129639936) :
    T4 < 2 * fp := by
  have h1 : X * Y ≤ X * fp := Int.mul_le_mul_of_nonneg_left (by omega) hX
  rw [fp_eq] at *
  omega
/-- The last step: the prime is taken off once. -/
theorem mul_end {n k T4 M Z : Int} (h : T4 * 115792089237316195423570985008687907853269984665640564039457584007913129639936 = mont n * mont k + fp * M) (hZ : Z = T4 ∨ Z = T4 - fp) (h0 : 0 ≤ Z) (h1 : Z < fp) : Z = mont (n * k % fp) := by
  refine mont_mul h0 h1 ?_
  rcases hZ with rfl | rfl
  · exact ⟨M, h⟩
  · exact ⟨M - 115792089237316195423570985008687907853269984665640564039457584007913129639936, by grind⟩
end Fr
