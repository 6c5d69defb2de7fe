/-
  The reference's numbers, walked: Times, Small, Fifth.
-/
import Derived.Test.YtodofaoaenddgaaDoorSpc
namespace Go.Proofs.YtodofaoaenddgaaDoor
open Go.RowKit Go.Lib Fr
attribute [local go_sem] setCell_drewN alloc_drewN

theorem bits_mask1 (x : Int) : bits .and .i64 x 1 = x % 2 := by
  have e : ((1 : Int) % ((2 ^ 64 : Nat) : Int)).toNat = 2 ^ 1 - 1 := by decide
  show IntKind.i64.wrap ((BitVec.ofInt 64 x &&& BitVec.ofInt 64 1).toNat : Int) = _
  rw [BitVec.toNat_and, BitVec.toNat_ofInt, BitVec.toNat_ofInt, e, Nat.and_two_pow_sub_one_eq_mod, IntKind.wrap_i64]
  omega
theorem mod_low {y : Int} {r : Nat} (hr : r < 32) : y % 4294967296 / 2 ^ r % 2 = y / 2 ^ r % 2 := by
  obtain rfl | rfl | rfl | rfl | rfl | rfl | rfl | rfl | rfl | rfl | rfl | rfl | rfl | rfl | rfl | rfl | rfl | rfl | rfl | rfl | rfl | rfl | rfl | rfl | rfl | rfl | rfl | rfl | rfl | rfl | rfl | rfl : r = 0 ∨ r = 1 ∨ r = 2 ∨ r = 3 ∨ r = 4 ∨ r = 5 ∨ r = 6 ∨ r = 7 ∨ r = 8 ∨ r = 9 ∨ r = 10 ∨ r = 11 ∨ r = 12 ∨ r = 13 ∨ r = 14 ∨ r = 15 ∨ r = 16 ∨ r = 17 ∨ r = 18 ∨ r = 19 ∨ r = 20 ∨ r = 21 ∨ r = 22 ∨ r = 23 ∨ r = 24 ∨ r = 25 ∨ r = 26 ∨ r = 27 ∨ r = 28 ∨ r = 29 ∨ r = 30 ∨ r = 31 := by omega
  all_goals omega
/-- The bit j of a number, out of its word. -/
theorem bit_of_word (b : Int) (j : Nat) : hw b (j / 32) / 2 ^ (j % 32) % 2 = b / 2 ^ j % 2 := by
  simp only [hw]
  rw [mod_low (Nat.mod_lt _ (by decide)), Int.ediv_ediv_of_nonneg (Int.le_of_lt (Int.pow_pos (by decide))), show (4294967296 : Int) = 2 ^ 32 from by decide, ← Int.pow_mul, ← Int.pow_add, Nat.div_add_mod]
theorem half_step (b : Int) (j : Nat) : b / 2 ^ j = 2 * (b / 2 ^ (j + 1)) + b / 2 ^ j % 2 := by
  rw [Int.pow_succ, ← Int.ediv_ediv_of_nonneg (Int.le_of_lt (Int.pow_pos (by decide)))]
  generalize b / 2 ^ j = x
  omega
theorem dbl_step {a b : Int} {j : Nat} (h : b / 2 ^ j % 2 = 0) : (a * (b / 2 ^ (j + 1)) % fp + a * (b / 2 ^ (j + 1)) % fp) % fp = a * (b / 2 ^ j) % fp := by
  rw [half_step b j, h, ← Int.add_emod, ← Int.mul_add]
  congr 2
  omega
theorem dbl_step1 {a b : Int} {j : Nat} (h : b / 2 ^ j % 2 = 1) : ((a * (b / 2 ^ (j + 1)) % fp + a * (b / 2 ^ (j + 1)) % fp) % fp + a) % fp = a * (b / 2 ^ j) % fp := by
  rw [half_step b j, h, ← Int.add_emod, Int.emod_add_emod, ← Int.mul_add, show 2 * (b / 2 ^ (j + 1)) + 1 = b / 2 ^ (j + 1) + b / 2 ^ (j + 1) + 1 from by omega, Int.mul_add _ _ 1, Int.mul_one]
theorem mod_fp_lo (x : Int) : 0 ≤ x % fp := Int.emod_nonneg _ (by rw [fp_eq]; decide)
theorem mod_fp_hi (x : Int) : x % fp < fp := Int.emod_lt_of_pos _ (by rw [fp_eq]; decide)

set_option maxHeartbeats 1000000 in
set_option maxRecDepth 100000 in
theorem times_any (a b : Int) (w : World) (ha0 : 0 ≤ a) (ha1 : a < fp) (hb0 : 0 ≤ b) (hb1 : b < fp) : Calls Tryd.prog 34 #[.agg (hws a), .agg (hws b)] w fun e w' =>
    e = .returned (.agg (hws (a * b % fp))) ∧ Below w.heap.size w w' := by
  go_enter Tryd.func34, Tryd.ntmps34
  have HA := Lib.hid (And.intro ha0 ha1)
  have HB := Lib.hid (And.intro hb0 hb1)
  clear ha0 ha1 hb0 hb1
  go_wp2_with fail
  go_loopw [6] (fun v wr => ∃ k : Nat, k ≤ 254 ∧ v = .int .i64 ((k : Int) - 1) ∧ Kp w wr [(w.heap.size + 1 + 1 + 1, 44, hws (a * (b / 2 ^ k) % fp)), (w.heap.size + 1 + 1, 44, hws 0), (w.heap.size + 1, 44, hws b), (w.heap.size, 44, hws a)]) (fun v _ => (intOf v + 1).toNat)
  case atStart =>
    refine ⟨254, by decide, rfl, ?_⟩
    have e : a * (b / 2 ^ 254) % fp = 0 := by
      have h0 := HB.out.1; have h1 := HB.out.2
      rw [fp_eq] at *
      have : b / 2 ^ 254 = 0 := by omega
      rw [this, Int.mul_zero]; rfl
    rw [e]
    exact ((((Kp.nil (RowKit.Below.refl _ _)).alloc _ _ rfl).alloc _ _ (by simp)).alloc (hws 0) _ (by simp)).alloc (hws 0) _ (by simp)
  case round =>
    obtain ⟨k, hk', rfl, hK⟩ := hrel
    have K := Lib.hid hK
    clear hK
    by_cases hk0 : k = 0
    · subst hk0
      go_wp2_with (first | (refine wpList_load_at rfl 44 _ rfl ⟨w.heap.size + 1 + 1 + 1, 0, none⟩ rfl (hws (a * (b / 2 ^ 0) % fp)) _ (K.out.b0).load Tryd.underlying44 rfl (by kernel_rfl) ?_; go_frame) | (refine wpList_store_blk rfl 44 _ _ rfl (w.heap.size + 1 + 1) 44 (hws 0) (hws (a * (b / 2 ^ 0) % fp)) (K.out.tl.b0) rfl rfl (by kernel_rfl) rfl (one_hws _) ?_; go_frame))
      refine bodyPost_ret (results_blk Tryd.results34 _ _ (K.out.tl.b0.setRow _) rfl Tryd.underlying44 rfl (by kernel_rfl)) rfl ⟨?_, ?_⟩
      · rw [Int.pow_zero, Int.ediv_one]
      · exact Below.setRow K.out.1 (by omega) _
    · obtain ⟨j, rfl⟩ : ∃ j, k = j + 1 := ⟨k - 1, by omega⟩
      rw [show ((j + 1 : Nat) : Int) - 1 = (j : Int) from by omega]
      have hx0 := mod_fp_lo (a * (b / 2 ^ (j + 1)))
      have hx1 := mod_fp_hi (a * (b / 2 ^ (j + 1)))
      have S0 := Lib.hid (fun h => dbl_step (a := a) (b := b) (j := j) h)
      have S1 := Lib.hid (fun h => dbl_step1 (a := a) (b := b) (j := j) h)
      generalize a * (b / 2 ^ (j + 1)) % fp = x at *
      have HX := Lib.hid (And.intro hx0 hx1)
      clear hx0 hx1
      go_wp2_with (first | (refine wpList_load_at rfl 44 _ rfl ⟨w.heap.size + 1 + 1 + 1, 0, none⟩ rfl (hws x) _ (K.out.b0).load Tryd.underlying44 rfl (by kernel_rfl) ?_; go_frame))
      refine (plus_any _ _ _ HX.out.1 HX.out.2 HX.out.1 HX.out.2).mono ?_
      rintro e w1 ⟨rfl, h1⟩
      have K1 := Lib.hid (K.out.next h1)
      have hy0 := mod_fp_lo (x + x)
      have hy1 := mod_fp_hi (x + x)
      generalize (x + x) % fp = y at *
      have HY := Lib.hid (And.intro hy0 hy1)
      clear h1 hy0 hy1
      have K2 := Lib.hid (K1.out.setRow (by omega) (fun x hx => by simp at hx; rcases hx with rfl | rfl | rfl <;> simp <;> omega) (hws y))
      have cb : (w1.setRow (w.heap.size + 1 + 1 + 1) (hws y)).cell? ⟨w.heap.size + 1, j / 32, none⟩ = some (.int .i64 (hw b (j / 32))) := by rw [K2.out.tl.tl.b0.cell]; exact hws_at _ (by omega)
      have l0 := hw_lo b (j / 32); have l1 := hw_hi b (j / 32)
      have hbw : bits .and .i64 (hw b (j / 32) / 2 ^ (j % 32)) 1 = b / 2 ^ j % 2 := by rw [bits_mask1, bit_of_word]
      obtain hbit | hbit : b / 2 ^ j % 2 = 0 ∨ b / 2 ^ j % 2 = 1 := by omega
      · rw [hbit] at hbw
        have S := Lib.hid (S0.out hbit)
        clear hbit S0 S1
        go_wp2_with (first | (refine wpList_store_blk rfl 44 _ _ rfl (w.heap.size + 1 + 1 + 1) 44 (hws x) (hws y) (K1.out.b0) rfl rfl (by kernel_rfl) rfl (one_hws _) ?_; go_frame))
        go_roundw
        case rel => exact ⟨j, by omega, rfl, by rw [← S.out]; exact K2.out⟩
        case measure => simp [intOf] <;> omega
      · rw [hbit] at hbw
        have S := Lib.hid (S1.out hbit)
        clear hbit S0 S1
        go_wp2_with (first | (refine wpList_store_blk rfl 44 _ _ rfl (w.heap.size + 1 + 1 + 1) 44 (hws x) (hws y) (K1.out.b0) rfl rfl (by kernel_rfl) rfl (one_hws _) ?_; go_frame) | (refine wpList_load_at rfl 44 _ rfl ⟨w.heap.size + 1 + 1 + 1, 0, none⟩ rfl (hws y) _ (K2.out.b0).load Tryd.underlying44 rfl (by kernel_rfl) ?_; go_frame) | (refine wpList_load_at rfl 44 _ rfl ⟨w.heap.size, 0, none⟩ rfl (hws a) _ (K2.out.tl.tl.tl.b0).load Tryd.underlying44 rfl (by kernel_rfl) ?_; go_frame))
        refine (plus_any _ _ _ HY.out.1 HY.out.2 HA.out.1 HA.out.2).mono ?_
        rintro e w3 ⟨rfl, h3⟩
        have K3 := Lib.hid (K2.out.next h3)
        rw [S.out]
        obtain ⟨z, hz⟩ : ∃ z, a * (b / 2 ^ j) % fp = z := ⟨_, rfl⟩
        rw [hz]
        have HZ := Lib.hid hz
        clear h3 hz
        go_wp2_with (first | (refine wpList_store_blk rfl 44 _ _ rfl (w.heap.size + 1 + 1 + 1) 44 (hws y) (hws z) (K3.out.b0) rfl rfl (by kernel_rfl) rfl (one_hws _) ?_; go_frame))
        go_roundw
        case rel => exact ⟨j, by omega, rfl, by rw [HZ.out]; exact K3.out.setRow (by omega) (fun x hx => by simp at hx; rcases hx with rfl | rfl | rfl <;> simp <;> omega) _⟩
        case measure => simp [intOf] <;> omega

theorem hws_small {n : Int} (h0 : 0 ≤ n) (h1 : n < 4294967296) : hws n = #[.int .i64 n, .int .i64 0, .int .i64 0, .int .i64 0, .int .i64 0, .int .i64 0, .int .i64 0, .int .i64 0] := by
  have e0 : hw n 0 = n := by simp only [hw]; omega
  have e1 : hw n 1 = 0 := by simp only [hw]; omega
  have e2 : hw n 2 = 0 := by simp only [hw]; omega
  have e3 : hw n 3 = 0 := by simp only [hw]; omega
  have e4 : hw n 4 = 0 := by simp only [hw]; omega
  have e5 : hw n 5 = 0 := by simp only [hw]; omega
  have e6 : hw n 6 = 0 := by simp only [hw]; omega
  have e7 : hw n 7 = 0 := by simp only [hw]; omega
  simp only [hws]
  rw [e0, e1, e2, e3, e4, e5, e6, e7]
set_option maxRecDepth 100000 in
theorem small_any (n : Int) (w : World) (h0 : 0 ≤ n) (h1 : n < 4294967296) : Calls Tryd.prog 35 #[.int .i64 n] w fun e w' =>
    e = .returned (.agg (hws n)) ∧ Below w.heap.size w w' := by
  have HH := Lib.hid (hws_small h0 h1)
  clear h0 h1
  go_enter Tryd.func35, Tryd.ntmps35
  go_wp2_with fail
  rw [← HH.out]
  refine bodyPost_ret (results_blk Tryd.results35 _ _ (Blk.new _ _ _ rfl) rfl Tryd.underlying44 rfl (by kernel_rfl)) rfl ⟨rfl, ?_⟩
  exact (RowKit.Below.refl _ _).alloc (Nat.le_refl _) _
/-- The fifth power. -/
def p5 (n : Int) : Int := (n * n % fp) * (n * n % fp) % fp * n % fp
set_option maxRecDepth 100000 in
theorem fifth_any (n : Int) (w : World) (h0 : 0 ≤ n) (h1 : n < fp) : Calls Tryd.prog 25 #[.agg (hws n)] w fun e w' =>
    e = .returned (.agg (hws (p5 n))) ∧ Below w.heap.size w w' := by
  have HN := Lib.hid (And.intro h0 h1)
  clear h0 h1
  unfold p5
  have q0 := mod_fp_lo (n * n); have q1 := mod_fp_hi (n * n)
  obtain ⟨q, hq⟩ : ∃ q, n * n % fp = q := ⟨_, rfl⟩
  rw [hq] at q0 q1 ⊢
  have HQ := Lib.hid (And.intro q0 q1)
  have EQ := Lib.hid hq
  clear q0 q1 hq
  have r0 := mod_fp_lo (q * q); have r1 := mod_fp_hi (q * q)
  obtain ⟨r, hr⟩ : ∃ r, q * q % fp = r := ⟨_, rfl⟩
  rw [hr] at r0 r1 ⊢
  have HR := Lib.hid (And.intro r0 r1)
  have ER := Lib.hid hr
  clear r0 r1 hr
  obtain ⟨s, hs⟩ : ∃ s, r * n % fp = s := ⟨_, rfl⟩
  rw [hs]
  have ES := Lib.hid hs
  clear hs
  go_enter Tryd.func25, Tryd.ntmps25
  go_wp2_with fail
  refine (times_any _ _ _ HN.out.1 HN.out.2 HN.out.1 HN.out.2).mono ?_
  rintro e w1 ⟨rfl, h1⟩
  rw [EQ.out]
  have K1 := Lib.hid (((((Kp.nil (RowKit.Below.refl _ _)).alloc (hws n) _ rfl).alloc (hws 0) _ (b := w.heap.size + 1) (by simp))).next h1)
  clear h1
  have K2 := Lib.hid (K1.out.alloc (hws q) 44 rfl)
  have hv : w.heap.size + 1 < w1.heap.size := K1.out.b0.lt
  have HV := Lib.hid hv
  clear K1 hv
  go_wp2_with fail
  generalize w1.alloc (.cells (hws q) 44) = w2 at *
  generalize w1.heap.size = v at *
  have KD := Lib.hid K2.out.drew
  clear K2
  go_region_held3 (fun w' => w'.cell? ⟨v, 0, none⟩ = some (.int .i64 (hw (q) 0)) ∧ w'.cell? ⟨v, 1, none⟩ = some (.int .i64 (hw (q) 1)) ∧ w'.cell? ⟨v, 2, none⟩ = some (.int .i64 (hw (q) 2)) ∧ w'.cell? ⟨v, 3, none⟩ = some (.int .i64 (hw (q) 3)) ∧ w'.cell? ⟨v, 4, none⟩ = some (.int .i64 (hw (q) 4)) ∧ w'.cell? ⟨v, 5, none⟩ = some (.int .i64 (hw (q) 5)) ∧ w'.cell? ⟨v, 6, none⟩ = some (.int .i64 (hw (q) 6)) ∧ w'.cell? ⟨v, 7, none⟩ = some (.int .i64 (hw (q) 7)) ∧ w'.cell? ⟨w.heap.size, 0, none⟩ = some (.int .i64 (hw (n) 0)) ∧ w'.cell? ⟨w.heap.size, 1, none⟩ = some (.int .i64 (hw (n) 1)) ∧ w'.cell? ⟨w.heap.size, 2, none⟩ = some (.int .i64 (hw (n) 2)) ∧ w'.cell? ⟨w.heap.size, 3, none⟩ = some (.int .i64 (hw (n) 3)) ∧ w'.cell? ⟨w.heap.size, 4, none⟩ = some (.int .i64 (hw (n) 4)) ∧ w'.cell? ⟨w.heap.size, 5, none⟩ = some (.int .i64 (hw (n) 5)) ∧ w'.cell? ⟨w.heap.size, 6, none⟩ = some (.int .i64 (hw (n) 6)) ∧ w'.cell? ⟨w.heap.size, 7, none⟩ = some (.int .i64 (hw (n) 7)))
    (first | (with_reducible exact Blk.cells8x2 K4.out.b0 K4.out.tl.tl.b0) | (with_reducible exact Blk.cells8x2 K3.out.b0 K3.out.tl.tl.b0) | (with_reducible exact Blk.cells8x2 KD.out.b0 KD.out.tl.tl.b0) | (with_reducible exact Blk.cells8x2 (Blk.far8 K4.out.b0 (by have := HV.out; omega) _ _ _ _ _ _ _ _) (Blk.far8 K4.out.tl.tl.b0 (by omega) _ _ _ _ _ _ _ _)))
    (first
      | (go_at_call_of 34 (hw q 0); refine (times_any _ _ _ HQ.out.1 HQ.out.2 HQ.out.1 HQ.out.2).mono ?_; rintro e w3 ⟨rfl, h3⟩; rw [ER.out]; have K3 := Lib.hid (KD.out.next h3))
      | (go_at_call_of 34 (hw n 0); refine (times_any _ _ _ HR.out.1 HR.out.2 HN.out.1 HN.out.2).mono ?_; rintro e w4 ⟨rfl, h4⟩; rw [ES.out]; have K4 := Lib.hid (K3.out.next h4); (obtain ⟨z0, z1, z2, z3, z4, z5, z6, z7⟩ := Blk.cells8 (K4.out.tl.b0); obtain ⟨f0, f1, f2, f3, f4, f5, f6, f7⟩ := Blk.frozen8 (K4.out.tl.b0))))
  go_wp2_with fail
  refine bodyPost_ret (results_blk Tryd.results25 _ _ (Blk.set8 K4.out.tl.b0 _ _ _ _ _ _ _ _) rfl Tryd.underlying44 rfl (by kernel_rfl)) rfl ⟨rfl, ?_⟩
  exact Below.set8 K4.out.1 (by omega) _ _ _ _ _ _ _ _
end Go.Proofs.YtodofaoaenddgaaDoor
