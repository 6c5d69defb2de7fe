/-
  The reference's numbers, walked: Prime, Below, carried, less, Plus.
-/
import Derived.Test.YtodofaoaenddgaaDoorSpb
namespace Go.Proofs.YtodofaoaenddgaaDoor
open Go.RowKit Go.Lib Fr
attribute [local go_sem] setCell_drewN alloc_drewN

/-! ### Words -/
theorem hws_fp : hws fp = #[Value.int .i64 4026531841, .int .i64 1138881939, .int .i64 2042196113, .int .i64 674490440, .int .i64 2172737629, .int .i64 3092268470, .int .i64 3778125865, .int .i64 811880050] := by
  rw [fp_eq]; rfl
/-- The first k words are y's, the others x's. -/
def mix (x y : Nat → Int) (k : Nat) : Array Value := ((List.range 8).map fun i => Value.int .i64 (if i < k then y i else x i)).toArray
theorem size_mix (x y : Nat → Int) (k : Nat) : (mix x y k).size = 8 := by simp [mix]
theorem mix_at (x y : Nat → Int) {k : Nat} (h : k < 8) : (mix x y k)[k]? = some (.int .i64 (x k)) := by simp [mix, h]
theorem mix_step (x y : Nat → Int) (k : Nat) : (mix x y k).setIfInBounds k (.int .i64 (y k)) = mix x y (k + 1) := by
  apply Array.ext
  · simp [mix]
  · intro i h1 h2
    rw [Array.getElem_setIfInBounds (by simpa [mix] using h2)]
    simp only [mix, List.getElem_toArray, List.getElem_map, List.getElem_range]
    by_cases h : k = i
    · subst h; simp
    · rw [if_neg h]
      congr 1
      by_cases h3 : i < k
      · rw [if_pos h3, if_pos (by omega)]
      · rw [if_neg h3, if_neg (by omega)]
theorem one_mix (x y : Nat → Int) (k : Nat) : (mix x y k).all (·.oneCell') = true := by
  rw [Array.all_eq_true_iff_forall_mem]
  intro v hv
  simp only [mix, List.mem_toArray, List.mem_map] at hv
  obtain ⟨i, _, rfl⟩ := hv
  rfl
theorem one_hws (n : Int) : (hws n).all (·.oneCell') = true := one_mix (hw n) (hw n) 0
theorem mix_hws (n : Int) (y : Nat → Int) : mix (hw n) y 0 = hws n := rfl
/-- The words as an array. -/
abbrev wds (x : Nat → Int) : Array Value := #[.int .i64 (x 0), .int .i64 (x 1), .int .i64 (x 2), .int .i64 (x 3), .int .i64 (x 4), .int .i64 (x 5), .int .i64 (x 6), .int .i64 (x 7)]
theorem mix_full (x y : Nat → Int) : mix x y 8 = wds y := rfl
theorem mix_zero (x y : Nat → Int) : mix x y 0 = wds x := rfl
theorem wds_hw (n : Int) : wds (hw n) = hws n := rfl
/-- What the words are worth. -/
def val8 (x : Nat → Int) : Int := x 0 + 4294967296 * x 1 + 18446744073709551616 * x 2 + 79228162514264337593543950336 * x 3 + 340282366920938463463374607431768211456 * x 4 +
  1461501637330902918203684832716283019655932542976 * x 5 + 6277101735386680763835789423207666416102355444464034512896 * x 6 + 26959946667150639794667015087019630673637144422540572481103610249216 * x 7
/-- What is carried into the word k. -/
def cc (x : Nat → Int) : Nat → Int
  | 0 => 0
  | k + 1 => (cc x k + x k) / 4294967296
def cw (x : Nat → Int) (k : Nat) : Int := (cc x k + x k) % 4294967296
theorem cc_bound {x : Nat → Int} (hx : ∀ i, i < 8 → -1099511627776 ≤ x i ∧ x i ≤ 1099511627776) : ∀ k, k ≤ 8 → -1099511627776 ≤ cc x k ∧ cc x k ≤ 1099511627776
  | 0, _ => by simp only [cc]; omega
  | k + 1, h => by
    have := cc_bound hx k (by omega)
    have := hx k (by omega)
    simp only [cc]
    omega
theorem cw_words {x : Nat → Int} (h0 : 0 ≤ val8 x) (h1 : val8 x < 115792089237316195423570985008687907853269984665640564039457584007913129639936) :
    wds (cw x) = hws (val8 x) := by
  have e0 : cw x 0 + 4294967296 * cc x 1 = x 0 := by simp only [cw, cc]; omega
  have e1 : cw x 1 + 4294967296 * cc x 2 = cc x 1 + x 1 := by rw [cw, show cc x 2 = (cc x 1 + x 1) / 4294967296 from rfl]; omega
  have e2 : cw x 2 + 4294967296 * cc x 3 = cc x 2 + x 2 := by rw [cw, show cc x 3 = (cc x 2 + x 2) / 4294967296 from rfl]; omega
  have e3 : cw x 3 + 4294967296 * cc x 4 = cc x 3 + x 3 := by rw [cw, show cc x 4 = (cc x 3 + x 3) / 4294967296 from rfl]; omega
  have e4 : cw x 4 + 4294967296 * cc x 5 = cc x 4 + x 4 := by rw [cw, show cc x 5 = (cc x 4 + x 4) / 4294967296 from rfl]; omega
  have e5 : cw x 5 + 4294967296 * cc x 6 = cc x 5 + x 5 := by rw [cw, show cc x 6 = (cc x 5 + x 5) / 4294967296 from rfl]; omega
  have e6 : cw x 6 + 4294967296 * cc x 7 = cc x 6 + x 6 := by rw [cw, show cc x 7 = (cc x 6 + x 6) / 4294967296 from rfl]; omega
  have e7 : cw x 7 + 4294967296 * cc x 8 = cc x 7 + x 7 := by rw [cw, show cc x 8 = (cc x 7 + x 7) / 4294967296 from rfl]; omega
  have b : ∀ k, 0 ≤ cw x k ∧ cw x k < 4294967296 := fun k => ⟨Int.emod_nonneg _ (by decide), Int.emod_lt_of_pos _ (by decide)⟩
  have b0 := b 0; have b1 := b 1; have b2 := b 2; have b3 := b 3; have b4 := b 4; have b5 := b 5; have b6 := b 6; have b7 := b 7
  have hv : val8 x = cw x 0 + 4294967296 * cw x 1 + 18446744073709551616 * cw x 2 + 79228162514264337593543950336 * cw x 3 + 340282366920938463463374607431768211456 * cw x 4 +
      1461501637330902918203684832716283019655932542976 * cw x 5 + 6277101735386680763835789423207666416102355444464034512896 * cw x 6 + 26959946667150639794667015087019630673637144422540572481103610249216 * cw x 7 +
      115792089237316195423570985008687907853269984665640564039457584007913129639936 * cc x 8 := by
    simp only [val8]; omega
  have hc : cc x 8 = 0 := by omega
  simp only [wds, hws]
  rw [hc] at hv
  generalize val8 x = n at *
  clear e0 e1 e2 e3 e4 e5 e6 e7 b
  generalize cw x 0 = c0 at *; generalize cw x 1 = c1 at *; generalize cw x 2 = c2 at *; generalize cw x 3 = c3 at *
  generalize cw x 4 = c4 at *; generalize cw x 5 = c5 at *; generalize cw x 6 = c6 at *; generalize cw x 7 = c7 at *
  have w0 : c0 = hw n 0 := by simp only [hw]; omega
  have w1 : c1 = hw n 1 := by simp only [hw]; omega
  have w2 : c2 = hw n 2 := by simp only [hw]; omega
  have w3 : c3 = hw n 3 := by simp only [hw]; omega
  have w4 : c4 = hw n 4 := by simp only [hw]; omega
  have w5 : c5 = hw n 5 := by simp only [hw]; omega
  have w6 : c6 = hw n 6 := by simp only [hw]; omega
  have w7 : c7 = hw n 7 := by simp only [hw]; omega
  rw [w0, w1, w2, w3, w4, w5, w6, w7]
theorem val8_hw {n : Int} (h0 : 0 ≤ n) (h1 : n < 115792089237316195423570985008687907853269984665640564039457584007913129639936) : val8 (hw n) = n := by
  simp only [val8, hw]; omega
theorem val8_add (x y : Nat → Int) : val8 (fun i => x i + y i) = val8 x + val8 y := by simp only [val8]; omega
theorem val8_sub (x y : Nat → Int) : val8 (fun i => x i - y i) = val8 x - val8 y := by simp only [val8]; omega
/-- From the highest word down. -/
theorem same_down {a b : Int} {k : Nat} (h : a / 4294967296 ^ (k + 1) = b / 4294967296 ^ (k + 1)) (he : hw a k = hw b k) : a / 4294967296 ^ k = b / 4294967296 ^ k := by
  simp only [hw] at he
  rw [Int.pow_succ, ← Int.ediv_ediv_of_nonneg (by exact Int.le_of_lt (Int.pow_pos (by decide))), ← Int.ediv_ediv_of_nonneg (by exact Int.le_of_lt (Int.pow_pos (by decide)))] at h
  generalize a / 4294967296 ^ k = x at *
  generalize b / 4294967296 ^ k = y at *
  omega
theorem less_down {a b : Int} {k : Nat} (h : a / 4294967296 ^ (k + 1) = b / 4294967296 ^ (k + 1)) (he : hw a k ≠ hw b k) : decide (hw a k < hw b k) = decide (a < b) := by
  have e1 : a < b → a / 4294967296 ^ k ≤ b / 4294967296 ^ k := fun hl => Int.ediv_le_ediv (Int.pow_pos (by decide)) (Int.le_of_lt hl)
  have e2 : ¬ a < b → b / 4294967296 ^ k ≤ a / 4294967296 ^ k := fun hl => Int.ediv_le_ediv (Int.pow_pos (by decide)) (Int.not_lt.1 hl)
  simp only [hw] at he ⊢
  rw [Int.pow_succ, ← Int.ediv_ediv_of_nonneg (by exact Int.le_of_lt (Int.pow_pos (by decide))), ← Int.ediv_ediv_of_nonneg (by exact Int.le_of_lt (Int.pow_pos (by decide)))] at h
  apply decide_eq_decide.2
  generalize a / 4294967296 ^ k = x at *
  generalize b / 4294967296 ^ k = y at *
  constructor
  · intro hl
    apply Decidable.byContradiction
    intro hn
    have := e2 hn
    omega
  · intro hl
    have := e1 hl
    omega

theorem bits_mask32 (x : Int) : bits .and .i64 x 4294967295 = x % 4294967296 := by
  have e : ((4294967295 : Int) % ((2 ^ 64 : Nat) : Int)).toNat = 2 ^ 32 - 1 := by decide
  show IntKind.i64.wrap ((BitVec.ofInt 64 x &&& BitVec.ofInt 64 4294967295).toNat : Int) = _
  rw [BitVec.toNat_and, BitVec.toNat_ofInt, BitVec.toNat_ofInt, e, Nat.and_two_pow_sub_one_eq_mod, IntKind.wrap_i64]
  omega

/-! ### The walks -/
set_option maxRecDepth 100000 in
theorem prime_any (w : World) : Calls Tryd.prog 41 #[] w fun e w' => e = .returned (.agg (hws fp)) ∧ Below w.heap.size w w' := by
  go_enter Tryd.func41, Tryd.ntmps41
  go_wp2_with fail
  rw [← hws_fp]
  refine bodyPost_ret (results_blk Tryd.results41 _ _ (Blk.new _ _ _ rfl) rfl Tryd.underlying44 rfl (by kernel_rfl)) rfl ⟨rfl, ?_⟩
  exact (RowKit.Below.refl _ _).alloc (Nat.le_refl _) _

set_option maxRecDepth 100000 in
theorem below_any (a b : Int) (w : World) (ha : Num a) (hb' : Num b) : Calls Tryd.prog 40 #[.agg (hws a), .agg (hws b)] w fun e w' =>
    e = .returned (.bool (decide (a < b))) ∧ Below w.heap.size w w' := by
  go_enter Tryd.func40, Tryd.ntmps40
  go_wp2_with fail
  go_loopw [5] (fun v wr => ∃ k : Nat, k ≤ 8 ∧ v = .int .i64 ((k : Int) - 1) ∧ a / 4294967296 ^ k = b / 4294967296 ^ k ∧ Blk wr w.heap.size 44 (hws a) ∧ Blk wr (w.heap.size + 1) 44 (hws b) ∧ Below w.heap.size w wr) (fun v _ => (intOf v + 1).toNat)
  case atStart =>
    refine ⟨8, by decide, rfl, ?_, (Blk.new _ _ _ rfl).alloc _, Blk.new _ _ _ (by simp), ((RowKit.Below.refl _ _).alloc (Nat.le_refl _) _).alloc (by simp) _⟩
    have := ha.1; have := ha.2; have := hb'.1; have := hb'.2
    omega
  case round =>
    obtain ⟨k, hk', rfl, hq, hB0, hB1, hb⟩ := hrel
    have HQ := Lib.hid hq
    clear hq
    by_cases hk0 : k = 0
    · subst hk0
      go_wp2_with fail
      go_ret
      have hq := HQ.out
      simp only [Int.pow_zero, Int.ediv_one] at hq
      have hv : decide (a < b) = false := decide_eq_false (by omega)
      rw [hv]
      exact ⟨rfl, hb⟩
    · obtain ⟨j, rfl⟩ : ∃ j, k = j + 1 := ⟨k - 1, by omega⟩
      rw [show ((j + 1 : Nat) : Int) - 1 = (j : Int) from by omega]
      have ca : wr.cell? ⟨w.heap.size, j, none⟩ = some (.int .i64 (hw a j)) := by rw [hB0.cell]; exact hws_at _ (by omega)
      have cb : wr.cell? ⟨w.heap.size + 1, j, none⟩ = some (.int .i64 (hw b j)) := by rw [hB1.cell]; exact hws_at _ (by omega)
      have HB0 := Lib.hid hB0; have HB1 := Lib.hid hB1
      clear hB0 hB1
      by_cases he : hw a j = hw b j
      · have HS := Lib.hid (same_down HQ.out he)
        rw [← he] at cb
        clear he HQ
        go_wp2_with fail
        go_quiet (fail)
        go_wp2_with fail
        go_roundw
        case rel => exact ⟨j, by omega, rfl, HS.out, HB0.out.drewN _, HB1.out.drewN _, Below.drewN hb _⟩
        case measure => simp [intOf] <;> omega
      · have HS := Lib.hid (less_down HQ.out he)
        go_wp2_with fail
        go_quiet (fail)
        go_wp2_with fail
        go_quiet (fail)
        go_wp2_with fail
        go_ret
        rw [HS.out]
        exact ⟨rfl, Below.drewN (Below.drewN hb _) _⟩

set_option maxRecDepth 100000 in
theorem carried_any (x : Nat → Int) (w : World) (hx : ∀ i, i < 8 → -1099511627776 ≤ x i ∧ x i ≤ 1099511627776) (h0 : 0 ≤ val8 x) (h1 : val8 x < 115792089237316195423570985008687907853269984665640564039457584007913129639936) :
    Calls Tryd.prog 49 #[.agg (wds x)] w fun e w' => e = .returned (.agg (hws (val8 x))) ∧ Below w.heap.size w w' := by
  go_enter Tryd.func49, Tryd.ntmps49
  go_wp2_with fail
  go_loopw [3, 5] (fun c v wr => ∃ k : Nat, k ≤ 8 ∧ c = .int .i64 (cc x k) ∧ v = .int .i64 k ∧ Blk wr w.heap.size 44 (mix x (cw x) k) ∧ Blk wr (w.heap.size + 1) 44 (hws 0) ∧ Below w.heap.size w wr) (fun _ v _ => 8 - (intOf v).toNat)
  case atStart =>
    refine ⟨0, by decide, rfl, rfl, ?_, ?_, ?_⟩
    · exact (Blk.new _ _ (mix x (cw x) 0) rfl).alloc _
    · exact Blk.new _ _ (hws 0) (by simp)
    · exact ((RowKit.Below.refl _ _).alloc (Nat.le_refl _) _).alloc (by simp) _
  case round =>
    obtain ⟨k, hk', rfl, rfl, hB0, hB1, hb⟩ := hrel
    by_cases hlt : k < 8
    · have cb : wr.cell? ⟨w.heap.size, k, none⟩ = some (.int .i64 (x k)) := by rw [hB0.cell]; exact mix_at _ _ hlt
      have fo := hB0.frozen k
      have l0 := (hx k hlt).1; have l1 := (hx k hlt).2
      have l2 := (cc_bound hx k hk').1; have l3 := (cc_bound hx k hk').2
      have HB0 := Lib.hid hB0; have HB1 := Lib.hid hB1
      clear hB0 hB1
      go_wp2_with fail
      go_roundw
      case rel =>
        rw [bits_mask32]
        refine ⟨k + 1, by omega, rfl, by go_num, ?_, HB1.out.far (by simp) _, RowKit.Below.setCell hb (by simp) _⟩
        rw [← mix_step]
        exact HB0.out.set_ _ _
      case measure => simp [intOf]; omega
    · obtain rfl : k = 8 := by omega
      have HB0 := Lib.hid hB0; have HB1 := Lib.hid hB1
      clear hB0 hB1
      go_wp2_with (first | (refine wpList_load_at rfl 44 _ rfl ⟨w.heap.size, 0, none⟩ rfl (mix x (cw x) 8) _ (HB0.out).load Tryd.underlying44 rfl (by kernel_rfl) ?_; go_frame) | (refine wpList_store_blk rfl 44 _ _ rfl (w.heap.size + 1) 44 (hws 0) (mix x (cw x) 8) (HB1.out) rfl rfl (by kernel_rfl) rfl (one_mix _ _ _) ?_; go_frame))
      refine bodyPost_ret (results_blk Tryd.results49 _ _ (HB1.out.setRow _) rfl Tryd.underlying44 rfl (by kernel_rfl)) rfl ⟨?_, ?_⟩
      · rw [mix_full, cw_words h0 h1]
      · exact Below.setRow hb (by omega) _
end Go.Proofs.YtodofaoaenddgaaDoor
