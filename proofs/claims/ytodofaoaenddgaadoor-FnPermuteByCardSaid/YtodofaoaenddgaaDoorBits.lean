/-
  math/bits.Add64, Sub64, Mul64 at this translation: what each call answers, with the answer under names of its own.
-/
import Derived.Test.YtodofaoaenddgaaDoorProg
import Derived.WalkKit
import Derived.Lib.Mul64
import Derived.Laws.Bits64b
import Derived.Laws.Externs
import Derived.Shelf.Spec.BitsCarry
import Derived.Lib.Hide
namespace Go.Proofs.YtodofaoaenddgaaDoor
open Go.RowKit Go.Lib

/-- A word of 64 bits. -/
def Wd (x : Int) : Prop := 0 ≤ x ∧ x < 18446744073709551616
theorem Wd.lo {x : Int} (h : Wd x) : 0 ≤ x := h.1
theorem Wd.hi {x : Int} (h : Wd x) : x < 18446744073709551616 := h.2

theorem add64_run (x y c : Int) (hx : 0 ≤ x) (hy : 0 ≤ y) (hc0 : 0 ≤ c) (hc : c ≤ 1) (w : World) :
    (callFunc 67 #[.int .u64 x, .int .u64 y, .int .u64 c]).run Tryd.prog w =
      .ok (.value (.tuple #[.int .u64 ((x + y + c) % 18446744073709551616), .int .u64 ((x + y + c) / 18446744073709551616)])) w := by
  rw [run_callFunc_extern Tryd.func67 (by kernel_rfl) (by kernel_rfl) (by kernel_rfl) (e := add64Entry) (by kernel_rfl), run_add64 x y c hx hy hc0 hc]
  rfl
theorem sub64_run (x y b : Int) (hx : 0 ≤ x) (hy : 0 ≤ y) (hy' : y < 18446744073709551616) (hb0 : 0 ≤ b) (hb : b ≤ 1) (w : World) :
    (callFunc 69 #[.int .u64 x, .int .u64 y, .int .u64 b]).run Tryd.prog w =
      .ok (.value (.tuple #[.int .u64 ((x - y - b) % 18446744073709551616), .int .u64 (if x < y + b then 1 else 0)])) w := by
  obtain ⟨x, rfl⟩ := Int.eq_ofNat_of_zero_le hx
  obtain ⟨y, rfl⟩ := Int.eq_ofNat_of_zero_le hy
  obtain ⟨b, rfl⟩ := Int.eq_ofNat_of_zero_le hb0
  rw [run_callFunc_extern Tryd.func69 (by kernel_rfl) (by kernel_rfl) (by kernel_rfl) (e := sub64Entry) (by kernel_rfl), run_sub64 x y b (by omega)]
  have e1 : (((x + 18446744073709551616 - y - b) % 18446744073709551616 : Nat) : Int) = ((x : Int) - y - b) % 18446744073709551616 := by omega
  have e2 : ((if x < y + b then 1 else 0 : Nat) : Int) = if (x : Int) < y + b then 1 else 0 := by split <;> split <;> omega
  rw [e1, e2]
  rfl

/-- What Add64 answers, under two names: the sum, and the carry. -/
theorem add64_ex {x y c : Int} (hx : Wd x) (hy : Wd y) (hc0 : 0 ≤ c) (hc : c ≤ 1) : ∃ s k : Int,
    (∀ w, (callFunc 67 #[.int .u64 x, .int .u64 y, .int .u64 c]).run Tryd.prog w = .ok (.value (.tuple #[.int .u64 s, .int .u64 k])) w) ∧
    Hid (s + 18446744073709551616 * k = x + y + c) ∧ Wd s ∧ 0 ≤ k ∧ k ≤ 1 := by
  obtain ⟨hx0, hx1⟩ := hx
  obtain ⟨hy0, hy1⟩ := hy
  refine ⟨(x + y + c) % 18446744073709551616, (x + y + c) / 18446744073709551616, fun w => add64_run x y c hx0 hy0 hc0 hc w, ?_, ?_, ?_, ?_⟩
  · exact Lib.hid (by omega)
  · exact ⟨by omega, by omega⟩
  · omega
  · omega
/-- What Sub64 answers: the difference, and the borrow. -/
theorem sub64_ex {x y b : Int} (hx : Wd x) (hy : Wd y) (hb0 : 0 ≤ b) (hb : b ≤ 1) : ∃ s k : Int,
    (∀ w, (callFunc 69 #[.int .u64 x, .int .u64 y, .int .u64 b]).run Tryd.prog w = .ok (.value (.tuple #[.int .u64 s, .int .u64 k])) w) ∧
    Hid (s - 18446744073709551616 * k = x - y - b) ∧ Wd s ∧ 0 ≤ k ∧ k ≤ 1 := by
  obtain ⟨hx0, hx1⟩ := hx
  obtain ⟨hy0, hy1⟩ := hy
  refine ⟨(x - y - b) % 18446744073709551616, if x < y + b then 1 else 0, fun w => sub64_run x y b hx0 hy0 hy1 hb0 hb w, ?_, ?_, ?_, ?_⟩
  · exact Lib.hid (by split <;> omega)
  · exact ⟨by omega, by omega⟩
  · split <;> omega
  · split <;> omega

namespace M64
theorem maskN (a : Nat) (ha : a < 18446744073709551616) : bits .and .u64 (a : Int) 4294967295 = ((a % 4294967296 : Nat) : Int) := by
  have h := bits_and_u64_nat a 4294967295 ha (by omega)
  have e : a &&& 4294967295 = a % 4294967296 := Nat.and_two_pow_sub_one_eq_mod a 32
  rw [e] at h
  exact h
theorem divN (a : Nat) : (a : Int) / 4294967296 = ((a / 4294967296 : Nat) : Int) := by omega
theorem mulN (a b : Nat) : (a : Int) * (b : Int) = ((a * b : Nat) : Int) := (Int.natCast_mul a b).symm
theorem addN (a b : Nat) : (a : Int) + (b : Int) = ((a + b : Nat) : Int) := (Int.natCast_add a b).symm
theorem wrapN (a : Nat) (ha : a < 18446744073709551616) : IntKind.u64.wrap (a : Int) = (a : Int) := by rw [IntKind.wrap_u64]; omega
theorem wrapM (a : Nat) : IntKind.u64.wrap (a : Int) = ((a % 18446744073709551616 : Nat) : Int) := by rw [IntKind.wrap_u64]; omega
end M64

set_option maxHeartbeats 1000000 in
theorem mul64_any (x y : Nat) (hx : x < 18446744073709551616) (hy : y < 18446744073709551616) (w : World) :
    Calls Tryd.prog 70 #[.int .u64 x, .int .u64 y] w fun e w' => e = .returned (.tuple #[.int .u64 ((x * y / 18446744073709551616 : Nat) : Int), .int .u64 ((x * y % 18446744073709551616 : Nat) : Int)]) ∧ w = w' := by
  obtain ⟨bd, bt, bw, hhi⟩ := Lib.mul64_hi x y hx hy
  have ba := Lib.half_mul_le (a := x / 4294967296) (b := y / 4294967296) (by omega) (by omega)
  have bb := Lib.half_mul_le (a := x / 4294967296) (b := y % 4294967296) (by omega) (by omega)
  have bc := Lib.half_mul_le (a := x % 4294967296) (b := y / 4294967296) (by omega) (by omega)
  have ba' : x / 4294967296 * (y / 4294967296) < 18446744073709551616 := by omega
  have bb' : x / 4294967296 * (y % 4294967296) < 18446744073709551616 := by omega
  have bc' : x % 4294967296 * (y / 4294967296) < 18446744073709551616 := by omega
  have bh1 : x / 4294967296 * (y / 4294967296) + (x / 4294967296 * (y % 4294967296) + x % 4294967296 * (y % 4294967296) / 4294967296) / 4294967296 < 18446744073709551616 := by omega
  have bh : x / 4294967296 * (y / 4294967296) + (x / 4294967296 * (y % 4294967296) + x % 4294967296 * (y % 4294967296) / 4294967296) / 4294967296 + ((x / 4294967296 * (y % 4294967296) + x % 4294967296 * (y % 4294967296) / 4294967296) % 4294967296 + x % 4294967296 * (y / 4294967296)) / 4294967296 < 18446744073709551616 := by omega
  go_enter Tryd.func70, Tryd.ntmps70
  go_wp2
  simp only [M64.maskN x hx, M64.maskN y hy, M64.divN, M64.mulN, M64.addN, M64.wrapN _ bd, M64.wrapN _ bb', M64.wrapN _ bt, M64.maskN _ bt, M64.wrapN _ bc', M64.wrapN _ bw, M64.wrapN _ ba', M64.wrapN _ bh1, M64.wrapN _ bh, M64.wrapM (x * y)]
  rw [hhi]
  go_ret2
  exact ⟨rfl, rfl⟩

/-- What Mul64 answers: the upper word, and the lower one. -/
theorem mul64_ex {x y : Int} (hx : Wd x) (hy : Wd y) : ∃ h l : Int,
    Hid (∀ w, Calls Tryd.prog 70 #[.int .u64 x, .int .u64 y] w fun e w' => e = .returned (.tuple #[.int .u64 h, .int .u64 l]) ∧ w = w') ∧
    Hid (h * 18446744073709551616 + l = x * y) ∧ Wd h ∧ Wd l ∧ h ≤ 18446744073709551614 := by
  obtain ⟨hx0, hx1⟩ := hx
  obtain ⟨hy0, hy1⟩ := hy
  obtain ⟨x, rfl⟩ := Int.eq_ofNat_of_zero_le hx0
  obtain ⟨y, rfl⟩ := Int.eq_ofNat_of_zero_le hy0
  have hb : x * y ≤ 18446744073709551615 * 18446744073709551615 := Nat.mul_le_mul (by omega) (by omega)
  refine ⟨((x * y / 18446744073709551616 : Nat) : Int), ((x * y % 18446744073709551616 : Nat) : Int), Lib.hid (fun w => mul64_any x y (by omega) (by omega) w), Lib.hid ?_, ⟨by omega, by omega⟩, ⟨by omega, by omega⟩, by omega⟩
  rw [← Int.natCast_mul]
  omega
end Go.Proofs.YtodofaoaenddgaaDoor
