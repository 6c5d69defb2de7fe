/-
  Plain: the 32 bytes, the four words and the eight half words of a number; and what the four words say of the bytes.
-/
import Derived.Test.YtodofaoaenddgaaDoorBe
namespace Go.Proofs.YtodofaoaenddgaaDoor
open Go.RowKit Go.Lib Fr

/-- Byte i of a number of 32 bytes, the highest first. -/
def byt (n : Int) (i : Nat) : Int := n / 256 ^ (31 - i) % 256
theorem byt_lo (n : Int) (i : Nat) : 0 ≤ byt n i := Int.emod_nonneg _ (by decide)
theorem byt_hi (n : Int) (i : Nat) : byt n i < 256 := Int.emod_lt_of_pos _ (by decide)
/-- The 32 bytes, as cells. -/
def bts (n : Int) : Array Value := ((List.range 32).map fun i => Value.int .u8 (byt n i)).toArray
@[simp] theorem size_bts (n : Int) : (bts n).size = 32 := by simp [bts]
theorem bts_at (n : Int) {i : Nat} (h : i < 32) : (bts n)[i]? = some (.int .u8 (byt n i)) := by
  simp [bts, h]
/-- A number of 32 bytes. -/
def R256 : Int := 115792089237316195423570985008687907853269984665640564039457584007913129639936
def Num (n : Int) : Prop := 0 ≤ n ∧ n < 115792089237316195423570985008687907853269984665640564039457584007913129639936
theorem Num.of_lt {n : Int} (h : 0 ≤ n) (h' : n < fp) : Num n := ⟨h, by rw [fp_eq] at h'; omega⟩

/-- Four words, as cells. -/
abbrev lms (n : Int) : Array Value := #[.int .u64 (lim n 0), .int .u64 (lim n 1), .int .u64 (lim n 2), .int .u64 (lim n 3)]
/-- Half word i of a number. -/
def hw (n : Int) (i : Nat) : Int := n / 4294967296 ^ i % 4294967296
theorem hw_lo (n : Int) (i : Nat) : 0 ≤ hw n i := Int.emod_nonneg _ (by decide)
theorem hw_hi (n : Int) (i : Nat) : hw n i < 4294967296 := Int.emod_lt_of_pos _ (by decide)
abbrev hws (n : Int) : Array Value := #[.int .i64 (hw n 0), .int .i64 (hw n 1), .int .i64 (hw n 2), .int .i64 (hw n 3), .int .i64 (hw n 4), .int .i64 (hw n 5), .int .i64 (hw n 6), .int .i64 (hw n 7)]

/-- Eight bytes are a word. -/
theorem word_bytes0 (n : Int) : byt n 31 + 256 * byt n 30 + 65536 * byt n 29 + 16777216 * byt n 28 + 4294967296 * byt n 27 + 1099511627776 * byt n 26 + 281474976710656 * byt n 25 + 72057594037927936 * byt n 24 = rl n 0 := by
  simp only [byt, rl]; omega
theorem word_bytes1 (n : Int) : byt n 23 + 256 * byt n 22 + 65536 * byt n 21 + 16777216 * byt n 20 + 4294967296 * byt n 19 + 1099511627776 * byt n 18 + 281474976710656 * byt n 17 + 72057594037927936 * byt n 16 = rl n 1 := by
  simp only [byt, rl]; omega
theorem word_bytes2 (n : Int) : byt n 15 + 256 * byt n 14 + 65536 * byt n 13 + 16777216 * byt n 12 + 4294967296 * byt n 11 + 1099511627776 * byt n 10 + 281474976710656 * byt n 9 + 72057594037927936 * byt n 8 = rl n 2 := by
  simp only [byt, rl]; omega
theorem word_bytes3 (n : Int) : byt n 7 + 256 * byt n 6 + 65536 * byt n 5 + 16777216 * byt n 4 + 4294967296 * byt n 3 + 1099511627776 * byt n 2 + 281474976710656 * byt n 1 + 72057594037927936 * byt n 0 = rl n 3 := by
  simp only [byt, rl]; omega
theorem val_rl' {n : Int} (h : Num n) : val4 (rl n 0) (rl n 1) (rl n 2) (rl n 3) = n := by
  obtain ⟨h0, h1⟩ := h
  simp only [val4, rl]
  omega
/-- A number's own words are an element's form. -/
theorem mont_raw {n : Int} (h : 0 ≤ n) (h' : n < fp) : mont (n * ri % fp) = n := by
  refine Eqv.eq ?_ (mont_lo _) (mont_hi _) h h'
  have h1 : Eqv (mont (n * ri % fp)) (n * ri * rm) := (mont_eqv _).trans ((Eqv.mod _).mul (.refl _))
  have h2 : Eqv (n * (rm * ri)) (n * 1) := (Eqv.refl n).mul rm_ri'
  rw [Int.mul_one] at h2
  have e : n * ri * rm = n * (rm * ri) := by grind
  rw [e] at h1
  exact h1.trans h2
theorem lim_raw {n : Int} (h : 0 ≤ n) (h' : n < fp) (i : Nat) : lim (n * ri % fp) i = rl n i := by
  unfold lim rl; rw [mont_raw h h']
theorem raw_back {n : Int} (h : 0 ≤ n) (h' : n < fp) : (n * ri % fp) * rm % fp = n := mont_raw h h'
theorem rm_lims : lim rm 0 = 1997599621687373223 ∧ lim rm 1 = 6052339484930628067 ∧ lim rm 2 = 10108755138030829701 ∧ lim rm 3 = 150537098327114917 := by decide +kernel
end Go.Proofs.YtodofaoaenddgaaDoor
