/-
  beUint64 and bePutUint64, walked: eight bytes, the highest first, and the number that they are.
-/
import Derived.Test.YtodofaoaenddgaaDoorFromA
import Derived.Laws.BitsAllLaws
import Derived.Laws.Bits64b
import Derived.BigQuiet
import Derived.Deep.QuietTactic
import Derived.Handy
namespace Go.Proofs.YtodofaoaenddgaaDoor
open Go.RowKit Go.Lib Fr
theorem ret_int {k : IntKind} {a b : Int} (h : a = b) : Ending.returned (.int k a) = .returned (.int k b) := by rw [h]
/-- Or of what lies below a place and what lies from it on is the sum. -/
theorem or_add_nat (k a b : Nat) (ha : a < 2 ^ k) : a ||| b * 2 ^ k = a + b * 2 ^ k := by
  have h := Nat.shiftLeft_add_eq_or_of_lt ha b
  rw [Nat.shiftLeft_eq] at h
  rw [Nat.or_comm, ← h, Nat.add_comm]
theorem or_u64 {a b : Int} (k : Nat) {m : Int} (hm : m = 2 ^ k) (ha : 0 ≤ a) (ha' : a < m) (hb : 0 ≤ b) (hb' : b * m < 18446744073709551616) (ha'' : a < 18446744073709551616) : bits .or .u64 a (b * m) = a + b * m := by
  subst hm
  obtain ⟨a, rfl⟩ := Int.eq_ofNat_of_zero_le ha
  obtain ⟨b, rfl⟩ := Int.eq_ofNat_of_zero_le hb
  have e : ((b : Int) * 2 ^ k) = ((b * 2 ^ k : Nat) : Int) := by push_cast; rfl
  rw [e] at hb' ⊢
  rw [bits_or_u64_nat a (b * 2 ^ k) (by omega) (by omega), or_add_nat k a b (by exact_mod_cast ha')]
  push_cast; rfl
set_option maxHeartbeats 1000000 in
set_option maxRecDepth 100000 in
theorem beUint_any (g o : Nat) (cap : Nat) (b0 b1 b2 b3 b4 b5 b6 b7 : Int) (w : World)
    (l0 : 0 ≤ b0) (u0 : b0 < 256) (l1 : 0 ≤ b1) (u1 : b1 < 256) (l2 : 0 ≤ b2) (u2 : b2 < 256) (l3 : 0 ≤ b3) (u3 : b3 < 256)
    (l4 : 0 ≤ b4) (u4 : b4 < 256) (l5 : 0 ≤ b5) (u5 : b5 < 256) (l6 : 0 ≤ b6) (u6 : b6 < 256) (l7 : 0 ≤ b7) (u7 : b7 < 256)
    (c0 : w.cell? ⟨g, o, none⟩ = some (.int .u8 b0)) (c1 : w.cell? ⟨g, o + 1, none⟩ = some (.int .u8 b1)) (c2 : w.cell? ⟨g, o + 2, none⟩ = some (.int .u8 b2)) (c3 : w.cell? ⟨g, o + 3, none⟩ = some (.int .u8 b3))
    (c4 : w.cell? ⟨g, o + 4, none⟩ = some (.int .u8 b4)) (c5 : w.cell? ⟨g, o + 5, none⟩ = some (.int .u8 b5)) (c6 : w.cell? ⟨g, o + 6, none⟩ = some (.int .u8 b6)) (c7 : w.cell? ⟨g, o + 7, none⟩ = some (.int .u8 b7)) :
    Calls Tryd.prog 71 #[.slice (some ⟨g, o, none⟩) 8 cap] w fun e w' =>
      e = .returned (.int .u64 (b7 + 256 * b6 + 65536 * b5 + 16777216 * b4 + 4294967296 * b3 + 1099511627776 * b2 + 281474976710656 * b1 + 72057594037927936 * b0)) ∧ ∃ k, w' = w.drewN k := by
  go_enter Tryd.func71, Tryd.ntmps71
  go_wp2_with fail
  go_quiet (fail)
  go_wp2
  go_ret
  refine ⟨ret_int ?_, nq, rfl⟩
  have e1 : bits .or .u64 (b7) (b6 * 256) = b7 + b6 * 256 := or_u64 8 (by decide) (by omega) (by omega) (by omega) (by omega) (by omega)
  have e2 : bits .or .u64 (b7 + b6 * 256) (b5 * 65536) = b7 + b6 * 256 + b5 * 65536 := or_u64 16 (by decide) (by omega) (by omega) (by omega) (by omega) (by omega)
  have e3 : bits .or .u64 (b7 + b6 * 256 + b5 * 65536) (b4 * 16777216) = b7 + b6 * 256 + b5 * 65536 + b4 * 16777216 := or_u64 24 (by decide) (by omega) (by omega) (by omega) (by omega) (by omega)
  have e4 : bits .or .u64 (b7 + b6 * 256 + b5 * 65536 + b4 * 16777216) (b3 * 4294967296) = b7 + b6 * 256 + b5 * 65536 + b4 * 16777216 + b3 * 4294967296 := or_u64 32 (by decide) (by omega) (by omega) (by omega) (by omega) (by omega)
  have e5 : bits .or .u64 (b7 + b6 * 256 + b5 * 65536 + b4 * 16777216 + b3 * 4294967296) (b2 * 1099511627776) = b7 + b6 * 256 + b5 * 65536 + b4 * 16777216 + b3 * 4294967296 + b2 * 1099511627776 := or_u64 40 (by decide) (by omega) (by omega) (by omega) (by omega) (by omega)
  have e6 : bits .or .u64 (b7 + b6 * 256 + b5 * 65536 + b4 * 16777216 + b3 * 4294967296 + b2 * 1099511627776) (b1 * 281474976710656) = b7 + b6 * 256 + b5 * 65536 + b4 * 16777216 + b3 * 4294967296 + b2 * 1099511627776 + b1 * 281474976710656 := or_u64 48 (by decide) (by omega) (by omega) (by omega) (by omega) (by omega)
  have e7 : bits .or .u64 (b7 + b6 * 256 + b5 * 65536 + b4 * 16777216 + b3 * 4294967296 + b2 * 1099511627776 + b1 * 281474976710656) (b0 * 72057594037927936) = b7 + b6 * 256 + b5 * 65536 + b4 * 16777216 + b3 * 4294967296 + b2 * 1099511627776 + b1 * 281474976710656 + b0 * 72057594037927936 := or_u64 56 (by decide) (by omega) (by omega) (by omega) (by omega) (by omega)
  rw [e1, e2, e3, e4, e5, e6, e7]
  omega
/-- The eight bytes of a word, the highest first, laid in a row. -/
def put8 (w : World) (g o : Nat) (v : Int) : World :=
  ((((((((w.setCell ⟨g, o, none⟩ (.int .u8 (v / 72057594037927936 % 256))).setCell ⟨g, o + 1, none⟩ (.int .u8 (v / 281474976710656 % 256))).setCell ⟨g, o + 2, none⟩ (.int .u8 (v / 1099511627776 % 256))).setCell ⟨g, o + 3, none⟩ (.int .u8 (v / 4294967296 % 256))).setCell ⟨g, o + 4, none⟩ (.int .u8 (v / 16777216 % 256))).setCell ⟨g, o + 5, none⟩ (.int .u8 (v / 65536 % 256))).setCell ⟨g, o + 6, none⟩ (.int .u8 (v / 256 % 256))).setCell ⟨g, o + 7, none⟩ (.int .u8 (v % 256)))
set_option maxHeartbeats 1000000 in
set_option maxRecDepth 100000 in
theorem bePut_any (g o : Nat) (cap : Nat) (v : Int) (w : World) (l0 : 0 ≤ v) (l1 : v < 18446744073709551616)
    (hc : ∀ i, i < 8 → ∃ x, w.cell? ⟨g, o + i, none⟩ = some x) (hf : ∀ i, i < 8 → w.frozen? ⟨g, o + i, none⟩ = false) :
    Calls Tryd.prog 65 #[.slice (some ⟨g, o, none⟩) 8 cap, .int .u64 v] w fun e w' =>
      e = .returned (.tuple #[]) ∧ w' = put8 w g o v := by
  obtain ⟨x0, c0⟩ := hc 0 (by decide); obtain ⟨x1, c1⟩ := hc 1 (by decide); obtain ⟨x2, c2⟩ := hc 2 (by decide); obtain ⟨x3, c3⟩ := hc 3 (by decide)
  obtain ⟨x4, c4⟩ := hc 4 (by decide); obtain ⟨x5, c5⟩ := hc 5 (by decide); obtain ⟨x6, c6⟩ := hc 6 (by decide); obtain ⟨x7, c7⟩ := hc 7 (by decide)
  have f0 := hf 0 (by decide); have f1 := hf 1 (by decide); have f2 := hf 2 (by decide); have f3 := hf 3 (by decide)
  have f4 := hf 4 (by decide); have f5 := hf 5 (by decide); have f6 := hf 6 (by decide); have f7 := hf 7 (by decide)
  rw [Nat.add_zero] at c0 f0
  clear hc hf
  go_enter Tryd.func65, Tryd.ntmps65
  go_wp2_with fail
  go_rounds 9
  go_end0
  refine ⟨rfl, ?_⟩
  simp only [put8]
  rw [show v / 72057594037927936 % 256 = v / 72057594037927936 by omega]

end Go.Proofs.YtodofaoaenddgaaDoor
