/-
  Plain: the matrices as sums, modulo the prime. No program in sight (but for the lists' words).
-/
import Derived.Test.YtodofaoaenddgaaDoorSpj
import Derived.Test.YtodofaoaenddgaaDoorSpk
namespace Go.Proofs.YtodofaoaenddgaaDoor
open Fr

theorem l2 {a b c d : Int} (h : a = c) (k : b = d) : [a, b] = [c, d] := by rw [h, k]
theorem l3 {a b c a' b' c' : Int} (h : a = a') (k : b = b') (l : c = c') : [a, b, c] = [a', b', c'] := by rw [h, k, l]
theorem md {a b : Int} (h : a = b) : a % fp = b % fp := by rw [h]
theorem ext2_eq (a b : Int) : extL [a, b] = [((a + b) % fp + a) % fp, ((a + b) % fp + b) % fp] := by
  simp only [extL, tot, List.map_cons, List.map_nil, List.foldl_cons, List.foldl_nil, Int.zero_add, Int.emod_add_emod, Int.add_emod_emod]
  exact l2 (md (by omega)) (md (by omega))
theorem ext3_eq (a b c : Int) : extL [a, b, c] = [(((a + b) % fp + c) % fp + a) % fp, (((a + b) % fp + c) % fp + b) % fp, (((a + b) % fp + c) % fp + c) % fp] := by
  simp only [extL, tot, List.map_cons, List.map_nil, List.foldl_cons, List.foldl_nil, Int.zero_add, Int.emod_add_emod, Int.add_emod_emod]
  exact l3 (md (by omega)) (md (by omega)) (md (by omega))
theorem int2_eq (a b : Int) : intL [1, 2] [a, b] = [(a + (a + b) % fp) % fp, ((b + b) % fp + (a + b) % fp) % fp] := by
  simp only [intL, tot, List.zipWith_cons_cons, List.zipWith_nil_left, List.foldl_cons, List.foldl_nil, Int.zero_add, Int.emod_add_emod, Int.add_emod_emod]
  exact l2 (md (by omega)) (md (by omega))
theorem int3_eq (a b c : Int) : intL [1, 1, 2] [a, b, c] = [(a + ((a + b) % fp + c) % fp) % fp, (b + ((a + b) % fp + c) % fp) % fp, ((c + c) % fp + ((a + b) % fp + c) % fp) % fp] := by
  simp only [intL, tot, List.zipWith_cons_cons, List.zipWith_nil_left, List.foldl_cons, List.foldl_nil, Int.zero_add, Int.emod_add_emod, Int.add_emod_emod]
  exact l3 (md (by omega)) (md (by omega)) (md (by omega))
theorem acc_lin {ns : List Int} {i r : Nat} {s0 s1 s2 s3 : Int} (h0 : ns[i]? = some s0) (h1 : ns[i + 1]? = some s1) (h2 : ns[i + 2]? = some s2) (h3 : ns[i + 3]? = some s3) (hi : i % 4 = 0) (hr : r < 4) :
    accM ns (i + r) 4 = (cf r 0 * s0 + cf r 1 * s1 + cf r 2 * s2 + cf r 3 * s3) % fp := by
  have e1 : (i + r) % 4 = r := by omega
  have e2 : i + r - r = i := by omega
  simp only [accM, e1, e2, List.getD_eq_getElem?_getD, Nat.add_zero, h0, h1, h2, h3, Option.getD_some, Int.zero_add, Int.emod_add_emod, Int.add_emod_emod]
theorem acc_0 {ns : List Int} {i : Nat} {s0 s1 s2 s3 : Int} (h0 : ns[i]? = some s0) (h1 : ns[i + 1]? = some s1) (h2 : ns[i + 2]? = some s2) (h3 : ns[i + 3]? = some s3) (hi : i % 4 = 0) :
    accM ns i 4 = (((((s3 + s3) % fp) + ((s0 + s1) % fp)) % fp) + ((((((((s0 + s1) % fp) + ((s0 + s1) % fp)) % fp) + ((((s0 + s1) % fp) + ((s0 + s1) % fp)) % fp)) % fp) + ((((s1 + s1) % fp) + ((s2 + s3) % fp)) % fp)) % fp)) % fp := by
  rw [show i = i + 0 from rfl, acc_lin h0 h1 h2 h3 hi (by decide)]
  simp only [Int.emod_add_emod, Int.add_emod_emod]
  show (5 * s0 + 7 * s1 + 1 * s2 + 3 * s3) % fp = _
  exact md (by omega)
theorem acc_1 {ns : List Int} {i : Nat} {s0 s1 s2 s3 : Int} (h0 : ns[i]? = some s0) (h1 : ns[i + 1]? = some s1) (h2 : ns[i + 2]? = some s2) (h3 : ns[i + 3]? = some s3) (hi : i % 4 = 0) :
    accM ns (i + 1) 4 = (((((((s0 + s1) % fp) + ((s0 + s1) % fp)) % fp) + ((((s0 + s1) % fp) + ((s0 + s1) % fp)) % fp)) % fp) + ((((s1 + s1) % fp) + ((s2 + s3) % fp)) % fp)) % fp := by
  rw [acc_lin h0 h1 h2 h3 hi (by decide)]
  simp only [Int.emod_add_emod, Int.add_emod_emod]
  show (4 * s0 + 6 * s1 + 1 * s2 + 1 * s3) % fp = _
  exact md (by omega)
theorem acc_2 {ns : List Int} {i : Nat} {s0 s1 s2 s3 : Int} (h0 : ns[i]? = some s0) (h1 : ns[i + 1]? = some s1) (h2 : ns[i + 2]? = some s2) (h3 : ns[i + 3]? = some s3) (hi : i % 4 = 0) :
    accM ns (i + 2) 4 = (((((s1 + s1) % fp) + ((s2 + s3) % fp)) % fp) + ((((((((s2 + s3) % fp) + ((s2 + s3) % fp)) % fp) + ((((s2 + s3) % fp) + ((s2 + s3) % fp)) % fp)) % fp) + ((((s3 + s3) % fp) + ((s0 + s1) % fp)) % fp)) % fp)) % fp := by
  rw [acc_lin h0 h1 h2 h3 hi (by decide)]
  simp only [Int.emod_add_emod, Int.add_emod_emod]
  show (1 * s0 + 3 * s1 + 5 * s2 + 7 * s3) % fp = _
  exact md (by omega)
theorem acc_3 {ns : List Int} {i : Nat} {s0 s1 s2 s3 : Int} (h0 : ns[i]? = some s0) (h1 : ns[i + 1]? = some s1) (h2 : ns[i + 2]? = some s2) (h3 : ns[i + 3]? = some s3) (hi : i % 4 = 0) :
    accM ns (i + 3) 4 = (((((((s2 + s3) % fp) + ((s2 + s3) % fp)) % fp) + ((((s2 + s3) % fp) + ((s2 + s3) % fp)) % fp)) % fp) + ((((s3 + s3) % fp) + ((s0 + s1) % fp)) % fp)) % fp := by
  rw [acc_lin h0 h1 h2 h3 hi (by decide)]
  simp only [Int.emod_add_emod, Int.add_emod_emod]
  show (1 * s0 + 1 * s1 + 4 * s2 + 6 * s3) % fp = _
  exact md (by omega)
end Go.Proofs.YtodofaoaenddgaaDoor
