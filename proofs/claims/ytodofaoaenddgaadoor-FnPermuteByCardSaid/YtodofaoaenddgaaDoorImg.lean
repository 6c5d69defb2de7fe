/-
  The permutation's matrix M4 over a row of fours, walked. Its round's lines are printed by gen_perm.py.
-/
import Derived.Test.YtodofaoaenddgaaDoorImh
namespace Go.Proofs.YtodofaoaenddgaaDoor
open Go.RowKit Go.Lib Fr
attribute [local go_sem] setCell_drewN alloc_drewN

set_option maxHeartbeats 4000000 in
set_option maxRecDepth 100000 in
theorem m4_any (hp : Value) (g cap : Nat) (ns : List Int) (w : World) (hr : Row w g ns) (hk : ns.length ≤ 65536) (h4 : ns.length % 4 = 0) :
    Calls Tryd.prog 48 #[hp, .slice (some ⟨g, 0, none⟩) ns.length cap] w fun e w' =>
      e = .returned (.tuple #[]) ∧ Row w' g (m4L ns) ∧ w.grownBy w' (some g) := by
  have KA := Lib.hid (show Rg w w (some g) [(g, ns)] from (Rg.nil (World.grownBy.refl w (some g))).cons hr (.inl rfl) (fun x hx => nomatch hx))
  obtain ⟨c, hc⟩ : ∃ c, ns.length / 4 = c := ⟨_, rfl⟩
  have hlen : ns.length = 4 * c := by omega
  have HLEN := Lib.hid hlen
  have hdv : ((ns.length : Nat) : Int) / 4 = (c : Int) := by omega
  have hdv2 : ((ns.length : Nat) : Int).tdiv 4 = (c : Int) := by rw [Int.tdiv_eq_ediv_of_nonneg (by omega)]; exact hdv
  clear hr h4 hc hlen
  go_enter Tryd.func48, Tryd.ntmps48
  go_wp2_with fail
  clear hdv hdv2
  go_loopw [18] (fun v wr => ∃ i : Nat, i ≤ c ∧ v = .int .i64 i ∧ Rg w wr (some g) [(g, mixL (m4L ns) ns (4 * i))]) (fun v _ => c - (intOf v).toNat)
  case atStart => exact ⟨0, Nat.zero_le _, rfl, by rw [Nat.mul_zero, mixL_zero]; exact KA.out⟩
  case round =>
    obtain ⟨i, hi', rfl, hK⟩ := hrel
    have K0 := Lib.hid hK
    clear KA hK
    by_cases hlt : i < c
    · have hlen := HLEN.out
      obtain ⟨j, hj⟩ : ∃ j, 4 * i = j := ⟨_, rfl⟩
      have hle := length_m4L ns
      obtain ⟨s0, hs0⟩ : ∃ n, ns[j]? = some n := ⟨_, List.getElem?_eq_getElem (by omega)⟩
      obtain ⟨s1, hs1⟩ : ∃ n, ns[j + 1]? = some n := ⟨_, List.getElem?_eq_getElem (by omega)⟩
      obtain ⟨s2, hs2⟩ : ∃ n, ns[j + 2]? = some n := ⟨_, List.getElem?_eq_getElem (by omega)⟩
      obtain ⟨s3, hs3⟩ : ∃ n, ns[j + 3]? = some n := ⟨_, List.getElem?_eq_getElem (by omega)⟩
      have S0 := Lib.hid ((mixL_later hle (Nat.le_refl j) (by omega)).trans hs0)
      have S1 := Lib.hid ((mixL_later hle (show j ≤ j + 1 by omega) (by omega)).trans hs1)
      have S2 := Lib.hid ((mixL_later hle (show j ≤ j + 2 by omega) (by omega)).trans hs2)
      have S3 := Lib.hid ((mixL_later hle (show j ≤ j + 3 by omega) (by omega)).trans hs3)
      have X0 := Lib.hid (mixL_set hle ((m4L_at (show j < ns.length by omega)).trans (congrArg some (acc_0 hs0 hs1 hs2 hs3 (by omega)))))
      have X1 := Lib.hid (mixL_set hle ((m4L_at (show j + 1 < ns.length by omega)).trans (congrArg some (acc_1 hs0 hs1 hs2 hs3 (by omega)))))
      have X2 := Lib.hid (mixL_set hle ((m4L_at (show j + 2 < ns.length by omega)).trans (congrArg some (acc_2 hs0 hs1 hs2 hs3 (by omega)))))
      have X3 := Lib.hid (mixL_set hle ((m4L_at (show j + 3 < ns.length by omega)).trans (congrArg some (acc_3 hs0 hs1 hs2 hs3 (by omega)))))
      have Z0 := Lib.hid (show j < (mixL (m4L ns) ns j).length from by rw [length_mixL hle (by omega)]; omega)
      have Z1 := Lib.hid (show j + 1 < (mixL (m4L ns) ns (j + 1)).length from by rw [length_mixL hle (by omega)]; omega)
      have Z2 := Lib.hid (show j + 2 < (mixL (m4L ns) ns (j + 2)).length from by rw [length_mixL hle (by omega)]; omega)
      have Z3 := Lib.hid (show j + 3 < (mixL (m4L ns) ns (j + 3)).length from by rw [length_mixL hle (by omega)]; omega)
      have HJ := Lib.hid (show 4 * (i + 1) = j + 4 by omega)
      rw [hj] at K0
      have KN := Lib.hid ((((((((K0.out.alloc [0] zero_row (b := wr.heap.size) (by simp)).alloc [0] zero_row (b := wr.heap.size + 1) (by simp)).alloc [0] zero_row (b := wr.heap.size + 1 + 1) (by simp)).alloc [0] zero_row (b := wr.heap.size + 1 + 1 + 1) (by simp)).alloc [0] zero_row (b := wr.heap.size + 1 + 1 + 1 + 1) (by simp)).alloc [0] zero_row (b := wr.heap.size + 1 + 1 + 1 + 1 + 1) (by simp)).alloc [0] zero_row (b := wr.heap.size + 1 + 1 + 1 + 1 + 1 + 1) (by simp)).alloc [0] zero_row (b := wr.heap.size + 1 + 1 + 1 + 1 + 1 + 1 + 1) (by simp))
      have hi6 : (i : Int) < 65536 := by omega
      have b0 : (j : Int) < (ns.length : Int) := by omega
      have b1 : (j : Int) + 1 < (ns.length : Int) := by omega
      have b2 : (j : Int) + 2 < (ns.length : Int) := by omega
      have b3 : (j : Int) + 3 < (ns.length : Int) := by omega
      have c1 : (0 : Int) ≤ (j : Int) + 1 := by omega
      have c2 : (0 : Int) ≤ (j : Int) + 2 := by omega
      have c3 : (0 : Int) ≤ (j : Int) + 3 := by omega
      have d0 : IntKind.i64.wrap (4 * (i : Int)) = (j : Int) := by rw [IntKind.wrap_i64]; omega
      have d1 : IntKind.i64.wrap ((j : Int) + 1) = (j : Int) + 1 := by rw [IntKind.wrap_i64]; omega
      have d2 : IntKind.i64.wrap ((j : Int) + 2) = (j : Int) + 2 := by rw [IntKind.wrap_i64]; omega
      have d3 : IntKind.i64.wrap ((j : Int) + 3) = (j : Int) + 3 := by rw [IntKind.wrap_i64]; omega
      have e1 : ((j : Int) + 1).toNat = j + 1 := by omega
      have e2 : ((j : Int) + 2).toNat = j + 2 := by omega
      have e3 : ((j : Int) + 3).toNat = j + 3 := by omega
      clear hj hs0 hs1 hs2 hs3 hlen hle K0
      have K0 := KN
      clear KN
      go_wp2_with fail
      have KD := Lib.hid K0.out.drew
      clear K0
      have K0 := KD
      clear KD
      go_region_held3 (fun _ => True) (exact trivial)
        (first | (go_at_call 57; refine (K0.out.add 7 0 8 j 8 (j + 1) rfl rfl rfl (by simp) S0.out S1.out rfl rfl rfl).mono ?_; rintro e w1 ⟨rfl, h⟩; have K1 := Lib.hid (show Rg w w1 (some g) [(wr.heap.size + 1 + 1 + 1 + 1 + 1 + 1 + 1, [0]), (wr.heap.size + 1 + 1 + 1 + 1 + 1 + 1, [0]), (wr.heap.size + 1 + 1 + 1 + 1 + 1, [0]), (wr.heap.size + 1 + 1 + 1 + 1, [0]), (wr.heap.size + 1 + 1 + 1, [0]), (wr.heap.size + 1 + 1, [0]), (wr.heap.size + 1, [0]), (wr.heap.size, [(s0 + s1) % fp]), (g, mixL (m4L ns) ns j)] from h); clear K0 h))
      go_wp2_with fail
      have KD := Lib.hid K1.out.drew
      clear K1
      have K1 := KD
      clear KD
      go_region_held3 (fun _ => True) (exact trivial)
        (first | (go_at_call 57; refine (K1.out.add 6 0 8 (j + 2) 8 (j + 3) rfl rfl rfl (by simp) S2.out S3.out rfl rfl rfl).mono ?_; rintro e w2 ⟨rfl, h⟩; have K2 := Lib.hid (show Rg w w2 (some g) [(wr.heap.size + 1 + 1 + 1 + 1 + 1 + 1 + 1, [0]), (wr.heap.size + 1 + 1 + 1 + 1 + 1 + 1, [0]), (wr.heap.size + 1 + 1 + 1 + 1 + 1, [0]), (wr.heap.size + 1 + 1 + 1 + 1, [0]), (wr.heap.size + 1 + 1 + 1, [0]), (wr.heap.size + 1 + 1, [0]), (wr.heap.size + 1, [(s2 + s3) % fp]), (wr.heap.size, [(s0 + s1) % fp]), (g, mixL (m4L ns) ns j)] from h); clear K1 h))
      go_wp2_with fail
      refine (K2.out.dbl 5 0 8 (j + 1) rfl rfl (by simp) S1.out rfl rfl).mono ?_
      rintro e w3 ⟨rfl, h⟩
      have K3 := Lib.hid (show Rg w w3 (some g) [(wr.heap.size + 1 + 1 + 1 + 1 + 1 + 1 + 1, [0]), (wr.heap.size + 1 + 1 + 1 + 1 + 1 + 1, [0]), (wr.heap.size + 1 + 1 + 1 + 1 + 1, [0]), (wr.heap.size + 1 + 1 + 1 + 1, [0]), (wr.heap.size + 1 + 1 + 1, [0]), (wr.heap.size + 1 + 1, [(s1 + s1) % fp]), (wr.heap.size + 1, [(s2 + s3) % fp]), (wr.heap.size, [(s0 + s1) % fp]), (g, mixL (m4L ns) ns j)] from h)
      clear K2 h
      go_wp2_with fail
      refine (K3.out.add 5 0 5 0 6 0 rfl rfl rfl (by simp) rfl rfl rfl rfl rfl).mono ?_
      rintro e w4 ⟨rfl, h⟩
      have K4 := Lib.hid (show Rg w w4 (some g) [(wr.heap.size + 1 + 1 + 1 + 1 + 1 + 1 + 1, [0]), (wr.heap.size + 1 + 1 + 1 + 1 + 1 + 1, [0]), (wr.heap.size + 1 + 1 + 1 + 1 + 1, [0]), (wr.heap.size + 1 + 1 + 1 + 1, [0]), (wr.heap.size + 1 + 1 + 1, [0]), (wr.heap.size + 1 + 1, [(((s1 + s1) % fp) + ((s2 + s3) % fp)) % fp]), (wr.heap.size + 1, [(s2 + s3) % fp]), (wr.heap.size, [(s0 + s1) % fp]), (g, mixL (m4L ns) ns j)] from h)
      clear K3 h
      go_wp2_with fail
      refine (K4.out.dbl 4 0 8 (j + 3) rfl rfl (by simp) S3.out rfl rfl).mono ?_
      rintro e w5 ⟨rfl, h⟩
      have K5 := Lib.hid (show Rg w w5 (some g) [(wr.heap.size + 1 + 1 + 1 + 1 + 1 + 1 + 1, [0]), (wr.heap.size + 1 + 1 + 1 + 1 + 1 + 1, [0]), (wr.heap.size + 1 + 1 + 1 + 1 + 1, [0]), (wr.heap.size + 1 + 1 + 1 + 1, [0]), (wr.heap.size + 1 + 1 + 1, [(s3 + s3) % fp]), (wr.heap.size + 1 + 1, [(((s1 + s1) % fp) + ((s2 + s3) % fp)) % fp]), (wr.heap.size + 1, [(s2 + s3) % fp]), (wr.heap.size, [(s0 + s1) % fp]), (g, mixL (m4L ns) ns j)] from h)
      clear K4 h
      go_wp2_with fail
      refine (K5.out.add 4 0 4 0 7 0 rfl rfl rfl (by simp) rfl rfl rfl rfl rfl).mono ?_
      rintro e w6 ⟨rfl, h⟩
      have K6 := Lib.hid (show Rg w w6 (some g) [(wr.heap.size + 1 + 1 + 1 + 1 + 1 + 1 + 1, [0]), (wr.heap.size + 1 + 1 + 1 + 1 + 1 + 1, [0]), (wr.heap.size + 1 + 1 + 1 + 1 + 1, [0]), (wr.heap.size + 1 + 1 + 1 + 1, [0]), (wr.heap.size + 1 + 1 + 1, [(((s3 + s3) % fp) + ((s0 + s1) % fp)) % fp]), (wr.heap.size + 1 + 1, [(((s1 + s1) % fp) + ((s2 + s3) % fp)) % fp]), (wr.heap.size + 1, [(s2 + s3) % fp]), (wr.heap.size, [(s0 + s1) % fp]), (g, mixL (m4L ns) ns j)] from h)
      clear K5 h
      go_wp2_with fail
      refine (K6.out.dbl 3 0 6 0 rfl rfl (by simp) rfl rfl rfl).mono ?_
      rintro e w7 ⟨rfl, h⟩
      have K7 := Lib.hid (show Rg w w7 (some g) [(wr.heap.size + 1 + 1 + 1 + 1 + 1 + 1 + 1, [0]), (wr.heap.size + 1 + 1 + 1 + 1 + 1 + 1, [0]), (wr.heap.size + 1 + 1 + 1 + 1 + 1, [0]), (wr.heap.size + 1 + 1 + 1 + 1, [(((s2 + s3) % fp) + ((s2 + s3) % fp)) % fp]), (wr.heap.size + 1 + 1 + 1, [(((s3 + s3) % fp) + ((s0 + s1) % fp)) % fp]), (wr.heap.size + 1 + 1, [(((s1 + s1) % fp) + ((s2 + s3) % fp)) % fp]), (wr.heap.size + 1, [(s2 + s3) % fp]), (wr.heap.size, [(s0 + s1) % fp]), (g, mixL (m4L ns) ns j)] from h)
      clear K6 h
      go_wp2_with fail
      refine (K7.out.dbl 3 0 3 0 rfl rfl (by simp) rfl rfl rfl).mono ?_
      rintro e w8 ⟨rfl, h⟩
      have K8 := Lib.hid (show Rg w w8 (some g) [(wr.heap.size + 1 + 1 + 1 + 1 + 1 + 1 + 1, [0]), (wr.heap.size + 1 + 1 + 1 + 1 + 1 + 1, [0]), (wr.heap.size + 1 + 1 + 1 + 1 + 1, [0]), (wr.heap.size + 1 + 1 + 1 + 1, [(((((s2 + s3) % fp) + ((s2 + s3) % fp)) % fp) + ((((s2 + s3) % fp) + ((s2 + s3) % fp)) % fp)) % fp]), (wr.heap.size + 1 + 1 + 1, [(((s3 + s3) % fp) + ((s0 + s1) % fp)) % fp]), (wr.heap.size + 1 + 1, [(((s1 + s1) % fp) + ((s2 + s3) % fp)) % fp]), (wr.heap.size + 1, [(s2 + s3) % fp]), (wr.heap.size, [(s0 + s1) % fp]), (g, mixL (m4L ns) ns j)] from h)
      clear K7 h
      go_wp2_with fail
      refine (K8.out.add 3 0 3 0 4 0 rfl rfl rfl (by simp) rfl rfl rfl rfl rfl).mono ?_
      rintro e w9 ⟨rfl, h⟩
      have K9 := Lib.hid (show Rg w w9 (some g) [(wr.heap.size + 1 + 1 + 1 + 1 + 1 + 1 + 1, [0]), (wr.heap.size + 1 + 1 + 1 + 1 + 1 + 1, [0]), (wr.heap.size + 1 + 1 + 1 + 1 + 1, [0]), (wr.heap.size + 1 + 1 + 1 + 1, [(((((((s2 + s3) % fp) + ((s2 + s3) % fp)) % fp) + ((((s2 + s3) % fp) + ((s2 + s3) % fp)) % fp)) % fp) + ((((s3 + s3) % fp) + ((s0 + s1) % fp)) % fp)) % fp]), (wr.heap.size + 1 + 1 + 1, [(((s3 + s3) % fp) + ((s0 + s1) % fp)) % fp]), (wr.heap.size + 1 + 1, [(((s1 + s1) % fp) + ((s2 + s3) % fp)) % fp]), (wr.heap.size + 1, [(s2 + s3) % fp]), (wr.heap.size, [(s0 + s1) % fp]), (g, mixL (m4L ns) ns j)] from h)
      clear K8 h
      go_wp2_with fail
      refine (K9.out.dbl 2 0 7 0 rfl rfl (by simp) rfl rfl rfl).mono ?_
      rintro e w10 ⟨rfl, h⟩
      have K10 := Lib.hid (show Rg w w10 (some g) [(wr.heap.size + 1 + 1 + 1 + 1 + 1 + 1 + 1, [0]), (wr.heap.size + 1 + 1 + 1 + 1 + 1 + 1, [0]), (wr.heap.size + 1 + 1 + 1 + 1 + 1, [(((s0 + s1) % fp) + ((s0 + s1) % fp)) % fp]), (wr.heap.size + 1 + 1 + 1 + 1, [(((((((s2 + s3) % fp) + ((s2 + s3) % fp)) % fp) + ((((s2 + s3) % fp) + ((s2 + s3) % fp)) % fp)) % fp) + ((((s3 + s3) % fp) + ((s0 + s1) % fp)) % fp)) % fp]), (wr.heap.size + 1 + 1 + 1, [(((s3 + s3) % fp) + ((s0 + s1) % fp)) % fp]), (wr.heap.size + 1 + 1, [(((s1 + s1) % fp) + ((s2 + s3) % fp)) % fp]), (wr.heap.size + 1, [(s2 + s3) % fp]), (wr.heap.size, [(s0 + s1) % fp]), (g, mixL (m4L ns) ns j)] from h)
      clear K9 h
      go_wp2_with fail
      refine (K10.out.dbl 2 0 2 0 rfl rfl (by simp) rfl rfl rfl).mono ?_
      rintro e w11 ⟨rfl, h⟩
      have K11 := Lib.hid (show Rg w w11 (some g) [(wr.heap.size + 1 + 1 + 1 + 1 + 1 + 1 + 1, [0]), (wr.heap.size + 1 + 1 + 1 + 1 + 1 + 1, [0]), (wr.heap.size + 1 + 1 + 1 + 1 + 1, [(((((s0 + s1) % fp) + ((s0 + s1) % fp)) % fp) + ((((s0 + s1) % fp) + ((s0 + s1) % fp)) % fp)) % fp]), (wr.heap.size + 1 + 1 + 1 + 1, [(((((((s2 + s3) % fp) + ((s2 + s3) % fp)) % fp) + ((((s2 + s3) % fp) + ((s2 + s3) % fp)) % fp)) % fp) + ((((s3 + s3) % fp) + ((s0 + s1) % fp)) % fp)) % fp]), (wr.heap.size + 1 + 1 + 1, [(((s3 + s3) % fp) + ((s0 + s1) % fp)) % fp]), (wr.heap.size + 1 + 1, [(((s1 + s1) % fp) + ((s2 + s3) % fp)) % fp]), (wr.heap.size + 1, [(s2 + s3) % fp]), (wr.heap.size, [(s0 + s1) % fp]), (g, mixL (m4L ns) ns j)] from h)
      clear K10 h
      go_wp2_with fail
      refine (K11.out.add 2 0 2 0 5 0 rfl rfl rfl (by simp) rfl rfl rfl rfl rfl).mono ?_
      rintro e w12 ⟨rfl, h⟩
      have K12 := Lib.hid (show Rg w w12 (some g) [(wr.heap.size + 1 + 1 + 1 + 1 + 1 + 1 + 1, [0]), (wr.heap.size + 1 + 1 + 1 + 1 + 1 + 1, [0]), (wr.heap.size + 1 + 1 + 1 + 1 + 1, [(((((((s0 + s1) % fp) + ((s0 + s1) % fp)) % fp) + ((((s0 + s1) % fp) + ((s0 + s1) % fp)) % fp)) % fp) + ((((s1 + s1) % fp) + ((s2 + s3) % fp)) % fp)) % fp]), (wr.heap.size + 1 + 1 + 1 + 1, [(((((((s2 + s3) % fp) + ((s2 + s3) % fp)) % fp) + ((((s2 + s3) % fp) + ((s2 + s3) % fp)) % fp)) % fp) + ((((s3 + s3) % fp) + ((s0 + s1) % fp)) % fp)) % fp]), (wr.heap.size + 1 + 1 + 1, [(((s3 + s3) % fp) + ((s0 + s1) % fp)) % fp]), (wr.heap.size + 1 + 1, [(((s1 + s1) % fp) + ((s2 + s3) % fp)) % fp]), (wr.heap.size + 1, [(s2 + s3) % fp]), (wr.heap.size, [(s0 + s1) % fp]), (g, mixL (m4L ns) ns j)] from h)
      clear K11 h
      go_wp2_with fail
      refine (K12.out.add 1 0 4 0 2 0 rfl rfl rfl (by simp) rfl rfl rfl rfl rfl).mono ?_
      rintro e w13 ⟨rfl, h⟩
      have K13 := Lib.hid (show Rg w w13 (some g) [(wr.heap.size + 1 + 1 + 1 + 1 + 1 + 1 + 1, [0]), (wr.heap.size + 1 + 1 + 1 + 1 + 1 + 1, [(((((s3 + s3) % fp) + ((s0 + s1) % fp)) % fp) + ((((((((s0 + s1) % fp) + ((s0 + s1) % fp)) % fp) + ((((s0 + s1) % fp) + ((s0 + s1) % fp)) % fp)) % fp) + ((((s1 + s1) % fp) + ((s2 + s3) % fp)) % fp)) % fp)) % fp]), (wr.heap.size + 1 + 1 + 1 + 1 + 1, [(((((((s0 + s1) % fp) + ((s0 + s1) % fp)) % fp) + ((((s0 + s1) % fp) + ((s0 + s1) % fp)) % fp)) % fp) + ((((s1 + s1) % fp) + ((s2 + s3) % fp)) % fp)) % fp]), (wr.heap.size + 1 + 1 + 1 + 1, [(((((((s2 + s3) % fp) + ((s2 + s3) % fp)) % fp) + ((((s2 + s3) % fp) + ((s2 + s3) % fp)) % fp)) % fp) + ((((s3 + s3) % fp) + ((s0 + s1) % fp)) % fp)) % fp]), (wr.heap.size + 1 + 1 + 1, [(((s3 + s3) % fp) + ((s0 + s1) % fp)) % fp]), (wr.heap.size + 1 + 1, [(((s1 + s1) % fp) + ((s2 + s3) % fp)) % fp]), (wr.heap.size + 1, [(s2 + s3) % fp]), (wr.heap.size, [(s0 + s1) % fp]), (g, mixL (m4L ns) ns j)] from h)
      clear K12 h
      go_wp2_with fail
      refine (K13.out.add 0 0 5 0 3 0 rfl rfl rfl (by simp) rfl rfl rfl rfl rfl).mono ?_
      rintro e w14 ⟨rfl, h⟩
      have K14 := Lib.hid (show Rg w w14 (some g) [(wr.heap.size + 1 + 1 + 1 + 1 + 1 + 1 + 1, [(((((s1 + s1) % fp) + ((s2 + s3) % fp)) % fp) + ((((((((s2 + s3) % fp) + ((s2 + s3) % fp)) % fp) + ((((s2 + s3) % fp) + ((s2 + s3) % fp)) % fp)) % fp) + ((((s3 + s3) % fp) + ((s0 + s1) % fp)) % fp)) % fp)) % fp]), (wr.heap.size + 1 + 1 + 1 + 1 + 1 + 1, [(((((s3 + s3) % fp) + ((s0 + s1) % fp)) % fp) + ((((((((s0 + s1) % fp) + ((s0 + s1) % fp)) % fp) + ((((s0 + s1) % fp) + ((s0 + s1) % fp)) % fp)) % fp) + ((((s1 + s1) % fp) + ((s2 + s3) % fp)) % fp)) % fp)) % fp]), (wr.heap.size + 1 + 1 + 1 + 1 + 1, [(((((((s0 + s1) % fp) + ((s0 + s1) % fp)) % fp) + ((((s0 + s1) % fp) + ((s0 + s1) % fp)) % fp)) % fp) + ((((s1 + s1) % fp) + ((s2 + s3) % fp)) % fp)) % fp]), (wr.heap.size + 1 + 1 + 1 + 1, [(((((((s2 + s3) % fp) + ((s2 + s3) % fp)) % fp) + ((((s2 + s3) % fp) + ((s2 + s3) % fp)) % fp)) % fp) + ((((s3 + s3) % fp) + ((s0 + s1) % fp)) % fp)) % fp]), (wr.heap.size + 1 + 1 + 1, [(((s3 + s3) % fp) + ((s0 + s1) % fp)) % fp]), (wr.heap.size + 1 + 1, [(((s1 + s1) % fp) + ((s2 + s3) % fp)) % fp]), (wr.heap.size + 1, [(s2 + s3) % fp]), (wr.heap.size, [(s0 + s1) % fp]), (g, mixL (m4L ns) ns j)] from h)
      clear K13 h
      go_wp2_with fail
      refine (K14.out.set_ 8 j 1 0 rfl rfl Z0.out rfl rfl rfl).mono ?_
      rintro e w15 ⟨rfl, h⟩
      have K15 := Lib.hid (show Rg w w15 (some g) [(wr.heap.size + 1 + 1 + 1 + 1 + 1 + 1 + 1, [(((((s1 + s1) % fp) + ((s2 + s3) % fp)) % fp) + ((((((((s2 + s3) % fp) + ((s2 + s3) % fp)) % fp) + ((((s2 + s3) % fp) + ((s2 + s3) % fp)) % fp)) % fp) + ((((s3 + s3) % fp) + ((s0 + s1) % fp)) % fp)) % fp)) % fp]), (wr.heap.size + 1 + 1 + 1 + 1 + 1 + 1, [(((((s3 + s3) % fp) + ((s0 + s1) % fp)) % fp) + ((((((((s0 + s1) % fp) + ((s0 + s1) % fp)) % fp) + ((((s0 + s1) % fp) + ((s0 + s1) % fp)) % fp)) % fp) + ((((s1 + s1) % fp) + ((s2 + s3) % fp)) % fp)) % fp)) % fp]), (wr.heap.size + 1 + 1 + 1 + 1 + 1, [(((((((s0 + s1) % fp) + ((s0 + s1) % fp)) % fp) + ((((s0 + s1) % fp) + ((s0 + s1) % fp)) % fp)) % fp) + ((((s1 + s1) % fp) + ((s2 + s3) % fp)) % fp)) % fp]), (wr.heap.size + 1 + 1 + 1 + 1, [(((((((s2 + s3) % fp) + ((s2 + s3) % fp)) % fp) + ((((s2 + s3) % fp) + ((s2 + s3) % fp)) % fp)) % fp) + ((((s3 + s3) % fp) + ((s0 + s1) % fp)) % fp)) % fp]), (wr.heap.size + 1 + 1 + 1, [(((s3 + s3) % fp) + ((s0 + s1) % fp)) % fp]), (wr.heap.size + 1 + 1, [(((s1 + s1) % fp) + ((s2 + s3) % fp)) % fp]), (wr.heap.size + 1, [(s2 + s3) % fp]), (wr.heap.size, [(s0 + s1) % fp]), (g, mixL (m4L ns) ns (j + 1))] from X0.out ▸ h)
      clear K14 h
      go_wp2_with fail
      refine (K15.out.set_ 8 (j + 1) 2 0 rfl rfl Z1.out rfl rfl rfl).mono ?_
      rintro e w16 ⟨rfl, h⟩
      have K16 := Lib.hid (show Rg w w16 (some g) [(wr.heap.size + 1 + 1 + 1 + 1 + 1 + 1 + 1, [(((((s1 + s1) % fp) + ((s2 + s3) % fp)) % fp) + ((((((((s2 + s3) % fp) + ((s2 + s3) % fp)) % fp) + ((((s2 + s3) % fp) + ((s2 + s3) % fp)) % fp)) % fp) + ((((s3 + s3) % fp) + ((s0 + s1) % fp)) % fp)) % fp)) % fp]), (wr.heap.size + 1 + 1 + 1 + 1 + 1 + 1, [(((((s3 + s3) % fp) + ((s0 + s1) % fp)) % fp) + ((((((((s0 + s1) % fp) + ((s0 + s1) % fp)) % fp) + ((((s0 + s1) % fp) + ((s0 + s1) % fp)) % fp)) % fp) + ((((s1 + s1) % fp) + ((s2 + s3) % fp)) % fp)) % fp)) % fp]), (wr.heap.size + 1 + 1 + 1 + 1 + 1, [(((((((s0 + s1) % fp) + ((s0 + s1) % fp)) % fp) + ((((s0 + s1) % fp) + ((s0 + s1) % fp)) % fp)) % fp) + ((((s1 + s1) % fp) + ((s2 + s3) % fp)) % fp)) % fp]), (wr.heap.size + 1 + 1 + 1 + 1, [(((((((s2 + s3) % fp) + ((s2 + s3) % fp)) % fp) + ((((s2 + s3) % fp) + ((s2 + s3) % fp)) % fp)) % fp) + ((((s3 + s3) % fp) + ((s0 + s1) % fp)) % fp)) % fp]), (wr.heap.size + 1 + 1 + 1, [(((s3 + s3) % fp) + ((s0 + s1) % fp)) % fp]), (wr.heap.size + 1 + 1, [(((s1 + s1) % fp) + ((s2 + s3) % fp)) % fp]), (wr.heap.size + 1, [(s2 + s3) % fp]), (wr.heap.size, [(s0 + s1) % fp]), (g, mixL (m4L ns) ns (j + 2))] from X1.out ▸ h)
      clear K15 h
      go_wp2_with fail
      refine (K16.out.set_ 8 (j + 2) 0 0 rfl rfl Z2.out rfl rfl rfl).mono ?_
      rintro e w17 ⟨rfl, h⟩
      have K17 := Lib.hid (show Rg w w17 (some g) [(wr.heap.size + 1 + 1 + 1 + 1 + 1 + 1 + 1, [(((((s1 + s1) % fp) + ((s2 + s3) % fp)) % fp) + ((((((((s2 + s3) % fp) + ((s2 + s3) % fp)) % fp) + ((((s2 + s3) % fp) + ((s2 + s3) % fp)) % fp)) % fp) + ((((s3 + s3) % fp) + ((s0 + s1) % fp)) % fp)) % fp)) % fp]), (wr.heap.size + 1 + 1 + 1 + 1 + 1 + 1, [(((((s3 + s3) % fp) + ((s0 + s1) % fp)) % fp) + ((((((((s0 + s1) % fp) + ((s0 + s1) % fp)) % fp) + ((((s0 + s1) % fp) + ((s0 + s1) % fp)) % fp)) % fp) + ((((s1 + s1) % fp) + ((s2 + s3) % fp)) % fp)) % fp)) % fp]), (wr.heap.size + 1 + 1 + 1 + 1 + 1, [(((((((s0 + s1) % fp) + ((s0 + s1) % fp)) % fp) + ((((s0 + s1) % fp) + ((s0 + s1) % fp)) % fp)) % fp) + ((((s1 + s1) % fp) + ((s2 + s3) % fp)) % fp)) % fp]), (wr.heap.size + 1 + 1 + 1 + 1, [(((((((s2 + s3) % fp) + ((s2 + s3) % fp)) % fp) + ((((s2 + s3) % fp) + ((s2 + s3) % fp)) % fp)) % fp) + ((((s3 + s3) % fp) + ((s0 + s1) % fp)) % fp)) % fp]), (wr.heap.size + 1 + 1 + 1, [(((s3 + s3) % fp) + ((s0 + s1) % fp)) % fp]), (wr.heap.size + 1 + 1, [(((s1 + s1) % fp) + ((s2 + s3) % fp)) % fp]), (wr.heap.size + 1, [(s2 + s3) % fp]), (wr.heap.size, [(s0 + s1) % fp]), (g, mixL (m4L ns) ns (j + 3))] from X2.out ▸ h)
      clear K16 h
      go_wp2_with fail
      refine (K17.out.set_ 8 (j + 3) 3 0 rfl rfl Z3.out rfl rfl rfl).mono ?_
      rintro e w18 ⟨rfl, h⟩
      have K18 := Lib.hid (show Rg w w18 (some g) [(wr.heap.size + 1 + 1 + 1 + 1 + 1 + 1 + 1, [(((((s1 + s1) % fp) + ((s2 + s3) % fp)) % fp) + ((((((((s2 + s3) % fp) + ((s2 + s3) % fp)) % fp) + ((((s2 + s3) % fp) + ((s2 + s3) % fp)) % fp)) % fp) + ((((s3 + s3) % fp) + ((s0 + s1) % fp)) % fp)) % fp)) % fp]), (wr.heap.size + 1 + 1 + 1 + 1 + 1 + 1, [(((((s3 + s3) % fp) + ((s0 + s1) % fp)) % fp) + ((((((((s0 + s1) % fp) + ((s0 + s1) % fp)) % fp) + ((((s0 + s1) % fp) + ((s0 + s1) % fp)) % fp)) % fp) + ((((s1 + s1) % fp) + ((s2 + s3) % fp)) % fp)) % fp)) % fp]), (wr.heap.size + 1 + 1 + 1 + 1 + 1, [(((((((s0 + s1) % fp) + ((s0 + s1) % fp)) % fp) + ((((s0 + s1) % fp) + ((s0 + s1) % fp)) % fp)) % fp) + ((((s1 + s1) % fp) + ((s2 + s3) % fp)) % fp)) % fp]), (wr.heap.size + 1 + 1 + 1 + 1, [(((((((s2 + s3) % fp) + ((s2 + s3) % fp)) % fp) + ((((s2 + s3) % fp) + ((s2 + s3) % fp)) % fp)) % fp) + ((((s3 + s3) % fp) + ((s0 + s1) % fp)) % fp)) % fp]), (wr.heap.size + 1 + 1 + 1, [(((s3 + s3) % fp) + ((s0 + s1) % fp)) % fp]), (wr.heap.size + 1 + 1, [(((s1 + s1) % fp) + ((s2 + s3) % fp)) % fp]), (wr.heap.size + 1, [(s2 + s3) % fp]), (wr.heap.size, [(s0 + s1) % fp]), (g, mixL (m4L ns) ns (j + 4))] from X3.out ▸ h)
      clear K17 h
      go_wp2_with fail
      go_roundw
      case rel => exact ⟨i + 1, by omega, by go_num, by rw [HJ.out]; exact K18.out.pick (j := 8) rfl⟩
      case measure => simp [intOf] <;> omega
    · obtain rfl : i = c := by omega
      have h := K0.out
      rw [← HLEN.out, mixL_full (length_m4L ns)] at h
      have K1 := Lib.hid h
      clear h K0
      go_wp2_with fail
      go_end0
      exact ⟨rfl, K1.out.row (j := 0) rfl, K1.out.1⟩
end Go.Proofs.YtodofaoaenddgaaDoor
