/-
  The laws over one matrix, walked: FnMatMulM4, FnExternal, FnInternal. Printed by gen_law.py.
-/
import Derived.Test.YtodofaoaenddgaaDoorDp
namespace Go.Proofs.YtodofaoaenddgaaDoor
open Go.RowKit Go.Lib Fr
attribute [local go_sem] setCell_drewN alloc_drewN

theorem Blk.lb {w : World} {b : Nat} {t : TypeId} {ns : List Int} (h : Blk w b t (btsL ns).toArray) : LB w b 0 ns := fun i n hi j hj => by
  rw [h.cell, Nat.zero_add, List.getElem?_toArray]; exact btsL_at ns i n j hi hj
theorem Blk.le {w : World} {b : Nat} {t : TypeId} {ns : List Int} (h : Blk w b t (hwsL ns).toArray) : LE w b 0 ns := fun i n hi j hj => by
  rw [h.cell, Nat.zero_add, List.getElem?_toArray]; exact hwsL_at ns i n j hi hj
theorem all_of {ns : List Int} {most : Int} (h : (decide ((ns.length : Int) ≤ most) && ns.all fun n => decide (n < fp)) = true) : (ns.length : Int) ≤ most ∧ ∀ n ∈ ns, n < fp := by
  rw [Bool.and_eq_true, decide_eq_true_iff, List.all_eq_true] at h
  exact ⟨h.1, fun n hn => by simpa using h.2 n hn⟩
theorem two_or_three {ns : List Int} (h2 : 2 ≤ ns.length) (h3 : ns.length ≤ 3) : (∃ x y, ns = [x, y]) ∨ ∃ x y z, ns = [x, y, z] := by
  match ns, h2, h3 with
  | [x, y], _, _ => exact .inl ⟨x, y, rfl⟩
  | [x, y, z], _, _ => exact .inr ⟨x, y, z, rfl⟩
theorem bel {w a b : World} (h : RowKit.Below w.heap.size w a) (k : RowKit.Below a.heap.size a b) : RowKit.Below w.heap.size w b := h.trans (k.mono h.size)

set_option maxHeartbeats 1000000 in
set_option maxRecDepth 100000 in
theorem lawM4_main (g o cap : Nat) (ns : List Int) (w : World) (hl : LB w g o ns) (hn : ∀ n ∈ ns, 0 ≤ n ∧ n < fp) (h0 : 0 < ns.length) (h8 : ns.length ≤ 8) (h4 : ns.length % 4 = 0) :
    Calls Tryd.prog 3 #[.slice (some ⟨g, o, none⟩) ns.length cap] w fun e w' =>
      e = .returned (.bool true) ∧ Below w.heap.size w w' := by
  have HL := Lib.hid hl
  have HN := Lib.hid hn
  have HU := Lib.hid (fun n (h : n ∈ ns) => num_of_fp (hn n h).1 (hn n h).2)
  have HA := Lib.hid (show (ns.all fun n => decide (n < fp)) = true from by rw [List.all_eq_true]; exact fun n h => decide_eq_true (hn n h).2)
  have H4 := Lib.hid h4
  have hz : ((ns.length : Int) == 0) = false := beq_eq_false_iff_ne.2 (by omega)
  have hm1 : (ns.length : Int) % 4 = 0 := by omega
  have hm2 : (ns.length : Int).tmod 4 = 0 := by rw [Int.tmod_eq_emod_of_nonneg (by omega)]; exact hm1
  clear h4
  clear hl hn
  go_enter Tryd.func3, Tryd.ntmps3
  go_wp2_with fail
  have AL := all_any (some ⟨g, o, none⟩) g o cap ns 8 w (fun _ => rfl) HL.out HU.out (by decide)
  rw [HA.out, Bool.and_true, decide_eq_true (by omega)] at AL
  refine AL.mono ?_
  rintro e w1 ⟨rfl, h1⟩
  have B1 := Lib.hid h1
  clear h1 AL
  go_wp2_with fail
  refine (doM4_any g o cap ns w1 (HL.out.next B1.out) HN.out h0 (by omega) H4.out).mono ?_
  rintro e w2 ⟨b2, rfl, hb2, hB2, h2⟩
  have L2 := Lib.hid hB2.lb
  have B2 := Lib.hid (bel B1.out h2)
  clear hB2 h2 hb2
  go_wp2_with fail
  have NU := numbers_any (some ⟨g, o, none⟩) g o cap ns w2 (fun _ => rfl) (HL.out.next B2.out) HU.out (by omega)
  refine NU.mono ?_
  rintro e w3 ⟨v, rfl, hO, h3⟩
  obtain ⟨ao, g3, c3, hv, ha3, hE3⟩ := ownsRow_LE hO
  have hao := ha3 (by omega)
  rw [hao] at hv
  rw [hv]
  have E3 := Lib.hid hE3
  have L3 := Lib.hid (L2.out.next h3)
  have B3 := Lib.hid (bel B2.out h3)
  clear hE3 hO h3 ha3 hao hv L2 NU
  go_wp2_with fail
  refine (matM4_any g3 0 c3 ns w3 E3.out HN.out (by omega) H4.out).mono ?_
  rintro e w4 ⟨b4, rfl, hb4, hB4, h4⟩
  have L4 := Lib.hid (L3.out.next h4)
  have E4 := Lib.hid hB4.le
  have B4 := Lib.hid (bel B3.out h4)
  clear hB4 h4 hb4 L3 E3
  go_wp2_with fail
  have AR := are_yes b2 0 ns.length b4 0 ns.length (m4L ns) w4 L4.out E4.out (by rw [length_m4L]; omega)
  rw [show (m4L ns).length = ns.length from (length_m4L ns)] at AR
  refine AR.mono ?_
  rintro e w5 ⟨rfl, h5⟩
  have B5 := Lib.hid (bel B4.out h5)
  clear h5 AR
  go_wp2_with fail
  go_ret
  exact ⟨rfl, B5.out⟩

set_option maxHeartbeats 1000000 in
set_option maxRecDepth 100000 in
theorem lawExt2_main (g o cap : Nat) (x y : Int) (w : World) (hl : LB w g o [x, y]) (hn : ∀ n ∈ [x, y], 0 ≤ n ∧ n < fp) :
    Calls Tryd.prog 6 #[.slice (some ⟨g, o, none⟩) 2 cap] w fun e w' =>
      e = .returned (.bool true) ∧ Below w.heap.size w w' := by
  have HL := Lib.hid hl
  have HN := Lib.hid hn
  have HU := Lib.hid (fun n (h : n ∈ [x, y]) => num_of_fp (hn n h).1 (hn n h).2)
  have HA := Lib.hid (show ([x, y].all fun n => decide (n < fp)) = true from by rw [List.all_eq_true]; exact fun n h => decide_eq_true (hn n h).2)
  clear hl hn
  go_enter Tryd.func6, Tryd.ntmps6
  go_wp2_with fail
  have AL := all_any (some ⟨g, o, none⟩) g o cap [x, y] 3 w (fun _ => rfl) HL.out HU.out (by decide)
  rw [HA.out, Bool.and_true, decide_eq_true (by simp)] at AL
  refine AL.mono ?_
  rintro e w1 ⟨rfl, h1⟩
  have B1 := Lib.hid h1
  clear h1 AL
  go_wp2_with fail
  refine (doExt2_any g o cap x y w1 (HL.out.next B1.out) HN.out).mono ?_
  rintro e w2 ⟨b2, rfl, hb2, hB2, h2⟩
  have L2 := Lib.hid hB2.lb
  have B2 := Lib.hid (bel B1.out h2)
  clear hB2 h2 hb2
  go_wp2_with fail
  have NU := numbers_any (some ⟨g, o, none⟩) g o cap [x, y] w2 (fun _ => rfl) (HL.out.next B2.out) HU.out (by simp)
  refine NU.mono ?_
  rintro e w3 ⟨v, rfl, hO, h3⟩
  obtain ⟨ao, g3, c3, hv, ha3, hE3⟩ := ownsRow_LE hO
  have hao := ha3 (by simp)
  rw [hao] at hv
  rw [hv]
  have E3 := Lib.hid hE3
  have L3 := Lib.hid (L2.out.next h3)
  have B3 := Lib.hid (bel B2.out h3)
  clear hE3 hO h3 ha3 hao hv L2 NU
  go_wp2_with fail
  refine (external_any (some ⟨g3, 0, none⟩) g3 0 c3 [x, y] w3 (fun _ => rfl) E3.out HN.out (by simp) (by simp)).mono ?_
  rintro e w4 ⟨b4, rfl, hb4, hB4, h4⟩
  have L4 := Lib.hid (L3.out.next h4)
  have E4 := Lib.hid hB4.le
  have B4 := Lib.hid (bel B3.out h4)
  clear hB4 h4 hb4 L3 E3
  go_wp2_with fail
  have AR := are_yes b2 0 2 b4 0 2 (extL [x, y]) w4 L4.out E4.out (by show 2 ≤ 65536; decide)
  rw [show (extL [x, y]).length = 2 from rfl] at AR
  refine AR.mono ?_
  rintro e w5 ⟨rfl, h5⟩
  have B5 := Lib.hid (bel B4.out h5)
  clear h5 AR
  go_wp2_with fail
  go_ret
  exact ⟨rfl, B5.out⟩

set_option maxHeartbeats 1000000 in
set_option maxRecDepth 100000 in
theorem lawInt2_main (g o cap : Nat) (x y : Int) (w : World) (hl : LB w g o [x, y]) (hn : ∀ n ∈ [x, y], 0 ≤ n ∧ n < fp) :
    Calls Tryd.prog 4 #[.slice (some ⟨g, o, none⟩) 2 cap] w fun e w' =>
      e = .returned (.bool true) ∧ Below w.heap.size w w' := by
  have HL := Lib.hid hl
  have HN := Lib.hid hn
  have HU := Lib.hid (fun n (h : n ∈ [x, y]) => num_of_fp (hn n h).1 (hn n h).2)
  have HA := Lib.hid (show ([x, y].all fun n => decide (n < fp)) = true from by rw [List.all_eq_true]; exact fun n h => decide_eq_true (hn n h).2)
  clear hl hn
  go_enter Tryd.func4, Tryd.ntmps4
  go_wp2_with fail
  have AL := all_any (some ⟨g, o, none⟩) g o cap [x, y] 3 w (fun _ => rfl) HL.out HU.out (by decide)
  rw [HA.out, Bool.and_true, decide_eq_true (by simp)] at AL
  refine AL.mono ?_
  rintro e w1 ⟨rfl, h1⟩
  have B1 := Lib.hid h1
  clear h1 AL
  go_wp2_with fail
  refine (doInt2_any g o cap x y w1 (HL.out.next B1.out) HN.out).mono ?_
  rintro e w2 ⟨b2, rfl, hb2, hB2, h2⟩
  have L2 := Lib.hid hB2.lb
  have B2 := Lib.hid (bel B1.out h2)
  clear hB2 h2 hb2
  go_wp2_with fail
  have NU := numbers_any (some ⟨g, o, none⟩) g o cap [x, y] w2 (fun _ => rfl) (HL.out.next B2.out) HU.out (by simp)
  refine NU.mono ?_
  rintro e w3 ⟨v, rfl, hO, h3⟩
  obtain ⟨ao, g3, c3, hv, ha3, hE3⟩ := ownsRow_LE hO
  have hao := ha3 (by simp)
  rw [hao] at hv
  rw [hv]
  have E3 := Lib.hid hE3
  have L3 := Lib.hid (L2.out.next h3)
  have B3 := Lib.hid (bel B2.out h3)
  clear hE3 hO h3 ha3 hao hv L2 NU
  go_wp2_with fail
  refine (internal2_any (some ⟨g3, 0, none⟩) g3 0 c3 [x, y] _ w3 (fun _ => rfl) E3.out HN.out rfl).mono ?_
  rintro e w4 ⟨b4, rfl, hb4, hB4, h4⟩
  have L4 := Lib.hid (L3.out.next h4)
  have E4 := Lib.hid hB4.le
  have B4 := Lib.hid (bel B3.out h4)
  clear hB4 h4 hb4 L3 E3
  go_wp2_with fail
  have AR := are_yes b2 0 2 b4 0 2 (intL [1, 2] [x, y]) w4 L4.out E4.out (by show 2 ≤ 65536; decide)
  rw [show (intL [1, 2] [x, y]).length = 2 from rfl] at AR
  refine AR.mono ?_
  rintro e w5 ⟨rfl, h5⟩
  have B5 := Lib.hid (bel B4.out h5)
  clear h5 AR
  go_wp2_with fail
  go_ret
  exact ⟨rfl, B5.out⟩

set_option maxHeartbeats 1000000 in
set_option maxRecDepth 100000 in
theorem lawExt3_main (g o cap : Nat) (x y z : Int) (w : World) (hl : LB w g o [x, y, z]) (hn : ∀ n ∈ [x, y, z], 0 ≤ n ∧ n < fp) :
    Calls Tryd.prog 6 #[.slice (some ⟨g, o, none⟩) 3 cap] w fun e w' =>
      e = .returned (.bool true) ∧ Below w.heap.size w w' := by
  have HL := Lib.hid hl
  have HN := Lib.hid hn
  have HU := Lib.hid (fun n (h : n ∈ [x, y, z]) => num_of_fp (hn n h).1 (hn n h).2)
  have HA := Lib.hid (show ([x, y, z].all fun n => decide (n < fp)) = true from by rw [List.all_eq_true]; exact fun n h => decide_eq_true (hn n h).2)
  clear hl hn
  go_enter Tryd.func6, Tryd.ntmps6
  go_wp2_with fail
  have AL := all_any (some ⟨g, o, none⟩) g o cap [x, y, z] 3 w (fun _ => rfl) HL.out HU.out (by decide)
  rw [HA.out, Bool.and_true, decide_eq_true (by simp)] at AL
  refine AL.mono ?_
  rintro e w1 ⟨rfl, h1⟩
  have B1 := Lib.hid h1
  clear h1 AL
  go_wp2_with fail
  refine (doExt3_any g o cap x y z w1 (HL.out.next B1.out) HN.out).mono ?_
  rintro e w2 ⟨b2, rfl, hb2, hB2, h2⟩
  have L2 := Lib.hid hB2.lb
  have B2 := Lib.hid (bel B1.out h2)
  clear hB2 h2 hb2
  go_wp2_with fail
  have NU := numbers_any (some ⟨g, o, none⟩) g o cap [x, y, z] w2 (fun _ => rfl) (HL.out.next B2.out) HU.out (by simp)
  refine NU.mono ?_
  rintro e w3 ⟨v, rfl, hO, h3⟩
  obtain ⟨ao, g3, c3, hv, ha3, hE3⟩ := ownsRow_LE hO
  have hao := ha3 (by simp)
  rw [hao] at hv
  rw [hv]
  have E3 := Lib.hid hE3
  have L3 := Lib.hid (L2.out.next h3)
  have B3 := Lib.hid (bel B2.out h3)
  clear hE3 hO h3 ha3 hao hv L2 NU
  go_wp2_with fail
  refine (external_any (some ⟨g3, 0, none⟩) g3 0 c3 [x, y, z] w3 (fun _ => rfl) E3.out HN.out (by simp) (by simp)).mono ?_
  rintro e w4 ⟨b4, rfl, hb4, hB4, h4⟩
  have L4 := Lib.hid (L3.out.next h4)
  have E4 := Lib.hid hB4.le
  have B4 := Lib.hid (bel B3.out h4)
  clear hB4 h4 hb4 L3 E3
  go_wp2_with fail
  have AR := are_yes b2 0 3 b4 0 3 (extL [x, y, z]) w4 L4.out E4.out (by show 3 ≤ 65536; decide)
  rw [show (extL [x, y, z]).length = 3 from rfl] at AR
  refine AR.mono ?_
  rintro e w5 ⟨rfl, h5⟩
  have B5 := Lib.hid (bel B4.out h5)
  clear h5 AR
  go_wp2_with fail
  go_ret
  exact ⟨rfl, B5.out⟩

set_option maxHeartbeats 1000000 in
set_option maxRecDepth 100000 in
theorem lawInt3_main (g o cap : Nat) (x y z : Int) (w : World) (hl : LB w g o [x, y, z]) (hn : ∀ n ∈ [x, y, z], 0 ≤ n ∧ n < fp) :
    Calls Tryd.prog 4 #[.slice (some ⟨g, o, none⟩) 3 cap] w fun e w' =>
      e = .returned (.bool true) ∧ Below w.heap.size w w' := by
  have HL := Lib.hid hl
  have HN := Lib.hid hn
  have HU := Lib.hid (fun n (h : n ∈ [x, y, z]) => num_of_fp (hn n h).1 (hn n h).2)
  have HA := Lib.hid (show ([x, y, z].all fun n => decide (n < fp)) = true from by rw [List.all_eq_true]; exact fun n h => decide_eq_true (hn n h).2)
  clear hl hn
  go_enter Tryd.func4, Tryd.ntmps4
  go_wp2_with fail
  have AL := all_any (some ⟨g, o, none⟩) g o cap [x, y, z] 3 w (fun _ => rfl) HL.out HU.out (by decide)
  rw [HA.out, Bool.and_true, decide_eq_true (by simp)] at AL
  refine AL.mono ?_
  rintro e w1 ⟨rfl, h1⟩
  have B1 := Lib.hid h1
  clear h1 AL
  go_wp2_with fail
  refine (doInt3_any g o cap x y z w1 (HL.out.next B1.out) HN.out).mono ?_
  rintro e w2 ⟨b2, rfl, hb2, hB2, h2⟩
  have L2 := Lib.hid hB2.lb
  have B2 := Lib.hid (bel B1.out h2)
  clear hB2 h2 hb2
  go_wp2_with fail
  have NU := numbers_any (some ⟨g, o, none⟩) g o cap [x, y, z] w2 (fun _ => rfl) (HL.out.next B2.out) HU.out (by simp)
  refine NU.mono ?_
  rintro e w3 ⟨v, rfl, hO, h3⟩
  obtain ⟨ao, g3, c3, hv, ha3, hE3⟩ := ownsRow_LE hO
  have hao := ha3 (by simp)
  rw [hao] at hv
  rw [hv]
  have E3 := Lib.hid hE3
  have L3 := Lib.hid (L2.out.next h3)
  have B3 := Lib.hid (bel B2.out h3)
  clear hE3 hO h3 ha3 hao hv L2 NU
  go_wp2_with fail
  refine (internal3_any (some ⟨g3, 0, none⟩) g3 0 c3 [x, y, z] _ w3 (fun _ => rfl) E3.out HN.out rfl).mono ?_
  rintro e w4 ⟨b4, rfl, hb4, hB4, h4⟩
  have L4 := Lib.hid (L3.out.next h4)
  have E4 := Lib.hid hB4.le
  have B4 := Lib.hid (bel B3.out h4)
  clear hB4 h4 hb4 L3 E3
  go_wp2_with fail
  have AR := are_yes b2 0 3 b4 0 3 (intL [1, 1, 2] [x, y, z]) w4 L4.out E4.out (by show 3 ≤ 65536; decide)
  rw [show (intL [1, 1, 2] [x, y, z]).length = 3 from rfl] at AR
  refine AR.mono ?_
  rintro e w5 ⟨rfl, h5⟩
  have B5 := Lib.hid (bel B4.out h5)
  clear h5 AR
  go_wp2_with fail
  go_ret
  exact ⟨rfl, B5.out⟩

set_option maxHeartbeats 1000000 in
set_option maxRecDepth 100000 in
theorem fnM4_any (ao : Option Addr) (g o cap : Nat) (ns : List Int) (w : World) (ha : 0 < ns.length → ao = some ⟨g, o, none⟩) (hl : LB w g o ns) (hn : ∀ n ∈ ns, Num n) :
    Calls Tryd.prog 3 #[.slice ao ns.length cap] w fun e w' =>
      e = .returned (.bool true) ∧ Below w.heap.size w w' := by
  by_cases hbig : 2147483647 < (ns.length : Int)
  · clear ha hl hn
    go_enter Tryd.func3, Tryd.ntmps3
    go_wp2_with fail
    go_ret
    exact ⟨rfl, RowKit.Below.refl _ _⟩
  · have AL := Lib.hid (all_any ao g o cap ns 8 w ha hl hn (by decide))
    cases hb : (decide ((ns.length : Int) ≤ 8) && ns.all fun n => decide (n < fp))
    · rw [hb] at AL
      clear ha hl hn hb
      go_enter Tryd.func3, Tryd.ntmps3
      go_wp2_with fail
      refine AL.out.mono ?_
      rintro e w1 ⟨rfl, h1⟩
      have B1 := Lib.hid h1
      clear h1 AL
      go_wp2_with fail
      go_ret
      exact ⟨rfl, B1.out⟩
    · rw [hb] at AL
      obtain ⟨hle, hall⟩ := all_of hb
      clear hb
      by_cases hc : ns.length = 0 ∨ ¬ ns.length % 4 = 0
      · clear ha hl hn hall
        by_cases h0 : ns.length = 0
        · have hz : ((ns.length : Int) == 0) = true := by simp [h0]
          clear h0 hc
          go_enter Tryd.func3, Tryd.ntmps3
          go_wp2_with fail
          refine AL.out.mono ?_
          rintro e w1 ⟨rfl, h1⟩
          have B1 := Lib.hid h1
          clear h1 AL
          go_wp2_with fail
          go_ret
          exact ⟨rfl, B1.out⟩
        · have hz : ((ns.length : Int) == 0) = false := beq_eq_false_iff_ne.2 (by omega)
          obtain ⟨q, hq⟩ : ∃ q : Nat, ns.length % 4 = q := ⟨_, rfl⟩
          have hm1 : (ns.length : Int) % 4 = (q : Int) := by omega
          have hm2 : (ns.length : Int).tmod 4 = (q : Int) := by rw [Int.tmod_eq_emod_of_nonneg (by omega)]; exact hm1
          have hq0 : ((q : Int) != 0) = true := by simp; omega
          clear h0 hc hq
          go_enter Tryd.func3, Tryd.ntmps3
          go_wp2_with fail
          refine AL.out.mono ?_
          rintro e w1 ⟨rfl, h1⟩
          have B1 := Lib.hid h1
          clear h1 AL
          go_wp2_with fail
          go_ret
          exact ⟨rfl, B1.out⟩
      · obtain rfl := ha (by omega)
        have hn' : ∀ n ∈ ns, 0 ≤ n ∧ n < fp := fun n h => ⟨(hn n h).1, hall n h⟩
        exact lawM4_main g o cap ns w hl hn' (by omega) (by omega) (by omega)

set_option maxHeartbeats 1000000 in
set_option maxRecDepth 100000 in
theorem fnExt_any (ao : Option Addr) (g o cap : Nat) (ns : List Int) (w : World) (ha : 0 < ns.length → ao = some ⟨g, o, none⟩) (hl : LB w g o ns) (hn : ∀ n ∈ ns, Num n) :
    Calls Tryd.prog 6 #[.slice ao ns.length cap] w fun e w' =>
      e = .returned (.bool true) ∧ Below w.heap.size w w' := by
  by_cases hbig : 2147483647 < (ns.length : Int)
  · clear ha hl hn
    go_enter Tryd.func6, Tryd.ntmps6
    go_wp2_with fail
    go_ret
    exact ⟨rfl, RowKit.Below.refl _ _⟩
  · have AL := Lib.hid (all_any ao g o cap ns 3 w ha hl hn (by decide))
    cases hb : (decide ((ns.length : Int) ≤ 3) && ns.all fun n => decide (n < fp))
    · rw [hb] at AL
      clear ha hl hn hb
      go_enter Tryd.func6, Tryd.ntmps6
      go_wp2_with fail
      refine AL.out.mono ?_
      rintro e w1 ⟨rfl, h1⟩
      have B1 := Lib.hid h1
      clear h1 AL
      go_wp2_with fail
      go_ret
      exact ⟨rfl, B1.out⟩
    · rw [hb] at AL
      obtain ⟨hle, hall⟩ := all_of hb
      clear hb
      by_cases hc : ns.length < 2
      · clear ha hl hn hall
        go_enter Tryd.func6, Tryd.ntmps6
        go_wp2_with fail
        refine AL.out.mono ?_
        rintro e w1 ⟨rfl, h1⟩
        have B1 := Lib.hid h1
        clear h1 AL
        go_wp2_with fail
        go_ret
        exact ⟨rfl, B1.out⟩
      · obtain rfl := ha (by omega)
        have hn' : ∀ n ∈ ns, 0 ≤ n ∧ n < fp := fun n h => ⟨(hn n h).1, hall n h⟩
        rcases two_or_three (ns := ns) (by omega) (by omega) with ⟨x, y, rfl⟩ | ⟨x, y, z, rfl⟩
        · exact lawExt2_main g o cap x y w hl hn'
        · exact lawExt3_main g o cap x y z w hl hn'

set_option maxHeartbeats 1000000 in
set_option maxRecDepth 100000 in
theorem fnInt_any (ao : Option Addr) (g o cap : Nat) (ns : List Int) (w : World) (ha : 0 < ns.length → ao = some ⟨g, o, none⟩) (hl : LB w g o ns) (hn : ∀ n ∈ ns, Num n) :
    Calls Tryd.prog 4 #[.slice ao ns.length cap] w fun e w' =>
      e = .returned (.bool true) ∧ Below w.heap.size w w' := by
  by_cases hbig : 2147483647 < (ns.length : Int)
  · clear ha hl hn
    go_enter Tryd.func4, Tryd.ntmps4
    go_wp2_with fail
    go_ret
    exact ⟨rfl, RowKit.Below.refl _ _⟩
  · have AL := Lib.hid (all_any ao g o cap ns 3 w ha hl hn (by decide))
    cases hb : (decide ((ns.length : Int) ≤ 3) && ns.all fun n => decide (n < fp))
    · rw [hb] at AL
      clear ha hl hn hb
      go_enter Tryd.func4, Tryd.ntmps4
      go_wp2_with fail
      refine AL.out.mono ?_
      rintro e w1 ⟨rfl, h1⟩
      have B1 := Lib.hid h1
      clear h1 AL
      go_wp2_with fail
      go_ret
      exact ⟨rfl, B1.out⟩
    · rw [hb] at AL
      obtain ⟨hle, hall⟩ := all_of hb
      clear hb
      by_cases hc : ns.length < 2
      · clear ha hl hn hall
        go_enter Tryd.func4, Tryd.ntmps4
        go_wp2_with fail
        refine AL.out.mono ?_
        rintro e w1 ⟨rfl, h1⟩
        have B1 := Lib.hid h1
        clear h1 AL
        go_wp2_with fail
        go_ret
        exact ⟨rfl, B1.out⟩
      · obtain rfl := ha (by omega)
        have hn' : ∀ n ∈ ns, 0 ≤ n ∧ n < fp := fun n h => ⟨(hn n h).1, hall n h⟩
        rcases two_or_three (ns := ns) (by omega) (by omega) with ⟨x, y, rfl⟩ | ⟨x, y, z, rfl⟩
        · exact lawInt2_main g o cap x y w hl hn'
        · exact lawInt3_main g o cap x y z w hl hn'
end Go.Proofs.YtodofaoaenddgaaDoor
