/-
  The law FnInternal4, walked.
-/
import Derived.Test.YtodofaoaenddgaaDoorLw
namespace Go.Proofs.YtodofaoaenddgaaDoor
open Go.RowKit Go.Lib Fr
attribute [local go_sem] setCell_drewN alloc_drewN

set_option maxHeartbeats 1000000 in
set_option maxRecDepth 100000 in
theorem lawInt4_main (g o cap g2 o2 cap2 : Nat) (ns ds : List Int) (w : World) (hl : LB w g o ns) (hl2 : LB w g2 o2 ds) (hn : ∀ n ∈ ns, 0 ≤ n ∧ n < fp) (hn2 : ∀ n ∈ ds, 0 ≤ n ∧ n < fp) (h4 : ns.length = 4) (hd4 : ds.length = 4) :
    Calls Tryd.prog 5 #[.slice (some ⟨g, o, none⟩) 4 cap, .slice (some ⟨g2, o2, none⟩) 4 cap2] w fun e w' =>
      e = .returned (.bool true) ∧ Below w.heap.size w w' := by
  have HL := Lib.hid hl
  have HN := Lib.hid hn
  have HU := Lib.hid (fun n (h : n ∈ ns) => num_of_fp (hn n h).1 (hn n h).2)
  have HA := Lib.hid (show (ns.all fun n => decide (n < fp)) = true from by rw [List.all_eq_true]; exact fun n h => decide_eq_true (hn n h).2)
  have HL2 := Lib.hid hl2
  have HN2 := Lib.hid hn2
  have HU2 := Lib.hid (fun n (h : n ∈ ds) => num_of_fp (hn2 n h).1 (hn2 n h).2)
  have HA2 := Lib.hid (show (ds.all fun n => decide (n < fp)) = true from by rw [List.all_eq_true]; exact fun n h => decide_eq_true (hn2 n h).2)
  have H4 := Lib.hid (And.intro h4 hd4)
  clear hl hn hl2 hn2 h4 hd4
  go_enter Tryd.func5, Tryd.ntmps5
  go_wp2_with fail
  have AL := all_any (some ⟨g, o, none⟩) g o cap ns 4 w (fun _ => rfl) HL.out HU.out (by decide)
  rw [HA.out, Bool.and_true, decide_eq_true (by rw [H4.out.1]; decide), H4.out.1] at AL
  refine AL.mono ?_
  rintro e w1 ⟨rfl, h1⟩
  have B1 := Lib.hid h1
  clear h1 AL
  go_wp2_with fail
  have AL := all_any (some ⟨g2, o2, none⟩) g2 o2 cap2 ds 4 w1 (fun _ => rfl) (HL2.out.next B1.out) HU2.out (by decide)
  rw [HA2.out, Bool.and_true, decide_eq_true (by rw [H4.out.2]; decide), H4.out.2] at AL
  refine AL.mono ?_
  rintro e w1a ⟨rfl, h1⟩
  have B1a := Lib.hid (bel B1.out h1)
  clear h1 AL B1
  go_wp2_with fail
  refine (doInt4_any g o cap ns g2 o2 cap2 ds w1a (HL.out.next B1a.out) HN.out (HL2.out.next B1a.out) HN2.out H4.out.1 H4.out.2).mono ?_
  rintro e w2 ⟨b2, rfl, hb2, hB2, h2⟩
  have L2 := Lib.hid hB2.lb
  have B2 := Lib.hid (bel B1a.out h2)
  clear hB2 h2 hb2
  go_wp2_with fail
  have NU := numbers_any (some ⟨g, o, none⟩) g o cap ns w2 (fun _ => rfl) (HL.out.next B2.out) HU.out (by rw [H4.out.1]; decide)
  rw [H4.out.1] at NU
  refine NU.mono ?_
  rintro e w3 ⟨v, rfl, hO, h3⟩
  rw [← H4.out.1] at hO
  obtain ⟨ao, g3, c3, hv, ha3, hE3⟩ := ownsRow_LE hO
  have hao := ha3 (by rw [H4.out.1]; decide)
  rw [hao, H4.out.1] at hv
  rw [hv]
  have E3 := Lib.hid hE3
  have L3 := Lib.hid (L2.out.next h3)
  have B3 := Lib.hid (bel B2.out h3)
  clear hE3 hO h3 ha3 hao hv L2 NU
  go_wp2_with fail
  have NU := numbers_any (some ⟨g2, o2, none⟩) g2 o2 cap2 ds w3 (fun _ => rfl) (HL2.out.next B3.out) HU2.out (by rw [H4.out.2]; decide)
  rw [H4.out.2] at NU
  refine NU.mono ?_
  rintro e w4 ⟨v, rfl, hO, h4⟩
  rw [← H4.out.2] at hO
  obtain ⟨ao, g4, c4, hv, ha4, hE4⟩ := ownsRow_LE hO
  have hao := ha4 (by rw [H4.out.2]; decide)
  rw [hao, H4.out.2] at hv
  rw [hv]
  have D4 := Lib.hid hE4
  have E4 := Lib.hid (E3.out.next h4)
  have L4 := Lib.hid (L3.out.next h4)
  have B4 := Lib.hid (bel B3.out h4)
  clear hE4 hO h4 ha4 hao hv L3 E3 NU
  go_wp2_with fail
  have IN := internal4_any (some ⟨g3, 0, none⟩) g3 0 c3 ns g4 0 c4 ds w4 (fun _ => rfl) E4.out HN.out H4.out.1 H4.out.2 D4.out HN2.out
  rw [H4.out.1, H4.out.2] at IN
  refine IN.mono ?_
  rintro e w5 ⟨b5, rfl, hb5, hB5, h5⟩
  have L5 := Lib.hid (L4.out.next h5)
  have E5 := Lib.hid hB5.le
  have B5 := Lib.hid (bel B4.out h5)
  clear hB5 h5 hb5 L4 E4 D4 IN
  go_wp2_with fail
  have LN := (length_intL (ds := ds) (ns := ns) (by rw [H4.out.1, H4.out.2])).trans H4.out.1
  have AR := are_yes b2 0 4 b5 0 4 (intL ds ns) w5 L5.out E5.out (by rw [LN]; decide)
  rw [LN] at AR
  refine AR.mono ?_
  rintro e w6 ⟨rfl, h6⟩
  have B6 := Lib.hid (bel B5.out h6)
  clear h6 AR LN
  go_wp2_with fail
  go_ret
  exact ⟨rfl, B6.out⟩

set_option maxHeartbeats 1000000 in
set_option maxRecDepth 100000 in
theorem fnInt4_any (ao : Option Addr) (g o cap : Nat) (ns : List Int) (ao2 : Option Addr) (g2 o2 cap2 : Nat) (ds : List Int) (w : World) (ha : 0 < ns.length → ao = some ⟨g, o, none⟩) (hl : LB w g o ns) (hn : ∀ n ∈ ns, Num n)
    (ha2 : 0 < ds.length → ao2 = some ⟨g2, o2, none⟩) (hl2 : LB w g2 o2 ds) (hn2 : ∀ n ∈ ds, Num n) :
    Calls Tryd.prog 5 #[.slice ao ns.length cap, .slice ao2 ds.length cap2] w fun e w' =>
      e = .returned (.bool true) ∧ Below w.heap.size w w' := by
  by_cases hbig : 2147483647 < (ns.length : Int)
  · clear ha hl hn ha2 hl2 hn2
    go_enter Tryd.func5, Tryd.ntmps5
    go_wp2_with fail
    go_ret
    exact ⟨rfl, RowKit.Below.refl _ _⟩
  by_cases hbig2 : 2147483647 < (ds.length : Int)
  · clear ha hl hn ha2 hl2 hn2
    go_enter Tryd.func5, Tryd.ntmps5
    go_wp2_with fail
    go_ret
    exact ⟨rfl, RowKit.Below.refl _ _⟩
  have AL := Lib.hid (all_any ao g o cap ns 4 w ha hl hn (by decide))
  have AM := Lib.hid (fun (w1 : World) (h1 : RowKit.Below w.heap.size w w1) => all_any ao2 g2 o2 cap2 ds 4 w1 ha2 (hl2.next h1) hn2 (by decide))
  cases hb : (decide ((ns.length : Int) ≤ 4) && ns.all fun n => decide (n < fp))
  · rw [hb] at AL
    clear ha hl hn ha2 hl2 hn2 hb AM
    go_enter Tryd.func5, Tryd.ntmps5
    go_wp2_with fail
    refine AL.out.mono ?_
    rintro e w1 ⟨rfl, h1⟩
    have B1 := Lib.hid h1
    clear h1 AL
    go_wp2_with fail
    go_ret
    exact ⟨rfl, B1.out⟩
  rw [hb] at AL
  obtain ⟨hle, hall⟩ := all_of hb
  clear hb
  cases hb : (decide ((ds.length : Int) ≤ 4) && ds.all fun n => decide (n < fp))
  · rw [hb] at AM
    clear ha hl hn ha2 hl2 hn2 hb hall
    go_enter Tryd.func5, Tryd.ntmps5
    go_wp2_with fail
    refine AL.out.mono ?_
    rintro e w1 ⟨rfl, h1⟩
    have B1 := Lib.hid h1
    clear h1 AL
    go_wp2_with fail
    refine (AM.out w1 B1.out).mono ?_
    rintro e w2 ⟨rfl, h2⟩
    have B2 := Lib.hid (bel B1.out h2)
    clear h2 AM
    go_wp2_with fail
    go_ret
    exact ⟨rfl, B2.out⟩
  rw [hb] at AM
  obtain ⟨hle2, hall2⟩ := all_of hb
  clear hb
  by_cases h4 : ns.length = 4
  · by_cases hd4 : ds.length = 4
    · obtain rfl := ha (by omega)
      obtain rfl := ha2 (by omega)
      rw [h4, hd4]
      exact lawInt4_main g o cap g2 o2 cap2 ns ds w hl hl2 (fun n h => ⟨(hn n h).1, hall n h⟩) (fun n h => ⟨(hn2 n h).1, hall2 n h⟩) h4 hd4
    · have hz : ((ns.length : Int) != 4) = false := by rw [h4]; rfl
      have hz2 : ((ds.length : Int) != 4) = true := by rw [bne_iff_ne]; omega
      clear ha hl hn ha2 hl2 hn2 hall hall2 h4 hd4
      go_enter Tryd.func5, Tryd.ntmps5
      go_wp2_with fail
      refine AL.out.mono ?_
      rintro e w1 ⟨rfl, h1⟩
      have B1 := Lib.hid h1
      clear h1 AL
      go_wp2_with fail
      refine (AM.out w1 B1.out).mono ?_
      rintro e w2 ⟨rfl, h2⟩
      have B2 := Lib.hid (bel B1.out h2)
      clear h2 AM
      go_wp2_with fail
      go_ret
      exact ⟨rfl, B2.out⟩
  · have hz : ((ns.length : Int) != 4) = true := by rw [bne_iff_ne]; omega
    clear ha hl hn ha2 hl2 hn2 hall hall2 h4
    go_enter Tryd.func5, Tryd.ntmps5
    go_wp2_with fail
    refine AL.out.mono ?_
    rintro e w1 ⟨rfl, h1⟩
    have B1 := Lib.hid h1
    clear h1 AL
    go_wp2_with fail
    refine (AM.out w1 B1.out).mono ?_
    rintro e w2 ⟨rfl, h2⟩
    have B2 := Lib.hid (bel B1.out h2)
    clear h2 AM
    go_wp2_with fail
    go_ret
    exact ⟨rfl, B2.out⟩
end Go.Proofs.YtodofaoaenddgaaDoor
