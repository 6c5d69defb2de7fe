/-
  impl's doors, walked: MatMulM4, External, Internal (the way to success). Printed by gen_do.py.
-/
import Derived.Test.YtodofaoaenddgaaDoorImj
import Derived.Test.YtodofaoaenddgaaDoorLb
namespace Go.Proofs.YtodofaoaenddgaaDoor
open Go.RowKit Go.Lib Fr
attribute [local go_sem] setCell_drewN alloc_drewN

theorem m4L_bd (ns : List Int) : ∀ n ∈ m4L ns, 0 ≤ n ∧ n < fp := fun n hn => by
  simp only [m4L, List.mem_map] at hn
  obtain ⟨i, _, rfl⟩ := hn
  exact accM_bd ns i 4
theorem extL_bd (ns : List Int) : ∀ n ∈ extL ns, 0 ≤ n ∧ n < fp := fun n hn => by
  simp only [extL, List.mem_map] at hn
  obtain ⟨i, _, rfl⟩ := hn
  exact ⟨mod_fp_lo _, mod_fp_hi _⟩
theorem intL_bd : ∀ (ds ns : List Int) (t : Int), ∀ n ∈ List.zipWith (fun d n => (d * n % fp + t) % fp) ds ns, 0 ≤ n ∧ n < fp
  | [], ns, t, n, hn => by simp at hn
  | d :: ds, [], t, n, hn => by simp at hn
  | d :: ds, m :: ns, t, n, hn => by
    rw [List.zipWith_cons_cons, List.mem_cons] at hn
    rcases hn with rfl | hn
    · exact ⟨mod_fp_lo _, mod_fp_hi _⟩
    · exact intL_bd ds ns t n hn
theorem Blk.row' {w : World} {b : Nat} {ns : List Int} (h : Blk w b 69 (elsL ns).toArray) : Row w b ns := Row.of h

set_option maxHeartbeats 1000000 in
set_option maxRecDepth 100000 in
theorem doM4_any (g o cap : Nat) (ns : List Int) (w : World) (hl : LB w g o ns) (hn : ∀ n ∈ ns, 0 ≤ n ∧ n < fp) (h0 : 0 < ns.length) (hk : ns.length ≤ 65536) (h4 : ns.length % 4 = 0) :
    Calls Tryd.prog 11 #[.slice (some ⟨g, o, none⟩) ns.length cap] w fun e w' =>
      ∃ b, e = .returned (.tuple #[.slice (some ⟨b, 0, none⟩) ns.length ns.length, .bool true]) ∧ w.heap.size ≤ b ∧ Blk w' b 38 (btsL (m4L ns)).toArray ∧ Below w.heap.size w w' := by
  have E := Lib.hid (elements_yes (some ⟨g, o, none⟩) g o cap ns w (fun _ => rfl) hl hn (by omega))
  have H4 := Lib.hid h4
  have hm1 : (ns.length : Int) % 4 = 0 := by omega
  have hm2 : (ns.length : Int).tmod 4 = 0 := by rw [Int.tmod_eq_emod_of_nonneg (by omega)]; exact hm1
  clear hl hn h4
  go_enter Tryd.func11, Tryd.ntmps11
  go_wp2_with fail
  refine E.out.mono ?_
  rintro e w1 ⟨b1, rfl, hb1, hB1, h1⟩
  have F1 := Lib.hid (Row.of hB1).lf
  have B1 := Lib.hid h1
  clear hB1 h1 hb1 E
  go_wp2_with fail
  refine (zzM4_any b1 0 ns.length ns _ F1.out hk h0 H4.out).mono ?_
  rintro e w8 ⟨b2, c2, rfl, hb2, hR2, h2⟩
  have F2 := Lib.hid hR2.lf
  have B2 := Lib.hid (B1.out.trans (h2.mono B1.out.size))
  clear hR2 h2 hb2 F1
  go_wp2_with fail
  have PL := plain_any (some ⟨b2, 0, none⟩) b2 0 c2 (m4L ns) w8 (fun _ => rfl) F2.out (m4L_bd ns) (by rw [length_m4L ns]; omega)
  rw [length_m4L ns] at PL
  refine PL.mono ?_
  rintro e w9 ⟨b3, rfl, hb3, hB3, h3⟩
  have R3 := Lib.hid hB3
  have B3 := Lib.hid (B2.out.trans (h3.mono B2.out.size))
  have HB3 := Lib.hid (show w.heap.size ≤ b3 from Nat.le_trans B2.out.size hb3)
  clear hB3 h3 hb3 PL
  go_wp2_with fail
  go_ret2
  exact ⟨b3, rfl, HB3.out, R3.out, B3.out⟩

set_option maxHeartbeats 1000000 in
set_option maxRecDepth 100000 in
theorem doExt2_any (g o cap : Nat) (x y : Int) (w : World) (hl : LB w g o [x, y]) (hn : ∀ n ∈ [x, y], 0 ≤ n ∧ n < fp) :
    Calls Tryd.prog 17 #[.slice (some ⟨g, o, none⟩) 2 cap] w fun e w' =>
      ∃ b, e = .returned (.tuple #[.slice (some ⟨b, 0, none⟩) 2 2, .bool true]) ∧ w.heap.size ≤ b ∧ Blk w' b 38 (btsL (extL [x, y])).toArray ∧ Below w.heap.size w w' := by
  have E0 := elements_yes (some ⟨g, o, none⟩) g o cap [x, y] w (fun _ => rfl) hl hn (by simp)
  rw [show ([x, y] : List Int).length = 2 from rfl] at E0
  have E := Lib.hid E0
  clear hl hn E0
  go_enter Tryd.func17, Tryd.ntmps17
  go_wp2_with fail
  refine E.out.mono ?_
  rintro e w1 ⟨b1, rfl, hb1, hB1, h1⟩
  have F1 := Lib.hid (Row.of hB1).lf
  have B1 := Lib.hid h1
  clear hB1 h1 hb1 E
  go_wp2_with fail
  refine (zzExt2_any b1 0 2 x y _ F1.out).mono ?_
  rintro e w8 ⟨b2, c2, rfl, hb2, hR2, h2⟩
  have F2 := Lib.hid hR2.lf
  have B2 := Lib.hid (B1.out.trans (h2.mono B1.out.size))
  clear hR2 h2 hb2 F1
  go_wp2_with fail
  have PL := plain_any (some ⟨b2, 0, none⟩) b2 0 c2 (extL [x, y]) w8 (fun _ => rfl) F2.out (extL_bd _) (by show 2 ≤ 65536; decide)
  rw [show (extL [x, y]).length = 2 from rfl] at PL
  refine PL.mono ?_
  rintro e w9 ⟨b3, rfl, hb3, hB3, h3⟩
  have R3 := Lib.hid hB3
  have B3 := Lib.hid (B2.out.trans (h3.mono B2.out.size))
  have HB3 := Lib.hid (show w.heap.size ≤ b3 from Nat.le_trans B2.out.size hb3)
  clear hB3 h3 hb3 PL
  go_wp2_with fail
  go_ret2
  exact ⟨b3, rfl, HB3.out, R3.out, B3.out⟩

set_option maxHeartbeats 1000000 in
set_option maxRecDepth 100000 in
theorem doExt3_any (g o cap : Nat) (x y z : Int) (w : World) (hl : LB w g o [x, y, z]) (hn : ∀ n ∈ [x, y, z], 0 ≤ n ∧ n < fp) :
    Calls Tryd.prog 17 #[.slice (some ⟨g, o, none⟩) 3 cap] w fun e w' =>
      ∃ b, e = .returned (.tuple #[.slice (some ⟨b, 0, none⟩) 3 3, .bool true]) ∧ w.heap.size ≤ b ∧ Blk w' b 38 (btsL (extL [x, y, z])).toArray ∧ Below w.heap.size w w' := by
  have E0 := elements_yes (some ⟨g, o, none⟩) g o cap [x, y, z] w (fun _ => rfl) hl hn (by simp)
  rw [show ([x, y, z] : List Int).length = 3 from rfl] at E0
  have E := Lib.hid E0
  clear hl hn E0
  go_enter Tryd.func17, Tryd.ntmps17
  go_wp2_with fail
  refine E.out.mono ?_
  rintro e w1 ⟨b1, rfl, hb1, hB1, h1⟩
  have F1 := Lib.hid (Row.of hB1).lf
  have B1 := Lib.hid h1
  clear hB1 h1 hb1 E
  go_wp2_with fail
  refine (zzExt3_any b1 0 3 x y z _ F1.out).mono ?_
  rintro e w8 ⟨b2, c2, rfl, hb2, hR2, h2⟩
  have F2 := Lib.hid hR2.lf
  have B2 := Lib.hid (B1.out.trans (h2.mono B1.out.size))
  clear hR2 h2 hb2 F1
  go_wp2_with fail
  have PL := plain_any (some ⟨b2, 0, none⟩) b2 0 c2 (extL [x, y, z]) w8 (fun _ => rfl) F2.out (extL_bd _) (by show 3 ≤ 65536; decide)
  rw [show (extL [x, y, z]).length = 3 from rfl] at PL
  refine PL.mono ?_
  rintro e w9 ⟨b3, rfl, hb3, hB3, h3⟩
  have R3 := Lib.hid hB3
  have B3 := Lib.hid (B2.out.trans (h3.mono B2.out.size))
  have HB3 := Lib.hid (show w.heap.size ≤ b3 from Nat.le_trans B2.out.size hb3)
  clear hB3 h3 hb3 PL
  go_wp2_with fail
  go_ret2
  exact ⟨b3, rfl, HB3.out, R3.out, B3.out⟩

set_option maxHeartbeats 1000000 in
set_option maxRecDepth 100000 in
theorem doInt2_any (g o cap : Nat) (x y : Int) (w : World) (hl : LB w g o [x, y]) (hn : ∀ n ∈ [x, y], 0 ≤ n ∧ n < fp) :
    Calls Tryd.prog 15 #[.slice (some ⟨g, o, none⟩) 2 cap, .slice none 0 0] w fun e w' =>
      ∃ b, e = .returned (.tuple #[.slice (some ⟨b, 0, none⟩) 2 2, .bool true]) ∧ w.heap.size ≤ b ∧ Blk w' b 38 (btsL (intL [1, 2] [x, y])).toArray ∧ Below w.heap.size w w' := by
  have E0 := elements_yes (some ⟨g, o, none⟩) g o cap [x, y] w (fun _ => rfl) hl hn (by simp)
  rw [show ([x, y] : List Int).length = 2 from rfl] at E0
  have E := Lib.hid E0
  clear hl hn E0
  go_enter Tryd.func15, Tryd.ntmps15
  go_wp2_with fail
  refine E.out.mono ?_
  rintro e w1 ⟨b1, rfl, hb1, hB1, h1⟩
  have F1 := Lib.hid (Row.of hB1).lf
  have B1 := Lib.hid h1
  clear hB1 h1 hb1 E
  go_wp2_with fail
  have E2 := elements_yes none 0 0 0 [] w1 (fun h => absurd h (by decide)) (fun i n h => by simp at h) (fun n h => by simp at h) (by decide)
  rw [show ([] : List Int).length = 0 from rfl] at E2
  refine E2.mono ?_
  rintro e w2 ⟨bd, rfl, hbd, hD, h2⟩
  have F2x := Lib.hid (LF.next F1.out h2)
  have B2x := Lib.hid (B1.out.trans (h2.mono B1.out.size))
  clear h2 hD hbd E2 F1 B1
  have F1 := F2x
  clear F2x
  go_wp2_with fail
  refine (zzInt2_any b1 0 2 x y _ _ _ _ F1.out).mono ?_
  rintro e w8 ⟨b2, c2, rfl, hb2, hR2, h2⟩
  have F2 := Lib.hid hR2.lf
  have B2 := Lib.hid (B2x.out.trans (h2.mono B2x.out.size))
  clear hR2 h2 hb2 F1
  go_wp2_with fail
  have PL := plain_any (some ⟨b2, 0, none⟩) b2 0 c2 (intL [1, 2] [x, y]) w8 (fun _ => rfl) F2.out (intL_bd _ _ _) (by show 2 ≤ 65536; decide)
  rw [show (intL [1, 2] [x, y]).length = 2 from rfl] at PL
  refine PL.mono ?_
  rintro e w9 ⟨b3, rfl, hb3, hB3, h3⟩
  have R3 := Lib.hid hB3
  have B3 := Lib.hid (B2.out.trans (h3.mono B2.out.size))
  have HB3 := Lib.hid (show w.heap.size ≤ b3 from Nat.le_trans B2.out.size hb3)
  clear hB3 h3 hb3 PL
  go_wp2_with fail
  go_ret2
  exact ⟨b3, rfl, HB3.out, R3.out, B3.out⟩

set_option maxHeartbeats 1000000 in
set_option maxRecDepth 100000 in
theorem doInt3_any (g o cap : Nat) (x y z : Int) (w : World) (hl : LB w g o [x, y, z]) (hn : ∀ n ∈ [x, y, z], 0 ≤ n ∧ n < fp) :
    Calls Tryd.prog 15 #[.slice (some ⟨g, o, none⟩) 3 cap, .slice none 0 0] w fun e w' =>
      ∃ b, e = .returned (.tuple #[.slice (some ⟨b, 0, none⟩) 3 3, .bool true]) ∧ w.heap.size ≤ b ∧ Blk w' b 38 (btsL (intL [1, 1, 2] [x, y, z])).toArray ∧ Below w.heap.size w w' := by
  have E0 := elements_yes (some ⟨g, o, none⟩) g o cap [x, y, z] w (fun _ => rfl) hl hn (by simp)
  rw [show ([x, y, z] : List Int).length = 3 from rfl] at E0
  have E := Lib.hid E0
  clear hl hn E0
  go_enter Tryd.func15, Tryd.ntmps15
  go_wp2_with fail
  refine E.out.mono ?_
  rintro e w1 ⟨b1, rfl, hb1, hB1, h1⟩
  have F1 := Lib.hid (Row.of hB1).lf
  have B1 := Lib.hid h1
  clear hB1 h1 hb1 E
  go_wp2_with fail
  have E2 := elements_yes none 0 0 0 [] w1 (fun h => absurd h (by decide)) (fun i n h => by simp at h) (fun n h => by simp at h) (by decide)
  rw [show ([] : List Int).length = 0 from rfl] at E2
  refine E2.mono ?_
  rintro e w2 ⟨bd, rfl, hbd, hD, h2⟩
  have F2x := Lib.hid (LF.next F1.out h2)
  have B2x := Lib.hid (B1.out.trans (h2.mono B1.out.size))
  clear h2 hD hbd E2 F1 B1
  have F1 := F2x
  clear F2x
  go_wp2_with fail
  refine (zzInt3_any b1 0 3 x y z _ _ _ _ F1.out).mono ?_
  rintro e w8 ⟨b2, c2, rfl, hb2, hR2, h2⟩
  have F2 := Lib.hid hR2.lf
  have B2 := Lib.hid (B2x.out.trans (h2.mono B2x.out.size))
  clear hR2 h2 hb2 F1
  go_wp2_with fail
  have PL := plain_any (some ⟨b2, 0, none⟩) b2 0 c2 (intL [1, 1, 2] [x, y, z]) w8 (fun _ => rfl) F2.out (intL_bd _ _ _) (by show 3 ≤ 65536; decide)
  rw [show (intL [1, 1, 2] [x, y, z]).length = 3 from rfl] at PL
  refine PL.mono ?_
  rintro e w9 ⟨b3, rfl, hb3, hB3, h3⟩
  have R3 := Lib.hid hB3
  have B3 := Lib.hid (B2.out.trans (h3.mono B2.out.size))
  have HB3 := Lib.hid (show w.heap.size ≤ b3 from Nat.le_trans B2.out.size hb3)
  clear hB3 h3 hb3 PL
  go_wp2_with fail
  go_ret2
  exact ⟨b3, rfl, HB3.out, R3.out, B3.out⟩

set_option maxHeartbeats 1000000 in
set_option maxRecDepth 100000 in
theorem doInt4_any (g o cap : Nat) (ns : List Int) (gd od capd : Nat) (ds : List Int) (w : World) (hl : LB w g o ns) (hn : ∀ n ∈ ns, 0 ≤ n ∧ n < fp) (hd : LB w gd od ds) (hdn : ∀ n ∈ ds, 0 ≤ n ∧ n < fp) (h4 : ns.length = 4) (hd4 : ds.length = 4) :
    Calls Tryd.prog 15 #[.slice (some ⟨g, o, none⟩) 4 cap, .slice (some ⟨gd, od, none⟩) 4 capd] w fun e w' =>
      ∃ b, e = .returned (.tuple #[.slice (some ⟨b, 0, none⟩) 4 4, .bool true]) ∧ w.heap.size ≤ b ∧ Blk w' b 38 (btsL (intL ds ns)).toArray ∧ Below w.heap.size w w' := by
  have E0 := elements_yes (some ⟨g, o, none⟩) g o cap ns w (fun _ => rfl) hl hn (by omega)
  rw [h4] at E0
  have E := Lib.hid E0
  have HD := Lib.hid hd
  have HDN := Lib.hid hdn
  have HN := Lib.hid hn
  have HLN := Lib.hid (And.intro h4 hd4)
  clear hl hn E0 hd hdn h4 hd4
  go_enter Tryd.func15, Tryd.ntmps15
  go_wp2_with fail
  refine E.out.mono ?_
  rintro e w1 ⟨b1, rfl, hb1, hB1, h1⟩
  have F1 := Lib.hid (Row.of hB1).lf
  have B1 := Lib.hid h1
  clear hB1 h1 hb1 E
  go_wp2_with fail
  have E2 := elements_yes (some ⟨gd, od, none⟩) gd od capd ds w1 (fun _ => rfl) (HD.out.next B1.out) HDN.out (by rw [HLN.out.2]; decide)
  rw [HLN.out.2] at E2
  refine E2.mono ?_
  rintro e w2 ⟨bd, rfl, hbd, hD, h2⟩
  have F2x := Lib.hid (LF.next F1.out h2)
  have FD := Lib.hid (Row.of hD).lf
  have B2x := Lib.hid (B1.out.trans (h2.mono B1.out.size))
  clear h2 hD hbd E2 F1 B1
  have F1 := F2x
  clear F2x
  go_wp2_with fail
  refine (zzInt4_any b1 0 4 ns bd 0 4 ds _ F1.out FD.out HLN.out.1 HLN.out.2 HN.out).mono ?_
  rintro e w8 ⟨b2, c2, rfl, hb2, hR2, h2⟩
  have F2 := Lib.hid hR2.lf
  have B2 := Lib.hid (B2x.out.trans (h2.mono B2x.out.size))
  clear hR2 h2 hb2 F1
  go_wp2_with fail
  have PL := plain_any (some ⟨b2, 0, none⟩) b2 0 c2 (intL ds ns) w8 (fun _ => rfl) F2.out (intL_bd _ _ _) (by rw [((length_intL (by rw [HLN.out.1, HLN.out.2])).trans HLN.out.1)]; decide)
  rw [((length_intL (by rw [HLN.out.1, HLN.out.2])).trans HLN.out.1)] at PL
  refine PL.mono ?_
  rintro e w9 ⟨b3, rfl, hb3, hB3, h3⟩
  have R3 := Lib.hid hB3
  have B3 := Lib.hid (B2.out.trans (h3.mono B2.out.size))
  have HB3 := Lib.hid (show w.heap.size ≤ b3 from Nat.le_trans B2.out.size hb3)
  clear hB3 h3 hb3 PL
  go_wp2_with fail
  go_ret2
  exact ⟨b3, rfl, HB3.out, R3.out, B3.out⟩
end Go.Proofs.YtodofaoaenddgaaDoor
