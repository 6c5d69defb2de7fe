/-
  The reference's Internal, walked: 2, 3 and 4 elements. Its three ends, alike, are printed by gen_int.py.
-/
import Derived.Test.YtodofaoaenddgaaDoorSpi
namespace Go.Proofs.YtodofaoaenddgaaDoor
open Go.RowKit Go.Lib Fr
attribute [local go_sem] setCell_drewN alloc_drewN

theorem E8.cells2B {w' : World} {b q c r d : Nat} {t : TypeId} {n m l : Int} (h : E8 w' b q n) (k : E8 w' c r m) (i : Blk w' d t (hws l)) : w'.cell? ⟨b, q, none⟩ = some (.int .i64 (hw (n) 0)) ∧ w'.cell? ⟨b, q + 1, none⟩ = some (.int .i64 (hw (n) 1)) ∧ w'.cell? ⟨b, q + 2, none⟩ = some (.int .i64 (hw (n) 2)) ∧ w'.cell? ⟨b, q + 3, none⟩ = some (.int .i64 (hw (n) 3)) ∧ w'.cell? ⟨b, q + 4, none⟩ = some (.int .i64 (hw (n) 4)) ∧ w'.cell? ⟨b, q + 5, none⟩ = some (.int .i64 (hw (n) 5)) ∧ w'.cell? ⟨b, q + 6, none⟩ = some (.int .i64 (hw (n) 6)) ∧ w'.cell? ⟨b, q + 7, none⟩ = some (.int .i64 (hw (n) 7)) ∧ w'.cell? ⟨c, r, none⟩ = some (.int .i64 (hw (m) 0)) ∧ w'.cell? ⟨c, r + 1, none⟩ = some (.int .i64 (hw (m) 1)) ∧ w'.cell? ⟨c, r + 2, none⟩ = some (.int .i64 (hw (m) 2)) ∧ w'.cell? ⟨c, r + 3, none⟩ = some (.int .i64 (hw (m) 3)) ∧ w'.cell? ⟨c, r + 4, none⟩ = some (.int .i64 (hw (m) 4)) ∧ w'.cell? ⟨c, r + 5, none⟩ = some (.int .i64 (hw (m) 5)) ∧ w'.cell? ⟨c, r + 6, none⟩ = some (.int .i64 (hw (m) 6)) ∧ w'.cell? ⟨c, r + 7, none⟩ = some (.int .i64 (hw (m) 7)) ∧ w'.cell? ⟨d, 0, none⟩ = some (.int .i64 (hw (l) 0)) ∧ w'.cell? ⟨d, 1, none⟩ = some (.int .i64 (hw (l) 1)) ∧ w'.cell? ⟨d, 2, none⟩ = some (.int .i64 (hw (l) 2)) ∧ w'.cell? ⟨d, 3, none⟩ = some (.int .i64 (hw (l) 3)) ∧ w'.cell? ⟨d, 4, none⟩ = some (.int .i64 (hw (l) 4)) ∧ w'.cell? ⟨d, 5, none⟩ = some (.int .i64 (hw (l) 5)) ∧ w'.cell? ⟨d, 6, none⟩ = some (.int .i64 (hw (l) 6)) ∧ w'.cell? ⟨d, 7, none⟩ = some (.int .i64 (hw (l) 7)) :=
  ⟨h 0 (by decide), h 1 (by decide), h 2 (by decide), h 3 (by decide), h 4 (by decide), h 5 (by decide), h 6 (by decide), h 7 (by decide), E8.cellsB k i⟩
/-- What the inner matrix makes of a list. -/
def intL (ds ns : List Int) : List Int := List.zipWith (fun d n => (d * n % fp + tot ns) % fp) ds ns
theorem length_intL {ds ns : List Int} (h : ds.length = ns.length) : (intL ds ns).length = ns.length := by simp [intL, h]
theorem intL_at {ds ns : List Int} {k : Nat} {d n : Int} (h1 : ds[k]? = some d) (h2 : ns[k]? = some n) : (intL ds ns)[k]? = some ((d * n % fp + tot ns) % fp) := by
  simp [intL, List.getElem?_zipWith, h1, h2]
/-- A list's elements, from an offset on, at whatever place. -/
theorem dlist_at {ds : List Int} {k m : Nat} (h : ds.length = m) (hk : k < m) : ∃ d, ds[k]? = some d := ⟨_, List.getElem?_eq_getElem (by omega)⟩


set_option maxHeartbeats 1000000 in
set_option maxRecDepth 100000 in
theorem internal2_any (ao : Option Addr) (g o cap : Nat) (ns : List Int) (dv : Value) (w : World) (ha : 0 < ns.length → ao = some ⟨g, o, none⟩) (hl : LE w g o ns) (hn : ∀ n ∈ ns, 0 ≤ n ∧ n < fp) (hm : ns.length = 2) :
    Calls Tryd.prog 16 #[.slice ao ns.length cap, dv] w fun e w' =>
      ∃ b, e = .returned (.slice (some ⟨b, 0, none⟩) ns.length ns.length) ∧ w.heap.size ≤ b ∧ Blk w' b 44 (hwsL (intL [1, 2] ns)).toArray ∧ Below w.heap.size w w' := by
  obtain ⟨i0, hi, hz0, hz1, hz2⟩ := info_parts spec_elt_info
  have hmk := run_makeN (P := Tryd.prog) 27 44 i0 _ Tryd.underlying27 hi hz0 .i64 .i64 ns.length ns.length (Nat.le_refl _) (by rw [hz2]; omega) (by omega)
  rw [hz1] at hmk
  simp only [Value.cells] at hmk
  rw [made_zero8] at hmk
  clear hi hz0 hz1 hz2
  have hb2 : ((ns.length : Int) == 2) = true := by rw [hm]; rfl
  have hb3 : ((ns.length : Int) == 3) = false := by rw [hm]; rfl
  have HT := Lib.hid (tot_lo ns.length ns)
  rw [List.take_length] at HT
  have HL := Lib.hid hl
  have HN := Lib.hid hn
  obtain ⟨ds, hds⟩ : ∃ ds : List Int, [1, 2] = ds := ⟨_, rfl⟩
  rw [hds]
  have HDL := Lib.hid (show ds.length = ns.length from by rw [← hds, hm]; rfl)
  have HDB := Lib.hid (show ∀ d ∈ ds, 0 ≤ d ∧ d < fp from by rw [← hds, fp_eq]; decide)
  have HDS := Lib.hid hds
  have HM := Lib.hid hm
  clear hds hm
  go_enter Tryd.func16, Tryd.ntmps16
  clear hl hn
  go_wp2_with fail
  refine (small_any 1 _ (by decide) (by decide)).mono ?_
  rintro e v0 ⟨rfl, g0⟩
  go_wp2_with fail
  refine (small_any 2 _ (by decide) (by decide)).mono ?_
  rintro e v1 ⟨rfl, g1⟩
  have G := Lib.hid ((g0).trans (g1.mono (by have := g0.size; omega)))
  have KA := Lib.hid ((Kp.nil G.out).alloc (hwsL [1, 2]).toArray 44 rfl)
  clear g0 g1 G
  go_wp2_with fail
  refine (total_any ao g o cap ns _ ha (HL.out.next KA.out.1) HN.out (by have := HM.out; omega)).mono ?_
  rintro e w1 ⟨rfl, h1⟩
  have KB := KA.out.next h1
  rw [HDS.out] at KB
  have K1 := Lib.hid (((Kp.nil KB.1).alloc (hws (tot ns)) 44 rfl).alloc (hwsL (List.replicate ns.length 0)).toArray 44 (b := w1.heap.size + 1) (by simp))
  have HD := Lib.hid (fun k d (hd : ds[k]? = some d) => ((KB.b0.alloc (.cells (hws (tot ns)) 44)).alloc (.cells (hwsL (List.replicate ns.length 0)).toArray 44)).rowe8 hd)
  have hs1 := KB.1.size
  have hgd := Lib.hid KB.b0.lt
  obtain ⟨x, hx⟩ : ∃ x, tot ns = x := ⟨_, rfl⟩
  rw [hx] at K1 HT HD ⊢
  have HX := Lib.hid hx
  clear h1 hx KA KB
  go_wp2_with fail
  go_loopw [28] (fun v wr => ∃ k : Nat, k ≤ ns.length ∧ v = .int .i64 k ∧ Kp w wr [(w1.heap.size + 1, 44, (hwsL (pre (intL ds ns) k)).toArray), (w1.heap.size, 44, hws x)] ∧ ∀ k d, ds[k]? = some d → E8 wr v1.heap.size (k * 8) d) (fun v _ => ns.length - (intOf v).toNat)
  case atStart =>
    refine ⟨0, Nat.zero_le _, rfl, ?_, HD.out⟩
    have e : pre (intL ds ns) 0 = List.replicate ns.length 0 := by rw [pre, length_intL HDL.out, List.take_zero, List.nil_append, Nat.sub_zero]
    rw [e]
    exact K1.out
  case round =>
    obtain ⟨k, hk', rfl, hK, hD⟩ := hrel
    have K := Lib.hid hK
    clear K1 HD
    have HD := Lib.hid hD
    clear hD
    by_cases hlt : k < ns.length
    · obtain ⟨n, hn'⟩ : ∃ n, ns[k]? = some n := ⟨_, List.getElem?_eq_getElem hlt⟩
      obtain ⟨d, hd'⟩ := dlist_at HDL.out hlt
      have HNum := Lib.hid (HN.out n (List.mem_of_getElem? hn'))
      have HDum := Lib.hid (HDB.out d (List.mem_of_getElem? hd'))
      have HE := Lib.hid ((HL.out.e8 hn').below hK.1 (HL.out.e8 hn').lt).drew
      have DE := Lib.hid (HD.out k d hd').drew
      have HA := Lib.hid (intL_at hd' hn')
      rw [HX.out] at HA
      obtain rfl := ha (by omega)
      have KD := Lib.hid hK.drew
      have HZ := Lib.hid (pre_at (ms := intL ds ns) (k := k) (by rw [length_intL HDL.out]; exact hlt))
      have HLen := Lib.hid (length_pre (intL ds ns) (k := k) (by rw [length_intL HDL.out]; omega))
      rw [length_intL HDL.out] at HLen
      have t0 := mod_fp_lo (d * n); have t1 := mod_fp_hi (d * n)
      obtain ⟨t, ht⟩ : ∃ t, d * n % fp = t := ⟨_, rfl⟩
      rw [ht] at HA t0 t1
      have HT1 := Lib.hid ht
      have HTB := Lib.hid (And.intro t0 t1)
      obtain ⟨y, hy⟩ : ∃ y, (t + x) % fp = y := ⟨_, rfl⟩
      rw [hy] at HA
      have HY := Lib.hid hy
      have hg := Lib.hid (HL.out.e8 hn').lt
      have hs2 := Lib.hid hs1
      clear hn' hd' hK ha hy ht t0 t1 hs1
      have hkd : k < 2 := by have := HM.out; omega
      have hkz : (k : Int) < 2 := by omega
      go_wp2_with fail
      go_region_held3 (fun w' => w'.cell? ⟨v1.heap.size, k * 8, none⟩ = some (.int .i64 (hw (d) 0)) ∧ w'.cell? ⟨v1.heap.size, k * 8 + 1, none⟩ = some (.int .i64 (hw (d) 1)) ∧ w'.cell? ⟨v1.heap.size, k * 8 + 2, none⟩ = some (.int .i64 (hw (d) 2)) ∧ w'.cell? ⟨v1.heap.size, k * 8 + 3, none⟩ = some (.int .i64 (hw (d) 3)) ∧ w'.cell? ⟨v1.heap.size, k * 8 + 4, none⟩ = some (.int .i64 (hw (d) 4)) ∧ w'.cell? ⟨v1.heap.size, k * 8 + 5, none⟩ = some (.int .i64 (hw (d) 5)) ∧ w'.cell? ⟨v1.heap.size, k * 8 + 6, none⟩ = some (.int .i64 (hw (d) 6)) ∧ w'.cell? ⟨v1.heap.size, k * 8 + 7, none⟩ = some (.int .i64 (hw (d) 7)) ∧ w'.cell? ⟨g, o + k * 8, none⟩ = some (.int .i64 (hw (n) 0)) ∧ w'.cell? ⟨g, o + k * 8 + 1, none⟩ = some (.int .i64 (hw (n) 1)) ∧ w'.cell? ⟨g, o + k * 8 + 2, none⟩ = some (.int .i64 (hw (n) 2)) ∧ w'.cell? ⟨g, o + k * 8 + 3, none⟩ = some (.int .i64 (hw (n) 3)) ∧ w'.cell? ⟨g, o + k * 8 + 4, none⟩ = some (.int .i64 (hw (n) 4)) ∧ w'.cell? ⟨g, o + k * 8 + 5, none⟩ = some (.int .i64 (hw (n) 5)) ∧ w'.cell? ⟨g, o + k * 8 + 6, none⟩ = some (.int .i64 (hw (n) 6)) ∧ w'.cell? ⟨g, o + k * 8 + 7, none⟩ = some (.int .i64 (hw (n) 7)) ∧ w'.cell? ⟨w1.heap.size, 0, none⟩ = some (.int .i64 (hw (x) 0)) ∧ w'.cell? ⟨w1.heap.size, 1, none⟩ = some (.int .i64 (hw (x) 1)) ∧ w'.cell? ⟨w1.heap.size, 2, none⟩ = some (.int .i64 (hw (x) 2)) ∧ w'.cell? ⟨w1.heap.size, 3, none⟩ = some (.int .i64 (hw (x) 3)) ∧ w'.cell? ⟨w1.heap.size, 4, none⟩ = some (.int .i64 (hw (x) 4)) ∧ w'.cell? ⟨w1.heap.size, 5, none⟩ = some (.int .i64 (hw (x) 5)) ∧ w'.cell? ⟨w1.heap.size, 6, none⟩ = some (.int .i64 (hw (x) 6)) ∧ w'.cell? ⟨w1.heap.size, 7, none⟩ = some (.int .i64 (hw (x) 7))) (first | (with_reducible exact E8.cells2B D5.out E5.out K5.out.tl.b0) | (with_reducible exact E8.cells2B D4.out E4.out K4.out.tl.b0) | (with_reducible exact E8.cells2B DE.out HE.out KD.out.tl.b0) | (with_reducible exact E8.cells2B (E8.far8 D5.out (by have := hgd.out; omega) _ _ _ _ _ _ _ _) (E8.far8 E5.out (by have := hg.out; have := hs2.out; omega) _ _ _ _ _ _ _ _) (Blk.far8o K5.out.tl.b0 (by omega) _ _ _ _ _ _ _ _)))
        (first
          | (go_at_call 34; refine (times_any _ _ _ HDum.out.1 HDum.out.2 HNum.out.1 HNum.out.2).mono ?_; rintro e w4 ⟨rfl, h4⟩; rw [HT1.out]; have K4 := Lib.hid (KD.out.next h4); have E4 := Lib.hid (HE.out.next h4); have D4 := Lib.hid (DE.out.next h4))
          | (go_at_call 33; refine (plus_any _ _ _ HTB.out.1 HTB.out.2 HT.out.1 HT.out.2).mono ?_; rintro e w5 ⟨rfl, h5⟩; rw [HY.out]; have K5 := Lib.hid (K4.out.next h5); have E5 := Lib.hid (E4.out.next h5); have D5 := Lib.hid (D4.out.next h5); obtain ⟨z0, z1, z2, z3, z4, z5, z6, z7⟩ := (K5.out.b0.rowe8 HZ.out).cells; obtain ⟨f0, f1, f2, f3, f4, f5, f6, f7⟩ := Blk.rowf8 K5.out.b0 (k * 8)))
      go_wp2_with fail
      go_roundw
      case rel =>
        refine ⟨k + 1, by omega, by go_num, ?_, ?_⟩
        · rw [← pre_set HA.out]
          exact K5.out.rowset8 (by have := hs2.out; omega) (fun x hx => by simp at hx; subst hx; simp) (by rw [HLen.out]; exact hlt) y
        · intro k' d' hd'
          exact E8.far8 ((((HD.out k' d' hd').drew).next h4).next h5) (by have := hgd.out; omega) _ _ _ _ _ _ _ _
      case measure => simp [intOf] <;> omega
    · obtain rfl : k = ns.length := by omega
      clear hK
      have E := length_intL HDL.out
      rw [← E, pre_full] at K
      have hs2 := Lib.hid hs1
      clear E hs1
      go_wp2_with fail
      go_ret
      exact ⟨_, rfl, by have := hs2.out; omega, K.out.b0, K.out.1⟩

set_option maxHeartbeats 1000000 in
set_option maxRecDepth 100000 in
theorem internal3_any (ao : Option Addr) (g o cap : Nat) (ns : List Int) (dv : Value) (w : World) (ha : 0 < ns.length → ao = some ⟨g, o, none⟩) (hl : LE w g o ns) (hn : ∀ n ∈ ns, 0 ≤ n ∧ n < fp) (hm : ns.length = 3) :
    Calls Tryd.prog 16 #[.slice ao ns.length cap, dv] w fun e w' =>
      ∃ b, e = .returned (.slice (some ⟨b, 0, none⟩) ns.length ns.length) ∧ w.heap.size ≤ b ∧ Blk w' b 44 (hwsL (intL [1, 1, 2] ns)).toArray ∧ Below w.heap.size w w' := by
  obtain ⟨i0, hi, hz0, hz1, hz2⟩ := info_parts spec_elt_info
  have hmk := run_makeN (P := Tryd.prog) 27 44 i0 _ Tryd.underlying27 hi hz0 .i64 .i64 ns.length ns.length (Nat.le_refl _) (by rw [hz2]; omega) (by omega)
  rw [hz1] at hmk
  simp only [Value.cells] at hmk
  rw [made_zero8] at hmk
  clear hi hz0 hz1 hz2
  have hb2 : ((ns.length : Int) == 2) = false := by rw [hm]; rfl
  have hb3 : ((ns.length : Int) == 3) = true := by rw [hm]; rfl
  have HT := Lib.hid (tot_lo ns.length ns)
  rw [List.take_length] at HT
  have HL := Lib.hid hl
  have HN := Lib.hid hn
  obtain ⟨ds, hds⟩ : ∃ ds : List Int, [1, 1, 2] = ds := ⟨_, rfl⟩
  rw [hds]
  have HDL := Lib.hid (show ds.length = ns.length from by rw [← hds, hm]; rfl)
  have HDB := Lib.hid (show ∀ d ∈ ds, 0 ≤ d ∧ d < fp from by rw [← hds, fp_eq]; decide)
  have HDS := Lib.hid hds
  have HM := Lib.hid hm
  clear hds hm
  go_enter Tryd.func16, Tryd.ntmps16
  clear hl hn
  go_wp2_with fail
  refine (small_any 1 _ (by decide) (by decide)).mono ?_
  rintro e v0 ⟨rfl, g0⟩
  go_wp2_with fail
  refine (small_any 1 _ (by decide) (by decide)).mono ?_
  rintro e v1 ⟨rfl, g1⟩
  go_wp2_with fail
  refine (small_any 2 _ (by decide) (by decide)).mono ?_
  rintro e v2 ⟨rfl, g2⟩
  have G := Lib.hid (((g0).trans (g1.mono (by have := g0.size; omega))).trans (g2.mono (by have := g0.size; have := g1.size; omega)))
  have KA := Lib.hid ((Kp.nil G.out).alloc (hwsL [1, 1, 2]).toArray 44 rfl)
  clear g0 g1 g2 G
  go_wp2_with fail
  refine (total_any ao g o cap ns _ ha (HL.out.next KA.out.1) HN.out (by have := HM.out; omega)).mono ?_
  rintro e w1 ⟨rfl, h1⟩
  have KB := KA.out.next h1
  rw [HDS.out] at KB
  have K1 := Lib.hid (((Kp.nil KB.1).alloc (hws (tot ns)) 44 rfl).alloc (hwsL (List.replicate ns.length 0)).toArray 44 (b := w1.heap.size + 1) (by simp))
  have HD := Lib.hid (fun k d (hd : ds[k]? = some d) => ((KB.b0.alloc (.cells (hws (tot ns)) 44)).alloc (.cells (hwsL (List.replicate ns.length 0)).toArray 44)).rowe8 hd)
  have hs1 := KB.1.size
  have hgd := Lib.hid KB.b0.lt
  obtain ⟨x, hx⟩ : ∃ x, tot ns = x := ⟨_, rfl⟩
  rw [hx] at K1 HT HD ⊢
  have HX := Lib.hid hx
  clear h1 hx KA KB
  go_wp2_with fail
  go_loopw [28] (fun v wr => ∃ k : Nat, k ≤ ns.length ∧ v = .int .i64 k ∧ Kp w wr [(w1.heap.size + 1, 44, (hwsL (pre (intL ds ns) k)).toArray), (w1.heap.size, 44, hws x)] ∧ ∀ k d, ds[k]? = some d → E8 wr v2.heap.size (k * 8) d) (fun v _ => ns.length - (intOf v).toNat)
  case atStart =>
    refine ⟨0, Nat.zero_le _, rfl, ?_, HD.out⟩
    have e : pre (intL ds ns) 0 = List.replicate ns.length 0 := by rw [pre, length_intL HDL.out, List.take_zero, List.nil_append, Nat.sub_zero]
    rw [e]
    exact K1.out
  case round =>
    obtain ⟨k, hk', rfl, hK, hD⟩ := hrel
    have K := Lib.hid hK
    clear K1 HD
    have HD := Lib.hid hD
    clear hD
    by_cases hlt : k < ns.length
    · obtain ⟨n, hn'⟩ : ∃ n, ns[k]? = some n := ⟨_, List.getElem?_eq_getElem hlt⟩
      obtain ⟨d, hd'⟩ := dlist_at HDL.out hlt
      have HNum := Lib.hid (HN.out n (List.mem_of_getElem? hn'))
      have HDum := Lib.hid (HDB.out d (List.mem_of_getElem? hd'))
      have HE := Lib.hid ((HL.out.e8 hn').below hK.1 (HL.out.e8 hn').lt).drew
      have DE := Lib.hid (HD.out k d hd').drew
      have HA := Lib.hid (intL_at hd' hn')
      rw [HX.out] at HA
      obtain rfl := ha (by omega)
      have KD := Lib.hid hK.drew
      have HZ := Lib.hid (pre_at (ms := intL ds ns) (k := k) (by rw [length_intL HDL.out]; exact hlt))
      have HLen := Lib.hid (length_pre (intL ds ns) (k := k) (by rw [length_intL HDL.out]; omega))
      rw [length_intL HDL.out] at HLen
      have t0 := mod_fp_lo (d * n); have t1 := mod_fp_hi (d * n)
      obtain ⟨t, ht⟩ : ∃ t, d * n % fp = t := ⟨_, rfl⟩
      rw [ht] at HA t0 t1
      have HT1 := Lib.hid ht
      have HTB := Lib.hid (And.intro t0 t1)
      obtain ⟨y, hy⟩ : ∃ y, (t + x) % fp = y := ⟨_, rfl⟩
      rw [hy] at HA
      have HY := Lib.hid hy
      have hg := Lib.hid (HL.out.e8 hn').lt
      have hs2 := Lib.hid hs1
      clear hn' hd' hK ha hy ht t0 t1 hs1
      have hkd : k < 3 := by have := HM.out; omega
      have hkz : (k : Int) < 3 := by omega
      go_wp2_with fail
      go_region_held3 (fun w' => w'.cell? ⟨v2.heap.size, k * 8, none⟩ = some (.int .i64 (hw (d) 0)) ∧ w'.cell? ⟨v2.heap.size, k * 8 + 1, none⟩ = some (.int .i64 (hw (d) 1)) ∧ w'.cell? ⟨v2.heap.size, k * 8 + 2, none⟩ = some (.int .i64 (hw (d) 2)) ∧ w'.cell? ⟨v2.heap.size, k * 8 + 3, none⟩ = some (.int .i64 (hw (d) 3)) ∧ w'.cell? ⟨v2.heap.size, k * 8 + 4, none⟩ = some (.int .i64 (hw (d) 4)) ∧ w'.cell? ⟨v2.heap.size, k * 8 + 5, none⟩ = some (.int .i64 (hw (d) 5)) ∧ w'.cell? ⟨v2.heap.size, k * 8 + 6, none⟩ = some (.int .i64 (hw (d) 6)) ∧ w'.cell? ⟨v2.heap.size, k * 8 + 7, none⟩ = some (.int .i64 (hw (d) 7)) ∧ w'.cell? ⟨g, o + k * 8, none⟩ = some (.int .i64 (hw (n) 0)) ∧ w'.cell? ⟨g, o + k * 8 + 1, none⟩ = some (.int .i64 (hw (n) 1)) ∧ w'.cell? ⟨g, o + k * 8 + 2, none⟩ = some (.int .i64 (hw (n) 2)) ∧ w'.cell? ⟨g, o + k * 8 + 3, none⟩ = some (.int .i64 (hw (n) 3)) ∧ w'.cell? ⟨g, o + k * 8 + 4, none⟩ = some (.int .i64 (hw (n) 4)) ∧ w'.cell? ⟨g, o + k * 8 + 5, none⟩ = some (.int .i64 (hw (n) 5)) ∧ w'.cell? ⟨g, o + k * 8 + 6, none⟩ = some (.int .i64 (hw (n) 6)) ∧ w'.cell? ⟨g, o + k * 8 + 7, none⟩ = some (.int .i64 (hw (n) 7)) ∧ w'.cell? ⟨w1.heap.size, 0, none⟩ = some (.int .i64 (hw (x) 0)) ∧ w'.cell? ⟨w1.heap.size, 1, none⟩ = some (.int .i64 (hw (x) 1)) ∧ w'.cell? ⟨w1.heap.size, 2, none⟩ = some (.int .i64 (hw (x) 2)) ∧ w'.cell? ⟨w1.heap.size, 3, none⟩ = some (.int .i64 (hw (x) 3)) ∧ w'.cell? ⟨w1.heap.size, 4, none⟩ = some (.int .i64 (hw (x) 4)) ∧ w'.cell? ⟨w1.heap.size, 5, none⟩ = some (.int .i64 (hw (x) 5)) ∧ w'.cell? ⟨w1.heap.size, 6, none⟩ = some (.int .i64 (hw (x) 6)) ∧ w'.cell? ⟨w1.heap.size, 7, none⟩ = some (.int .i64 (hw (x) 7))) (first | (with_reducible exact E8.cells2B D5.out E5.out K5.out.tl.b0) | (with_reducible exact E8.cells2B D4.out E4.out K4.out.tl.b0) | (with_reducible exact E8.cells2B DE.out HE.out KD.out.tl.b0) | (with_reducible exact E8.cells2B (E8.far8 D5.out (by have := hgd.out; omega) _ _ _ _ _ _ _ _) (E8.far8 E5.out (by have := hg.out; have := hs2.out; omega) _ _ _ _ _ _ _ _) (Blk.far8o K5.out.tl.b0 (by omega) _ _ _ _ _ _ _ _)))
        (first
          | (go_at_call 34; refine (times_any _ _ _ HDum.out.1 HDum.out.2 HNum.out.1 HNum.out.2).mono ?_; rintro e w4 ⟨rfl, h4⟩; rw [HT1.out]; have K4 := Lib.hid (KD.out.next h4); have E4 := Lib.hid (HE.out.next h4); have D4 := Lib.hid (DE.out.next h4))
          | (go_at_call 33; refine (plus_any _ _ _ HTB.out.1 HTB.out.2 HT.out.1 HT.out.2).mono ?_; rintro e w5 ⟨rfl, h5⟩; rw [HY.out]; have K5 := Lib.hid (K4.out.next h5); have E5 := Lib.hid (E4.out.next h5); have D5 := Lib.hid (D4.out.next h5); obtain ⟨z0, z1, z2, z3, z4, z5, z6, z7⟩ := (K5.out.b0.rowe8 HZ.out).cells; obtain ⟨f0, f1, f2, f3, f4, f5, f6, f7⟩ := Blk.rowf8 K5.out.b0 (k * 8)))
      go_wp2_with fail
      go_roundw
      case rel =>
        refine ⟨k + 1, by omega, by go_num, ?_, ?_⟩
        · rw [← pre_set HA.out]
          exact K5.out.rowset8 (by have := hs2.out; omega) (fun x hx => by simp at hx; subst hx; simp) (by rw [HLen.out]; exact hlt) y
        · intro k' d' hd'
          exact E8.far8 ((((HD.out k' d' hd').drew).next h4).next h5) (by have := hgd.out; omega) _ _ _ _ _ _ _ _
      case measure => simp [intOf] <;> omega
    · obtain rfl : k = ns.length := by omega
      clear hK
      have E := length_intL HDL.out
      rw [← E, pre_full] at K
      have hs2 := Lib.hid hs1
      clear E hs1
      go_wp2_with fail
      go_ret
      exact ⟨_, rfl, by have := hs2.out; omega, K.out.b0, K.out.1⟩

set_option maxHeartbeats 1000000 in
set_option maxRecDepth 100000 in
theorem internal4_any (ao : Option Addr) (g o cap : Nat) (ns : List Int) (gd od capd : Nat) (ds : List Int) (w : World) (ha : 0 < ns.length → ao = some ⟨g, o, none⟩) (hl : LE w g o ns) (hn : ∀ n ∈ ns, 0 ≤ n ∧ n < fp) (hm : ns.length = 4) (hdm : ds.length = 4) (hdl : LE w gd od ds) (hdb : ∀ d ∈ ds, 0 ≤ d ∧ d < fp) :
    Calls Tryd.prog 16 #[.slice ao ns.length cap, .slice (some ⟨gd, od, none⟩) ds.length capd] w fun e w' =>
      ∃ b, e = .returned (.slice (some ⟨b, 0, none⟩) ns.length ns.length) ∧ w.heap.size ≤ b ∧ Blk w' b 44 (hwsL (intL ds ns)).toArray ∧ Below w.heap.size w w' := by
  obtain ⟨i0, hi, hz0, hz1, hz2⟩ := info_parts spec_elt_info
  have hmk := run_makeN (P := Tryd.prog) 27 44 i0 _ Tryd.underlying27 hi hz0 .i64 .i64 ns.length ns.length (Nat.le_refl _) (by rw [hz2]; omega) (by omega)
  rw [hz1] at hmk
  simp only [Value.cells] at hmk
  rw [made_zero8] at hmk
  clear hi hz0 hz1 hz2
  have hb2 : ((ns.length : Int) == 2) = false := by rw [hm]; rfl
  have hb3 : ((ns.length : Int) == 3) = false := by rw [hm]; rfl
  have HT := Lib.hid (tot_lo ns.length ns)
  rw [List.take_length] at HT
  have HL := Lib.hid hl
  have HN := Lib.hid hn
  have HDL := Lib.hid (show ds.length = ns.length from by rw [hdm, hm])
  have HDB := Lib.hid hdb
  have HM := Lib.hid (And.intro hm hdm)
  have HDS := Lib.hid hdl
  obtain ⟨d0, hd0⟩ : ∃ d, ds[0]? = some d := ⟨_, List.getElem?_eq_getElem (by omega)⟩
  have hgw := Lib.hid (hdl.e8 hd0).lt
  clear hm hdm hdb hdl hd0
  go_enter Tryd.func16, Tryd.ntmps16
  clear hl hn
  go_wp2_with fail
  refine (total_any ao g o cap ns _ ha HL.out HN.out (by have := HM.out.1; omega)).mono ?_
  rintro e w1 ⟨rfl, h1⟩
  have K1 := Lib.hid (((Kp.nil h1).alloc (hws (tot ns)) 44 rfl).alloc (hwsL (List.replicate ns.length 0)).toArray 44 (b := w1.heap.size + 1) (by simp))
  have HD := Lib.hid (fun k d (hd : ds[k]? = some d) => (HDS.out.e8 hd).next K1.out.1)
  have hs1 := h1.size
  have hgd := Lib.hid (show gd < w1.heap.size from by have := hgw.out; omega)
  obtain ⟨x, hx⟩ : ∃ x, tot ns = x := ⟨_, rfl⟩
  rw [hx] at K1 HT HD ⊢
  have HX := Lib.hid hx
  clear h1 hx
  go_wp2_with fail
  go_loopw [28] (fun v wr => ∃ k : Nat, k ≤ ns.length ∧ v = .int .i64 k ∧ Kp w wr [(w1.heap.size + 1, 44, (hwsL (pre (intL ds ns) k)).toArray), (w1.heap.size, 44, hws x)] ∧ ∀ k d, ds[k]? = some d → E8 wr gd (od + k * 8) d) (fun v _ => ns.length - (intOf v).toNat)
  case atStart =>
    refine ⟨0, Nat.zero_le _, rfl, ?_, HD.out⟩
    have e : pre (intL ds ns) 0 = List.replicate ns.length 0 := by rw [pre, length_intL HDL.out, List.take_zero, List.nil_append, Nat.sub_zero]
    rw [e]
    exact K1.out
  case round =>
    obtain ⟨k, hk', rfl, hK, hD⟩ := hrel
    have K := Lib.hid hK
    clear K1 HD
    have HD := Lib.hid hD
    clear hD
    by_cases hlt : k < ns.length
    · obtain ⟨n, hn'⟩ : ∃ n, ns[k]? = some n := ⟨_, List.getElem?_eq_getElem hlt⟩
      obtain ⟨d, hd'⟩ := dlist_at HDL.out hlt
      have HNum := Lib.hid (HN.out n (List.mem_of_getElem? hn'))
      have HDum := Lib.hid (HDB.out d (List.mem_of_getElem? hd'))
      have HE := Lib.hid ((HL.out.e8 hn').below hK.1 (HL.out.e8 hn').lt).drew
      have DE := Lib.hid (HD.out k d hd').drew
      have HA := Lib.hid (intL_at hd' hn')
      rw [HX.out] at HA
      obtain rfl := ha (by omega)
      have KD := Lib.hid hK.drew
      have HZ := Lib.hid (pre_at (ms := intL ds ns) (k := k) (by rw [length_intL HDL.out]; exact hlt))
      have HLen := Lib.hid (length_pre (intL ds ns) (k := k) (by rw [length_intL HDL.out]; omega))
      rw [length_intL HDL.out] at HLen
      have t0 := mod_fp_lo (d * n); have t1 := mod_fp_hi (d * n)
      obtain ⟨t, ht⟩ : ∃ t, d * n % fp = t := ⟨_, rfl⟩
      rw [ht] at HA t0 t1
      have HT1 := Lib.hid ht
      have HTB := Lib.hid (And.intro t0 t1)
      obtain ⟨y, hy⟩ : ∃ y, (t + x) % fp = y := ⟨_, rfl⟩
      rw [hy] at HA
      have HY := Lib.hid hy
      have hg := Lib.hid (HL.out.e8 hn').lt
      have hs2 := Lib.hid hs1
      clear hn' hd' hK ha hy ht t0 t1 hs1
      have hkd : k < ds.length := by have := HM.out; omega
      have hkd4 : k < 4 := by have := HM.out.1; omega
      go_wp2_with fail
      go_region_held3 (fun w' => w'.cell? ⟨gd, od + k * 8, none⟩ = some (.int .i64 (hw (d) 0)) ∧ w'.cell? ⟨gd, od + k * 8 + 1, none⟩ = some (.int .i64 (hw (d) 1)) ∧ w'.cell? ⟨gd, od + k * 8 + 2, none⟩ = some (.int .i64 (hw (d) 2)) ∧ w'.cell? ⟨gd, od + k * 8 + 3, none⟩ = some (.int .i64 (hw (d) 3)) ∧ w'.cell? ⟨gd, od + k * 8 + 4, none⟩ = some (.int .i64 (hw (d) 4)) ∧ w'.cell? ⟨gd, od + k * 8 + 5, none⟩ = some (.int .i64 (hw (d) 5)) ∧ w'.cell? ⟨gd, od + k * 8 + 6, none⟩ = some (.int .i64 (hw (d) 6)) ∧ w'.cell? ⟨gd, od + k * 8 + 7, none⟩ = some (.int .i64 (hw (d) 7)) ∧ w'.cell? ⟨g, o + k * 8, none⟩ = some (.int .i64 (hw (n) 0)) ∧ w'.cell? ⟨g, o + k * 8 + 1, none⟩ = some (.int .i64 (hw (n) 1)) ∧ w'.cell? ⟨g, o + k * 8 + 2, none⟩ = some (.int .i64 (hw (n) 2)) ∧ w'.cell? ⟨g, o + k * 8 + 3, none⟩ = some (.int .i64 (hw (n) 3)) ∧ w'.cell? ⟨g, o + k * 8 + 4, none⟩ = some (.int .i64 (hw (n) 4)) ∧ w'.cell? ⟨g, o + k * 8 + 5, none⟩ = some (.int .i64 (hw (n) 5)) ∧ w'.cell? ⟨g, o + k * 8 + 6, none⟩ = some (.int .i64 (hw (n) 6)) ∧ w'.cell? ⟨g, o + k * 8 + 7, none⟩ = some (.int .i64 (hw (n) 7)) ∧ w'.cell? ⟨w1.heap.size, 0, none⟩ = some (.int .i64 (hw (x) 0)) ∧ w'.cell? ⟨w1.heap.size, 1, none⟩ = some (.int .i64 (hw (x) 1)) ∧ w'.cell? ⟨w1.heap.size, 2, none⟩ = some (.int .i64 (hw (x) 2)) ∧ w'.cell? ⟨w1.heap.size, 3, none⟩ = some (.int .i64 (hw (x) 3)) ∧ w'.cell? ⟨w1.heap.size, 4, none⟩ = some (.int .i64 (hw (x) 4)) ∧ w'.cell? ⟨w1.heap.size, 5, none⟩ = some (.int .i64 (hw (x) 5)) ∧ w'.cell? ⟨w1.heap.size, 6, none⟩ = some (.int .i64 (hw (x) 6)) ∧ w'.cell? ⟨w1.heap.size, 7, none⟩ = some (.int .i64 (hw (x) 7))) (first | (with_reducible exact E8.cells2B D5.out E5.out K5.out.tl.b0) | (with_reducible exact E8.cells2B D4.out E4.out K4.out.tl.b0) | (with_reducible exact E8.cells2B DE.out HE.out KD.out.tl.b0) | (with_reducible exact E8.cells2B (E8.far8 D5.out (by have := hgd.out; omega) _ _ _ _ _ _ _ _) (E8.far8 E5.out (by have := hg.out; have := hs2.out; omega) _ _ _ _ _ _ _ _) (Blk.far8o K5.out.tl.b0 (by omega) _ _ _ _ _ _ _ _)))
        (first
          | (go_at_call 34; refine (times_any _ _ _ HDum.out.1 HDum.out.2 HNum.out.1 HNum.out.2).mono ?_; rintro e w4 ⟨rfl, h4⟩; rw [HT1.out]; have K4 := Lib.hid (KD.out.next h4); have E4 := Lib.hid (HE.out.next h4); have D4 := Lib.hid (DE.out.next h4))
          | (go_at_call 33; refine (plus_any _ _ _ HTB.out.1 HTB.out.2 HT.out.1 HT.out.2).mono ?_; rintro e w5 ⟨rfl, h5⟩; rw [HY.out]; have K5 := Lib.hid (K4.out.next h5); have E5 := Lib.hid (E4.out.next h5); have D5 := Lib.hid (D4.out.next h5); obtain ⟨z0, z1, z2, z3, z4, z5, z6, z7⟩ := (K5.out.b0.rowe8 HZ.out).cells; obtain ⟨f0, f1, f2, f3, f4, f5, f6, f7⟩ := Blk.rowf8 K5.out.b0 (k * 8)))
      go_wp2_with fail
      go_roundw
      case rel =>
        refine ⟨k + 1, by omega, by go_num, ?_, ?_⟩
        · rw [← pre_set HA.out]
          exact K5.out.rowset8 (by have := hs2.out; omega) (fun x hx => by simp at hx; subst hx; simp) (by rw [HLen.out]; exact hlt) y
        · intro k' d' hd'
          exact E8.far8 ((((HD.out k' d' hd').drew).next h4).next h5) (by have := hgd.out; omega) _ _ _ _ _ _ _ _
      case measure => simp [intOf] <;> omega
    · obtain rfl : k = ns.length := by omega
      clear hK
      have E := length_intL HDL.out
      rw [← E, pre_full] at K
      have hs2 := Lib.hid hs1
      clear E hs1
      go_wp2_with fail
      go_ret
      exact ⟨_, rfl, by have := hs2.out; omega, K.out.b0, K.out.1⟩

end Go.Proofs.YtodofaoaenddgaaDoor
