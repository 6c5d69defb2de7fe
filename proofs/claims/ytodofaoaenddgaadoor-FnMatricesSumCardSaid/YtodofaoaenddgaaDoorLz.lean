/-
  laws.flat and laws.sums, walked. The drawn region of sums is printed by gen_sums.py.
-/
import Derived.Test.YtodofaoaenddgaaDoorLw
namespace Go.Proofs.YtodofaoaenddgaaDoor
open Go.RowKit Go.Lib Fr
attribute [local go_sem] setCell_drewN alloc_drewN

theorem byte_info : (Tryd.prog.info? 5).map (fun i => (i.zero, i.size, i.bytes)) = some (some (.int .u8 0), 1, 1) := by kernel_rfl
theorem bts_one (n : Int) : ∀ u ∈ (bts n).toList, u.oneCell' = true := fun u hu => by
  simp only [bts, List.mem_map] at hu
  obtain ⟨i, _, rfl⟩ := hu
  rfl

set_option maxHeartbeats 1000000 in
set_option maxRecDepth 100000 in
theorem flat_any (ao : Option Addr) (g o cap : Nat) (ns : List Int) (w : World) (ha : 0 < ns.length → ao = some ⟨g, o, none⟩) (hl : LB w g o ns) (hk : ns.length ≤ 65536) :
    Calls Tryd.prog 21 #[.slice ao ns.length cap] w fun e w' =>
      ∃ v, e = .returned v ∧ w'.ownsRow w.heap.size 5 1 v (ns.length * 32) (btsL ns) ∧ Below w.heap.size w w' := by
  obtain ⟨i0, hi, hz0, hz1, hz2⟩ := info_parts byte_info
  have HI := Lib.hid (And.intro hi (And.intro hz0 (And.intro hz1 hz2)))
  clear hi hz0 hz1 hz2
  go_enter Tryd.func21, Tryd.ntmps21
  go_wp2_with fail
  go_loopw [3, 9] (fun out v wr => ∃ k : Nat, k ≤ ns.length ∧ v = .int .i64 k ∧ wr.ownsRow w.heap.size 5 1 out (k * 32) (btsL (ns.take k)) ∧ Below w.heap.size w wr) (fun _ v _ => ns.length - (intOf v).toNat)
  case atStart =>
    refine ⟨0, Nat.zero_le _, rfl, ?_, ?_⟩
    · exact World.ownsRow_made w #[] 0 (Nat.le_refl _) (by decide) rfl
    · exact (RowKit.Below.refl _ _).alloc (Nat.le_refl _) _
  case round =>
    obtain ⟨k, hk', rfl, hO, hb⟩ := hrel
    by_cases hlt : k < ns.length
    · obtain ⟨n, hn'⟩ : ∃ n, ns[k]? = some n := ⟨_, List.getElem?_eq_getElem hlt⟩
      have HC := Lib.hid (hl.load hb rfl hn')
      have HN := Lib.hid hn'
      obtain rfl := ha (by omega)
      have K0 := Lib.hid (((Kp.nil (RowKit.Below.refl wr.heap.size wr)).alloc (bpre 0 0) 38 rfl).setRow (Nat.le_refl _) (fun x hx => nomatch hx) (bts n))
      have B1 := Lib.hid (hb.trans (K0.out.1.mono hb.size))
      have O1 := Lib.hid (ownsRow_below hO K0.out.1)
      have H1 := Lib.hid (bts_one n)
      have L1 := hO.lt
      have HL := Lib.hid L1
      clear hn' hl hb hO L1
      go_wp2_with (first | (refine wpList_load_at rfl 38 _ rfl ⟨g, o + k * 32, none⟩ rfl (bts n) _ HC.out Tryd.underlying38 rfl (by kernel_rfl) ?_; go_frame) | (rw [z32 0]; refine wpList_store_blk rfl 38 _ _ rfl (wr.heap.size) 38 (bpre 0 0) (bts (n)) (Blk.new _ _ _ (by simp)) rfl rfl (by kernel_rfl) (by rw [size_bpre, size_bts]) (one_bts _) ?_; go_frame) | (at_builtin; refine wpList_append_lies _ rfl _ _ _ rfl w.heap.size 5 i0 _ 1 1 Tryd.underlying35 HI.out.1 HI.out.2.1 HI.out.2.2.1 HI.out.2.2.2 rfl (by decide) _ _ _ rfl O1.out ⟨wr.heap.size, 0, none⟩ 32 32 (bts n).toList rfl (by simp) (World.news_of_block K0.out.b0) H1.out (by decide) (by unfold maxLen; omega) (by omega) B1.out.size _ rfl ?_; intro g3 cap3 w3 hown3 hgrow3 hat3 hlt3; have O3 := Lib.hid hown3; have G3 := Lib.hid hgrow3; clear hown3 hgrow3 hat3))
      go_roundw
      case rel =>
        refine ⟨k + 1, by omega, by go_num, ?_, B1.out.trans (grown_below G3.out B1.out.size (fun j hj => (HL.out j hj).1))⟩
        rw [List.take_add_one, HN.out, show (k + 1) * 32 = k * 32 + 32 from by omega]
        show w3.ownsRow _ _ _ _ _ (btsL (_ ++ [n]))
        rw [btsL_snoc]
        exact O3.out
      case measure => simp [intOf] <;> omega
    · obtain rfl : k = ns.length := by omega
      rw [List.take_length] at hO
      have HO := Lib.hid (And.intro hO hb)
      clear hO hb hlt
      go_wp2_with fail
      go_ret
      exact ⟨_, rfl, HO.out.1, HO.out.2⟩

theorem fold_set : ∀ (vs old pre : List Value), old.length = vs.length → List.foldl (fun (cs : Array Value) (x : Value × Nat) => cs.setIfInBounds x.2 x.1) (pre ++ old).toArray (vs.zipIdx pre.length) = (pre ++ vs).toArray
  | [], [], _, _ => rfl
  | v :: vs, o :: old, pre, h => by
    rw [List.zipIdx_cons, List.foldl_cons]
    have e : (pre ++ o :: old).toArray.setIfInBounds pre.length v = ((pre ++ [v]) ++ old).toArray := by
      simp [List.setIfInBounds_toArray, List.set_append_right]
    have ih := fold_set vs old (pre ++ [v]) (by simpa using h)
    rw [show (pre ++ [v]).length = pre.length + 1 from by simp] at ih
    show List.foldl _ ((pre ++ o :: old).toArray.setIfInBounds pre.length v) _ = _
    rw [e, ih]
    simp
  | [], _ :: _, _, h => by simp at h
  | _ :: _, [], _, h => by simp at h
set_option maxRecDepth 100000 in
theorem slice_cells (y : Int) : Array.foldl (fun (cs : Array Value) (x : Value × Nat) => cs.setIfInBounds x.2 x.1) #[Value.int .u8 0, Value.int .u8 0, Value.int .u8 0, Value.int .u8 0, Value.int .u8 0, Value.int .u8 0, Value.int .u8 0, Value.int .u8 0, Value.int .u8 0, Value.int .u8 0, Value.int .u8 0, Value.int .u8 0, Value.int .u8 0, Value.int .u8 0, Value.int .u8 0, Value.int .u8 0, Value.int .u8 0, Value.int .u8 0, Value.int .u8 0, Value.int .u8 0, Value.int .u8 0, Value.int .u8 0, Value.int .u8 0, Value.int .u8 0, Value.int .u8 0, Value.int .u8 0, Value.int .u8 0, Value.int .u8 0, Value.int .u8 0, Value.int .u8 0, Value.int .u8 0, Value.int .u8 0] ((bts y).zipIdx) 0 32 = bts y := by
  have h := fold_set (bts y).toList (List.replicate 32 (.int .u8 0)) [] (by simp)
  have hs : ((bts y).zipIdx).size = 32 := by simp
  have e : Array.foldl (fun (cs : Array Value) (x : Value × Nat) => cs.setIfInBounds x.2 x.1) #[Value.int .u8 0, Value.int .u8 0, Value.int .u8 0, Value.int .u8 0, Value.int .u8 0, Value.int .u8 0, Value.int .u8 0, Value.int .u8 0, Value.int .u8 0, Value.int .u8 0, Value.int .u8 0, Value.int .u8 0, Value.int .u8 0, Value.int .u8 0, Value.int .u8 0, Value.int .u8 0, Value.int .u8 0, Value.int .u8 0, Value.int .u8 0, Value.int .u8 0, Value.int .u8 0, Value.int .u8 0, Value.int .u8 0, Value.int .u8 0, Value.int .u8 0, Value.int .u8 0, Value.int .u8 0, Value.int .u8 0, Value.int .u8 0, Value.int .u8 0, Value.int .u8 0, Value.int .u8 0] ((bts y).zipIdx) 0 32 = Array.foldl (fun (cs : Array Value) (x : Value × Nat) => cs.setIfInBounds x.2 x.1) #[Value.int .u8 0, Value.int .u8 0, Value.int .u8 0, Value.int .u8 0, Value.int .u8 0, Value.int .u8 0, Value.int .u8 0, Value.int .u8 0, Value.int .u8 0, Value.int .u8 0, Value.int .u8 0, Value.int .u8 0, Value.int .u8 0, Value.int .u8 0, Value.int .u8 0, Value.int .u8 0, Value.int .u8 0, Value.int .u8 0, Value.int .u8 0, Value.int .u8 0, Value.int .u8 0, Value.int .u8 0, Value.int .u8 0, Value.int .u8 0, Value.int .u8 0, Value.int .u8 0, Value.int .u8 0, Value.int .u8 0, Value.int .u8 0, Value.int .u8 0, Value.int .u8 0, Value.int .u8 0] ((bts y).zipIdx) 0 ((bts y).zipIdx).size := by rw [hs]
  rw [e, ← Array.foldl_toList, Array.toList_zipIdx]
  exact h
/-- The sums of two lists modulo the prime. -/
def addL (ns ms : List Int) : List Int := List.zipWith (fun n m => (n + m) % fp) ns ms
theorem length_addL {ns ms : List Int} (h : ns.length = ms.length) : (addL ns ms).length = ns.length := by simp [addL, h]
theorem addL_at {ns ms : List Int} {k : Nat} {n m : Int} (h1 : ns[k]? = some n) (h2 : ms[k]? = some m) : (addL ns ms)[k]? = some ((n + m) % fp) := by
  simp [addL, List.getElem?_zipWith, h1, h2]

set_option maxHeartbeats 2000000 in
set_option maxRecDepth 100000 in
theorem sums_any (g o cap g2 o2 cap2 : Nat) (ns ms : List Int) (w : World) (hl : LB w g o ns) (hl2 : LB w g2 o2 ms) (hn : ∀ n ∈ ns, 0 ≤ n ∧ n < fp) (hm : ∀ n ∈ ms, 0 ≤ n ∧ n < fp) (hlen : ns.length = ms.length) (hk : ns.length ≤ 65536) :
    Calls Tryd.prog 20 #[.slice (some ⟨g, o, none⟩) ns.length cap, .slice (some ⟨g2, o2, none⟩) ms.length cap2] w fun e w' =>
      ∃ v, e = .returned v ∧ w'.ownsRow w.heap.size 38 32 v ns.length (btsL (addL ns ms)) ∧ Below w.heap.size w w' := by
  obtain ⟨i0, hi, hz0, hz1, hz2⟩ := info_parts b32_info
  have HI := Lib.hid (And.intro hi (And.intro hz0 (And.intro hz1 hz2)))
  have HL := Lib.hid hl
  have HL2 := Lib.hid hl2
  have HN := Lib.hid hn
  have HM := Lib.hid hm
  have HLen := Lib.hid hlen
  clear hi hz0 hz1 hz2 hl hl2 hn hm hlen
  go_enter Tryd.func20, Tryd.ntmps20
  go_wp2_with fail
  go_loopw [5, 10] (fun out v wr => ∃ k gr cr : Nat, k ≤ ns.length ∧ v = .int .i64 k ∧ out = .slice (some ⟨gr, 0, none⟩) k cr ∧ wr.ownsRow w.heap.size 38 32 (.slice (some ⟨gr, 0, none⟩) k cr) k (btsL ((addL ns ms).take k)) ∧ Below w.heap.size w wr) (fun _ v _ => ns.length - (intOf v).toNat)
  case atStart =>
    refine ⟨0, w.heap.size, 0, Nat.zero_le _, rfl, rfl, ?_, ?_⟩
    · exact World.ownsRow_made w #[] 0 (Nat.le_refl _) (by decide) rfl
    · exact (RowKit.Below.refl _ _).alloc (Nat.le_refl _) _
  case round =>
    obtain ⟨k, gr, cr, hk', rfl, rfl, hO, hb⟩ := hrel
    by_cases hlt : k < ns.length
    · have hlenO := HLen.out
      obtain ⟨n, hn'⟩ : ∃ n, ns[k]? = some n := ⟨_, List.getElem?_eq_getElem hlt⟩
      obtain ⟨m, hm'⟩ : ∃ m, ms[k]? = some m := ⟨_, List.getElem?_eq_getElem (by omega)⟩
      have HBn := Lib.hid (HN.out n (List.mem_of_getElem? hn'))
      have HBm := Lib.hid (HM.out m (List.mem_of_getElem? hm'))
      have HNn := Lib.hid (num_of_fp HBn.out.1 HBn.out.2)
      have HNm := Lib.hid (num_of_fp HBm.out.1 HBm.out.2)
      have HN1 := Lib.hid hn'
      have HM1 := Lib.hid hm'
      have HA := Lib.hid (addL_at hn' hm')
      obtain ⟨y, hy⟩ : ∃ y, (n + m) % fp = y := ⟨_, rfl⟩
      rw [hy] at HA
      have HY := Lib.hid hy
      have HO1 := Lib.hid (bts_one y)
      have HO := Lib.hid (show wr.drew.ownsRow w.heap.size 38 32 (.slice (some ⟨gr, 0, none⟩) k cr) k (btsL ((addL ns ms).take k)) from hO)
      have HLT := Lib.hid (fun j (hj : (Value.slice (some ⟨gr, 0, none⟩) k cr).ownBlock = some j) => (hO.lt j hj).1)
      have B0 := Lib.hid hb.drew
      have hu := Tryd.underlying38
      have hi1 := b32_size n
      have hi2 := b32_size m
      have k0 : (0 : Int) ≤ (k : Int) := by omega
      have k1 : (k : Int) < (ns.length : Int) := by omega
      have k2 : (k : Int) < (ms.length : Int) := by omega
      clear hn' hm' hy hO hb hlenO
      go_wp2_with fail
      refine wp_region_noPanic ?_
      refine wp_region_held_drew (S := fun w' => w'.rangeAt g (o + k * 32) (bts n).toList ∧ w'.rangeAt g2 (o2 + k * 32) (bts m).toList) (by kernel_rfl) ⟨(HL.out.next B0.out).range HN1.out, (HL2.out.next B0.out).range HM1.out⟩ (fun hS0 => ?_)
      refine wpAnyH_take (i := 0) (oi := _) (v := .slice (some ⟨gr, 0, none⟩) k cr) rfl (by kernel_rfl) (by kernel_rfl) (by kernel_rfl) (fun _ _ _ h => h) (Or.inl ⟨by rfl, ?_⟩) (by assumption) ?_
      · (intro w hSw; (try dsimp only at hSw); go_simp)
      try simp only [Act.put, List.setIfInBounds_toArray, List.set_cons_zero, List.set_cons_succ]
      refine wpAnyH_take (i := 1) (oi := _) (v := .slice (some ⟨g, o, none⟩) ns.length cap) rfl (by kernel_rfl) (by kernel_rfl) (by kernel_rfl) (fun _ _ _ h => h) (Or.inl ⟨by rfl, ?_⟩) (by assumption) ?_
      · (intro w hSw; (try dsimp only at hSw); go_simp)
      try simp only [Act.put, List.setIfInBounds_toArray, List.set_cons_zero, List.set_cons_succ]
      refine wpAnyH_take (i := 2) (oi := _) (v := .int .i64 k) rfl (by kernel_rfl) (by kernel_rfl) (by kernel_rfl) (fun _ _ _ h => h) (Or.inl ⟨by rfl, ?_⟩) (by assumption) ?_
      · (intro w hSw; (try dsimp only at hSw); go_simp)
      try simp only [Act.put, List.setIfInBounds_toArray, List.set_cons_zero, List.set_cons_succ]
      refine wpAnyH_take (i := 3) (oi := _) (v := .pointer (some ⟨g, o + k * 32, none⟩)) rfl (by kernel_rfl) (by kernel_rfl) (by kernel_rfl) (fun _ _ _ h => h) (Or.inl ⟨by rfl, ?_⟩) (by assumption) ?_
      · (intro w hSw; (try dsimp only at hSw); go_simp)
      try simp only [Act.put, List.setIfInBounds_toArray, List.set_cons_zero, List.set_cons_succ]
      refine wpAnyH_take (i := 4) (oi := _) (v := _) rfl (by kernel_rfl) (by kernel_rfl) (by kernel_rfl) (fun _ _ _ h => h) (yieldsIf_load_mid (by rfl) _ _ rfl _ _ rfl (bts (n)).toList _ (fun _ h => h.1) hu rfl hi1) (by assumption) ?_
      try simp only [Act.put, List.setIfInBounds_toArray, List.set_cons_zero, List.set_cons_succ]
      refine wpAnyH_take (i := 6) (oi := _) (v := .slice (some ⟨g2, o2, none⟩) ms.length cap2) rfl (by kernel_rfl) (by kernel_rfl) (by kernel_rfl) (fun _ _ _ h => h) (Or.inl ⟨by rfl, ?_⟩) (by assumption) ?_
      · (intro w hSw; (try dsimp only at hSw); go_simp)
      try simp only [Act.put, List.setIfInBounds_toArray, List.set_cons_zero, List.set_cons_succ]
      refine wpAnyH_take (i := 7) (oi := _) (v := .int .i64 k) rfl (by kernel_rfl) (by kernel_rfl) (by kernel_rfl) (fun _ _ _ h => h) (Or.inl ⟨by rfl, ?_⟩) (by assumption) ?_
      · (intro w hSw; (try dsimp only at hSw); go_simp)
      try simp only [Act.put, List.setIfInBounds_toArray, List.set_cons_zero, List.set_cons_succ]
      refine wpAnyH_take (i := 8) (oi := _) (v := .pointer (some ⟨g2, o2 + k * 32, none⟩)) rfl (by kernel_rfl) (by kernel_rfl) (by kernel_rfl) (fun _ _ _ h => h) (Or.inl ⟨by rfl, ?_⟩) (by assumption) ?_
      · (intro w hSw; (try dsimp only at hSw); go_simp)
      try simp only [Act.put, List.setIfInBounds_toArray, List.set_cons_zero, List.set_cons_succ]
      refine wpAnyH_take (i := 9) (oi := _) (v := _) rfl (by kernel_rfl) (by kernel_rfl) (by kernel_rfl) (fun _ _ _ h => h) (yieldsIf_load_mid (by rfl) _ _ rfl _ _ rfl (bts (m)).toList _ (fun _ h => h.2) hu rfl hi2) (by assumption) ?_
      try simp only [Act.put, List.setIfInBounds_toArray, List.set_cons_zero, List.set_cons_succ]
      refine wpAnyH_ready (rs := [5]) (by kernel_rfl) (by simp) ?_
      refine AllReadyH.cons (o := _) rfl (fun K hK => ?_) AllReadyH.nil
      go_simp
      go_at_call 26
      refine (number_any n _ HNn.out).mono ?_
      rintro e w1 ⟨rfl, h⟩
      have B1 := Lib.hid (bel B0.out h)
      have G1 := Lib.hid h
      clear h
      go_wp2_with fail
      refine hK.out _ _ ⟨(HL.out.next B1.out).range HN1.out, (HL2.out.next B1.out).range HM1.out⟩ (fun hHeld => ?_)
      clear hK K
      try simp only [Act.put, List.setIfInBounds_toArray, List.set_cons_zero, List.set_cons_succ]
      refine wpAnyH_ready (rs := [10]) (by kernel_rfl) (by simp) ?_
      refine AllReadyH.cons (o := _) rfl (fun K hK => ?_) AllReadyH.nil
      go_simp
      go_at_call 26
      refine (number_any m _ HNm.out).mono ?_
      rintro e w2 ⟨rfl, h⟩
      have B2 := Lib.hid (bel B1.out h)
      have G2 := Lib.hid (bel G1.out h)
      clear h
      go_wp2_with fail
      refine hK.out _ _ ⟨(HL.out.next B2.out).range HN1.out, (HL2.out.next B2.out).range HM1.out⟩ (fun hHeld => ?_)
      clear hK K
      try simp only [Act.put, List.setIfInBounds_toArray, List.set_cons_zero, List.set_cons_succ]
      refine wpAnyH_ready (rs := [11]) (by kernel_rfl) (by simp) ?_
      refine AllReadyH.cons (o := _) rfl (fun K hK => ?_) AllReadyH.nil
      go_simp
      go_at_call 33
      refine (plus_any n m _ HBn.out.1 HBn.out.2 HBm.out.1 HBm.out.2).mono ?_
      rintro e w3 ⟨rfl, h⟩
      have B3 := Lib.hid (bel B2.out h)
      have G3 := Lib.hid (bel G2.out h)
      clear h
      rw [HY.out]
      go_wp2_with fail
      refine hK.out _ _ ⟨(HL.out.next B3.out).range HN1.out, (HL2.out.next B3.out).range HM1.out⟩ (fun hHeld => ?_)
      clear hK K
      try simp only [Act.put, List.setIfInBounds_toArray, List.set_cons_zero, List.set_cons_succ]
      refine wpAnyH_ready (rs := [12]) (by kernel_rfl) (by simp) ?_
      refine AllReadyH.cons (o := _) rfl (fun K hK => ?_) AllReadyH.nil
      go_simp
      go_at_call 39
      refine (bytes_any y _).mono ?_
      rintro e w4 ⟨rfl, h⟩
      have B4 := Lib.hid (bel B3.out h)
      have G4 := Lib.hid (bel G3.out h)
      clear h
      go_wp2_with fail
      refine hK.out _ _ ⟨(HL.out.next B4.out).range HN1.out, (HL2.out.next B4.out).range HM1.out⟩ (fun hHeld => ?_)
      clear hK K
      try simp only [Act.put, List.setIfInBounds_toArray, List.set_cons_zero, List.set_cons_succ]
      refine wpAnyH_ready (rs := [13]) (by kernel_rfl) (by simp) ?_
      refine AllReadyH.cons (o := _) rfl (fun K hK => ?_) AllReadyH.nil
      go_simp
      rw [slice_cells]
      have B5 := Lib.hid (B4.out.alloc (B := w.heap.size) B4.out.size (.cells (bts y) 38))
      refine hK.out _ _ ⟨(HL.out.next B5.out).range HN1.out, (HL2.out.next B5.out).range HM1.out⟩ (fun hHeld => ?_)
      clear hK K
      try simp only [Act.put, List.setIfInBounds_toArray, List.set_cons_zero, List.set_cons_succ]
      have O1 := Lib.hid (ownsRow_below HO.out (G4.out.alloc (B := wr.drew.heap.size) G4.out.size (.cells (bts y) 38)))
      refine wpAnyH_ready (rs := [14]) (by kernel_rfl) (by simp) ?_
      refine AllReadyH.cons (o := _) rfl (fun K hK => ?_) AllReadyH.nil
      refine step_append_lies _ (by rfl) _ _ _ (by rfl) w.heap.size 38 i0 _ 32 32 Tryd.underlying22 HI.out.1 HI.out.2.1 HI.out.2.2.1 HI.out.2.2.2 (by rfl) (by decide) (.slice (some ⟨gr, 0, none⟩) k cr) k _ (by rfl) O1.out ⟨w4.heap.size, 0, none⟩ 1 1 (bts y).toList (by rfl) (by simp) (World.news_of_block (heap_alloc_new w4 _)) HO1.out (by decide) (by unfold maxLen; omega) (by omega) B5.out.size _ rfl ?_
      intro g3 cap3 w5 hown3 hgrow3 hat3 hlt3
      have B6 := Lib.hid (B5.out.trans (grown_below hgrow3 B5.out.size (fun j hj => (HLT.out j hj))))
      have O3 := Lib.hid hown3
      clear hown3 hgrow3 hat3 hlt3
      refine hK.out _ _ ⟨(HL.out.next B6.out).range HN1.out, (HL2.out.next B6.out).range HM1.out⟩ (fun hHeld => ?_)
      clear hK K
      try simp only [Act.put, List.setIfInBounds_toArray, List.set_cons_zero, List.set_cons_succ]
      refine wpAnyH_take (i := 15) (oi := _) (v := .slice (some ⟨g3, 0, none⟩) (k + 1) cap3) rfl (by kernel_rfl) (by kernel_rfl) (by kernel_rfl) (fun _ _ _ h => h) (Or.inl ⟨by rfl, ?_⟩) (by assumption) ?_
      · (intro w hSw; (try dsimp only at hSw); go_simp)
      try simp only [Act.put, List.setIfInBounds_toArray, List.set_cons_zero, List.set_cons_succ]
      refine wpAnyH_done (by kernel_rfl) ?_ _
      refine NoPanic.normal ?_
      simp only [List.getElem_toArray, List.getElem_cons_succ, List.getElem_cons_zero]
      go_wp2_with fail
      go_roundw
      case rel =>
        refine ⟨k + 1, g3, cap3, by omega, by go_num, rfl, ?_, B6.out⟩
        rw [List.take_add_one, HA.out]
        show w5.ownsRow _ _ _ _ _ (btsL (_ ++ [y]))
        rw [btsL_snoc]
        exact O3.out
      case measure => simp [intOf] <;> omega
    · obtain rfl : k = ns.length := by omega
      have E := length_addL HLen.out
      rw [List.take_of_length_le (by omega)] at hO
      have HO := Lib.hid (And.intro hO hb)
      clear hO hb hlt E
      go_wp2_with fail
      go_ret
      exact ⟨_, rfl, HO.out.1, HO.out.2⟩
end Go.Proofs.YtodofaoaenddgaaDoor
