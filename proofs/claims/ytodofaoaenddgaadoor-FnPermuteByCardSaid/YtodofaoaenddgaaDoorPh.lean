/-
  The law FnPermuteBy on inputs of the right shape, walked.
-/
import Derived.Test.YtodofaoaenddgaaDoorPg
import Derived.Deep.Cut
namespace Go.Proofs.YtodofaoaenddgaaDoor
open Go.RowKit Go.Lib Fr
attribute [local go_sem] setCell_drewN alloc_drewN

theorem hdrB_info : (Tryd.prog.info? 22).map (fun i => (i.zero, i.size, i.bytes)) = some (some (.slice none 0 0), 1, 24) := by kernel_rfl
theorem hdrE_info : (Tryd.prog.info? 27).map (fun i => (i.zero, i.size, i.bytes)) = some (some (.slice none 0 0), 1, 24) := by kernel_rfl
set_option maxHeartbeats 4000000 in
set_option maxRecDepth 100000 in
theorem lawPB_main (gF oF cF : Nat) (aoI : Option Addr) (gI oI cI gL oL cL g o c n m : Nat) (fs is ls s : List Int) (w : World) (hF : LB w gF oF fs) (bF : ∀ k ∈ fs, 0 ≤ k ∧ k < fp) (nF : fs.length = n)
    (haI : 0 < is.length → aoI = some ⟨gI, oI, none⟩) (hI : LB w gI oI is) (bI : ∀ k ∈ is, 0 ≤ k ∧ k < fp) (nI : is.length = m) (hL : LB w gL oL ls) (bL : ∀ k ∈ ls, 0 ≤ k ∧ k < fp) (nL : ls.length = n) (hS : LB w g o s) (bS : ∀ k ∈ s, 0 ≤ k ∧ k < fp) (nS : s.length = n) (h2 : 2 ≤ n) (h3 : n ≤ 3) (hm : m ≤ 20) :
    Calls Tryd.prog 9 #[.slice (some ⟨gF, oF, none⟩) n cF, .slice aoI m cI, .slice (some ⟨gL, oL, none⟩) n cL, .slice (some ⟨g, o, none⟩) n c] w fun e w' =>
      e = .returned (.bool true) ∧ Below w.heap.size w w' := by
  obtain ⟨iB, hi1, hz1, hz2, hz3⟩ := info_parts hdrB_info
  obtain ⟨iE, hi2, hy1, hy2, hy3⟩ := info_parts hdrE_info
  have IB := Lib.hid (And.intro hi1 (And.intro hz1 (And.intro hz2 hz3)))
  have IE := Lib.hid (And.intro hi2 (And.intro hy1 (And.intro hy2 hy3)))
  have HF := Lib.hid (And.intro hF (And.intro bF nF))
  have HI := Lib.hid (And.intro hI (And.intro bI nI))
  have HA := Lib.hid haI
  have HL := Lib.hid (And.intro hL (And.intro bL nL))
  have HS := Lib.hid (And.intro hS (And.intro bS nS))
  have HGF := Lib.hid (hF.base (by omega))
  have HGL := Lib.hid (hL.base (by omega))
  have HSh := Lib.hid (keysL_shape nF nI nL)
  have HKb := Lib.hid (keysL_bd bF bI bL)
  have HKl := Lib.hid (keysL_last (fs := fs) (ls := ls) nI)
  have HKm := Lib.hid (fun (i : Nat) (k : Int) (h : is[i]? = some k) => keysL_mid (fs := fs) (ls := ls) h)
  have HK0 := Lib.hid (keysL_first fs is ls)
  obtain ⟨K, hK⟩ : ∃ K, keysL fs is ls = K := ⟨_, rfl⟩
  rw [hK] at HSh HKb HKl HK0
  simp only [hK] at HKm
  have N := Lib.hid (And.intro h2 (And.intro h3 hm))
  have z1 : ((n : Int) != (n : Int)) = false := by simp
  clear hi1 hz1 hz2 hz3 hi2 hy1 hy2 hy3 hF bF nF haI hI bI nI hL bL nL hS bS nS hK
  go_enter Tryd.func9, Tryd.ntmps9
  go_wp2_with fail
  refine (allP_any gF oF cF n fs w HF.out.1 HF.out.2.1 HF.out.2.2 h3).mono ?_
  rintro e w1 ⟨rfl, h⟩
  have B1 := Lib.hid h
  clear h
  go_wp2_with fail
  refine (allP_any gL oL cL n ls w1 (HL.out.1.next B1.out) HL.out.2.1 HL.out.2.2 h3).mono ?_
  rintro e w2 ⟨rfl, h⟩
  have B2 := Lib.hid (bel B1.out h)
  clear h B1
  go_wp2_with fail
  refine (allP_any g o c n s w2 (HS.out.1.next B2.out) HS.out.2.1 HS.out.2.2 h3).mono ?_
  rintro e w3 ⟨rfl, h⟩
  have B3 := Lib.hid (bel B2.out h)
  clear h B2
  go_wp2_with fail
  refine (all20_any aoI gI oI cI m is w3 HA.out (HI.out.1.next B3.out) HI.out.2.1 HI.out.2.2 hm).mono ?_
  rintro e w4 ⟨rfl, h⟩
  have B4 := Lib.hid (bel B3.out h)
  have B4a := Lib.hid (bel B4.out ((RowKit.Below.refl w4.heap.size w4).alloc (Nat.le_refl _) (.cells #[.slice (some ⟨gF, oF, none⟩) n cF] 22)))
  clear h B3
  go_wp2_with fail
  refine (numN_any gF oF cF n fs _ (HF.out.1.next B4a.out) HF.out.2.1 HF.out.2.2 (by omega) (by omega)).mono ?_
  rintro e w5 ⟨bN, cN, rfl, hbN1, hbN2, hLN, h⟩
  have P0 := Lib.hid (show PB w (w5.alloc (.cells #[.slice (some ⟨bN, 0, none⟩) n cN] 27)) K 1 1 w4.heap.size 1 w5.heap.size 1 [.slice (some ⟨gF, oF, none⟩) n cF] [.slice (some ⟨bN, 0, none⟩) n cN] from by
    have s4 : w.heap.size ≤ w4.heap.size := B4.out.size
    have s5 : w4.heap.size + 1 ≤ w5.heap.size := by have := h.size; simpa using this
    have hgf := HGF.out
    have hB : RowKit.Below w5.heap.size w5 (w5.alloc (.cells #[.slice (some ⟨bN, 0, none⟩) n cN] 27)) := (RowKit.Below.refl w5.heap.size w5).alloc (Nat.le_refl _) _
    have hbN1' : w4.heap.size + 1 ≤ bN := by simpa using hbN1
    have e1 := HF.out.2.2
    refine ⟨ownsRow_below (ownsRow_below (ownsRow_lit w4 s4 _ _) h) hB, ownsRow_lit w5 (by omega) _ _, ?_, ?_, by omega, bel (bel B4a.out h) hB⟩
    · have hh := Hs.snoc (Q := LB) (w := w5.alloc (.cells #[.slice (some ⟨bN, 0, none⟩) n cN] 27)) (K := K) (gk := w4.heap.size) (gw := w5.heap.size) (i := 0) (gr := gF) (o := oF) (cr := cF) Hs.nil rfl HK0.out (((HF.out.1.next B4a.out).next h).next hB) (by simp; omega) (by omega) (by omega)
      rw [e1] at hh
      exact hh
    · have hh := Hs.snoc (Q := LE) (w := w5.alloc (.cells #[.slice (some ⟨bN, 0, none⟩) n cN] 27)) (K := K) (gk := w4.heap.size) (gw := w5.heap.size) (i := 0) (gr := bN) (o := 0) (cr := cN) Hs.nil rfl HK0.out (hLN.next hB) (by simp; omega) (by omega) (by omega)
      rw [e1] at hh
      exact hh)
  clear h hbN1 hbN2 hLN B4 B4a
  go_wp2_with fail
  go_loopw [10, 11, 81] (fun kv wv v wr => ∃ (i gk ck gw cw : Nat) (xs ys : List Value), i ≤ m ∧ v = .int .i64 i ∧ kv = .slice (some ⟨gk, 0, none⟩) (i + 1) ck ∧ wv = .slice (some ⟨gw, 0, none⟩) (i + 1) cw ∧ PB w wr K (i + 1) (i + 1) gk ck gw cw xs ys) (fun _ _ v _ => m - (intOf v).toNat)
  case atStart => exact ⟨0, _, _, _, _, _, _, Nat.zero_le _, rfl, rfl, rfl, P0.out⟩
  case round =>
    obtain ⟨i, gk, ck, gw, cw, xs, ys, hi, rfl, rfl, rfl, hP⟩ := hrel
    have P := Lib.hid hP
    clear hP P0
    by_cases hlt : i < m
    · have hIl := HI.out.2.2
      obtain ⟨k, hk⟩ : ∃ k, is[i]? = some k := ⟨_, List.getElem?_eq_getElem (by omega)⟩
      obtain rfl := HA.out (by omega)
      have HKi := Lib.hid (HKm.out i k hk)
      have hkb := HI.out.2.1 k (List.mem_of_getElem? hk)
      have HN := Lib.hid (num_of_fp hkb.1 hkb.2)
      have HC := Lib.hid (HI.out.1.load P.out.2.2.2.2.2 rfl hk)
      have i0 : (0 : Int) ≤ (i : Int) := by omega
      have i1 : (i : Int) < (m : Int) := by omega
      have K0 := Lib.hid (((Kp.nil (RowKit.Below.refl wr.heap.size wr)).alloc (bpre 0 0) 38 rfl).setRow (Nat.le_refl _) (fun x hx => nomatch hx) (bts k))
      have K1 := Lib.hid (K0.out.alloc (bts k) 38 (b := wr.heap.size + 1) (by simp))
      have K2 := Lib.hid (K1.out.alloc #[.slice (some ⟨wr.heap.size + 1, 0, none⟩) 1 1] 22 (b := wr.heap.size + 1 + 1) (by simp))
      have P2 := Lib.hid (P.out.next K2.out.1)
      have S2 := Lib.hid (And.intro P.out.sizeK P.out.sizeW)
      clear hk hkb hIl
      go_upto_region 11 with (first | (refine wpList_load_at rfl 38 _ rfl ⟨gI, oI + i * 32, none⟩ rfl (bts k) _ HC.out Tryd.underlying38 rfl (by kernel_rfl) ?_; go_frame) | (rw [z32 0]; refine wpList_store_blk rfl 38 _ _ rfl (wr.heap.size) 38 (bpre 0 0) (bts (k)) (Blk.new _ _ _ (by simp)) rfl rfl (by kernel_rfl) (by rw [size_bpre, size_bts]) (one_bts _) ?_; go_frame))
      go_upto_region 12 with (first | (at_builtin; rw [slice_cells]; refine wpList_append_lies _ rfl _ _ _ rfl w.heap.size 22 iB _ 1 24 Tryd.underlying48 IB.out.1 IB.out.2.1 IB.out.2.2.1 IB.out.2.2.2 rfl (by decide) (.slice (some ⟨gk, 0, none⟩) (i + 1 : Nat) ck) (i + 1) xs rfl P2.out.1 ⟨wr.heap.size + 1 + 1, 0, none⟩ 1 1 [.slice (some ⟨wr.heap.size + 1, 0, none⟩) 1 1] rfl rfl (World.news_of_block K2.out.b0) (fun u hu => by rw [List.mem_singleton] at hu; subst hu; rfl) (by decide) (by unfold maxLen; omega) (by omega) P2.out.2.2.2.2.2.size _ rfl ?_; intro g6 c6 w6 hown6 hgrow6 hat6 hlt6; have P3 := Lib.hid (PB.appK (ks := [k]) (gr := wr.heap.size + 1) (o := 0) (cr := 1) P2.out hgrow6 hown6 hat6 HKi.out (lb_one K2.out.tl.b0) K2.out.tl.b0.lt (by have := S2.out; omega) (by have := S2.out; omega)); have V3 := Lib.hid (K2.out.tl.tl.b0.keep (hgrow6.block _ K2.out.tl.tl.b0.lt (fun e => by have := S2.out; have e2 : wr.heap.size = gk := Option.some.inj e; omega))); clear hown6 hgrow6 hat6 hlt6) | (refine wpList_load_at rfl 38 _ rfl ⟨wr.heap.size, 0, none⟩ rfl (bts k) _ (K0.out.b0).load Tryd.underlying38 rfl (by kernel_rfl) ?_; go_frame))
      go_wp2_with (first | (refine wpList_load_at rfl 38 _ rfl ⟨wr.heap.size, 0, none⟩ rfl (bts k) _ (V3.out).load Tryd.underlying38 rfl (by kernel_rfl) ?_; go_frame))
      refine (number_any k _ HN.out).mono ?_
      rintro e w7 ⟨rfl, h⟩
      have P7 := Lib.hid (P3.out.next h)
      have K4 := Lib.hid ((Kp.nil (RowKit.Below.refl w7.heap.size w7)).alloc (hws k) 44 rfl)
      have K5 := Lib.hid (K4.out.alloc #[.slice (some ⟨w7.heap.size, 0, none⟩) 1 1] 27 (b := w7.heap.size + 1) (by simp))
      have P8 := Lib.hid (P7.out.next K5.out.1)
      have S8 := Lib.hid (And.intro P7.out.sizeK P7.out.sizeW)
      clear h P2 P3 V3 K0 K1 K2 S2 HC
      go_wp2_with (first | (at_builtin; rw [show (#[Value.int .i64 (hw k 0), Value.int .i64 (hw k 1), Value.int .i64 (hw k 2), Value.int .i64 (hw k 3), Value.int .i64 (hw k 4), Value.int .i64 (hw k 5), Value.int .i64 (hw k 6), Value.int .i64 (hw k 7)] : Array Value) = hws k from rfl]; refine wpList_append_lies _ rfl _ _ _ rfl w.heap.size 27 iE _ 1 24 Tryd.underlying49 IE.out.1 IE.out.2.1 IE.out.2.2.1 IE.out.2.2.2 rfl (by decide) (.slice (some ⟨gw, 0, none⟩) (i + 1 : Nat) cw) (i + 1) ys rfl P8.out.2.1 ⟨w7.heap.size + 1, 0, none⟩ 1 1 [.slice (some ⟨w7.heap.size, 0, none⟩) 1 1] rfl rfl (World.news_of_block K5.out.b0) (fun u hu => by rw [List.mem_singleton] at hu; subst hu; rfl) (by decide) (by unfold maxLen; omega) (by omega) P8.out.2.2.2.2.2.size _ rfl ?_; intro g9 c9 w9 hown9 hgrow9 hat9 hlt9; have P9 := Lib.hid (PB.appW (ks := [k]) (gr := w7.heap.size) (o := 0) (cr := 1) P8.out hgrow9 hown9 hat9 HKi.out (le_one K5.out.tl.b0) K5.out.tl.b0.lt (by have := S8.out; omega) (by have := S8.out; omega)); clear hown9 hgrow9 hat9 hlt9))
      go_roundw
      case rel => exact ⟨i + 1, _, _, _, _, _, _, by omega, by go_num, rfl, rfl, P9.out⟩
      case measure => simp [intOf] <;> omega
    · obtain rfl : m = i := by omega
      have K2 := Lib.hid ((Kp.nil (RowKit.Below.refl wr.heap.size wr)).alloc #[.slice (some ⟨gL, oL, none⟩) n cL] 22 rfl)
      have P2 := Lib.hid (P.out.next K2.out.1)
      have S2 := Lib.hid (And.intro P.out.sizeK P.out.sizeW)
      have LL2 := Lib.hid ((HL.out.1.next P.out.2.2.2.2.2).next K2.out.1)
      have SZ2 := Lib.hid P.out.2.2.2.2.2.size
      have n0 : 0 < n := by omega
      go_wp2_with (first | (at_builtin; refine wpList_append_lies _ rfl _ _ _ rfl w.heap.size 22 iB _ 1 24 Tryd.underlying48 IB.out.1 IB.out.2.1 IB.out.2.2.1 IB.out.2.2.2 rfl (by decide) (.slice (some ⟨gk, 0, none⟩) (m + 1 : Nat) ck) (m + 1) xs rfl P2.out.1 ⟨wr.heap.size, 0, none⟩ 1 1 [.slice (some ⟨gL, oL, none⟩) n cL] rfl rfl (World.news_of_block K2.out.b0) (fun u hu => by rw [List.mem_singleton] at hu; subst hu; rfl) (by decide) (by unfold maxLen; omega) (by omega) P2.out.2.2.2.2.2.size _ rfl ?_; intro g6 c6 w6 hown6 hgrow6 hat6 hlt6; have P3 := Lib.hid (PB.appK (ks := ls) (gr := gL) (o := oL) (cr := cL) P2.out hgrow6 (by rw [HL.out.2.2]; exact hown6) hat6 HKl.out LL2.out (by have := HGL.out; have := SZ2.out; simp; omega) (by have := S2.out; have := HGL.out; omega) (by have := S2.out; have := HGL.out; omega)); clear hown6 hgrow6 hat6 hlt6))
      refine (numN_any gL oL cL n ls _ (HL.out.1.next P3.out.2.2.2.2.2) HL.out.2.1 HL.out.2.2 n0 (by omega)).mono ?_
      rintro e w7 ⟨bN, cN, rfl, hbN1, hbN2, hLN, h⟩
      have P7 := Lib.hid (P3.out.next h)
      have K5 := Lib.hid ((Kp.nil (RowKit.Below.refl w7.heap.size w7)).alloc #[.slice (some ⟨bN, 0, none⟩) n cN] 27 rfl)
      have P8 := Lib.hid (P7.out.next K5.out.1)
      have S8 := Lib.hid (And.intro P3.out.sizeK (And.intro P3.out.sizeW (And.intro hbN1 hbN2)))
      have L8 := Lib.hid (hLN.next K5.out.1)
      clear h hLN hbN1 hbN2 P2 P3 K2 S2 LL2
      go_wp2_with (first | (at_builtin; refine wpList_append_lies _ rfl _ _ _ rfl w.heap.size 27 iE _ 1 24 Tryd.underlying49 IE.out.1 IE.out.2.1 IE.out.2.2.1 IE.out.2.2.2 rfl (by decide) (.slice (some ⟨gw, 0, none⟩) (m + 1 : Nat) cw) (m + 1) ys rfl P8.out.2.1 ⟨w7.heap.size, 0, none⟩ 1 1 [.slice (some ⟨bN, 0, none⟩) n cN] rfl rfl (World.news_of_block K5.out.b0) (fun u hu => by rw [List.mem_singleton] at hu; subst hu; rfl) (by decide) (by unfold maxLen; omega) (by omega) P8.out.2.2.2.2.2.size _ rfl ?_; intro g9 c9 w9 hown9 hgrow9 hat9 hlt9; have P9 := Lib.hid (PB.appW (ks := ls) (gr := bN) (o := 0) (cr := cN) P8.out hgrow9 (by rw [HL.out.2.2]; exact hown9) hat9 HKl.out L8.out (by have := S8.out; simp; omega) (by have := S8.out; omega) (by have := S8.out; omega)); clear hown9 hgrow9 hat9 hlt9))
      have HKB := Lib.hid (show KB w9 g6 K from P9.out.2.2.1.cells P9.out.1 HSh.out.1)
      have HKE := Lib.hid (show KE w9 g9 K from P9.out.2.2.2.1.cells P9.out.2.1 HSh.out.1)
      refine (permuteBy_any g6 c6 g o c n m (m + 2) K s w9 HKB.out HKb.out HSh.out rfl (HS.out.1.next P9.out.2.2.2.2.2) HS.out.2.1 HS.out.2.2 h2 h3 (by omega)).mono ?_
      rintro e wa ⟨ba, rfl, hBa, h⟩
      have La := Lib.hid hBa.lb
      have Ba := Lib.hid (bel P9.out.2.2.2.2.2 h)
      have HKEa := Lib.hid (HKE.out.next h)
      clear h hBa HKE HKB P7 P8 K5 S8 L8
      go_wp2_with fail
      refine (numN_any g o c n s wa (HS.out.1.next Ba.out) HS.out.2.1 HS.out.2.2 n0 (by omega)).mono ?_
      rintro e wb ⟨bb, cb, rfl, hb1, hb2, hLb, h⟩
      have Lb := Lib.hid hLb
      have La1 := Lib.hid (La.out.next h)
      have Bb := Lib.hid (bel Ba.out h)
      have HKEb := Lib.hid (HKEa.out.next h)
      clear h hLb hb1 hb2 La Ba HKEa
      go_wp2_with fail
      refine (permuted_any g9 c9 bb 0 cb n m (m + 2) K s wb HKEb.out HKb.out HSh.out rfl Lb.out HS.out.2.1 HS.out.2.2 h2 h3 (by omega)).mono ?_
      rintro e wc ⟨bc, rfl, hLc, h⟩
      have Lc := Lib.hid hLc
      have La2 := Lib.hid (La1.out.next h)
      have Bc := Lib.hid (bel Bb.out h)
      clear h hLc La1 Bb HKEb Lb
      go_wp2_with fail
      refine (areN_any ba n bc n n (stt n m K s (m + 2)) wc La2.out Lc.out (length_stt HS.out.2.2 h2 h3 _) (by omega)).mono ?_
      rintro e wd ⟨rfl, h⟩
      have Bd := Lib.hid (bel Bc.out h)
      clear h Bc Lc La2
      go_wp2_with fail
      go_ret
      exact ⟨rfl, Bd.out⟩
/-! ### for every input: printed by gen_pi.py -/
set_option maxHeartbeats 4000000 in
set_option maxRecDepth 100000 in
theorem fnPB_any (aoF : Option Addr) (gF oF cF : Nat) (fs : List Int) (aoI : Option Addr) (gI oI cI : Nat) (is : List Int) (aoL : Option Addr) (gL oL cL : Nat) (ls : List Int) (ao : Option Addr) (g o c : Nat) (s : List Int) (w : World)
    (haF : 0 < fs.length → aoF = some ⟨gF, oF, none⟩) (hF : LB w gF oF fs) (nF : ∀ n ∈ fs, Num n) (haI : 0 < is.length → aoI = some ⟨gI, oI, none⟩) (hI : LB w gI oI is) (nI : ∀ n ∈ is, Num n)
    (haL : 0 < ls.length → aoL = some ⟨gL, oL, none⟩) (hL : LB w gL oL ls) (nL : ∀ n ∈ ls, Num n) (haS : 0 < s.length → ao = some ⟨g, o, none⟩) (hS : LB w g o s) (nS : ∀ n ∈ s, Num n) :
    Calls Tryd.prog 9 #[.slice aoF fs.length cF, .slice aoI is.length cI, .slice aoL ls.length cL, .slice ao s.length c] w fun e w' =>
      e = .returned (.bool true) ∧ Below w.heap.size w w' := by
  by_cases b1 : 2147483647 < (fs.length : Int)
  · clear haF hF nF haI hI nI haL hL nL haS hS nS
    go_enter Tryd.func9, Tryd.ntmps9
    go_wp2_with fail
    go_ret
    exact ⟨rfl, RowKit.Below.refl _ _⟩
  by_cases b2 : 2147483647 < (is.length : Int)
  · clear haF hF nF haI hI nI haL hL nL haS hS nS
    go_enter Tryd.func9, Tryd.ntmps9
    go_wp2_with fail
    go_ret
    exact ⟨rfl, RowKit.Below.refl _ _⟩
  by_cases b3 : 2147483647 < (ls.length : Int)
  · clear haF hF nF haI hI nI haL hL nL haS hS nS
    go_enter Tryd.func9, Tryd.ntmps9
    go_wp2_with fail
    go_ret
    exact ⟨rfl, RowKit.Below.refl _ _⟩
  by_cases b4 : 2147483647 < (s.length : Int)
  · clear haF hF nF haI hI nI haL hL nL haS hS nS
    go_enter Tryd.func9, Tryd.ntmps9
    go_wp2_with fail
    go_ret
    exact ⟨rfl, RowKit.Below.refl _ _⟩
  by_cases b5 : (s.length : Int) < 2
  · clear haF hF nF haI hI nI haL hL nL haS hS nS
    go_enter Tryd.func9, Tryd.ntmps9
    go_wp2_with fail
    go_ret
    exact ⟨rfl, RowKit.Below.refl _ _⟩
  by_cases b6 : 3 < (s.length : Int)
  · clear haF hF nF haI hI nI haL hL nL haS hS nS
    go_enter Tryd.func9, Tryd.ntmps9
    go_wp2_with fail
    go_ret
    exact ⟨rfl, RowKit.Below.refl _ _⟩
  by_cases e1n : ¬ fs.length = s.length
  · have z0 : ((fs.length : Int) != (s.length : Int)) = true := by rw [bne_iff_ne]; omega
    clear haF hF nF haI hI nI haL hL nL haS hS nS
    go_enter Tryd.func9, Tryd.ntmps9
    go_wp2_with fail
    go_ret
    exact ⟨rfl, RowKit.Below.refl _ _⟩
  have e1 : fs.length = s.length := Classical.not_not.1 e1n
  clear e1n
  by_cases e2n : ¬ ls.length = s.length
  · have z0 : ((ls.length : Int) != (s.length : Int)) = true := by rw [bne_iff_ne]; omega
    have ze1 : ((fs.length : Int) != (s.length : Int)) = false := by rw [e1]; simp
    clear haF hF nF haI hI nI haL hL nL haS hS nS
    go_enter Tryd.func9, Tryd.ntmps9
    go_wp2_with fail
    go_ret
    exact ⟨rfl, RowKit.Below.refl _ _⟩
  have e2 : ls.length = s.length := Classical.not_not.1 e2n
  clear e2n
  have z1 : ((fs.length : Int) != (s.length : Int)) = false := by rw [e1]; simp
  have z2 : ((ls.length : Int) != (s.length : Int)) = false := by rw [e2]; simp
  have E1 := Lib.hid e1
  have E2 := Lib.hid e2
  clear e1 e2
  have AF := Lib.hid (fun (w1 : World) (h1 : RowKit.Below w.heap.size w w1) => all_any aoF gF oF cF fs 3 w1 haF (hF.next h1) nF (by decide))
  have AL := Lib.hid (fun (w1 : World) (h1 : RowKit.Below w.heap.size w w1) => all_any aoL gL oL cL ls 3 w1 haL (hL.next h1) nL (by decide))
  have AS := Lib.hid (fun (w1 : World) (h1 : RowKit.Below w.heap.size w w1) => all_any ao g o c s 3 w1 haS (hS.next h1) nS (by decide))
  have AI := Lib.hid (fun (w1 : World) (h1 : RowKit.Below w.heap.size w w1) => all_any aoI gI oI cI is 20 w1 haI (hI.next h1) nI (by decide))
  cases hb : (decide ((fs.length : Int) ≤ 3) && fs.all fun n => decide (n < fp))
  · rw [hb] at AF
    clear haF hF nF haI hI nI haL hL nL haS hS nS hb
    go_enter Tryd.func9, Tryd.ntmps9
    go_wp2_with fail
    refine (AF.out _ (RowKit.Below.refl w.heap.size w)).mono ?_
    rintro e w1 ⟨rfl, h⟩
    have B1 := Lib.hid (bel (RowKit.Below.refl w.heap.size w) h)
    clear h AF
    go_wp2_with fail
    go_ret
    exact ⟨rfl, B1.out⟩
  rw [hb] at AF
  obtain ⟨l0, q0⟩ := all_of hb
  clear hb
  cases hb : (decide ((ls.length : Int) ≤ 3) && ls.all fun n => decide (n < fp))
  · rw [hb] at AL
    clear haF hF nF haI hI nI haL hL nL haS hS nS hb q0
    go_enter Tryd.func9, Tryd.ntmps9
    go_wp2_with fail
    refine (AF.out _ (RowKit.Below.refl w.heap.size w)).mono ?_
    rintro e w1 ⟨rfl, h⟩
    have B1 := Lib.hid (bel (RowKit.Below.refl w.heap.size w) h)
    clear h AF
    go_wp2_with fail
    refine (AL.out _ B1.out).mono ?_
    rintro e w2 ⟨rfl, h⟩
    have B2 := Lib.hid (bel B1.out h)
    clear h AL
    go_wp2_with fail
    go_ret
    exact ⟨rfl, B2.out⟩
  rw [hb] at AL
  obtain ⟨l1, q1⟩ := all_of hb
  clear hb
  cases hb : (decide ((s.length : Int) ≤ 3) && s.all fun n => decide (n < fp))
  · rw [hb] at AS
    clear haF hF nF haI hI nI haL hL nL haS hS nS hb q0 q1
    go_enter Tryd.func9, Tryd.ntmps9
    go_wp2_with fail
    refine (AF.out _ (RowKit.Below.refl w.heap.size w)).mono ?_
    rintro e w1 ⟨rfl, h⟩
    have B1 := Lib.hid (bel (RowKit.Below.refl w.heap.size w) h)
    clear h AF
    go_wp2_with fail
    refine (AL.out _ B1.out).mono ?_
    rintro e w2 ⟨rfl, h⟩
    have B2 := Lib.hid (bel B1.out h)
    clear h AL
    go_wp2_with fail
    refine (AS.out _ B2.out).mono ?_
    rintro e w3 ⟨rfl, h⟩
    have B3 := Lib.hid (bel B2.out h)
    clear h AS
    go_wp2_with fail
    go_ret
    exact ⟨rfl, B3.out⟩
  rw [hb] at AS
  obtain ⟨l2, q2⟩ := all_of hb
  clear hb
  cases hb : (decide ((is.length : Int) ≤ 20) && is.all fun n => decide (n < fp))
  · rw [hb] at AI
    clear haF hF nF haI hI nI haL hL nL haS hS nS hb q0 q1 q2
    go_enter Tryd.func9, Tryd.ntmps9
    go_wp2_with fail
    refine (AF.out _ (RowKit.Below.refl w.heap.size w)).mono ?_
    rintro e w1 ⟨rfl, h⟩
    have B1 := Lib.hid (bel (RowKit.Below.refl w.heap.size w) h)
    clear h AF
    go_wp2_with fail
    refine (AL.out _ B1.out).mono ?_
    rintro e w2 ⟨rfl, h⟩
    have B2 := Lib.hid (bel B1.out h)
    clear h AL
    go_wp2_with fail
    refine (AS.out _ B2.out).mono ?_
    rintro e w3 ⟨rfl, h⟩
    have B3 := Lib.hid (bel B2.out h)
    clear h AS
    go_wp2_with fail
    refine (AI.out _ B3.out).mono ?_
    rintro e w4 ⟨rfl, h⟩
    have B4 := Lib.hid (bel B3.out h)
    clear h AI
    go_wp2_with fail
    go_ret
    exact ⟨rfl, B4.out⟩
  rw [hb] at AI
  obtain ⟨l3, q3⟩ := all_of hb
  clear hb
  have e1 := E1.out
  have e2 := E2.out
  obtain rfl := haF (by omega)
  obtain rfl := haL (by omega)
  obtain rfl := haS (by omega)
  rw [e1, e2]
  exact lawPB_main gF oF cF aoI gI oI cI gL oL cL g o c s.length is.length fs is ls s w hF (fun n h => ⟨(nF n h).1, q0 n h⟩) e1 haI hI (fun n h => ⟨(nI n h).1, q3 n h⟩) rfl hL (fun n h => ⟨(nL n h).1, q1 n h⟩) e2 hS (fun n h => ⟨(nS n h).1, q2 n h⟩) rfl (by omega) (by omega) (by omega)
end Go.Proofs.YtodofaoaenddgaaDoor
