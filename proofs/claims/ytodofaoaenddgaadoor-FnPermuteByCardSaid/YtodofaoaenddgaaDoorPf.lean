/-
  The reference's Permuted, walked. Printed by gen_pf.py.
-/
import Derived.Test.YtodofaoaenddgaaDoorPe
import Derived.Test.YtodofaoaenddgaaDoorSpk
namespace Go.Proofs.YtodofaoaenddgaaDoor
open Go.RowKit Go.Lib Fr
attribute [local go_sem] setCell_drewN alloc_drewN

theorem mixL_skip {a b : List Int} (h : a.length = b.length) {k : Nat} {y : Int} (hy : a[k]? = some y) (hb : b[k]? = some y) : mixL a b (k + 1) = mixL a b k := by
  have hk : k < b.length := (List.getElem?_eq_some_iff.1 hb).1
  rw [← mixL_set h hy]
  apply List.ext_getElem?
  intro i
  rw [List.getElem?_set]
  split
  · rename_i e
    subst e
    rw [if_pos (by rw [length_mixL h (by omega)]; exact hk), mixL_later h (Nat.le_refl _) hk, hb]
  · rfl
theorem hd5_later {y : Int} {s ks : List Int} (hk : ks.length = 1) {j : Nat} (h1 : 1 ≤ j) (h : s[j]? = some y) : (hd5 (addK s ks))[j]? = some y := by
  match ks, hk, s, j, h1, h with
  | [k], _, a :: s, j + 1, _, h =>
    simp only [List.getElem?_cons_succ] at h
    show (p5 ((a + k) % fp) :: addK s [])[j + 1]? = some y
    rw [List.getElem?_cons_succ]
    cases s <;> exact h
theorem hd5_first {a k : Int} {s ks : List Int} (hs : s[0]? = some a) (hk : ks[0]? = some k) : (hd5 (addK s ks))[0]? = some (p5 ((a + k) % fp)) := by
  match s, ks, hs, hk with
  | x :: s, y :: ks, hs, hk =>
    simp only [List.getElem?_cons_zero, Option.some.injEq] at hs hk
    subst hs; subst hk
    rfl
theorem map5_at {a k : Int} {s ks : List Int} {j : Nat} (hs : s[j]? = some a) (hk : ks[j]? = some k) : ((addK s ks).map p5)[j]? = some (p5 ((a + k) % fp)) := by
  rw [List.getElem?_map, addK_at s ks j a k hs hk]; rfl
theorem E8.load {w : World} {g p : Nat} {n : Int} (h : E8 w g p n) : ∀ j u, (hws n)[j]? = some u → w.cell? ((⟨g, p, none⟩ : Addr).add j) = some u := fun j u hj => by
  have hj' : j < 8 := by
    rcases Nat.lt_or_ge j 8 with h | h
    · exact h
    · rw [Array.getElem?_eq_none (by simpa using h)] at hj; cases hj
  rw [hws_at n hj'] at hj
  cases hj
  rw [add_at]
  exact h j hj'
theorem hd5_bd : ∀ (s : List Int), (∀ k ∈ s, 0 ≤ k ∧ k < fp) → ∀ k ∈ hd5 s, 0 ≤ k ∧ k < fp
  | [], _, k, hk => by simp [hd5] at hk
  | a :: s, h, k, hk => by
    rw [hd5, List.mem_cons] at hk
    rcases hk with rfl | hk
    · exact ⟨mod_fp_lo _, mod_fp_hi _⟩
    · exact h k (List.mem_cons_of_mem _ hk)
theorem addK_bd : ∀ (s ks : List Int), (∀ k ∈ s, 0 ≤ k ∧ k < fp) → ∀ k ∈ addK s ks, 0 ≤ k ∧ k < fp
  | s, [], h, k, hk => by cases s <;> exact h k hk
  | [], _ :: _, _, k, hk => by simp [addK] at hk
  | a :: s, y :: ks, h, k, hk => by
    rw [addK, List.mem_cons] at hk
    rcases hk with rfl | hk
    · exact ⟨mod_fp_lo _, mod_fp_hi _⟩
    · exact addK_bd s ks (fun k hk => h k (List.mem_cons_of_mem _ hk)) k hk
theorem map5_bd (s : List Int) : ∀ k ∈ s.map p5, 0 ≤ k ∧ k < fp := fun k hk => by
  obtain ⟨x, _, rfl⟩ := List.mem_map.1 hk
  exact ⟨mod_fp_lo _, mod_fp_hi _⟩

set_option maxHeartbeats 8000000 in
set_option maxRecDepth 100000 in
theorem permuted_any (gK cK g o cap n m R : Nat) (K : List (List Int)) (s : List Int) (w : World) (hK : KE w gK K) (hKb : ∀ ks ∈ K, ∀ k ∈ ks, 0 ≤ k ∧ k < fp) (hS : Shape n m K) (hR : m + 2 = R) (hl : LE w g o s) (hs : ∀ k ∈ s, 0 ≤ k ∧ k < fp) (h : s.length = n) (h2 : 2 ≤ n) (h3 : n ≤ 3) (hm : m ≤ 100) :
    Calls Tryd.prog 29 #[.slice (some ⟨gK, 0, none⟩) R cK, .int .i64 2, .slice (some ⟨g, o, none⟩) n cap] w fun e w' =>
      ∃ b, e = .returned (.slice (some ⟨b, 0, none⟩) n n) ∧ LE w' b 0 (stt n m K s R) ∧ Below w.heap.size w w' := by
  obtain ⟨i0, hi0, hz0, hz1', hz2'⟩ := info_parts spec_elt_info
  have HI := Lib.hid (And.intro hi0 (And.intro hz0 (And.intro hz1' hz2')))
  have HK := Lib.hid hK
  have HKb := Lib.hid hKb
  have HSh := Lib.hid hS
  have HL := Lib.hid hl
  have HS := Lib.hid hs
  have H := Lib.hid (And.intro h (And.intro h2 (And.intro h3 (And.intro hm hR))))
  have hw1 : IntKind.i64.wrap ((R : Int) - 1) = (R : Int) - 1 := by rw [IntKind.wrap_i64]; omega
  clear hi0 hz0 hz1' hz2' hK hKb hS hl hs h
  go_enter Tryd.func29, Tryd.ntmps29
  go_wp2_with fail
  refine (extS_any g o cap n s w HL.out HS.out H.out.1 H.out.2.1 H.out.2.2.1).mono ?_
  rintro e w1 ⟨b1, rfl, hL1, h1⟩
  have L1 := Lib.hid hL1
  have B1 := Lib.hid h1
  clear hL1 h1
  go_wp2_with fail
  go_loopw [2, 16] (fun st v wr => ∃ i gs : Nat, i ≤ R ∧ v = .int .i64 i ∧ st = .slice (some ⟨gs, 0, none⟩) n n ∧ LE wr gs 0 (stt n m K s i) ∧ Below w.heap.size w wr) (fun _ v _ => R - (intOf v).toNat)
  case atStart => exact ⟨0, b1, Nat.zero_le _, rfl, rfl, L1.out, B1.out⟩
  case round =>
    obtain ⟨i, gs, hi, rfl, rfl, hL, hB⟩ := hrel
    have L := Lib.hid hL
    have B := Lib.hid hB
    clear L1 B1 hL hB
    by_cases hlt : i < R
    · have hR := H.out.2.2.2.2
      obtain ⟨ks, hks⟩ : ∃ ks, K[i]? = some ks := ⟨_, List.getElem?_eq_getElem (by have := HSh.out.1; omega)⟩
      have hkl := HSh.out.2 i ks hks
      have HKs := Lib.hid hks
      have HKbk := Lib.hid (HKb.out ks (List.mem_of_getElem? hks))
      obtain ⟨gr, or_, cr, c1w, c2w⟩ := HK.out i ks hks
      have c1 := below_cell B.out c1w
      have CK := Lib.hid (fun (w' : World) (hb : RowKit.Below w.heap.size w w') => c2w.next hb)
      have HStb := Lib.hid (stt_bd n m K s i)
      have HSt := Lib.hid (length_stt (m := m) (K := K) H.out.1 H.out.2.1 H.out.2.2.1 i)
      have HNews := Lib.hid (LE.news (show LE (wr.alloc (.cells #[] 44)) gs 0 (stt n m K s i) from L.out.next ((RowKit.Below.refl wr.heap.size wr).alloc (Nat.le_refl _) _)))
      have i0' : (0 : Int) ≤ (i : Int) := by omega
      have i1' : (i : Int) < (R : Int) := by omega
      clear hks c1w c2w
      by_cases hin : 1 ≤ i ∧ i ≤ m
      · rw [if_pos hin] at hkl
        have HKL := Lib.hid hkl
        have ha1 : (1 : Int) ≤ (i : Int) := by omega
        have ha2 : (i : Int) < (R : Int) - 1 := by omega
        rw [hkl] at c1
        obtain ⟨st, hst⟩ : ∃ st, stt n m K s i = st := ⟨_, rfl⟩
        have HN := Lib.hid (show rndI n (stt n m K s i) ks = stt n m K s (i + 1) from by rw [stt, if_pos hin, List.getD_eq_getElem?_getD, HKs.out]; rfl)
        rw [hst] at L HStb HSt HN HNews
        have HTL := Lib.hid (show (hd5 (addK st ks)).length = st.length from (length_hd5 _).trans (length_addK st ks))
        have HLen := Lib.hid (show (hwsL st).length = n * 8 by rw [length_hwsL, HSt.out])
        clear hst hkl hin
        go_wp2_with (first | (at_builtin; refine wpList_append_lies _ rfl _ _ _ rfl wr.heap.size 44 i0 _ 8 64 Tryd.underlying27 HI.out.1 HI.out.2.1 HI.out.2.2.1 HI.out.2.2.2 rfl (by decide) (.slice (some ⟨wr.heap.size, 0, none⟩) 0 0) 0 [] rfl (World.ownsRow_made wr #[] 0 (Nat.le_refl _) (by decide) rfl) ⟨gs, 0, none⟩ n n (hwsL st) rfl HLen.out HNews.out (hwsL_one _) (by omega) (by unfold maxLen; omega) (by omega) (by simp) _ rfl ?_; intro b c w2 hown hgrow hat hlt2; have O2 := Lib.hid hown; have G2 := Lib.hid hgrow; have T2 := Lib.hid hat; clear hown hgrow hat hlt2))
        have R2 := Lib.hid (show RowH w2 b (mixL (hd5 (addK st ks)) st 0) from by have h := O2.out; rw [Nat.zero_add, List.nil_append] at h; rw [mixL_zero]; exact ownsRow_rowH h)
        have B2 := Lib.hid ((B.out.alloc B.out.size (.cells #[] 44)).trans (grown_below G2.out (by have := B.out.size; simp; omega) (fun j hj => by cases hj; exact B.out.size)))
        have HBb := Lib.hid (show wr.heap.size ≤ b from by
          rcases T2.out with h | h
          · cases h; exact Nat.le_refl _
          · rw [h]; simp)
        clear O2 G2 T2 c1
        go_loopw [39] (fun v wq => ∃ j : Nat, j ≤ n ∧ v = .int .i64 j ∧ RowH wq b (mixL (hd5 (addK st ks)) st j) ∧ Below w.heap.size w wq) (fun v _ => n - (intOf v).toNat)
        case atStart => exact ⟨0, Nat.zero_le _, rfl, R2.out, B2.out⟩
        case round =>
          obtain ⟨j, hj, rfl, hR3, hB3⟩ := hrel
          have R3 := Lib.hid hR3
          have B3 := Lib.hid hB3
          clear R2 B2 hR3 hB3
          by_cases hlt2 : j < n
          · have j0 : (0 : Int) ≤ (j : Int) := by omega
            have j1 : (j : Int) < (n : Int) := by omega
            by_cases hj0 : j = 0
            · have hz : ((j : Int) == 0) = true := by rw [hj0]; rfl
              have j2 : (j : Int) < 1 := by omega
              have HJ0 := Lib.hid hj0
              clear hj0
              obtain ⟨a, ha⟩ : ∃ a, st[j]? = some a := ⟨_, List.getElem?_eq_getElem (by have := HSt.out; omega)⟩
              obtain ⟨k, hk⟩ : ∃ k, ks[j]? = some k := ⟨_, List.getElem?_eq_getElem (by have := HKL.out; have := HJ0.out; omega)⟩
              have hle := HTL.out
              have HM := Lib.hid ((mixL_later hle (Nat.le_refl j) (by have := HSt.out; omega)).trans ha)
              have HS2 := Lib.hid (mixL_set hle (show (hd5 (addK st ks))[j]? = some (p5 ((a + k) % fp)) from by rw [HJ0.out] at ha hk ⊢; exact hd5_first ha hk))
              have HA := Lib.hid (HStb.out a (List.mem_of_getElem? ha))
              have HKk := Lib.hid (HKbk.out k (List.mem_of_getElem? hk))
              have Hl := Lib.hid (show j < (mixL (hd5 (addK st ks)) st j).length from by rw [length_mixL hle (by have := HSt.out; omega)]; have := HSt.out; omega)
              obtain ⟨x, hx⟩ : ∃ x, (a + k) % fp = x := ⟨_, rfl⟩
              have HXb := Lib.hid (show 0 ≤ x ∧ x < fp from hx ▸ ⟨mod_fp_lo _, mod_fp_hi _⟩)
              rw [hx] at HS2
              have HX := Lib.hid hx
              obtain ⟨l0, hl0⟩ : ∃ l0, mixL (hd5 (addK st ks)) st j = l0 := ⟨_, rfl⟩
              rw [hl0] at HM HS2 Hl R3
              have KEk := Lib.hid ((CK.out _ B3.out).e8 hk)
              obtain ⟨u0, u1, u2, u3, u4, u5, u6, u7⟩ := (R3.out.e8 HM.out).cells
              obtain ⟨v0, v1, v2, v3, v4, v5, v6, v7⟩ := KEk.out.cells
              clear ha hk hle hx hl0
              go_wp2_with fail
              go_region_with (first | (go_at_call 33; refine (plus_any a k _ HA.out.1 HA.out.2 HKk.out.1 HKk.out.2).mono ?_; rintro e w5 ⟨rfl, h⟩; rw [HX.out]; have R5 := Lib.hid ((R3.out.drewN 1).below h); have B5 := Lib.hid (bel B3.out.drew h); obtain ⟨z0, z1, z2, z3, z4, z5, z6, z7⟩ := (R5.out.e8 HM.out).cells; obtain ⟨f0, f1, f2, f3, f4, f5, f6, f7⟩ := R5.out.f8 (j * 8); clear h))
              all_goals
                have R6 := Lib.hid (R5.out.set8 Hl.out x)
                have B6 := Lib.hid (Below.set8o (q := j * 8) B5.out (Nat.le_trans B.out.size HBb.out) (.int .i64 (hw x 0)) (.int .i64 (hw x 1)) (.int .i64 (hw x 2)) (.int .i64 (hw x 3)) (.int .i64 (hw x 4)) (.int .i64 (hw x 5)) (.int .i64 (hw x 6)) (.int .i64 (hw x 7)))
                have C6 := Lib.hid (R6.out.e8 (set_at Hl.out x)).load
                go_wp2_with (first | (refine wpList_load_at rfl 44 _ rfl ⟨b, j * 8, none⟩ rfl (hws x) _ C6.out Tryd.underlying44 rfl (by kernel_rfl) ?_; go_frame))
                refine (fifth_any x _ HXb.out.1 HXb.out.2).mono ?_
                rintro e w7 ⟨rfl, h⟩
                have R7 := Lib.hid (R6.out.below h)
                have B7 := Lib.hid (bel B6.out h)
                obtain ⟨z0, z1, z2, z3, z4, z5, z6, z7⟩ := (R7.out.e8 (set_at Hl.out x)).cells
                obtain ⟨f0, f1, f2, f3, f4, f5, f6, f7⟩ := R7.out.f8 (j * 8)
                clear h
                go_wp2_with fail
                go_roundw
                case rel =>
                  refine ⟨j + 1, by omega, by go_num, ?_, Below.set8o (q := j * 8) B7.out (Nat.le_trans B.out.size HBb.out) _ _ _ _ _ _ _ _⟩
                  have h8 := R7.out.set8 (len_set Hl.out x) (p5 x)
                  rw [List.set_set, HS2.out] at h8
                  exact h8
                case measure => simp [intOf] <;> omega
            · have hz : ((j : Int) == 0) = false := beq_eq_false_iff_ne.2 (by omega)
              have j2 : ¬ (j : Int) < 1 := by omega
              obtain ⟨y, hy⟩ : ∃ y, st[j]? = some y := ⟨_, List.getElem?_eq_getElem (by have := HSt.out; omega)⟩
              have HSK := Lib.hid (mixL_skip HTL.out (hd5_later HKL.out (by omega) hy) hy)
              clear hy hj0
              go_wp2_with fail
              go_roundw
              case rel => exact ⟨j + 1, by omega, by go_num, by rw [HSK.out]; exact R3.out, B3.out⟩
              case measure => simp [intOf] <;> omega
          · obtain rfl : n = j := by omega
            have h4 := R3.out
            have E := mixL_full HTL.out
            rw [HSt.out] at E
            rw [E] at h4
            have R4 := Lib.hid h4
            clear h4 E R3
            go_wp2_with fail
            refine (intS_any b 0 c n _ (hd5 (addK st ks)) _ R4.out.le (hd5_bd _ (addK_bd _ _ HStb.out)) (HTL.out.trans HSt.out) H.out.2.1 H.out.2.2.1).mono ?_
            rintro e w8 ⟨b8, rfl, hL8, h⟩
            have L8 := Lib.hid hL8
            have B8 := Lib.hid (bel B3.out h)
            clear hL8 h R4
            go_wp2_with fail
            go_roundw
            case rel => exact ⟨i + 1, b8, by omega, by go_num, rfl, by rw [← HN.out, rndI]; exact L8.out, B8.out⟩
            case measure => simp [intOf] <;> omega
      by_cases hi0 : i = 0
      · rw [if_neg hin] at hkl
        have HKL := Lib.hid hkl
        have ha1 : ¬ (1 : Int) ≤ (i : Int) := by omega
        clear hi0
        rw [hkl] at c1
        obtain ⟨st, hst⟩ : ∃ st, stt n m K s i = st := ⟨_, rfl⟩
        have HN := Lib.hid (show rndF (stt n m K s i) ks = stt n m K s (i + 1) from by rw [stt, if_neg hin, List.getD_eq_getElem?_getD, HKs.out]; rfl)
        rw [hst] at L HStb HSt HN HNews
        have HTL := Lib.hid (show ((addK st ks).map p5).length = st.length from (List.length_map ..).trans (length_addK st ks))
        have HLen := Lib.hid (show (hwsL st).length = n * 8 by rw [length_hwsL, HSt.out])
        clear hst hkl hin
        go_wp2_with (first | (at_builtin; refine wpList_append_lies _ rfl _ _ _ rfl wr.heap.size 44 i0 _ 8 64 Tryd.underlying27 HI.out.1 HI.out.2.1 HI.out.2.2.1 HI.out.2.2.2 rfl (by decide) (.slice (some ⟨wr.heap.size, 0, none⟩) 0 0) 0 [] rfl (World.ownsRow_made wr #[] 0 (Nat.le_refl _) (by decide) rfl) ⟨gs, 0, none⟩ n n (hwsL st) rfl HLen.out HNews.out (hwsL_one _) (by omega) (by unfold maxLen; omega) (by omega) (by simp) _ rfl ?_; intro b c w2 hown hgrow hat hlt2; have O2 := Lib.hid hown; have G2 := Lib.hid hgrow; have T2 := Lib.hid hat; clear hown hgrow hat hlt2))
        have R2 := Lib.hid (show RowH w2 b (mixL ((addK st ks).map p5) st 0) from by have h := O2.out; rw [Nat.zero_add, List.nil_append] at h; rw [mixL_zero]; exact ownsRow_rowH h)
        have B2 := Lib.hid ((B.out.alloc B.out.size (.cells #[] 44)).trans (grown_below G2.out (by have := B.out.size; simp; omega) (fun j hj => by cases hj; exact B.out.size)))
        have HBb := Lib.hid (show wr.heap.size ≤ b from by
          rcases T2.out with h | h
          · cases h; exact Nat.le_refl _
          · rw [h]; simp)
        clear O2 G2 T2 c1
        go_loopw [39] (fun v wq => ∃ j : Nat, j ≤ n ∧ v = .int .i64 j ∧ RowH wq b (mixL ((addK st ks).map p5) st j) ∧ Below w.heap.size w wq) (fun v _ => n - (intOf v).toNat)
        case atStart => exact ⟨0, Nat.zero_le _, rfl, R2.out, B2.out⟩
        case round =>
          obtain ⟨j, hj, rfl, hR3, hB3⟩ := hrel
          have R3 := Lib.hid hR3
          have B3 := Lib.hid hB3
          clear R2 B2 hR3 hB3
          by_cases hlt2 : j < n
          · have j0 : (0 : Int) ≤ (j : Int) := by omega
            have j1 : (j : Int) < (n : Int) := by omega
            cases hz : ((j : Int) == 0)
            all_goals
              obtain ⟨a, ha⟩ : ∃ a, st[j]? = some a := ⟨_, List.getElem?_eq_getElem (by have := HSt.out; omega)⟩
              obtain ⟨k, hk⟩ : ∃ k, ks[j]? = some k := ⟨_, List.getElem?_eq_getElem (by have := HKL.out; omega)⟩
              have hle := HTL.out
              have HM := Lib.hid ((mixL_later hle (Nat.le_refl j) (by have := HSt.out; omega)).trans ha)
              have HS2 := Lib.hid (mixL_set hle (map5_at ha hk))
              have HA := Lib.hid (HStb.out a (List.mem_of_getElem? ha))
              have HKk := Lib.hid (HKbk.out k (List.mem_of_getElem? hk))
              have Hl := Lib.hid (show j < (mixL ((addK st ks).map p5) st j).length from by rw [length_mixL hle (by have := HSt.out; omega)]; have := HSt.out; omega)
              obtain ⟨x, hx⟩ : ∃ x, (a + k) % fp = x := ⟨_, rfl⟩
              have HXb := Lib.hid (show 0 ≤ x ∧ x < fp from hx ▸ ⟨mod_fp_lo _, mod_fp_hi _⟩)
              rw [hx] at HS2
              have HX := Lib.hid hx
              obtain ⟨l0, hl0⟩ : ∃ l0, mixL ((addK st ks).map p5) st j = l0 := ⟨_, rfl⟩
              rw [hl0] at HM HS2 Hl R3
              have KEk := Lib.hid ((CK.out _ B3.out).e8 hk)
              obtain ⟨u0, u1, u2, u3, u4, u5, u6, u7⟩ := (R3.out.e8 HM.out).cells
              obtain ⟨v0, v1, v2, v3, v4, v5, v6, v7⟩ := KEk.out.cells
              clear ha hk hle hx hl0
              go_wp2_with fail
              go_region_with (first | (go_at_call 33; refine (plus_any a k _ HA.out.1 HA.out.2 HKk.out.1 HKk.out.2).mono ?_; rintro e w5 ⟨rfl, h⟩; rw [HX.out]; have R5 := Lib.hid ((R3.out.drewN 1).below h); have B5 := Lib.hid (bel B3.out.drew h); obtain ⟨z0, z1, z2, z3, z4, z5, z6, z7⟩ := (R5.out.e8 HM.out).cells; obtain ⟨f0, f1, f2, f3, f4, f5, f6, f7⟩ := R5.out.f8 (j * 8); clear h))
              all_goals
                have R6 := Lib.hid (R5.out.set8 Hl.out x)
                have B6 := Lib.hid (Below.set8o (q := j * 8) B5.out (Nat.le_trans B.out.size HBb.out) (.int .i64 (hw x 0)) (.int .i64 (hw x 1)) (.int .i64 (hw x 2)) (.int .i64 (hw x 3)) (.int .i64 (hw x 4)) (.int .i64 (hw x 5)) (.int .i64 (hw x 6)) (.int .i64 (hw x 7)))
                have C6 := Lib.hid (R6.out.e8 (set_at Hl.out x)).load
                go_wp2_with (first | (refine wpList_load_at rfl 44 _ rfl ⟨b, j * 8, none⟩ rfl (hws x) _ C6.out Tryd.underlying44 rfl (by kernel_rfl) ?_; go_frame))
                refine (fifth_any x _ HXb.out.1 HXb.out.2).mono ?_
                rintro e w7 ⟨rfl, h⟩
                have R7 := Lib.hid (R6.out.below h)
                have B7 := Lib.hid (bel B6.out h)
                obtain ⟨z0, z1, z2, z3, z4, z5, z6, z7⟩ := (R7.out.e8 (set_at Hl.out x)).cells
                obtain ⟨f0, f1, f2, f3, f4, f5, f6, f7⟩ := R7.out.f8 (j * 8)
                clear h
                go_wp2_with fail
                go_roundw
                case rel =>
                  refine ⟨j + 1, by omega, by go_num, ?_, Below.set8o (q := j * 8) B7.out (Nat.le_trans B.out.size HBb.out) _ _ _ _ _ _ _ _⟩
                  have h8 := R7.out.set8 (len_set Hl.out x) (p5 x)
                  rw [List.set_set, HS2.out] at h8
                  exact h8
                case measure => simp [intOf] <;> omega
          · obtain rfl : n = j := by omega
            have h4 := R3.out
            have E := mixL_full HTL.out
            rw [HSt.out] at E
            rw [E] at h4
            have R4 := Lib.hid h4
            clear h4 E R3
            go_wp2_with fail
            refine (extS_any b 0 c n ((addK st ks).map p5) _ R4.out.le (map5_bd _) (HTL.out.trans HSt.out) H.out.2.1 H.out.2.2.1).mono ?_
            rintro e w8 ⟨b8, rfl, hL8, h⟩
            have L8 := Lib.hid hL8
            have B8 := Lib.hid (bel B3.out h)
            clear hL8 h R4
            go_wp2_with fail
            go_roundw
            case rel => exact ⟨i + 1, b8, by omega, by go_num, rfl, by rw [← HN.out, rndF]; exact L8.out, B8.out⟩
            case measure => simp [intOf] <;> omega
      · rw [if_neg hin] at hkl
        have HKL := Lib.hid hkl
        have ha1 : (1 : Int) ≤ (i : Int) := by omega
        have ha2 : ¬ (i : Int) < (R : Int) - 1 := by omega
        clear hi0
        rw [hkl] at c1
        obtain ⟨st, hst⟩ : ∃ st, stt n m K s i = st := ⟨_, rfl⟩
        have HN := Lib.hid (show rndF (stt n m K s i) ks = stt n m K s (i + 1) from by rw [stt, if_neg hin, List.getD_eq_getElem?_getD, HKs.out]; rfl)
        rw [hst] at L HStb HSt HN HNews
        have HTL := Lib.hid (show ((addK st ks).map p5).length = st.length from (List.length_map ..).trans (length_addK st ks))
        have HLen := Lib.hid (show (hwsL st).length = n * 8 by rw [length_hwsL, HSt.out])
        clear hst hkl hin
        go_wp2_with (first | (at_builtin; refine wpList_append_lies _ rfl _ _ _ rfl wr.heap.size 44 i0 _ 8 64 Tryd.underlying27 HI.out.1 HI.out.2.1 HI.out.2.2.1 HI.out.2.2.2 rfl (by decide) (.slice (some ⟨wr.heap.size, 0, none⟩) 0 0) 0 [] rfl (World.ownsRow_made wr #[] 0 (Nat.le_refl _) (by decide) rfl) ⟨gs, 0, none⟩ n n (hwsL st) rfl HLen.out HNews.out (hwsL_one _) (by omega) (by unfold maxLen; omega) (by omega) (by simp) _ rfl ?_; intro b c w2 hown hgrow hat hlt2; have O2 := Lib.hid hown; have G2 := Lib.hid hgrow; have T2 := Lib.hid hat; clear hown hgrow hat hlt2))
        have R2 := Lib.hid (show RowH w2 b (mixL ((addK st ks).map p5) st 0) from by have h := O2.out; rw [Nat.zero_add, List.nil_append] at h; rw [mixL_zero]; exact ownsRow_rowH h)
        have B2 := Lib.hid ((B.out.alloc B.out.size (.cells #[] 44)).trans (grown_below G2.out (by have := B.out.size; simp; omega) (fun j hj => by cases hj; exact B.out.size)))
        have HBb := Lib.hid (show wr.heap.size ≤ b from by
          rcases T2.out with h | h
          · cases h; exact Nat.le_refl _
          · rw [h]; simp)
        clear O2 G2 T2 c1
        go_loopw [39] (fun v wq => ∃ j : Nat, j ≤ n ∧ v = .int .i64 j ∧ RowH wq b (mixL ((addK st ks).map p5) st j) ∧ Below w.heap.size w wq) (fun v _ => n - (intOf v).toNat)
        case atStart => exact ⟨0, Nat.zero_le _, rfl, R2.out, B2.out⟩
        case round =>
          obtain ⟨j, hj, rfl, hR3, hB3⟩ := hrel
          have R3 := Lib.hid hR3
          have B3 := Lib.hid hB3
          clear R2 B2 hR3 hB3
          by_cases hlt2 : j < n
          · have j0 : (0 : Int) ≤ (j : Int) := by omega
            have j1 : (j : Int) < (n : Int) := by omega
            cases hz : ((j : Int) == 0)
            all_goals
              obtain ⟨a, ha⟩ : ∃ a, st[j]? = some a := ⟨_, List.getElem?_eq_getElem (by have := HSt.out; omega)⟩
              obtain ⟨k, hk⟩ : ∃ k, ks[j]? = some k := ⟨_, List.getElem?_eq_getElem (by have := HKL.out; omega)⟩
              have hle := HTL.out
              have HM := Lib.hid ((mixL_later hle (Nat.le_refl j) (by have := HSt.out; omega)).trans ha)
              have HS2 := Lib.hid (mixL_set hle (map5_at ha hk))
              have HA := Lib.hid (HStb.out a (List.mem_of_getElem? ha))
              have HKk := Lib.hid (HKbk.out k (List.mem_of_getElem? hk))
              have Hl := Lib.hid (show j < (mixL ((addK st ks).map p5) st j).length from by rw [length_mixL hle (by have := HSt.out; omega)]; have := HSt.out; omega)
              obtain ⟨x, hx⟩ : ∃ x, (a + k) % fp = x := ⟨_, rfl⟩
              have HXb := Lib.hid (show 0 ≤ x ∧ x < fp from hx ▸ ⟨mod_fp_lo _, mod_fp_hi _⟩)
              rw [hx] at HS2
              have HX := Lib.hid hx
              obtain ⟨l0, hl0⟩ : ∃ l0, mixL ((addK st ks).map p5) st j = l0 := ⟨_, rfl⟩
              rw [hl0] at HM HS2 Hl R3
              have KEk := Lib.hid ((CK.out _ B3.out).e8 hk)
              obtain ⟨u0, u1, u2, u3, u4, u5, u6, u7⟩ := (R3.out.e8 HM.out).cells
              obtain ⟨v0, v1, v2, v3, v4, v5, v6, v7⟩ := KEk.out.cells
              clear ha hk hle hx hl0
              go_wp2_with fail
              go_region_with (first | (go_at_call 33; refine (plus_any a k _ HA.out.1 HA.out.2 HKk.out.1 HKk.out.2).mono ?_; rintro e w5 ⟨rfl, h⟩; rw [HX.out]; have R5 := Lib.hid ((R3.out.drewN 1).below h); have B5 := Lib.hid (bel B3.out.drew h); obtain ⟨z0, z1, z2, z3, z4, z5, z6, z7⟩ := (R5.out.e8 HM.out).cells; obtain ⟨f0, f1, f2, f3, f4, f5, f6, f7⟩ := R5.out.f8 (j * 8); clear h))
              all_goals
                have R6 := Lib.hid (R5.out.set8 Hl.out x)
                have B6 := Lib.hid (Below.set8o (q := j * 8) B5.out (Nat.le_trans B.out.size HBb.out) (.int .i64 (hw x 0)) (.int .i64 (hw x 1)) (.int .i64 (hw x 2)) (.int .i64 (hw x 3)) (.int .i64 (hw x 4)) (.int .i64 (hw x 5)) (.int .i64 (hw x 6)) (.int .i64 (hw x 7)))
                have C6 := Lib.hid (R6.out.e8 (set_at Hl.out x)).load
                go_wp2_with (first | (refine wpList_load_at rfl 44 _ rfl ⟨b, j * 8, none⟩ rfl (hws x) _ C6.out Tryd.underlying44 rfl (by kernel_rfl) ?_; go_frame))
                refine (fifth_any x _ HXb.out.1 HXb.out.2).mono ?_
                rintro e w7 ⟨rfl, h⟩
                have R7 := Lib.hid (R6.out.below h)
                have B7 := Lib.hid (bel B6.out h)
                obtain ⟨z0, z1, z2, z3, z4, z5, z6, z7⟩ := (R7.out.e8 (set_at Hl.out x)).cells
                obtain ⟨f0, f1, f2, f3, f4, f5, f6, f7⟩ := R7.out.f8 (j * 8)
                clear h
                go_wp2_with fail
                go_roundw
                case rel =>
                  refine ⟨j + 1, by omega, by go_num, ?_, Below.set8o (q := j * 8) B7.out (Nat.le_trans B.out.size HBb.out) _ _ _ _ _ _ _ _⟩
                  have h8 := R7.out.set8 (len_set Hl.out x) (p5 x)
                  rw [List.set_set, HS2.out] at h8
                  exact h8
                case measure => simp [intOf] <;> omega
          · obtain rfl : n = j := by omega
            have h4 := R3.out
            have E := mixL_full HTL.out
            rw [HSt.out] at E
            rw [E] at h4
            have R4 := Lib.hid h4
            clear h4 E R3
            go_wp2_with fail
            refine (extS_any b 0 c n ((addK st ks).map p5) _ R4.out.le (map5_bd _) (HTL.out.trans HSt.out) H.out.2.1 H.out.2.2.1).mono ?_
            rintro e w8 ⟨b8, rfl, hL8, h⟩
            have L8 := Lib.hid hL8
            have B8 := Lib.hid (bel B3.out h)
            clear hL8 h R4
            go_wp2_with fail
            go_roundw
            case rel => exact ⟨i + 1, b8, by omega, by go_num, rfl, by rw [← HN.out, rndF]; exact L8.out, B8.out⟩
            case measure => simp [intOf] <;> omega
    · obtain rfl : R = i := by omega
      go_wp2_with fail
      go_ret
      exact ⟨gs, rfl, L.out, B.out⟩
end Go.Proofs.YtodofaoaenddgaaDoor
