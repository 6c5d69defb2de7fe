/-
  impl.PermuteBy, walked (the way to success).
-/
import Derived.Test.YtodofaoaenddgaaDoorPc
namespace Go.Proofs.YtodofaoaenddgaaDoor
open Go.RowKit Go.Lib Fr
attribute [local go_sem] setCell_drewN alloc_drewN

theorem stt_bd (n m : Nat) (K : List (List Int)) (s : List Int) : ∀ j, ∀ k ∈ stt n m K s j, 0 ≤ k ∧ k < fp
  | 0 => extL_bd s
  | j + 1 => by
    rw [stt]
    split
    · exact intL_bd _ _ _
    · exact extL_bd _
theorem slice_info : (Tryd.prog.info? 53).map (fun i => (i.zero, i.size, i.bytes)) = some (some (.slice none 0 0), 1, 24) := by kernel_rfl
/-- The rounds' keys as bytes in memory. -/
def KB (w : World) (gR : Nat) (K : List (List Int)) : Prop := ∀ i ks, K[i]? = some ks → ∃ gr or_ cr, w.cell? ⟨gR, i, none⟩ = some (.slice (some ⟨gr, or_, none⟩) ks.length cr) ∧ LB w gr or_ ks
theorem KB.next {w w' : World} {gR : Nat} {K : List (List Int)} (h : KB w gR K) (hb : RowKit.Below w.heap.size w w') : KB w' gR K := fun i ks hi => by
  obtain ⟨gr, o, cr, h1, h2⟩ := h i ks hi
  exact ⟨gr, o, cr, below_cell hb h1, h2.next hb⟩
/-- The slices that have been collected. -/
def XsOk (w : World) (K : List (List Int)) (xs : List Value) : Prop := ∀ (j : Nat) (v : Value), xs[j]? = some v → ∃ (ks : List Int) (gr cr : Nat), K[j]? = some ks ∧ v = Value.slice (some ⟨gr, 0, none⟩) ks.length cr ∧ Row w gr ks
theorem elementsN_any (g o cap n : Nat) (ns : List Int) (w : World) (hl : LB w g o ns) (hn : ∀ n ∈ ns, 0 ≤ n ∧ n < fp) (hnl : ns.length = n) (hn6 : n ≤ 65536) :
    Calls Tryd.prog 30 #[.slice (some ⟨g, o, none⟩) n cap] w fun e w' =>
      ∃ b, e = .returned (.tuple #[.slice (some ⟨b, 0, none⟩) n n, .bool true]) ∧ w.heap.size ≤ b ∧ Blk w' b 69 (elsL ns).toArray ∧ Below w.heap.size w w' := by
  subst hnl
  exact elements_yes (some ⟨g, o, none⟩) g o cap ns w (fun _ => rfl) hl hn hn6
theorem row_type {w : World} {g : Nat} {ns : List Int} (h : Row w g ns) {cs : Array Value} {t : TypeId} {fr : Nat × Nat} (hg : w.heap[g]? = some (.cells cs t fr)) : t = 69 := by
  obtain ⟨r, hr⟩ := h
  unfold Blk at hr
  rw [hr] at hg
  cases hg
  rfl
theorem blk_type {w : World} {g : Nat} {t' : TypeId} {ds : Array Value} (h : Blk w g t' ds) {cs : Array Value} {t : TypeId} {fr : Nat × Nat} (hg : w.heap[g]? = some (.cells cs t fr)) : t = t' := by
  unfold Blk at h
  rw [h] at hg
  cases hg
  rfl
/-- Whatever block the collected slices lie in, it is no row of elements, nor the parameters. -/
theorem own_apart {w : World} {B n : Nat} {rk : Value} {xs : List Value} (h : w.ownsRow B 53 1 rk n xs) {g : Nat} (hg : ∀ cs fr, w.heap[g]? = some (.cells cs 53 fr) → False) : some g ≠ rk.ownBlock := fun e => by
  rcases h.2 with ⟨rfl, _⟩ | ⟨g', cap, cur, rfl, _, hg', _⟩
  · cases e
  · cases e
    exact hg _ _ hg'
theorem XsOk.grown {w w' : World} {K : List (List Int)} {xs : List Value} {B n : Nat} {rk : Value} (h : XsOk w K xs) (ho : w.ownsRow B 53 1 rk n xs) (hg : w.grownBy w' rk.ownBlock) : XsOk w' K xs := fun j v hj => by
  obtain ⟨ks, gr, cr, h1, h2, h3⟩ := h j v hj
  exact ⟨ks, gr, cr, h1, h2, h3.keep (hg.block _ h3.lt (own_apart ho (fun cs fr hc => by have := row_type h3 hc; revert this; decide)))⟩
theorem XsOk.next {w w' : World} {K : List (List Int)} {xs : List Value} (h : XsOk w K xs) (hb : RowKit.Below w.heap.size w w') : XsOk w' K xs := fun j v hj => by
  obtain ⟨ks, gr, cr, h1, h2, h3⟩ := h j v hj
  exact ⟨ks, gr, cr, h1, h2, h3.keep (hb.block _ h3.lt)⟩
theorem XsOk.snoc {w : World} {K : List (List Int)} {xs : List Value} {i gr cr : Nat} {ks : List Int} (h : XsOk w K xs) (hl : xs.length = i) (hk : K[i]? = some ks) (hr : Row w gr ks) : XsOk w K (xs ++ [.slice (some ⟨gr, 0, none⟩) ks.length cr]) := fun j v hj => by
  rcases Nat.lt_or_ge j i with hlt | hge
  · rw [List.getElem?_append_left (by omega)] at hj
    exact h j v hj
  · have hj' := (List.getElem?_eq_some_iff.1 hj).1
    obtain rfl : j = i := by simp at hj'; omega
    rw [List.getElem?_append_right (by omega), hl, Nat.sub_self] at hj
    simp at hj
    exact ⟨ks, gr, cr, hk, hj.symm, hr⟩
theorem XsOk.kg {w : World} {K : List (List Int)} {xs : List Value} {B n : Nat} {rk : Value} (h : XsOk w K xs) (ho : w.ownsRow B 53 1 rk n xs) (hn : K.length = n) (h0 : 0 < n) : ∃ gk ck, rk = .slice (some ⟨gk, 0, none⟩) n ck ∧ KG w gk K := by
  have hxl := ho.1
  rcases ho.2 with ⟨_, h1⟩ | ⟨gk, ck, cur, rfl, _, hg, _, _, _, ht⟩
  · omega
  · refine ⟨gk, ck, rfl, fun i ks hi => ?_⟩
    have hlt := (List.getElem?_eq_some_iff.1 hi).1
    obtain ⟨v, hv⟩ : ∃ v, xs[i]? = some v := ⟨_, List.getElem?_eq_getElem (by omega)⟩
    obtain ⟨ks', gr, cr, h1, h2, h3⟩ := h i v hv
    rw [hi] at h1
    cases h1
    refine ⟨gr, cr, ?_, h3.lf, h3.lt⟩
    rw [cell_of_row w gk i cur _ _ hg]
    rw [← ht, List.getElem?_take_of_lt (by omega)] at hv
    rw [← h2]
    simpa using hv

theorem ownsRow_keep {w w' : World} {B n : Nat} {e : TypeId} {size : Nat} {v : Value} {xs : List Value} (h : w.ownsRow B e size v n xs) (hk : ∀ g, v.ownBlock = some g → w'.heap[g]? = w.heap[g]?) : w'.ownsRow B e size v n xs := by
  refine ⟨h.1, ?_⟩
  rcases h.2 with h2 | ⟨g, cap, cur, hv, hB, hg, h3⟩
  · exact .inl h2
  · exact .inr ⟨g, cap, cur, hv, hB, by rw [hk g (by rw [hv]; rfl)]; exact hg, h3⟩
theorem XsOk.setCell {w : World} {K : List (List Int)} {xs : List Value} (h : XsOk w K xs) {gq : Nat} {ds : Array Value} (hq : Blk w gq 78 ds) (o : Nat) (u : Value) : XsOk (w.setCell ⟨gq, o, none⟩ u) K xs := fun j v hj => by
  obtain ⟨ks, gr, cr, h1, h2, h3⟩ := h j v hj
  refine ⟨ks, gr, cr, h1, h2, h3.keep (heap_setCell_other w ⟨gq, o, none⟩ gr u (fun e => ?_))⟩
  subst e
  have := row_type h3 hq
  revert this
  decide
theorem params_apart {w : World} {B n : Nat} {rk : Value} {xs : List Value} (ho : w.ownsRow B 53 1 rk n xs) {gq : Nat} {ds : Array Value} (hq : Blk w gq 78 ds) : some gq ≠ rk.ownBlock :=
  own_apart ho (fun cs fr hc => by have := blk_type hq hc; revert this; decide)
theorem state_apart {w : World} {B n : Nat} {rk : Value} {xs : List Value} (ho : w.ownsRow B 53 1 rk n xs) {g : Nat} {s : List Int} (hr : Row w g s) : some g ≠ rk.ownBlock :=
  own_apart ho (fun cs fr hc => by have := row_type hr hc; revert this; decide)
theorem row_params {w : World} {g gq : Nat} {s : List Int} {ds : Array Value} (hr : Row w g s) (hq : Blk w gq 78 ds) : g ≠ gq := fun e => by
  subst e
  have := row_type hr hq
  revert this
  decide
/-- What the walk keeps from round to round. -/
def PK (w : World) (K : List (List Int)) (s : List Int) (gq b1 n m i : Nat) (rk : Value) (xs : List Value) (wr : World) : Prop :=
  Blk wr gq 78 #[.int .i64 n, .int .i64 2, .int .i64 m, rk, .slice none 0 0] ∧ wr.ownsRow w.heap.size 53 1 rk i xs ∧ XsOk wr K xs ∧ RowKit.Below w.heap.size w wr ∧ Row wr b1 s
theorem PK.next {w : World} {K : List (List Int)} {s : List Int} {gq b1 n m i : Nat} {rk : Value} {xs : List Value} {wr w' : World} (h : PK w K s gq b1 n m i rk xs wr) (hb : RowKit.Below wr.heap.size wr w') : PK w K s gq b1 n m i rk xs w' :=
  ⟨h.1.below hb h.1.lt, ownsRow_below h.2.1 hb, h.2.2.1.next hb, bel h.2.2.2.1 hb, h.2.2.2.2.keep (hb.block _ h.2.2.2.2.lt)⟩
theorem PK.app {w : World} {K : List (List Int)} {s : List Int} {gq b1 n m i : Nat} {rk rk' : Value} {xs : List Value} {wr w' : World} {ks : List Int} {be cr : Nat} (h : PK w K s gq b1 n m i rk xs wr) (hg : wr.grownBy w' rk.ownBlock) (ho : w'.ownsRow w.heap.size 53 1 rk' (i + 1) (xs ++ [.slice (some ⟨be, 0, none⟩) ks.length cr]))
    (hk : K[i]? = some ks) (hbe : Row wr be ks) (hq : w.heap.size ≤ gq) : PK w K s gq b1 n m (i + 1) rk' (xs ++ [.slice (some ⟨be, 0, none⟩) ks.length cr]) (w'.setCell ⟨gq, 3, none⟩ rk') := by
  have p1 := params_apart h.2.1 h.1
  have hq' := h.1.keep (hg.block _ h.1.lt p1)
  have hx := (h.2.2.1.grown h.2.1 hg).snoc (i := i) (cr := cr) (by have := h.2.1.1; omega) hk (hbe.keep (hg.block _ hbe.lt (state_apart h.2.1 hbe)))
  have hs := h.2.2.2.2.keep (hg.block _ h.2.2.2.2.lt (state_apart h.2.1 h.2.2.2.2))
  refine ⟨?_, ownsRow_keep ho (fun g hgo => heap_setCell_other w' ⟨gq, 3, none⟩ g rk' (fun e => ?_)), hx.setCell hq' 3 rk', RowKit.Below.setCell (p := ⟨gq, 3, none⟩) (h.2.2.2.1.trans (grown_below hg h.2.2.2.1.size (fun j hj => (h.2.1.lt j hj).1))) hq _, hs.keep (heap_setCell_other w' ⟨gq, 3, none⟩ b1 rk' (row_params hs hq'))⟩
  · have := hq'.set_ 3 rk'
    simpa using this
  · have p2 := params_apart ho hq'
    exact p2 (by rw [hgo, e])

set_option maxHeartbeats 2000000 in
set_option maxRecDepth 100000 in
theorem permuteBy_any (gR cR g o cap n m R : Nat) (K : List (List Int)) (s : List Int) (w : World) (hK : KB w gR K) (hKb : ∀ ks ∈ K, ∀ k ∈ ks, 0 ≤ k ∧ k < fp) (hS : Shape n m K) (hR : m + 2 = R) (hl : LB w g o s) (hs : ∀ k ∈ s, 0 ≤ k ∧ k < fp) (h : s.length = n) (h2 : 2 ≤ n) (h3 : n ≤ 3) (hm : m ≤ 100) :
    Calls Tryd.prog 28 #[.int .i64 n, .slice (some ⟨gR, 0, none⟩) R cR, .int .i64 2, .int .i64 m, .slice (some ⟨g, o, none⟩) n cap] w fun e w' =>
      ∃ b, e = .returned (.tuple #[.slice (some ⟨b, 0, none⟩) n n, .bool true]) ∧ Blk w' b 38 (btsL (stt n m K s R)).toArray ∧ Below w.heap.size w w' := by
  obtain ⟨i0, hi0, hz0, hz1', hz2'⟩ := info_parts slice_info
  have HI := Lib.hid (And.intro hi0 (And.intro hz0 (And.intro hz1' hz2')))
  clear hi0 hz0 hz1' hz2'
  have HK := Lib.hid hK
  have HKb := Lib.hid hKb
  have HSh := Lib.hid hS
  have HL := Lib.hid hl
  have HS := Lib.hid hs
  have H := Lib.hid (And.intro h (And.intro h2 (And.intro h3 (And.intro hm hR))))
  have hz1 : ((n : Int) != (n : Int)) = false := by simp
  have hz2 : ((R : Int) != 2 + (m : Int)) = false := by rw [bne_eq_false_iff_eq]; omega
  have hm1 : (m : Int) ≤ 100 := by omega
  clear hK hKb hS hl hs h
  go_enter Tryd.func28, Tryd.ntmps28
  go_wp2_with fail
  refine (elementsN_any g o cap n s w HL.out HS.out H.out.1 (by omega)).mono ?_
  rintro e w1 ⟨b1, rfl, hb1, hB1, h1⟩
  have R1 := Lib.hid (Row.of hB1)
  have B1 := Lib.hid h1
  have HB1 := Lib.hid hb1
  clear h1 hB1 hb1
  go_wp2_with fail
  refine (bounds_any n m w1 H.out.2.1 H.out.2.2.1 H.out.2.2.2.1).mono ?_
  rintro e w' ⟨rfl, rfl⟩
  go_wp2_with fail
  have HGQ := Lib.hid (show w.heap.size ≤ w1.heap.size from B1.out.size)
  have P0 := Lib.hid (show PK w K s w1.heap.size b1 n m 0 (.slice none 0 0) [] (w1.alloc (.cells #[.int .i64 n, .int .i64 2, .int .i64 m, .slice none 0 0, .slice none 0 0] 78)) from
    ⟨Blk.new _ _ _ rfl, World.ownsRow_nil _ _ _ _, (fun j v hj => by simp at hj), B1.out.alloc B1.out.size _, R1.out.keep (Below.heap_alloc w1 _ b1 R1.out.lt)⟩)
  obtain ⟨gq, hgq⟩ : ∃ gq, w1.heap.size = gq := ⟨_, rfl⟩
  rw [hgq] at HGQ P0 ⊢
  have HGE := Lib.hid hgq
  clear hgq
  go_loopw [57] (fun v wr => ∃ (i : Nat) (rk : Value) (xs : List Value), i ≤ R ∧ v = .int .i64 i ∧ PK w K s gq b1 n m i rk xs wr) (fun v _ => R - (intOf v).toNat)
  case atStart => exact ⟨0, _, _, Nat.zero_le _, rfl, P0.out⟩
  case round =>
    obtain ⟨i, rk, xs, hi, rfl, hP⟩ := hrel
    clear P0
    by_cases hlt : i < R
    · have hR := H.out.2.2.2.2
      obtain ⟨ks, hks⟩ : ∃ ks, K[i]? = some ks := ⟨_, List.getElem?_eq_getElem (by have := HSh.out.1; omega)⟩
      have hkl := HSh.out.2 i ks hks
      have HKs := Lib.hid hks
      by_cases hin : 1 ≤ i ∧ i ≤ m
      · rw [if_pos hin] at hkl
        have HKL := Lib.hid hkl
        have ha1 : (1 : Int) ≤ (i : Int) := by omega
        have ha2 : (i : Int) < 1 + (m : Int) := by omega
        clear hin
        obtain ⟨gr, or_, cr, c1, c2⟩ := (HK.out.next hP.2.2.2.1) i ks hks
        rw [hkl] at c1
        have HC2 := Lib.hid c2
        have HPK := Lib.hid hP
        clear c2 hP hkl hks
        go_wp2_with fail
        refine (elementsN_any gr or_ cr 1 ks _ HC2.out (HKb.out ks (List.mem_of_getElem? HKs.out)) HKL.out (by omega)).mono ?_
        rintro e w2 ⟨be, rfl, hbe, hBe, h⟩
        have P2 := Lib.hid (HPK.out.next h)
        have E2 := Lib.hid (Row.of hBe)
        have P2a := Lib.hid (P2.out.next ((RowKit.Below.refl w2.heap.size w2).alloc (Nat.le_refl _) (.cells #[.slice (some ⟨be, 0, none⟩) 1 1] 53)))
        have E2a := Lib.hid (E2.out.keep (Below.heap_alloc w2 (.cells #[.slice (some ⟨be, 0, none⟩) 1 1] 53) be E2.out.lt))
        have q3 := P2.out.1.cell 3
        simp only [List.getElem?_toArray, List.getElem?_cons_succ, List.getElem?_cons_zero] at q3
        clear h hbe hBe HPK c1
        go_wp2_with (first | (at_builtin; refine wpList_append_lies _ rfl _ _ _ rfl w.heap.size 53 i0 _ 1 24 Tryd.underlying76 HI.out.1 HI.out.2.1 HI.out.2.2.1 HI.out.2.2.2 rfl (by decide) rk i xs rfl P2a.out.2.1 ⟨w2.heap.size, 0, none⟩ 1 1 [.slice (some ⟨be, 0, none⟩) 1 1] rfl rfl (World.news_of_block (heap_alloc_new w2 _)) (fun u hu => by rw [List.mem_singleton] at hu; subst hu; rfl) (by decide) (by unfold maxLen; omega) (by omega) P2a.out.2.2.2.1.size _ rfl ?_; intro g3 cap3 w3 hown3 hgrow3 hat3 hlt3; have O3 := Lib.hid hown3; have G3 := Lib.hid hgrow3; have Q3 := Lib.hid (P2a.out.1.keep (hgrow3.block _ P2a.out.1.lt (params_apart P2a.out.2.1 P2a.out.1))); have s3 := Q3.out.cell 3; have f3 := Q3.out.frozen 3; simp only [List.getElem?_toArray, List.getElem?_cons_succ, List.getElem?_cons_zero] at s3; clear hown3 hgrow3 hat3 hlt3))
        go_roundw
        case rel =>
          refine ⟨i + 1, _, _, by omega, by go_num, PK.app (ks := ks) (be := be) (cr := 1) P2a.out G3.out (by rw [HKL.out]; exact O3.out) HKs.out E2a.out HGQ.out⟩
        case measure => simp [intOf] <;> omega
      · rw [if_neg hin] at hkl
        have HKL := Lib.hid hkl
        by_cases hi0 : i = 0
        · have ha1 : ¬ (1 : Int) ≤ (i : Int) := by omega
          clear hin hi0
          obtain ⟨gr, or_, cr, c1, c2⟩ := (HK.out.next hP.2.2.2.1) i ks hks
          rw [hkl] at c1
          have HC2 := Lib.hid c2
          have HPK := Lib.hid hP
          clear c2 hP hkl hks
          go_wp2_with fail
          refine (elementsN_any gr or_ cr n ks _ HC2.out (HKb.out ks (List.mem_of_getElem? HKs.out)) HKL.out (by omega)).mono ?_
          rintro e w2 ⟨be, rfl, hbe, hBe, h⟩
          have P2 := Lib.hid (HPK.out.next h)
          have E2 := Lib.hid (Row.of hBe)
          have P2a := Lib.hid (P2.out.next ((RowKit.Below.refl w2.heap.size w2).alloc (Nat.le_refl _) (.cells #[.slice (some ⟨be, 0, none⟩) n n] 53)))
          have E2a := Lib.hid (E2.out.keep (Below.heap_alloc w2 (.cells #[.slice (some ⟨be, 0, none⟩) n n] 53) be E2.out.lt))
          have q3 := P2.out.1.cell 3
          simp only [List.getElem?_toArray, List.getElem?_cons_succ, List.getElem?_cons_zero] at q3
          clear h hbe hBe HPK c1
          go_wp2_with (first | (at_builtin; refine wpList_append_lies _ rfl _ _ _ rfl w.heap.size 53 i0 _ 1 24 Tryd.underlying76 HI.out.1 HI.out.2.1 HI.out.2.2.1 HI.out.2.2.2 rfl (by decide) rk i xs rfl P2a.out.2.1 ⟨w2.heap.size, 0, none⟩ 1 1 [.slice (some ⟨be, 0, none⟩) n n] rfl rfl (World.news_of_block (heap_alloc_new w2 _)) (fun u hu => by rw [List.mem_singleton] at hu; subst hu; rfl) (by decide) (by unfold maxLen; omega) (by omega) P2a.out.2.2.2.1.size _ rfl ?_; intro g3 cap3 w3 hown3 hgrow3 hat3 hlt3; have O3 := Lib.hid hown3; have G3 := Lib.hid hgrow3; have Q3 := Lib.hid (P2a.out.1.keep (hgrow3.block _ P2a.out.1.lt (params_apart P2a.out.2.1 P2a.out.1))); have s3 := Q3.out.cell 3; have f3 := Q3.out.frozen 3; simp only [List.getElem?_toArray, List.getElem?_cons_succ, List.getElem?_cons_zero] at s3; clear hown3 hgrow3 hat3 hlt3))
          go_roundw
          case rel =>
            refine ⟨i + 1, _, _, by omega, by go_num, PK.app (ks := ks) (be := be) (cr := n) P2a.out G3.out (by rw [HKL.out]; exact O3.out) HKs.out E2a.out HGQ.out⟩
          case measure => simp [intOf] <;> omega
        · have ha1 : (1 : Int) ≤ (i : Int) := by omega
          have ha2 : ¬ (i : Int) < 1 + (m : Int) := by omega
          clear hin hi0
          obtain ⟨gr, or_, cr, c1, c2⟩ := (HK.out.next hP.2.2.2.1) i ks hks
          rw [hkl] at c1
          have HC2 := Lib.hid c2
          have HPK := Lib.hid hP
          clear c2 hP hkl hks
          go_wp2_with fail
          refine (elementsN_any gr or_ cr n ks _ HC2.out (HKb.out ks (List.mem_of_getElem? HKs.out)) HKL.out (by omega)).mono ?_
          rintro e w2 ⟨be, rfl, hbe, hBe, h⟩
          have P2 := Lib.hid (HPK.out.next h)
          have E2 := Lib.hid (Row.of hBe)
          have P2a := Lib.hid (P2.out.next ((RowKit.Below.refl w2.heap.size w2).alloc (Nat.le_refl _) (.cells #[.slice (some ⟨be, 0, none⟩) n n] 53)))
          have E2a := Lib.hid (E2.out.keep (Below.heap_alloc w2 (.cells #[.slice (some ⟨be, 0, none⟩) n n] 53) be E2.out.lt))
          have q3 := P2.out.1.cell 3
          simp only [List.getElem?_toArray, List.getElem?_cons_succ, List.getElem?_cons_zero] at q3
          clear h hbe hBe HPK c1
          go_wp2_with (first | (at_builtin; refine wpList_append_lies _ rfl _ _ _ rfl w.heap.size 53 i0 _ 1 24 Tryd.underlying76 HI.out.1 HI.out.2.1 HI.out.2.2.1 HI.out.2.2.2 rfl (by decide) rk i xs rfl P2a.out.2.1 ⟨w2.heap.size, 0, none⟩ 1 1 [.slice (some ⟨be, 0, none⟩) n n] rfl rfl (World.news_of_block (heap_alloc_new w2 _)) (fun u hu => by rw [List.mem_singleton] at hu; subst hu; rfl) (by decide) (by unfold maxLen; omega) (by omega) P2a.out.2.2.2.1.size _ rfl ?_; intro g3 cap3 w3 hown3 hgrow3 hat3 hlt3; have O3 := Lib.hid hown3; have G3 := Lib.hid hgrow3; have Q3 := Lib.hid (P2a.out.1.keep (hgrow3.block _ P2a.out.1.lt (params_apart P2a.out.2.1 P2a.out.1))); have s3 := Q3.out.cell 3; have f3 := Q3.out.frozen 3; simp only [List.getElem?_toArray, List.getElem?_cons_succ, List.getElem?_cons_zero] at s3; clear hown3 hgrow3 hat3 hlt3))
          go_roundw
          case rel =>
            refine ⟨i + 1, _, _, by omega, by go_num, PK.app (ks := ks) (be := be) (cr := n) P2a.out G3.out (by rw [HKL.out]; exact O3.out) HKs.out E2a.out HGQ.out⟩
          case measure => simp [intOf] <;> omega
    · obtain rfl : R = i := by omega
      obtain ⟨gk, ck, rfl, hKG⟩ := hP.2.2.1.kg hP.2.1 (HSh.out.1.trans H.out.2.2.2.2) (by omega)
      have HKG := Lib.hid hKG
      have HPK := Lib.hid hP
      have hR := H.out.2.2.2.2
      clear hKG hP
      go_wp2_with fail
      have ZP := zzPermute_any gq gk b1 0 n n m ck K s wr (HPK.out.1.cell 0) (HPK.out.1.cell 1) (HPK.out.1.cell 2) (by rw [hR]; exact HPK.out.1.cell 3) HKG.out HSh.out HPK.out.2.2.2.2.lf H.out.1 H.out.2.1 H.out.2.2.1 H.out.2.2.2.1
      rw [hR] at ZP
      refine ZP.mono ?_
      rintro e w5 ⟨b5, c5, rfl, hb5, hR5, h⟩
      have F5 := Lib.hid hR5.lf
      have B5 := Lib.hid (bel HPK.out.2.2.2.1 h)
      clear hb5 hR5 h ZP HPK HKG
      go_wp2_with fail
      have PL := plain_any (some ⟨b5, 0, none⟩) b5 0 c5 (stt n m K s R) w5 (fun _ => rfl) F5.out (by rw [← hR]; exact stt_bd _ _ _ _ _) (by rw [length_stt H.out.1 H.out.2.1 H.out.2.2.1]; omega)
      rw [length_stt H.out.1 H.out.2.1 H.out.2.2.1] at PL
      refine PL.mono ?_
      rintro e w6 ⟨b6, rfl, hb6, hB6, h⟩
      have R6 := Lib.hid hB6
      have B6 := Lib.hid (bel B5.out h)
      clear hb6 hB6 h PL
      go_wp2_with fail
      go_ret2
      exact ⟨b6, rfl, R6.out, B6.out⟩
end Go.Proofs.YtodofaoaenddgaaDoor
