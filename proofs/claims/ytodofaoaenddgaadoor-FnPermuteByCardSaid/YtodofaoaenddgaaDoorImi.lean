/-
  The doors over a copy of the state, walked: ZZSBox, ZZMatMulM4, ZZExternal, ZZInternal.
-/
import Derived.Test.YtodofaoaenddgaaDoorImg
import Derived.Deep.AppendLies
namespace Go.Proofs.YtodofaoaenddgaaDoor
open Go.RowKit Go.Lib Fr
attribute [local go_sem] setCell_drewN alloc_drewN

theorem els_one : ∀ (ns : List Int), ∀ u ∈ elsL ns, u.oneCell' = true
  | [], u, hu => by simp [elsL] at hu
  | n :: r, u, hu => by
    simp only [elsL, List.mem_cons] at hu
    rcases hu with rfl | rfl | rfl | rfl | hu
    · rfl
    · rfl
    · rfl
    · rfl
    · exact els_one r u hu
theorem LF.news {w : World} {g o : Nat} : ∀ {ns : List Int}, LF w g o ns → ∀ j u, (elsL ns)[j]? = some u → w.cell? ((⟨g, o, none⟩ : Addr).add j) = some u := fun {ns} h j u hj => by
  rw [add_at]
  have hl := (List.getElem?_eq_some_iff.1 hj).1
  rw [length_elsL] at hl
  obtain ⟨n, hn⟩ : ∃ n, ns[j / 4]? = some n := ⟨_, List.getElem?_eq_getElem (by omega)⟩
  have e := elsL_at ns (j / 4) n (j % 4) hn (Nat.mod_lt _ (by decide))
  have ej : j / 4 * 4 + j % 4 = j := by omega
  rw [ej, hj] at e
  cases e
  have hE := h (j / 4) n hn
  have h4 : j % 4 < 4 := Nat.mod_lt _ (by decide)
  have eo : o + j = o + j / 4 * 4 + j % 4 := by omega
  rw [eo]
  match j % 4, h4 with
  | 0, _ => exact hE.c0
  | 1, _ => exact hE.c1
  | 2, _ => exact hE.c2
  | 3, _ => exact hE.c3
theorem ownsRow_row {w : World} {B g n cap : Nat} {ns : List Int} (h : w.ownsRow B 69 4 (.slice (some ⟨g, 0, none⟩) n cap) n (elsL ns)) : Row w g ns := by
  rcases h.2 with ⟨h1, _⟩ | ⟨g', cap', cur, hv, _, hg, _, _, _, ht⟩
  · cases h1
  · cases hv
    refine ⟨cur.toList.drop (n * 4), ?_⟩
    rw [← ht, List.take_append_drop]
    exact hg
theorem LF.next {w w' : World} {g o : Nat} {ns : List Int} (h : LF w g o ns) (hb : RowKit.Below w.heap.size w w') : LF w' g o ns := fun i n hi => (h i n hi).next hb

/-- What an append to nothing leaves. -/
theorem app_nil {w w1 : World} {ns : List Int} {b c n : Nat} (h : w1.ownsRow w.heap.size 69 4 (.slice (some ⟨b, 0, none⟩) (0 + n) c) (0 + n) ([] ++ elsL ns)) (hg : w.grownBy w1 (Value.slice none 0 0).ownBlock) (hat : (Value.slice none 0 0).ownBlock = some b ∨ b = w.heap.size) :
    Row w1 b ns ∧ w.grownBy w1 none ∧ b = w.heap.size := by
  rw [Nat.zero_add, List.nil_append] at h
  refine ⟨ownsRow_row h, hg, ?_⟩
  rcases hat with h | h
  · cases h
  · exact h
/-- Behind new blocks and a call that turns the new row. -/
theorem grown_new {w w1 w2 w3 : World} {b : Nat} (h1 : w.grownBy w1 none) (h2 : w1.grownBy w2 none) (h3 : w2.grownBy w3 (some b)) (hb : b = w.heap.size) : RowKit.Below w.heap.size w w3 :=
  below_of_grown ((h1.andThen h2 (fun j hj => by cases hj)).andThen h3 (fun j hj => by cases hj; exact .inl (Nat.le_of_eq hb.symm)))

set_option maxHeartbeats 1000000 in
set_option maxRecDepth 100000 in
theorem zzM4_any (g o cap : Nat) (ns : List Int) (w : World) (hl : LF w g o ns) (hk : ns.length ≤ 65536) (h0 : 0 < ns.length) (h4 : ns.length % 4 = 0) :
    Calls Tryd.prog 32 #[.slice (some ⟨g, o, none⟩) ns.length cap] w fun e w' =>
      ∃ b c, e = .returned (.slice (some ⟨b, 0, none⟩) ns.length c) ∧ w.heap.size ≤ b ∧ Row w' b (m4L ns) ∧ Below w.heap.size w w' := by
  obtain ⟨i0, hi, hz0, hz1, hz2⟩ := info_parts elt_info
  have HI := Lib.hid (And.intro hi (And.intro hz0 (And.intro hz1 hz2)))
  have HNews := Lib.hid hl.news
  have HLen := Lib.hid (show (elsL ns).length = ns.length * 4 by rw [length_elsL]; omega)
  clear hi hz0 hz1 hz2 hl
  have H4 := Lib.hid h4
  clear h4
  go_enter Tryd.func32, Tryd.ntmps32
  go_wp2_with (first | (at_builtin; refine wpList_append_lies _ rfl _ _ _ rfl w.heap.size 69 i0 _ 4 32 Tryd.underlying53 HI.out.1 HI.out.2.1 HI.out.2.2.1 HI.out.2.2.2 rfl (by decide) (.slice none 0 0) 0 [] rfl (World.ownsRow_nil _ _ _ _) ⟨g, o, none⟩ ns.length cap (elsL ns) rfl HLen.out HNews.out (els_one ns) h0 (by unfold maxLen; omega) (by omega) (Nat.le_refl _) _ rfl ?_; intro b c w1 hown1 hgrow1 hat1 hlt1; have A1 := Lib.hid (app_nil hown1 hgrow1 hat1); clear hown1 hgrow1 hat1))
  refine (m4_any _ b c ns _ (A1.out.1.keep (Below.heap_alloc w1 _ b hlt1)) hk H4.out).mono ?_
  rintro e w2 ⟨rfl, h2, h3⟩
  have R2 := Lib.hid h2
  have G2 := Lib.hid (grown_new A1.out.2.1 (World.grownBy_alloc w1 _ none) h3 A1.out.2.2)
  have HB := Lib.hid A1.out.2.2
  clear h2 h3 A1
  go_wp2_with fail
  go_ret
  exact ⟨b, c, rfl, Nat.le_of_eq HB.out.symm, R2.out, G2.out⟩

set_option maxHeartbeats 1000000 in
set_option maxRecDepth 100000 in
theorem zzExt2_any (g o cap : Nat) (x y : Int) (w : World) (hl : LF w g o [x, y]) :
    Calls Tryd.prog 38 #[.slice (some ⟨g, o, none⟩) 2 cap] w fun e w' =>
      ∃ b c, e = .returned (.slice (some ⟨b, 0, none⟩) 2 c) ∧ w.heap.size ≤ b ∧ Row w' b (extL [x, y]) ∧ Below w.heap.size w w' := by
  obtain ⟨i0, hi, hz0, hz1, hz2⟩ := info_parts elt_info
  have HI := Lib.hid (And.intro hi (And.intro hz0 (And.intro hz1 hz2)))
  have HNews := Lib.hid hl.news
  clear hi hz0 hz1 hz2 hl
  go_enter Tryd.func38, Tryd.ntmps38
  go_wp2_with (first | (at_builtin; refine wpList_append_lies _ rfl _ _ _ rfl w.heap.size 69 i0 _ 4 32 Tryd.underlying53 HI.out.1 HI.out.2.1 HI.out.2.2.1 HI.out.2.2.2 rfl (by decide) (.slice none 0 0) 0 [] rfl (World.ownsRow_nil _ _ _ _) ⟨g, o, none⟩ 2 cap (elsL [x, y]) rfl rfl HNews.out (els_one _) (by decide) (by unfold maxLen; omega) (by omega) (Nat.le_refl _) _ rfl ?_; intro b c w1 hown1 hgrow1 hat1 hlt1; have A1 := Lib.hid (app_nil hown1 hgrow1 hat1); clear hown1 hgrow1 hat1))
  have P0 := Lib.hid ((Kp.nil (RowKit.Below.refl w1.heap.size w1)).alloc #[.int .i64 2, .int .i64 0, .int .i64 0, .slice none 0 0, .slice none 0 0] 78 rfl)
  have P1 := Lib.hid (P0.out.alloc #[.pointer (some ⟨w1.heap.size, 0, none⟩)] 85 (b := w1.heap.size + 1) (by simp))
  refine (ext2_any (w1.heap.size + 1) 0 w1.heap.size 0 b c x y _ (P1.out.b0.cell 0) (P1.out.tl.b0.cell 0) (A1.out.1.keep ((grown_of_below P1.out.1).block _ hlt1 (by simp)))).mono ?_
  rintro e w2 ⟨rfl, h2, h3⟩
  have R2 := Lib.hid h2
  have G2 := Lib.hid (grown_new A1.out.2.1 (grown_of_below P1.out.1) h3 A1.out.2.2)
  have HB := Lib.hid A1.out.2.2
  clear h2 h3 A1 P0 P1
  go_wp2_with fail
  go_ret
  exact ⟨b, c, rfl, Nat.le_of_eq HB.out.symm, R2.out, G2.out⟩

set_option maxHeartbeats 1000000 in
set_option maxRecDepth 100000 in
theorem zzExt3_any (g o cap : Nat) (x y z : Int) (w : World) (hl : LF w g o [x, y, z]) :
    Calls Tryd.prog 38 #[.slice (some ⟨g, o, none⟩) 3 cap] w fun e w' =>
      ∃ b c, e = .returned (.slice (some ⟨b, 0, none⟩) 3 c) ∧ w.heap.size ≤ b ∧ Row w' b (extL [x, y, z]) ∧ Below w.heap.size w w' := by
  obtain ⟨i0, hi, hz0, hz1, hz2⟩ := info_parts elt_info
  have HI := Lib.hid (And.intro hi (And.intro hz0 (And.intro hz1 hz2)))
  have HNews := Lib.hid hl.news
  clear hi hz0 hz1 hz2 hl
  go_enter Tryd.func38, Tryd.ntmps38
  go_wp2_with (first | (at_builtin; refine wpList_append_lies _ rfl _ _ _ rfl w.heap.size 69 i0 _ 4 32 Tryd.underlying53 HI.out.1 HI.out.2.1 HI.out.2.2.1 HI.out.2.2.2 rfl (by decide) (.slice none 0 0) 0 [] rfl (World.ownsRow_nil _ _ _ _) ⟨g, o, none⟩ 3 cap (elsL [x, y, z]) rfl rfl HNews.out (els_one _) (by decide) (by unfold maxLen; omega) (by omega) (Nat.le_refl _) _ rfl ?_; intro b c w1 hown1 hgrow1 hat1 hlt1; have A1 := Lib.hid (app_nil hown1 hgrow1 hat1); clear hown1 hgrow1 hat1))
  have P0 := Lib.hid ((Kp.nil (RowKit.Below.refl w1.heap.size w1)).alloc #[.int .i64 3, .int .i64 0, .int .i64 0, .slice none 0 0, .slice none 0 0] 78 rfl)
  have P1 := Lib.hid (P0.out.alloc #[.pointer (some ⟨w1.heap.size, 0, none⟩)] 85 (b := w1.heap.size + 1) (by simp))
  refine (ext3_any (w1.heap.size + 1) 0 w1.heap.size 0 b c x y z _ (P1.out.b0.cell 0) (P1.out.tl.b0.cell 0) (A1.out.1.keep ((grown_of_below P1.out.1).block _ hlt1 (by simp)))).mono ?_
  rintro e w2 ⟨rfl, h2, h3⟩
  have R2 := Lib.hid h2
  have G2 := Lib.hid (grown_new A1.out.2.1 (grown_of_below P1.out.1) h3 A1.out.2.2)
  have HB := Lib.hid A1.out.2.2
  clear h2 h3 A1 P0 P1
  go_wp2_with fail
  go_ret
  exact ⟨b, c, rfl, Nat.le_of_eq HB.out.symm, R2.out, G2.out⟩

set_option maxHeartbeats 1000000 in
set_option maxRecDepth 100000 in
theorem zzInt2_any (g o cap : Nat) (x y : Int) (da : Option Addr) (dn dc : Nat) (w : World) (hl : LF w g o [x, y]) :
    Calls Tryd.prog 36 #[.slice (some ⟨g, o, none⟩) 2 cap, .slice da dn dc] w fun e w' =>
      ∃ b c, e = .returned (.slice (some ⟨b, 0, none⟩) 2 c) ∧ w.heap.size ≤ b ∧ Row w' b (intL [1, 2] [x, y]) ∧ Below w.heap.size w w' := by
  obtain ⟨i0, hi, hz0, hz1, hz2⟩ := info_parts elt_info
  have HI := Lib.hid (And.intro hi (And.intro hz0 (And.intro hz1 hz2)))
  have HNews := Lib.hid hl.news
  clear hi hz0 hz1 hz2 hl
  go_enter Tryd.func36, Tryd.ntmps36
  go_wp2_with (first | (at_builtin; refine wpList_append_lies _ rfl _ _ _ rfl w.heap.size 69 i0 _ 4 32 Tryd.underlying53 HI.out.1 HI.out.2.1 HI.out.2.2.1 HI.out.2.2.2 rfl (by decide) (.slice none 0 0) 0 [] rfl (World.ownsRow_nil _ _ _ _) ⟨g, o, none⟩ 2 cap (elsL [x, y]) rfl rfl HNews.out (els_one _) (by decide) (by unfold maxLen; omega) (by omega) (Nat.le_refl _) _ rfl ?_; intro b c w1 hown1 hgrow1 hat1 hlt1; have A1 := Lib.hid (app_nil hown1 hgrow1 hat1); clear hown1 hgrow1 hat1))
  have P0 := Lib.hid ((Kp.nil (RowKit.Below.refl w1.heap.size w1)).alloc #[.int .i64 2, .int .i64 0, .int .i64 0, .slice none 0 0, .slice da dn dc] 78 rfl)
  have P1 := Lib.hid (P0.out.alloc #[.pointer (some ⟨w1.heap.size, 0, none⟩)] 85 (b := w1.heap.size + 1) (by simp))
  refine (int2_any (w1.heap.size + 1) 0 w1.heap.size 0 b c x y _ (P1.out.b0.cell 0) (P1.out.tl.b0.cell 0) (A1.out.1.keep ((grown_of_below P1.out.1).block _ hlt1 (by simp)))).mono ?_
  rintro e w2 ⟨rfl, h2, h3⟩
  have R2 := Lib.hid h2
  have G2 := Lib.hid (grown_new A1.out.2.1 (grown_of_below P1.out.1) h3 A1.out.2.2)
  have HB := Lib.hid A1.out.2.2
  clear h2 h3 A1 P0 P1
  go_wp2_with fail
  go_ret
  exact ⟨b, c, rfl, Nat.le_of_eq HB.out.symm, R2.out, G2.out⟩

set_option maxHeartbeats 1000000 in
set_option maxRecDepth 100000 in
theorem zzInt3_any (g o cap : Nat) (x y z : Int) (da : Option Addr) (dn dc : Nat) (w : World) (hl : LF w g o [x, y, z]) :
    Calls Tryd.prog 36 #[.slice (some ⟨g, o, none⟩) 3 cap, .slice da dn dc] w fun e w' =>
      ∃ b c, e = .returned (.slice (some ⟨b, 0, none⟩) 3 c) ∧ w.heap.size ≤ b ∧ Row w' b (intL [1, 1, 2] [x, y, z]) ∧ Below w.heap.size w w' := by
  obtain ⟨i0, hi, hz0, hz1, hz2⟩ := info_parts elt_info
  have HI := Lib.hid (And.intro hi (And.intro hz0 (And.intro hz1 hz2)))
  have HNews := Lib.hid hl.news
  clear hi hz0 hz1 hz2 hl
  go_enter Tryd.func36, Tryd.ntmps36
  go_wp2_with (first | (at_builtin; refine wpList_append_lies _ rfl _ _ _ rfl w.heap.size 69 i0 _ 4 32 Tryd.underlying53 HI.out.1 HI.out.2.1 HI.out.2.2.1 HI.out.2.2.2 rfl (by decide) (.slice none 0 0) 0 [] rfl (World.ownsRow_nil _ _ _ _) ⟨g, o, none⟩ 3 cap (elsL [x, y, z]) rfl rfl HNews.out (els_one _) (by decide) (by unfold maxLen; omega) (by omega) (Nat.le_refl _) _ rfl ?_; intro b c w1 hown1 hgrow1 hat1 hlt1; have A1 := Lib.hid (app_nil hown1 hgrow1 hat1); clear hown1 hgrow1 hat1))
  have P0 := Lib.hid ((Kp.nil (RowKit.Below.refl w1.heap.size w1)).alloc #[.int .i64 3, .int .i64 0, .int .i64 0, .slice none 0 0, .slice da dn dc] 78 rfl)
  have P1 := Lib.hid (P0.out.alloc #[.pointer (some ⟨w1.heap.size, 0, none⟩)] 85 (b := w1.heap.size + 1) (by simp))
  refine (int3_any (w1.heap.size + 1) 0 w1.heap.size 0 b c x y z _ (P1.out.b0.cell 0) (P1.out.tl.b0.cell 0) (A1.out.1.keep ((grown_of_below P1.out.1).block _ hlt1 (by simp)))).mono ?_
  rintro e w2 ⟨rfl, h2, h3⟩
  have R2 := Lib.hid h2
  have G2 := Lib.hid (grown_new A1.out.2.1 (grown_of_below P1.out.1) h3 A1.out.2.2)
  have HB := Lib.hid A1.out.2.2
  clear h2 h3 A1 P0 P1
  go_wp2_with fail
  go_ret
  exact ⟨b, c, rfl, Nat.le_of_eq HB.out.symm, R2.out, G2.out⟩
end Go.Proofs.YtodofaoaenddgaaDoor
