/-
  ZZInternal of width 4, ZZSBox, Degree, walked.
-/
import Derived.Test.YtodofaoaenddgaaDoorImi
namespace Go.Proofs.YtodofaoaenddgaaDoor
open Go.RowKit Go.Lib Fr
attribute [local go_sem] setCell_drewN alloc_drewN

set_option maxHeartbeats 1000000 in
set_option maxRecDepth 100000 in
theorem zzInt4_any (g o cap : Nat) (ns : List Int) (gd od capd : Nat) (ds : List Int) (w : World) (hl : LF w g o ns) (hd : LF w gd od ds) (hn : ns.length = 4) (hdn : ds.length = 4) (hb : ∀ n ∈ ns, 0 ≤ n ∧ n < fp) :
    Calls Tryd.prog 36 #[.slice (some ⟨g, o, none⟩) 4 cap, .slice (some ⟨gd, od, none⟩) 4 capd] w fun e w' =>
      ∃ b c, e = .returned (.slice (some ⟨b, 0, none⟩) 4 c) ∧ w.heap.size ≤ b ∧ Row w' b (intL ds ns) ∧ Below w.heap.size w w' := by
  obtain ⟨i0, hi, hz0, hz1, hz2⟩ := info_parts elt_info
  have HI := Lib.hid (And.intro hi (And.intro hz0 (And.intro hz1 hz2)))
  have HNews := Lib.hid hl.news
  have HLen := Lib.hid (show (elsL ns).length = 4 * 4 by rw [length_elsL, hn])
  have HN := Lib.hid (And.intro hn hdn)
  have HB0 := Lib.hid hb
  have HD := Lib.hid hd
  obtain ⟨d0, hd0⟩ : ∃ d, ds[0]? = some d := ⟨_, List.getElem?_eq_getElem (by omega)⟩
  have hgd : gd < w.heap.size := At4.lt (hd 0 d0 hd0)
  have HG := Lib.hid hgd
  clear hi hz0 hz1 hz2 hl hn hdn hb hd hd0 hgd
  go_enter Tryd.func36, Tryd.ntmps36
  go_wp2_with (first | (at_builtin; refine wpList_append_lies _ rfl _ _ _ rfl w.heap.size 69 i0 _ 4 32 Tryd.underlying53 HI.out.1 HI.out.2.1 HI.out.2.2.1 HI.out.2.2.2 rfl (by decide) (.slice none 0 0) 0 [] rfl (World.ownsRow_nil _ _ _ _) ⟨g, o, none⟩ 4 cap (elsL ns) rfl HLen.out HNews.out (els_one _) (by decide) (by unfold maxLen; omega) (by omega) (Nat.le_refl _) _ rfl ?_; intro b c w1 hown1 hgrow1 hat1 hlt1; have A1 := Lib.hid (app_nil hown1 hgrow1 hat1); clear hown1 hgrow1 hat1))
  have P0 := Lib.hid ((Kp.nil (RowKit.Below.refl w1.heap.size w1)).alloc #[.int .i64 4, .int .i64 0, .int .i64 0, .slice none 0 0, .slice (some ⟨gd, od, none⟩) 4 capd] 78 rfl)
  have P1 := Lib.hid (P0.out.alloc #[.pointer (some ⟨w1.heap.size, 0, none⟩)] 85 (b := w1.heap.size + 1) (by simp))
  refine (int4_any (w1.heap.size + 1) 0 w1.heap.size 0 b c gd od capd ns ds _ (P1.out.b0.cell 0) (P1.out.tl.b0.cell 0) (P1.out.tl.b0.cell (0 + 4)) (A1.out.1.keep ((grown_of_below P1.out.1).block _ hlt1 (by simp))) (LF.next (HD.out.next (below_of_grown A1.out.2.1)) P1.out.1) HN.out.1 HN.out.2 (by omega) (by omega) (by have := A1.out.2.2; have := HG.out; omega) HB0.out).mono ?_
  rintro e w2 ⟨rfl, h2, h3⟩
  have R2 := Lib.hid h2
  have G2 := Lib.hid (grown_new A1.out.2.1 (grown_of_below P1.out.1) h3 A1.out.2.2)
  have HB := Lib.hid A1.out.2.2
  clear h2 h3 A1 P0 P1
  go_wp2_with fail
  go_ret
  exact ⟨b, c, rfl, Nat.le_of_eq HB.out.symm, R2.out, G2.out⟩

theorem lms_row (n : Int) : lms n = (elsL [n]).toArray := rfl
theorem one_lms (n : Int) : (lms n).all (·.oneCell') = true := by simp [Value.oneCell']

set_option maxHeartbeats 1000000 in
set_option maxRecDepth 100000 in
theorem zzSBox_any (n : Int) (w : World) :
    Calls Tryd.prog 43 #[.agg (lms n)] w fun e w' =>
      e = .returned (.agg (lms (p5 n))) ∧ Below w.heap.size w w' := by
  have K0 := Lib.hid (((Kp.nil (RowKit.Below.refl w.heap.size w)).alloc (lms n) 69 rfl).alloc #[.int .u64 0, .int .u64 0, .int .u64 0, .int .u64 0] 69 (b := w.heap.size + 1) (by simp))
  have K1 := Lib.hid (K0.out.alloc (lms n) 69 (b := w.heap.size + 1 + 1) (by simp))
  have HLo := Lib.hid K0.out.tl.b0.el.load
  go_enter Tryd.func43, Tryd.ntmps43
  go_wp2_with fail
  have K2 := Lib.hid (K1.out.alloc #[.pointer none] 85 (b := w.heap.size + 1 + 1 + 1) (by simp))
  refine (sBox_any _ (w.heap.size + 1 + 1) 1 [n] 0 n _ (Row.of K2.out.tl.b0) rfl).mono ?_
  rintro e w2 ⟨rfl, h2, h3⟩
  have R2 := Lib.hid (show Row w2 (w.heap.size + 1 + 1) [p5 n] from h2)
  have KB := Lib.hid (K2.out.tl.tl.b0.keep (h3.block _ K2.out.tl.tl.b0.lt (by simp)))
  have G2 := Lib.hid (show RowKit.Below w.heap.size w w2 from below_of_grown ((grown_of_below K2.out.1).andThen h3 (fun j hj => by cases hj; exact .inl (by omega))))
  have HE := Lib.hid (R2.out.el (i := 0) (o := 0) rfl rfl).load
  have H1 := Lib.hid (one_lms (p5 n))
  clear h2 h3 K0 K1 K2 HLo
  go_wp2_with (first | (refine wpList_load_at rfl 69 _ rfl ⟨w.heap.size + 1 + 1, 0, none⟩ rfl (lms (p5 n)) _ HE.out Tryd.underlying69 rfl (by kernel_rfl) ?_; go_frame) | (refine wpList_store_blk rfl 69 _ _ rfl (w.heap.size + 1) 69 (#[.int .u64 0, .int .u64 0, .int .u64 0, .int .u64 0]) (lms (p5 n)) (KB.out) rfl rfl (by kernel_rfl) rfl (H1.out) ?_; go_frame))
  refine bodyPost_ret (results_blk Tryd.results43 _ _ (KB.out.setRow _) rfl Tryd.underlying69 rfl (by kernel_rfl)) rfl ⟨rfl, ?_⟩
  exact Below.setRow G2.out (by omega) _
end Go.Proofs.YtodofaoaenddgaaDoor
