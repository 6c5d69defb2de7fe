/-
  ZZPermute and impl.bounds, walked.
-/
import Derived.Test.YtodofaoaenddgaaDoorPb
namespace Go.Proofs.YtodofaoaenddgaaDoor
open Go.RowKit Go.Lib Fr
attribute [local go_sem] setCell_drewN alloc_drewN

/-- The keys of the rounds in memory. -/
def KG (w : World) (gk : Nat) (K : List (List Int)) : Prop := ∀ i ks, K[i]? = some ks → ∃ gr cr, w.cell? ⟨gk, i, none⟩ = some (.slice (some ⟨gr, 0, none⟩) ks.length cr) ∧ LF w gr 0 ks ∧ gr < w.heap.size
theorem KG.kf {w w' : World} {gk g : Nat} {K : List (List Int)} (h : KG w gk K) (hb : RowKit.Below w.heap.size w w') (hg : w.heap.size ≤ g) : KF w' gk g K := fun i ks hi => by
  obtain ⟨gr, cr, h1, h2, h3⟩ := h i ks hi
  exact ⟨gr, cr, (hb.cell (p := ⟨gk, i, none⟩) (block_lt_of_cell h1)).trans h1, h2.next hb, by omega⟩
theorem below_cell {w w' : World} (hb : RowKit.Below w.heap.size w w') {a : Addr} {v : Value} (h : w.cell? a = some v) : w'.cell? a = some v := (hb.cell (p := a) (block_lt_of_cell h)).trans h

set_option maxHeartbeats 1000000 in
set_option maxRecDepth 100000 in
theorem zzPermute_any (gq gk g o cap n m ck : Nat) (K : List (List Int)) (s : List Int) (w : World)
    (q0 : w.cell? ⟨gq, 0, none⟩ = some (.int .i64 n)) (q1 : w.cell? ⟨gq, 1, none⟩ = some (.int .i64 2)) (q2 : w.cell? ⟨gq, 2, none⟩ = some (.int .i64 m)) (q3 : w.cell? ⟨gq, 3, none⟩ = some (.slice (some ⟨gk, 0, none⟩) (m + 2) ck))
    (hK : KG w gk K) (hS : Shape n m K) (hl : LF w g o s) (h : s.length = n) (h2 : 2 ≤ n) (h3 : n ≤ 3) (hm : m ≤ 100) :
    Calls Tryd.prog 47 #[.pointer (some ⟨gq, 0, none⟩), .slice (some ⟨g, o, none⟩) n cap] w fun e w' =>
      ∃ b c, e = .returned (.tuple #[.slice (some ⟨b, 0, none⟩) n c, .nilIface]) ∧ w.heap.size ≤ b ∧ Row w' b (stt n m K s (m + 2)) ∧ Below w.heap.size w w' := by
  obtain ⟨i0, hi, hz0, hz1, hz2⟩ := info_parts elt_info
  have HI := Lib.hid (And.intro hi (And.intro hz0 (And.intro hz1 hz2)))
  have HNews := Lib.hid hl.news
  have HLen := Lib.hid (show (elsL s).length = n * 4 by rw [length_elsL, h]; omega)
  have Q := Lib.hid (And.intro q0 (And.intro q1 (And.intro q2 q3)))
  have HK := Lib.hid hK
  have HSh := Lib.hid hS
  have H := Lib.hid (And.intro h (And.intro h2 (And.intro h3 hm)))
  have hgk : gk < w.heap.size := by
    have hlK := hS.1
    obtain ⟨ks, hks⟩ : ∃ ks, K[0]? = some ks := ⟨_, List.getElem?_eq_getElem (by omega)⟩
    obtain ⟨_, _, c1, _⟩ := hK 0 ks hks
    exact block_lt_of_cell c1
  have HGK := Lib.hid (And.intro hgk (block_lt_of_cell q0))
  clear hi hz0 hz1 hz2 hl q0 q1 q2 q3 hK hS h hgk
  go_enter Tryd.func47, Tryd.ntmps47
  go_wp2_with (first | (at_builtin; refine wpList_append_lies _ rfl _ _ _ rfl w.heap.size 69 i0 _ 4 32 Tryd.underlying53 HI.out.1 HI.out.2.1 HI.out.2.2.1 HI.out.2.2.2 rfl (by decide) (.slice none 0 0) 0 [] rfl (World.ownsRow_nil _ _ _ _) ⟨g, o, none⟩ n cap (elsL s) rfl HLen.out HNews.out (els_one _) (by omega) (by unfold maxLen; omega) (by omega) (Nat.le_refl _) _ rfl ?_; intro b c w1 hown1 hgrow1 hat1 hlt1; have A1 := Lib.hid (app_nil hown1 hgrow1 hat1); clear hown1 hgrow1 hat1))
  have B1 := Lib.hid (below_of_grown A1.out.2.1)
  have P0 := Lib.hid ((Kp.nil (RowKit.Below.refl w1.heap.size w1)).alloc #[.pointer (some ⟨gq, 0, none⟩)] 85 rfl)
  have B2 := Lib.hid (bel B1.out P0.out.1)
  refine (perm_any w1.heap.size gq gk b c n m ck K s _ (P0.out.b0.cell 0) (below_cell B2.out Q.out.1) (below_cell B2.out Q.out.2.1) (below_cell B2.out Q.out.2.2.1) (below_cell B2.out Q.out.2.2.2) (HK.out.kf B2.out (Nat.le_of_eq A1.out.2.2.symm)) HSh.out (A1.out.1.keep ((grown_of_below P0.out.1).block _ hlt1 (by simp))) H.out.1 H.out.2.1 H.out.2.2.1 H.out.2.2.2 (by omega) (by have := A1.out.2.2; have := HGK.out.2; omega) (by have := A1.out.2.2; have := HGK.out.1; omega)).mono ?_
  rintro e w2 ⟨rfl, h2', h3'⟩
  have R2 := Lib.hid h2'
  have G2 := Lib.hid (grown_new A1.out.2.1 (grown_of_below P0.out.1) h3' A1.out.2.2)
  have HB := Lib.hid A1.out.2.2
  clear h2' h3' A1 P0 B1 B2
  go_wp2_with fail
  go_ret2
  exact ⟨b, c, rfl, Nat.le_of_eq HB.out.symm, R2.out, G2.out⟩

set_option maxRecDepth 100000 in
theorem bounds_any (n m : Nat) (w : World) (h2 : 2 ≤ n) (h3 : n ≤ 3) (hm : m ≤ 100) :
    Calls Tryd.prog 46 #[.int .i64 n, .int .i64 2, .int .i64 m] w fun e w' => e = .returned (.bool true) ∧ w = w' := by
  rcases (show n = 2 ∨ n = 3 by omega) with rfl | rfl
  · have e2 : ((2 : Nat) : Int) = 2 := rfl
    rw [e2]
    clear h2 h3 e2
    have h0 : (0 : Int) ≤ (m : Int) := by omega
    have h1 : (m : Int) ≤ 100 := by omega
    go_enter Tryd.func46, Tryd.ntmps46
    go_wp2
    go_ret
    exact ⟨rfl, rfl⟩
  · have e2 : ((3 : Nat) : Int) = 3 := rfl
    rw [e2]
    clear h2 h3 e2
    have h0 : (0 : Int) ≤ (m : Int) := by omega
    have h1 : (m : Int) ≤ 100 := by omega
    go_enter Tryd.func46, Tryd.ntmps46
    go_wp2
    go_ret
    exact ⟨rfl, rfl⟩
end Go.Proofs.YtodofaoaenddgaaDoor
