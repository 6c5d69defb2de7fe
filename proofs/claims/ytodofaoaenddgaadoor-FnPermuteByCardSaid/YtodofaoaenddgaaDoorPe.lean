/-
  The reference's Permuted (one outer round at each end), walked.
-/
import Derived.Test.YtodofaoaenddgaaDoorPd
namespace Go.Proofs.YtodofaoaenddgaaDoor
open Go.RowKit Go.Lib Fr
attribute [local go_sem] setCell_drewN alloc_drewN

/-- A block that begins with a list of the reference's numbers. -/
def RowH (w : World) (b : Nat) (ns : List Int) : Prop := ∃ r : List Value, Blk w b 44 (hwsL ns ++ r).toArray
theorem RowH.lt {w : World} {b : Nat} {ns : List Int} (h : RowH w b ns) : b < w.heap.size := by
  obtain ⟨r, hr⟩ := h
  exact hr.lt
theorem RowH.below {w w' : World} {b : Nat} {ns : List Int} (h : RowH w b ns) (hb : RowKit.Below w.heap.size w w') : RowH w' b ns := by
  obtain ⟨r, hr⟩ := h
  exact ⟨r, hr.below hb hr.lt⟩
theorem RowH.drewN {w : World} {b : Nat} {ns : List Int} (h : RowH w b ns) (k : Nat) : RowH (w.drewN k) b ns := h
theorem RowH.e8 {w : World} {b i : Nat} {ns : List Int} {n : Int} (h : RowH w b ns) (hi : ns[i]? = some n) : E8 w b (i * 8) n := fun j hj => by
  obtain ⟨r, hr⟩ := h
  have hk := (List.getElem?_eq_some_iff.1 hi).1
  rw [hr.cell, List.getElem?_toArray, List.getElem?_append_left (by rw [length_hwsL]; omega)]
  exact hwsL_at ns i n j hi hj
theorem RowH.f8 {w' : World} {b : Nat} {ns : List Int} (h : RowH w' b ns) (q : Nat) : w'.frozen? ⟨b, q, none⟩ = false ∧ w'.frozen? ⟨b, q + 1, none⟩ = false ∧ w'.frozen? ⟨b, q + 2, none⟩ = false ∧ w'.frozen? ⟨b, q + 3, none⟩ = false ∧ w'.frozen? ⟨b, q + 4, none⟩ = false ∧ w'.frozen? ⟨b, q + 5, none⟩ = false ∧ w'.frozen? ⟨b, q + 6, none⟩ = false ∧ w'.frozen? ⟨b, q + 7, none⟩ = false := by
  obtain ⟨r, hr⟩ := h
  exact hr.rowf8 q
theorem hwsL_set2 (l : List Int) (r : List Value) (i : Nat) (m : Int) (h : i < l.length) :
    (((((((((hwsL l ++ r).set (i * 8) (.int .i64 (hw m 0))).set (i * 8 + 1) (.int .i64 (hw m 1))).set (i * 8 + 2) (.int .i64 (hw m 2))).set (i * 8 + 3) (.int .i64 (hw m 3))).set (i * 8 + 4) (.int .i64 (hw m 4))).set (i * 8 + 5) (.int .i64 (hw m 5))).set (i * 8 + 6) (.int .i64 (hw m 6))).set (i * 8 + 7) (.int .i64 (hw m 7))) = hwsL (l.set i m) ++ r := by
  have hl := length_hwsL l
  have e : ∀ (q : Nat) (x : Value) (c : List Value), q < c.length → (c ++ r).set q x = c.set q x ++ r := fun q x c hq => List.set_append_left _ _ hq
  rw [e _ _ _ (by omega), e _ _ _ (by simp only [List.length_set]; omega), e _ _ _ (by simp only [List.length_set]; omega), e _ _ _ (by simp only [List.length_set]; omega), e _ _ _ (by simp only [List.length_set]; omega), e _ _ _ (by simp only [List.length_set]; omega), e _ _ _ (by simp only [List.length_set]; omega), e _ _ _ (by simp only [List.length_set]; omega), hwsL_set l i m h]
theorem RowH.set8 {w : World} {b i : Nat} {ns : List Int} (h : RowH w b ns) (hi : i < ns.length) (m : Int) : RowH ((((((((w.setCell ⟨b, i * 8, none⟩ (.int .i64 (hw m 0))).setCell ⟨b, i * 8 + 1, none⟩ (.int .i64 (hw m 1))).setCell ⟨b, i * 8 + 2, none⟩ (.int .i64 (hw m 2))).setCell ⟨b, i * 8 + 3, none⟩ (.int .i64 (hw m 3))).setCell ⟨b, i * 8 + 4, none⟩ (.int .i64 (hw m 4))).setCell ⟨b, i * 8 + 5, none⟩ (.int .i64 (hw m 5))).setCell ⟨b, i * 8 + 6, none⟩ (.int .i64 (hw m 6))).setCell ⟨b, i * 8 + 7, none⟩ (.int .i64 (hw m 7))) b (ns.set i m) := by
  obtain ⟨r, hr⟩ := h
  have h' := (((((((hr.set_ (i * 8) (.int .i64 (hw m 0))).set_ (i * 8 + 1) (.int .i64 (hw m 1))).set_ (i * 8 + 2) (.int .i64 (hw m 2))).set_ (i * 8 + 3) (.int .i64 (hw m 3))).set_ (i * 8 + 4) (.int .i64 (hw m 4))).set_ (i * 8 + 5) (.int .i64 (hw m 5))).set_ (i * 8 + 6) (.int .i64 (hw m 6))).set_ (i * 8 + 7) (.int .i64 (hw m 7))
  simp only [List.setIfInBounds_toArray] at h'
  rw [hwsL_set2 ns r i m hi] at h'
  exact ⟨r, h'⟩
theorem RowH.le {w : World} {b : Nat} {ns : List Int} (h : RowH w b ns) : LE w b 0 ns := fun i n hi j hj => by
  rw [Nat.zero_add]; exact h.e8 hi j hj
theorem LE.news {w : World} {g o : Nat} {ns : List Int} (h : LE w g o ns) : ∀ j u, (hwsL ns)[j]? = some u → w.cell? ((⟨g, o, none⟩ : Addr).add j) = some u := fun j u hj => by
  rw [add_at]
  have hl := (List.getElem?_eq_some_iff.1 hj).1
  rw [length_hwsL] at hl
  obtain ⟨n, hn⟩ : ∃ n, ns[j / 8]? = some n := ⟨_, List.getElem?_eq_getElem (by omega)⟩
  have e := hwsL_at ns (j / 8) n (j % 8) hn (Nat.mod_lt _ (by decide))
  have ej : j / 8 * 8 + j % 8 = j := by omega
  rw [ej, hj] at e
  cases e
  have := h (j / 8) n hn (j % 8) (Nat.mod_lt _ (by decide))
  rw [show o + j / 8 * 8 + j % 8 = o + j from by omega] at this
  exact this
theorem hwsL_one : ∀ (ns : List Int), ∀ u ∈ hwsL ns, u.oneCell' = true
  | [], u, hu => by simp [hwsL] at hu
  | n :: r, u, hu => by
    rw [hwsL, List.mem_append] at hu
    rcases hu with hu | hu
    · exact hws_one u hu
    · exact hwsL_one r u hu
theorem ownsRow_rowH {w : World} {B g n cap : Nat} {ns : List Int} (h : w.ownsRow B 44 8 (.slice (some ⟨g, 0, none⟩) n cap) n (hwsL ns)) : RowH w g ns := by
  rcases h.2 with ⟨h1, _⟩ | ⟨g', cap', cur, hv, _, hg, _, _, _, ht⟩
  · cases h1
  · cases hv
    refine ⟨cur.toList.drop (n * 8), ?_⟩
    rw [← ht, List.take_append_drop]
    exact hg
/-- The keys of the rounds, as the reference's numbers in memory. -/
def KE (w : World) (gK : Nat) (K : List (List Int)) : Prop := ∀ (i : Nat) (ks : List Int), K[i]? = some ks → ∃ gr or_ cr : Nat, w.cell? ⟨gK, i, none⟩ = some (Value.slice (some ⟨gr, or_, none⟩) ks.length cr) ∧ LE w gr or_ ks
theorem KE.next {w w' : World} {gK : Nat} {K : List (List Int)} (h : KE w gK K) (hb : RowKit.Below w.heap.size w w') : KE w' gK K := fun i ks hi => by
  obtain ⟨gr, o, cr, h1, h2⟩ := h i ks hi
  exact ⟨gr, o, cr, below_cell hb h1, h2.next hb⟩
theorem extS_any (g o cap n : Nat) (ns : List Int) (w : World) (hl : LE w g o ns) (hn : ∀ n ∈ ns, 0 ≤ n ∧ n < fp) (h : ns.length = n) (h2 : 2 ≤ n) (h3 : n ≤ 3) :
    Calls Tryd.prog 18 #[.slice (some ⟨g, o, none⟩) n cap] w fun e w' =>
      ∃ b, e = .returned (.slice (some ⟨b, 0, none⟩) n n) ∧ LE w' b 0 (extL ns) ∧ Below w.heap.size w w' := by
  subst h
  exact (external_any (some ⟨g, o, none⟩) g o cap ns w (fun _ => rfl) hl hn (by omega) (by omega)).mono fun e w' ⟨b, he, _, hB, hb⟩ => ⟨b, he, hB.le, hb⟩
theorem intS_any (g o cap n : Nat) (dv : Value) (ns : List Int) (w : World) (hl : LE w g o ns) (hn : ∀ n ∈ ns, 0 ≤ n ∧ n < fp) (h : ns.length = n) (h2 : 2 ≤ n) (h3 : n ≤ 3) :
    Calls Tryd.prog 16 #[.slice (some ⟨g, o, none⟩) n cap, dv] w fun e w' =>
      ∃ b, e = .returned (.slice (some ⟨b, 0, none⟩) n n) ∧ LE w' b 0 (intL (dgL n) ns) ∧ Below w.heap.size w w' := by
  subst h
  rcases (show ns.length = 2 ∨ ns.length = 3 by omega) with hm | hm
  · refine (internal2_any (some ⟨g, o, none⟩) g o cap ns dv w (fun _ => rfl) hl hn hm).mono fun e w' ⟨b, he, _, hB, hb⟩ => ⟨b, he, ?_, hb⟩
    rw [dgL, if_pos hm]; exact hB.le
  · refine (internal3_any (some ⟨g, o, none⟩) g o cap ns dv w (fun _ => rfl) hl hn hm).mono fun e w' ⟨b, he, _, hB, hb⟩ => ⟨b, he, ?_, hb⟩
    rw [dgL, if_neg (by omega)]; exact hB.le
end Go.Proofs.YtodofaoaenddgaaDoor
