/-
  What the law FnPermuteBy keeps: two rows of slices (the keys as bytes, the keys as numbers) that grow side by side.
-/
import Derived.Test.YtodofaoaenddgaaDoorPf
namespace Go.Proofs.YtodofaoaenddgaaDoor
open Go.RowKit Go.Lib Fr
attribute [local go_sem] setCell_drewN alloc_drewN

theorem fold_set : ∀ (vs old pre : List Value), old.length = vs.length → List.foldl (fun (cs : Array Value) (x : Value × Nat) => cs.setIfInBounds x.2 x.1) (pre ++ old).toArray (vs.zipIdx pre.length) = (pre ++ vs).toArray
  | [], [], _, _ => rfl
  | v :: vs, o :: old, pre, h => by
    rw [List.zipIdx_cons, List.foldl_cons]
    have e : (pre ++ o :: old).toArray.setIfInBounds pre.length v = ((pre ++ [v]) ++ old).toArray := by
      simp [List.setIfInBounds_toArray, List.set_append_right]
    have ih := fold_set vs old (pre ++ [v]) (by simpa using h)
    rw [show (pre ++ [v]).length = pre.length + 1 from by simp] at ih
    show List.foldl _ ((pre ++ o :: old).toArray.setIfInBounds pre.length v) _ = _
    rw [e, ih]
    simp
  | [], _ :: _, _, h => by simp at h
  | _ :: _, [], _, h => by simp at h
set_option maxRecDepth 100000 in
theorem slice_cells (y : Int) : Array.foldl (fun (cs : Array Value) (x : Value × Nat) => cs.setIfInBounds x.2 x.1) #[Value.int .u8 0, Value.int .u8 0, Value.int .u8 0, Value.int .u8 0, Value.int .u8 0, Value.int .u8 0, Value.int .u8 0, Value.int .u8 0, Value.int .u8 0, Value.int .u8 0, Value.int .u8 0, Value.int .u8 0, Value.int .u8 0, Value.int .u8 0, Value.int .u8 0, Value.int .u8 0, Value.int .u8 0, Value.int .u8 0, Value.int .u8 0, Value.int .u8 0, Value.int .u8 0, Value.int .u8 0, Value.int .u8 0, Value.int .u8 0, Value.int .u8 0, Value.int .u8 0, Value.int .u8 0, Value.int .u8 0, Value.int .u8 0, Value.int .u8 0, Value.int .u8 0, Value.int .u8 0] ((bts y).zipIdx) 0 32 = bts y := by
  have h := fold_set (bts y).toList (List.replicate 32 (.int .u8 0)) [] (by simp)
  have hs : ((bts y).zipIdx).size = 32 := by simp
  have e : Array.foldl (fun (cs : Array Value) (x : Value × Nat) => cs.setIfInBounds x.2 x.1) #[Value.int .u8 0, Value.int .u8 0, Value.int .u8 0, Value.int .u8 0, Value.int .u8 0, Value.int .u8 0, Value.int .u8 0, Value.int .u8 0, Value.int .u8 0, Value.int .u8 0, Value.int .u8 0, Value.int .u8 0, Value.int .u8 0, Value.int .u8 0, Value.int .u8 0, Value.int .u8 0, Value.int .u8 0, Value.int .u8 0, Value.int .u8 0, Value.int .u8 0, Value.int .u8 0, Value.int .u8 0, Value.int .u8 0, Value.int .u8 0, Value.int .u8 0, Value.int .u8 0, Value.int .u8 0, Value.int .u8 0, Value.int .u8 0, Value.int .u8 0, Value.int .u8 0, Value.int .u8 0] ((bts y).zipIdx) 0 32 = Array.foldl (fun (cs : Array Value) (x : Value × Nat) => cs.setIfInBounds x.2 x.1) #[Value.int .u8 0, Value.int .u8 0, Value.int .u8 0, Value.int .u8 0, Value.int .u8 0, Value.int .u8 0, Value.int .u8 0, Value.int .u8 0, Value.int .u8 0, Value.int .u8 0, Value.int .u8 0, Value.int .u8 0, Value.int .u8 0, Value.int .u8 0, Value.int .u8 0, Value.int .u8 0, Value.int .u8 0, Value.int .u8 0, Value.int .u8 0, Value.int .u8 0, Value.int .u8 0, Value.int .u8 0, Value.int .u8 0, Value.int .u8 0, Value.int .u8 0, Value.int .u8 0, Value.int .u8 0, Value.int .u8 0, Value.int .u8 0, Value.int .u8 0, Value.int .u8 0, Value.int .u8 0] ((bts y).zipIdx) 0 ((bts y).zipIdx).size := by rw [hs]
  rw [e, ← Array.foldl_toList, Array.toList_zipIdx]
  exact h
theorem cell_keep {w w' : World} {g : Nat} (h : w'.heap[g]? = w.heap[g]?) (o : Nat) : w'.cell? ⟨g, o, none⟩ = w.cell? ⟨g, o, none⟩ := by
  simp only [World.cell?, h]
theorem LB.keep {w w' : World} {g o : Nat} {ns : List Int} (h : w'.heap[g]? = w.heap[g]?) (hl : LB w g o ns) : LB w' g o ns := fun i n hi j hj => (cell_keep h _).trans (hl i n hi j hj)
theorem LE.keep {w w' : World} {g o : Nat} {ns : List Int} (h : w'.heap[g]? = w.heap[g]?) (hl : LE w g o ns) : LE w' g o ns := fun i n hi j hj => (cell_keep h _).trans (hl i n hi j hj)
theorem LB.base {w : World} {g o : Nat} {ns : List Int} (hl : LB w g o ns) (h0 : 0 < ns.length) : g < w.heap.size := by
  obtain ⟨n, hn⟩ : ∃ n, ns[0]? = some n := ⟨_, List.getElem?_eq_getElem h0⟩
  exact block_lt_of_cell (hl 0 n hn 0 (by decide))
theorem lb_one {w : World} {b : Nat} {t : TypeId} {k : Int} (h : Blk w b t (bts k)) : LB w b 0 [k] := fun i n hi j hj => by
  have hi0 : i = 0 := by have := (List.getElem?_eq_some_iff.1 hi).1; simp at this; omega
  subst hi0
  cases hi
  rw [h.cell]
  rw [show 0 + 0 * 32 + j = j from by omega]
  exact bts_at k hj
theorem le_one {w : World} {b : Nat} {t : TypeId} {k : Int} (h : Blk w b t (hws k)) : LE w b 0 [k] := fun i n hi j hj => by
  have hi0 : i = 0 := by have := (List.getElem?_eq_some_iff.1 hi).1; simp at this; omega
  subst hi0
  cases hi
  rw [h.cell]
  rw [show 0 + 0 * 8 + j = j from by omega]
  exact hws_at k hj
set_option maxRecDepth 100000 in
theorem slice8_cells (y : Int) : Array.foldl (fun (cs : Array Value) (x : Value × Nat) => cs.setIfInBounds x.2 x.1) #[.int .i64 0, .int .i64 0, .int .i64 0, .int .i64 0, .int .i64 0, .int .i64 0, .int .i64 0, .int .i64 0] ((hws y).zipIdx) 0 8 = hws y := by
  have h := fold_set (hws y).toList (List.replicate 8 (.int .i64 0)) [] (by simp)
  have hs : ((hws y).zipIdx).size = 8 := by simp [hws]
  have e : Array.foldl (fun (cs : Array Value) (x : Value × Nat) => cs.setIfInBounds x.2 x.1) #[.int .i64 0, .int .i64 0, .int .i64 0, .int .i64 0, .int .i64 0, .int .i64 0, .int .i64 0, .int .i64 0] ((hws y).zipIdx) 0 8 = Array.foldl (fun (cs : Array Value) (x : Value × Nat) => cs.setIfInBounds x.2 x.1) #[.int .i64 0, .int .i64 0, .int .i64 0, .int .i64 0, .int .i64 0, .int .i64 0, .int .i64 0, .int .i64 0] ((hws y).zipIdx) 0 ((hws y).zipIdx).size := by rw [hs]
  rw [e, ← Array.foldl_toList, Array.toList_zipIdx]
  exact h
/-- A row of slices of which each is a round's keys. -/
def Hs (Q : World → Nat → Nat → List Int → Prop) (w : World) (K : List (List Int)) (gk gw : Nat) (xs : List Value) : Prop :=
  ∀ (j : Nat) (x : Value), xs[j]? = some x → ∃ (ks : List Int) (gr or_ cr : Nat), K[j]? = some ks ∧ x = Value.slice (some ⟨gr, or_, none⟩) ks.length cr ∧ Q w gr or_ ks ∧ gr < w.heap.size ∧ gr ≠ gk ∧ gr ≠ gw
theorem Hs.keep {Q : World → Nat → Nat → List Int → Prop} (hQ : ∀ {w w' : World} {g o : Nat} {ns : List Int}, w'.heap[g]? = w.heap[g]? → Q w g o ns → Q w' g o ns) {w w' : World} {K : List (List Int)} {gk gw gk' gw' : Nat} {xs : List Value} (h : Hs Q w K gk gw xs)
    (hs : w.heap.size ≤ w'.heap.size) (hb : ∀ g, g < w.heap.size → g ≠ gk → g ≠ gw → w'.heap[g]? = w.heap[g]?) (hk : gk' = gk ∨ w.heap.size ≤ gk') (hw : gw' = gw ∨ w.heap.size ≤ gw') : Hs Q w' K gk' gw' xs := fun j x hx => by
  obtain ⟨ks, gr, o, cr, h1, h2, h3, h4, h5, h6⟩ := h j x hx
  exact ⟨ks, gr, o, cr, h1, h2, hQ (hb gr h4 h5 h6) h3, by omega, by omega, by omega⟩
theorem Hs.snoc {Q : World → Nat → Nat → List Int → Prop} {w : World} {K : List (List Int)} {gk gw i : Nat} {xs : List Value} (h : Hs Q w K gk gw xs) (hl : xs.length = i) {ks : List Int} {gr o cr : Nat} (hk : K[i]? = some ks)
    (hq : Q w gr o ks) (h4 : gr < w.heap.size) (h5 : gr ≠ gk) (h6 : gr ≠ gw) : Hs Q w K gk gw (xs ++ [.slice (some ⟨gr, o, none⟩) ks.length cr]) := fun j x hx => by
  rcases Nat.lt_or_ge j i with hlt | hge
  · rw [List.getElem?_append_left (by omega)] at hx
    exact h j x hx
  · have hj' := (List.getElem?_eq_some_iff.1 hx).1
    obtain rfl : j = i := by simp at hj'; omega
    rw [List.getElem?_append_right (by omega), hl, Nat.sub_self] at hx
    simp at hx
    exact ⟨ks, gr, o, cr, hk, hx.symm, hq, h4, h5, h6⟩
theorem Hs.nil {Q : World → Nat → Nat → List Int → Prop} {w : World} {K : List (List Int)} {gk gw : Nat} : Hs Q w K gk gw [] := fun j x hx => by simp at hx
/-- What the walk keeps: i rows of keys as bytes, j as numbers. -/
def PB (w0 wr : World) (K : List (List Int)) (i j gk ck gw cw : Nat) (xs ys : List Value) : Prop :=
  wr.ownsRow w0.heap.size 22 1 (.slice (some ⟨gk, 0, none⟩) i ck) i xs ∧ wr.ownsRow w0.heap.size 27 1 (.slice (some ⟨gw, 0, none⟩) j cw) j ys ∧ Hs LB wr K gk gw xs ∧ Hs LE wr K gk gw ys ∧ gk ≠ gw ∧ RowKit.Below w0.heap.size w0 wr
section
variable {w0 wr w' : World} {K : List (List Int)} {i j gk ck gw cw g' c' gr o cr : Nat} {xs ys : List Value} {ks : List Int}
theorem PB.sizeK (h : PB w0 wr K i j gk ck gw cw xs ys) : w0.heap.size ≤ gk ∧ gk < wr.heap.size := h.1.lt gk rfl
theorem PB.sizeW (h : PB w0 wr K i j gk ck gw cw xs ys) : w0.heap.size ≤ gw ∧ gw < wr.heap.size := h.2.1.lt gw rfl
theorem PB.next (h : PB w0 wr K i j gk ck gw cw xs ys) (hb : RowKit.Below wr.heap.size wr w') : PB w0 w' K i j gk ck gw cw xs ys :=
  ⟨ownsRow_below h.1 hb, ownsRow_below h.2.1 hb, h.2.2.1.keep (Q := LB) LB.keep hb.size (fun g hg _ _ => hb.block g hg) (.inl rfl) (.inl rfl), h.2.2.2.1.keep (Q := LE) LE.keep hb.size (fun g hg _ _ => hb.block g hg) (.inl rfl) (.inl rfl), h.2.2.2.2.1, bel h.2.2.2.2.2 hb⟩
theorem PB.appK (h : PB w0 wr K i j gk ck gw cw xs ys) (hg : wr.grownBy w' (some gk)) (ho : w'.ownsRow w0.heap.size 22 1 (.slice (some ⟨g', 0, none⟩) (i + 1) c') (i + 1) (xs ++ [.slice (some ⟨gr, o, none⟩) ks.length cr]))
    (hat : some gk = some g' ∨ g' = wr.heap.size) (hk : K[i]? = some ks) (hq : LB wr gr o ks) (h4 : gr < wr.heap.size) (h5 : gr ≠ gk) (h6 : gr ≠ gw) : PB w0 w' K (i + 1) j g' c' gw cw (xs ++ [.slice (some ⟨gr, o, none⟩) ks.length cr]) ys := by
  have hgk := h.sizeK
  have hgw := h.sizeW
  have hbs : ∀ g, g < wr.heap.size → g ≠ gk → g ≠ gw → w'.heap[g]? = wr.heap[g]? := fun g h1 h2 _ => hg.block g h1 (by simpa using h2)
  have hat' : g' = gk ∨ wr.heap.size ≤ g' := by
    rcases hat with h | h
    · left; cases h; rfl
    · right; omega
  have hne := h.2.2.2.2.1
  refine ⟨ho, ownsRow_keep h.2.1 (fun g hgo => by cases hgo; exact hg.block _ hgw.2 (by simpa using fun e => hne e.symm)), ?_, h.2.2.2.1.keep (Q := LE) LE.keep hg.size hbs hat' (.inl rfl), by omega, h.2.2.2.2.2.trans (grown_below hg h.2.2.2.2.2.size (fun k hk => by cases hk; exact hgk.1))⟩
  exact (h.2.2.1.keep (Q := LB) LB.keep hg.size hbs hat' (.inl rfl)).snoc (by have := h.1.1; omega) hk (LB.keep (hbs gr h4 h5 h6) hq) (by have := hg.size; omega) (by omega) h6
theorem PB.appW (h : PB w0 wr K i j gk ck gw cw xs ys) (hg : wr.grownBy w' (some gw)) (ho : w'.ownsRow w0.heap.size 27 1 (.slice (some ⟨g', 0, none⟩) (j + 1) c') (j + 1) (ys ++ [.slice (some ⟨gr, o, none⟩) ks.length cr]))
    (hat : some gw = some g' ∨ g' = wr.heap.size) (hk : K[j]? = some ks) (hq : LE wr gr o ks) (h4 : gr < wr.heap.size) (h5 : gr ≠ gk) (h6 : gr ≠ gw) : PB w0 w' K i (j + 1) gk ck g' c' xs (ys ++ [.slice (some ⟨gr, o, none⟩) ks.length cr]) := by
  have hgk := h.sizeK
  have hgw := h.sizeW
  have hbs : ∀ g, g < wr.heap.size → g ≠ gk → g ≠ gw → w'.heap[g]? = wr.heap[g]? := fun g h1 _ h2 => hg.block g h1 (by simpa using h2)
  have hat' : g' = gw ∨ wr.heap.size ≤ g' := by
    rcases hat with h | h
    · left; cases h; rfl
    · right; omega
  have hne := h.2.2.2.2.1
  refine ⟨ownsRow_keep h.1 (fun g hgo => by cases hgo; exact hg.block _ hgk.2 (by simpa using hne)), ho, h.2.2.1.keep (Q := LB) LB.keep hg.size hbs (.inl rfl) hat', ?_, by omega, h.2.2.2.2.2.trans (grown_below hg h.2.2.2.2.2.size (fun k hk => by cases hk; exact hgw.1))⟩
  exact (h.2.2.2.1.keep (Q := LE) LE.keep hg.size hbs (.inl rfl) hat').snoc (by have := h.2.1.1; omega) hk (LE.keep (hbs gr h4 h5 h6) hq) (by have := hg.size; omega) h5 (by omega)
/-- The cells of a row of slices. -/
theorem Hs.cells {Q : World → Nat → Nat → List Int → Prop} {n : Nat} {e : TypeId} (h : Hs Q wr K gk gw xs) {g : Nat} (ho : wr.ownsRow w0.heap.size e 1 (.slice (some ⟨g, 0, none⟩) n c') n xs) (hn : K.length = n) :
    ∀ (i : Nat) (ks : List Int), K[i]? = some ks → ∃ gr or_ cr : Nat, wr.cell? ⟨g, i, none⟩ = some (Value.slice (some ⟨gr, or_, none⟩) ks.length cr) ∧ Q wr gr or_ ks := fun i ks hi => by
  have hlt := (List.getElem?_eq_some_iff.1 hi).1
  have hxl := ho.1
  rcases ho.2 with ⟨h1, _⟩ | ⟨g1, cap, cur, hv, _, hg, _, _, _, ht⟩
  · cases h1
  · cases hv
    obtain ⟨v, hv⟩ : ∃ v, xs[i]? = some v := ⟨_, List.getElem?_eq_getElem (by omega)⟩
    obtain ⟨ks', gr, o, cr, h1, h2, h3, _⟩ := h i v hv
    rw [hi] at h1
    cases h1
    refine ⟨gr, o, cr, ?_, h3⟩
    rw [cell_of_row wr g i cur _ _ hg]
    rw [← ht, List.getElem?_take_of_lt (by omega)] at hv
    rw [← h2]
    simpa using hv
end
theorem ownsRow_lit (w : World) {B : Nat} (hb : B ≤ w.heap.size) (e : TypeId) (v : Value) : (w.alloc (.cells #[v] e)).ownsRow B e 1 (.slice (some ⟨w.heap.size, 0, none⟩) 1 1) 1 [v] :=
  ⟨rfl, .inr ⟨w.heap.size, 1, #[v], rfl, hb, heap_alloc_new w _, Nat.le_refl _, by decide, rfl, rfl⟩⟩
theorem numN_any (g o cap n : Nat) (ns : List Int) (w : World) (hl : LB w g o ns) (hn : ∀ n ∈ ns, 0 ≤ n ∧ n < fp) (hnl : ns.length = n) (h0 : 0 < n) (h6 : n ≤ 65536) :
    Calls Tryd.prog 14 #[.slice (some ⟨g, o, none⟩) n cap] w fun e w' =>
      ∃ b c, e = .returned (.slice (some ⟨b, 0, none⟩) n c) ∧ w.heap.size ≤ b ∧ b < w'.heap.size ∧ LE w' b 0 ns ∧ Below w.heap.size w w' := by
  subst hnl
  refine (numbers_any (some ⟨g, o, none⟩) g o cap ns w (fun _ => rfl) hl (fun n h => num_of_fp (hn n h).1 (hn n h).2) h6).mono ?_
  rintro e w' ⟨v, rfl, hO, hb⟩
  rcases hO.2 with ⟨_, h⟩ | ⟨b, c, cur, rfl, h1, h2, _⟩
  · omega
  · refine ⟨b, c, rfl, h1, ?_, (ownsRow_rowH hO).le, hb⟩
    rcases Nat.lt_or_ge b w'.heap.size with h | h
    · exact h
    · rw [Array.getElem?_eq_none h] at h2; cases h2
theorem allP_any (g o cap n : Nat) (ns : List Int) (w : World) (hl : LB w g o ns) (hn : ∀ n ∈ ns, 0 ≤ n ∧ n < fp) (hnl : ns.length = n) (h3 : n ≤ 3) :
    Calls Tryd.prog 10 #[.slice (some ⟨g, o, none⟩) n cap, .int .i64 3] w fun e w' => e = .returned (.bool true) ∧ Below w.heap.size w w' := by
  subst hnl
  have AL := all_any (some ⟨g, o, none⟩) g o cap ns 3 w (fun _ => rfl) hl (fun n h => num_of_fp (hn n h).1 (hn n h).2) (by decide)
  rw [show (ns.all fun n => decide (n < fp)) = true from by rw [List.all_eq_true]; exact fun n h => decide_eq_true (hn n h).2, Bool.and_true, decide_eq_true (by omega)] at AL
  exact AL
theorem all20_any (ao : Option Addr) (g o cap m : Nat) (ns : List Int) (w : World) (ha : 0 < ns.length → ao = some ⟨g, o, none⟩) (hl : LB w g o ns) (hn : ∀ n ∈ ns, 0 ≤ n ∧ n < fp) (hnl : ns.length = m) (h3 : m ≤ 20) :
    Calls Tryd.prog 10 #[.slice ao m cap, .int .i64 20] w fun e w' => e = .returned (.bool true) ∧ Below w.heap.size w w' := by
  subst hnl
  have AL := all_any ao g o cap ns 20 w ha hl (fun n h => num_of_fp (hn n h).1 (hn n h).2) (by decide)
  rw [show (ns.all fun n => decide (n < fp)) = true from by rw [List.all_eq_true]; exact fun n h => decide_eq_true (hn n h).2, Bool.and_true, decide_eq_true (by omega)] at AL
  exact AL
theorem areN_any (g cap g2 cap2 n : Nat) (ns : List Int) (w : World) (hl : LB w g 0 ns) (he : LE w g2 0 ns) (hnl : ns.length = n) (hk : n ≤ 65536) :
    Calls Tryd.prog 12 #[.slice (some ⟨g, 0, none⟩) n cap, .slice (some ⟨g2, 0, none⟩) n cap2] w fun e w' => e = .returned (.bool true) ∧ Below w.heap.size w w' := by
  subst hnl
  exact are_yes g 0 cap g2 0 cap2 ns w hl he hk
/-! ### the keys -/
def keysL (fs is ls : List Int) : List (List Int) := fs :: (is.map (fun k => [k]) ++ [ls])
theorem keysL_first (fs is ls : List Int) : (keysL fs is ls)[0]? = some fs := rfl
theorem keysL_mid {fs is ls : List Int} {i : Nat} {k : Int} (h : is[i]? = some k) : (keysL fs is ls)[i + 1]? = some [k] := by
  have hl := (List.getElem?_eq_some_iff.1 h).1
  rw [keysL, List.getElem?_cons_succ, List.getElem?_append_left (by simpa using hl), List.getElem?_map, h]; rfl
theorem keysL_last {fs is ls : List Int} {m : Nat} (h : is.length = m) : (keysL fs is ls)[m + 1]? = some ls := by
  rw [keysL, List.getElem?_cons_succ, List.getElem?_append_right (by simp [h]), List.length_map, h, Nat.sub_self]; rfl
theorem length_keysL {fs is ls : List Int} {m : Nat} (h : is.length = m) : (keysL fs is ls).length = m + 2 := by simp [keysL, h]
theorem keysL_shape {fs is ls : List Int} {n m : Nat} (h1 : fs.length = n) (h2 : is.length = m) (h3 : ls.length = n) : Shape n m (keysL fs is ls) := by
  refine ⟨length_keysL h2, fun i ks hi => ?_⟩
  have hl := (List.getElem?_eq_some_iff.1 hi).1
  rw [length_keysL h2] at hl
  rcases Nat.eq_zero_or_pos i with rfl | hp
  · rw [keysL_first] at hi; cases hi; rw [if_neg (by omega)]; exact h1
  · rcases Nat.lt_or_ge i (m + 1) with hlt | hge
    · obtain ⟨j, rfl⟩ : ∃ j, i = j + 1 := ⟨i - 1, by omega⟩
      obtain ⟨k, hk⟩ : ∃ k, is[j]? = some k := ⟨_, List.getElem?_eq_getElem (by omega)⟩
      rw [keysL_mid hk] at hi; cases hi; rw [if_pos (by omega)]; rfl
    · obtain rfl : i = m + 1 := by omega
      rw [keysL_last h2] at hi; cases hi; rw [if_neg (by omega)]; exact h3
theorem keysL_bd {fs is ls : List Int} (h1 : ∀ k ∈ fs, 0 ≤ k ∧ k < fp) (h2 : ∀ k ∈ is, 0 ≤ k ∧ k < fp) (h3 : ∀ k ∈ ls, 0 ≤ k ∧ k < fp) : ∀ ks ∈ keysL fs is ls, ∀ k ∈ ks, 0 ≤ k ∧ k < fp := fun ks hk k hk' => by
  simp only [keysL, List.mem_cons, List.mem_append, List.mem_map, List.not_mem_nil, or_false] at hk
  rcases hk with rfl | ⟨x, hx, rfl⟩ | rfl
  · exact h1 k hk'
  · simp only [List.mem_cons, List.not_mem_nil, or_false] at hk'; subst hk'; exact h2 _ hx
  · exact h3 k hk'
end Go.Proofs.YtodofaoaenddgaaDoor
