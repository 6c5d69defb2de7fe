/-
  rSquare, toMont, bigEndian.Element, SetBytesCanonical, walked: 32 bytes become an element.
-/
import Derived.Test.YtodofaoaenddgaaDoorRep
import Derived.Below
import Derived.Laws.Rows
import Derived.Laws.OwnMore
import Derived.OwnWalk
namespace Go.Proofs.YtodofaoaenddgaaDoor
open Go.RowKit Go.Lib Fr

/-! ### words for memory -/
theorem setCell_drewN (w : World) (k : Nat) (a : Addr) (v : Value) : (w.drewN k).setCell a v = (w.setCell a v).drewN k := rfl
theorem alloc_drewN (w : World) (k : Nat) (o : Obj) : (w.drewN k).alloc o = (w.alloc o).drewN k := rfl
attribute [local go_sem] setCell_drewN alloc_drewN
theorem At4.lt {w : World} {g o : Nat} {a b c d : Int} (h : At4 w g o a b c d) : g < w.heap.size := block_lt_of_cell h.c0
theorem Wr4.lt {w : World} {g o : Nat} (h : Wr4 w g o) : g < w.heap.size := by
  obtain ⟨⟨_, _, _, _, c0, _⟩, _⟩ := h
  exact block_lt_of_cell c0
theorem At4.keep {w w' : World} {g o : Nat} {a b c d : Int} (h : At4 w g o a b c d) (hb : w'.heap[g]? = w.heap[g]?) : At4 w' g o a b c d :=
  ⟨(World.cell?_of_block (w := w) hb).trans h.c0, (World.cell?_of_block (w := w) hb).trans h.c1, (World.cell?_of_block (w := w) hb).trans h.c2, (World.cell?_of_block (w := w) hb).trans h.c3⟩
theorem Wr4.keep {w w' : World} {g o : Nat} (h : Wr4 w g o) (hb : w'.heap[g]? = w.heap[g]?) : Wr4 w' g o := by
  obtain ⟨⟨a, b, c, d, c0, c1, c2, c3⟩, f0, f1, f2, f3⟩ := h
  exact ⟨⟨a, b, c, d, (World.cell?_of_block (w := w) hb).trans c0, (World.cell?_of_block (w := w) hb).trans c1, (World.cell?_of_block (w := w) hb).trans c2, (World.cell?_of_block (w := w) hb).trans c3⟩,
    (World.frozen?_of_block (w := w) hb).trans f0, (World.frozen?_of_block (w := w) hb).trans f1, (World.frozen?_of_block (w := w) hb).trans f2, (World.frozen?_of_block (w := w) hb).trans f3⟩
theorem At4.alloc {w : World} {g o : Nat} {a b c d : Int} (h : At4 w g o a b c d) (O : Obj) : At4 (w.alloc O) g o a b c d := h.keep (Below.heap_alloc w O g h.lt)
theorem Wr4.alloc {w : World} {g o : Nat} (h : Wr4 w g o) (O : Obj) : Wr4 (w.alloc O) g o := h.keep (Below.heap_alloc w O g h.lt)
theorem At4.below {w w' : World} {B g o : Nat} {a b c d : Int} (h : At4 w g o a b c d) (hb : Below B w w') (hg : g < B) : At4 w' g o a b c d := h.keep (hb.block g hg)
theorem Wr4.below {w w' : World} {B g o : Nat} (h : Wr4 w g o) (hb : Below B w w') (hg : g < B) : Wr4 w' g o := h.keep (hb.block g hg)
/-- A block that is known whole. -/
def Blk (w : World) (g : Nat) (t : TypeId) (cs : Array Value) : Prop := w.heap[g]? = some (.cells cs t (0, 0))
theorem Blk.lt {w : World} {g : Nat} {t : TypeId} {cs : Array Value} (h : Blk w g t cs) : g < w.heap.size := by
  rcases Nat.lt_or_ge g w.heap.size with hl | hl
  · exact hl
  · unfold Blk at h; rw [Array.getElem?_eq_none hl] at h; cases h
theorem Blk.cell {w : World} {g : Nat} {t : TypeId} {cs : Array Value} (h : Blk w g t cs) (i : Nat) : w.cell? ⟨g, i, none⟩ = cs[i]? := cell_of_row w g i cs t (0, 0) h
theorem Blk.frozen {w : World} {g : Nat} {t : TypeId} {cs : Array Value} (h : Blk w g t cs) (i : Nat) : w.frozen? ⟨g, i, none⟩ = false := frozen_of_row w g i cs t h
theorem Blk.new (w : World) (t : TypeId) (cs : Array Value) {b : Nat} (hb : b = w.heap.size) : Blk (w.alloc (.cells cs t)) b t cs := by subst hb; exact heap_alloc_new w _
theorem Blk.keep {w w' : World} {g : Nat} {t : TypeId} {cs : Array Value} (h : Blk w g t cs) (hb : w'.heap[g]? = w.heap[g]?) : Blk w' g t cs := hb.trans h
theorem Blk.alloc {w : World} {g : Nat} {t : TypeId} {cs : Array Value} (h : Blk w g t cs) (O : Obj) : Blk (w.alloc O) g t cs := h.keep (Below.heap_alloc w O g h.lt)
theorem Blk.below {w w' : World} {B g : Nat} {t : TypeId} {cs : Array Value} (h : Blk w g t cs) (hb : Below B w w') (hg : g < B) : Blk w' g t cs := h.keep (hb.block g hg)
theorem Blk.drewN {w : World} {g : Nat} {t : TypeId} {cs : Array Value} (h : Blk w g t cs) (k : Nat) : Blk (w.drewN k) g t cs := h
theorem Blk.at4 {w : World} {g o : Nat} {t : TypeId} {cs : Array Value} {a b c d : Int} (h : Blk w g t cs) (h0 : cs[o]? = some (.int .u64 a)) (h1 : cs[o + 1]? = some (.int .u64 b)) (h2 : cs[o + 2]? = some (.int .u64 c)) (h3 : cs[o + 3]? = some (.int .u64 d)) : At4 w g o a b c d :=
  ⟨(h.cell _).trans h0, (h.cell _).trans h1, (h.cell _).trans h2, (h.cell _).trans h3⟩
theorem Blk.wr4 {w : World} {g o : Nat} {t : TypeId} {cs : Array Value} (h : Blk w g t cs) (hs : o + 4 ≤ cs.size) : Wr4 w g o := by
  refine ⟨⟨cs[o], cs[o + 1], cs[o + 2], cs[o + 3], ?_, ?_, ?_, ?_⟩, h.frozen _, h.frozen _, h.frozen _, h.frozen _⟩ <;> rw [h.cell] <;> exact Array.getElem?_eq_getElem _
theorem Blk.el {w : World} {g : Nat} {t : TypeId} {n : Int} (h : Blk w g t (lms n)) : El w g 0 n := h.at4 rfl rfl rfl rfl
theorem Blk.wr {w : World} {g : Nat} {t : TypeId} {n : Int} (h : Blk w g t (lms n)) : Wr4 w g 0 := h.wr4 (by simp)
theorem Blk.set_ {w : World} {g : Nat} {t : TypeId} {cs : Array Value} (h : Blk w g t cs) (i : Nat) (u : Value) : Blk (w.setCell ⟨g, i, none⟩ u) g t (cs.setIfInBounds i u) := heap_setCell_same w g i cs t u h
theorem Blk.far {w : World} {g : Nat} {t : TypeId} {cs : Array Value} (h : Blk w g t cs) {p : Addr} (hp : g ≠ p.block) (u : Value) : Blk (w.setCell p u) g t cs := h.keep (heap_setCell_other w p g u hp)
/-- Four words laid in a row of cells. -/
def set4 (cs : Array Value) (o : Nat) (a b c d : Int) : Array Value := (((cs.setIfInBounds o (.int .u64 a)).setIfInBounds (o + 1) (.int .u64 b)).setIfInBounds (o + 2) (.int .u64 c)).setIfInBounds (o + 3) (.int .u64 d)
theorem Blk.put4 {w : World} {g : Nat} {t : TypeId} {cs : Array Value} (h : Blk w g t cs) (o : Nat) (a b c d : Int) : Blk (put4 w g o a b c d) g t (set4 cs o a b c d) :=
  ((((h.set_ _ _).set_ _ _).set_ _ _).set_ _ _)
theorem Blk.put4_far {w : World} {g g' : Nat} {t : TypeId} {cs : Array Value} (h : Blk w g t cs) (hg : g ≠ g') (o : Nat) (a b c d : Int) : Blk (Proofs.YtodofaoaenddgaaDoor.put4 w g' o a b c d) g t cs :=
  ((((h.far (p := ⟨g', _, none⟩) hg _).far (p := ⟨g', _, none⟩) hg _).far (p := ⟨g', _, none⟩) hg _).far (p := ⟨g', _, none⟩) hg _)
theorem Below.setCell_both {B : Nat} {a b : World} (h : Below B a b) (p : Addr) (u : Value) : Below B (a.setCell p u) (b.setCell p u) :=
  ⟨h.os, h.tape, h.output, by simpa [World.setCell] using h.size, fun k hk => by
    by_cases hp : p.block = k
    · simp only [World.setCell, Array.getElem?_modify, if_pos hp, h.block k hk]
    · simp only [World.setCell, Array.getElem?_modify, if_neg hp, h.block k hk]⟩
theorem Below.put4_both {B : Nat} {a b : World} (h : Below B a b) (g o : Nat) (x y z t : Int) : Below B (put4 a g o x y z t) (put4 b g o x y z t) :=
  Below.setCell_both (Below.setCell_both (Below.setCell_both (Below.setCell_both h _ _) _ _) _ _) _ _
theorem Below.put4 {B : Nat} {a b : World} (h : Below B a b) {g : Nat} (hg : B ≤ g) (o : Nat) (x y z t : Int) : Below B a (Proofs.YtodofaoaenddgaaDoor.put4 b g o x y z t) :=
  (((h.setCell (p := ⟨g, _, none⟩) hg _).setCell (p := ⟨g, _, none⟩) hg _).setCell (p := ⟨g, _, none⟩) hg _).setCell (p := ⟨g, _, none⟩) hg _
theorem Below.drewN {B : Nat} {a b : World} (h : Below B a b) (k : Nat) : Below B a (b.drewN k) := ⟨h.os, h.tape, h.output, h.size, h.block⟩
theorem size_put4 (w : World) (g o : Nat) (a b c d : Int) : (put4 w g o a b c d).heap.size = w.heap.size := by simp [put4, World.setCell]

theorem lms_rm : lms rm = #[.int .u64 1997599621687373223, .int .u64 6052339484930628067, .int .u64 10108755138030829701, .int .u64 150537098327114917] := by
  obtain ⟨h0, h1, h2, h3⟩ := rm_lims
  simp only [lms, h0, h1, h2, h3]
set_option maxRecDepth 100000 in
theorem rSquare_any (w : World) : Calls Tryd.prog 74 #[] w fun e w' => e = .returned (.agg (lms rm)) ∧ ∃ c, w' = w.alloc (.cells c 69) := by
  rw [lms_rm]
  go_enter Tryd.func74, Tryd.ntmps74
  go_wp2
  simp [bodyPost, results, Tryd.results74, go_sem]
  exact ⟨_, rfl⟩

set_option maxHeartbeats 400000 in
set_option maxRecDepth 100000 in
theorem toMont_any (g o : Nat) (n : Int) (w : World) (h0 : 0 ≤ n) (h1 : n < fp) (hx : At4 w g o (rl n 0) (rl n 1) (rl n 2) (rl n 3)) (hz : Wr4 w g o) :
    Calls Tryd.prog 72 #[.pointer (some ⟨g, o, none⟩)] w fun e w' =>
      e = .returned (.pointer (some ⟨g, o, none⟩)) ∧ Below w.heap.size (putE w g o n) w' := by
  go_enter Tryd.func72, Tryd.ntmps72
  go_wp2_with (go_at_call 74; refine (rSquare_any _).mono ?_; rintro e w' ⟨rfl, c, rfl⟩)
  have lt := hz.lt
  have hx' : El w g o (n * ri % fp) := by
    unfold El; rw [lim_raw h0 h1, lim_raw h0 h1, lim_raw h0 h1, lim_raw h0 h1]; exact hx
  refine (mul_any g o g o _ 0 (n * ri % fp) rm _ (At4.alloc (At4.alloc hx' _) _) (Blk.new _ _ (lms rm) (by simp)).el (hz.alloc _ |>.alloc _)).mono ?_
  rintro e w1 ⟨rfl, k, hk⟩
  rw [raw_back h0 h1] at hk
  subst hk
  go_wp2
  go_ret
  exact ⟨rfl, Below.drewN (Below.put4_both (((RowKit.Below.refl _ _).alloc (Nat.le_refl _) _).alloc (by simp) _) _ _ _ _ _ _) k⟩
set_option maxHeartbeats 1000000 in
set_option maxRecDepth 100000 in
/-- bigEndian.Element at a number below the prime. -/
theorem beElement_yes (g o : Nat) (u : Int) (n : Int) (w : World) (h0 : 0 ≤ n) (h1 : n < fp) (hc : ∀ i, i < 32 → w.cell? ⟨g, o + i, none⟩ = some (.int .u8 (byt n i))) :
    Calls Tryd.prog 62 #[.int .u8 u, .pointer (some ⟨g, o, none⟩)] w fun e w' =>
      e = .returned (.tuple #[.agg (lms n), .nilIface]) ∧ Below w.heap.size w w' := by
  go_enter Tryd.func62, Tryd.ntmps62
  have lt : g < w.heap.size := block_lt_of_cell (hc 0 (by decide))
  have bb : ∀ W, Below w.heap.size w W → ∀ c j, j + 7 < 32 → Calls Tryd.prog 71 #[.slice (some ⟨g, o + j, none⟩) 8 c] W fun e w' =>
      e = .returned (.int .u64 (byt n (j + 7) + 256 * byt n (j + 6) + 65536 * byt n (j + 5) + 16777216 * byt n (j + 4) + 4294967296 * byt n (j + 3) + 1099511627776 * byt n (j + 2) + 281474976710656 * byt n (j + 1) + 72057594037927936 * byt n j)) ∧ ∃ k, w' = W.drewN k := by
    intro W hb c j hj
    have hw : ∀ i, i < 32 → W.cell? ⟨g, o + i, none⟩ = some (.int .u8 (byt n i)) := fun i hi => (hb.cell (p := ⟨g, o + i, none⟩) lt).trans (hc i hi)
    exact beUint_any g (o + j) c _ _ _ _ _ _ _ _ W (byt_lo _ _) (byt_hi _ _) (byt_lo _ _) (byt_hi _ _) (byt_lo _ _) (byt_hi _ _) (byt_lo _ _) (byt_hi _ _) (byt_lo _ _) (byt_hi _ _) (byt_lo _ _) (byt_hi _ _) (byt_lo _ _) (byt_hi _ _) (byt_lo _ _) (byt_hi _ _)
      (hw _ (by omega)) (hw (j + 1) (by omega)) (hw (j + 2) (by omega)) (hw (j + 3) (by omega)) (hw (j + 4) (by omega)) (hw (j + 5) (by omega)) (hw (j + 6) (by omega)) (hw (j + 7) (by omega))
  have BB := Lib.hid bb
  have W0 := word_bytes0 n; have W1 := word_bytes1 n; have W2 := word_bytes2 n; have W3 := word_bytes3 n
  have H0 := Lib.hid W0; have H1 := Lib.hid W1; have H2 := Lib.hid W2; have H3 := Lib.hid W3
  clear bb hc W0 W1 W2 W3
  have hC : ∀ {cs : Array Value}, Below w.heap.size w ((w.alloc (.cells #[.int .u64 0, .int .u64 0, .int .u64 0, .int .u64 0] 69)).alloc (.cells cs 69)) :=
    ((RowKit.Below.refl _ _).alloc (Nat.le_refl _) _).alloc (by simp) _
  have hB : Below w.heap.size w ((w.alloc (.cells #[.int .u64 0, .int .u64 0, .int .u64 0, .int .u64 0] 69)).alloc (.cells #[.int .u64 0, .int .u64 0, .int .u64 0, .int .u64 0] 69)) :=
    ((RowKit.Below.refl _ _).alloc (Nat.le_refl _) _).alloc (by simp) _
  go_wp2_with fail
  refine (BB.out _ hB _ 24 (by decide)).mono ?_
  rintro e w1 ⟨rfl, k1, rfl⟩
  rw [H0.out]
  go_wp2_with fail
  refine (BB.out _ (Below.drewN hC _) _ 16 (by decide)).mono ?_
  rintro e w1 ⟨rfl, k2, rfl⟩
  rw [H1.out]
  go_wp2_with fail
  refine (BB.out _ (Below.drewN hC _) _ 8 (by decide)).mono ?_
  rintro e w1 ⟨rfl, k3, rfl⟩
  rw [H2.out]
  go_wp2_with fail
  refine (BB.out _ (Below.drewN hC _) _ 0 (by decide)).mono ?_
  rintro e w1 ⟨rfl, k4, rfl⟩
  rw [H3.out]
  go_wp2_with fail
  refine (smaller_any _ 0 (rl n 0) (rl n 1) (rl n 2) (rl n 3) _ (wd_rl _ _) (wd_rl _ _) (wd_rl _ _) ?_).mono ?_
  · exact At4.drewN ((Blk.new _ _ #[.int .u64 (rl n 0), .int .u64 (rl n 1), .int .u64 (rl n 2), .int .u64 (rl n 3)] (by simp)).at4 rfl rfl rfl rfl) _
  rintro e w1 ⟨rfl, rfl⟩
  rw [show sm4 (rl n 0) (rl n 1) (rl n 2) (rl n 3) = true from by unfold sm4; rw [val_rl h0 h1]; exact decide_eq_true h1]
  go_wp2_with fail
  have B1 : Blk ((w.alloc (.cells #[.int .u64 0, .int .u64 0, .int .u64 0, .int .u64 0] 69)).alloc (.cells #[.int .u64 (rl n 0), .int .u64 (rl n 1), .int .u64 (rl n 2), .int .u64 (rl n 3)] 69)) (w.heap.size + 1) 69 #[.int .u64 (rl n 0), .int .u64 (rl n 1), .int .u64 (rl n 2), .int .u64 (rl n 3)] := Blk.new _ _ _ (by simp)
  have B0 : Blk ((w.alloc (.cells #[.int .u64 0, .int .u64 0, .int .u64 0, .int .u64 0] 69)).alloc (.cells #[.int .u64 (rl n 0), .int .u64 (rl n 1), .int .u64 (rl n 2), .int .u64 (rl n 3)] 69)) w.heap.size 69 #[.int .u64 0, .int .u64 0, .int .u64 0, .int .u64 0] := (Blk.new _ _ _ rfl).alloc _
  refine (toMont_any (w.heap.size + 1) 0 n _ h0 h1 ((B1.drewN _).at4 rfl rfl rfl rfl) ((B1.drewN _).wr4 (by simp))).mono ?_
  rintro e w2 ⟨rfl, hb⟩
  have sz : w.heap.size + 1 < w2.heap.size := by have := hb.size; simp [putE, size_put4] at this; omega
  have C1 : Blk w2 (w.heap.size + 1) 69 (lms n) := Blk.below (w := putE _ (w.heap.size + 1) 0 n) ((B1.drewN _).put4 0 (lim n 0) (lim n 1) (lim n 2) (lim n 3)) hb (by simp)
  have C0 : Blk w2 w.heap.size 69 #[.int .u64 0, .int .u64 0, .int .u64 0, .int .u64 0] := Blk.below (w := putE _ (w.heap.size + 1) 0 n) ((B0.drewN _).put4_far (g' := w.heap.size + 1) (by omega) 0 (lim n 0) (lim n 1) (lim n 2) (lim n 3)) hb (by simp; omega)
  have D : Below w.heap.size w w2 := RowKit.Below.trans (b := putE _ (w.heap.size + 1) 0 n) (Below.put4 (Below.drewN hC _) (by omega) _ _ _ _ _) (hb.mono (by simp; omega))
  have a0 := C1.cell 0; have a1 := C1.cell 1; have a2 := C1.cell 2; have a3 := C1.cell 3
  have z0 := C0.cell 0; have z1 := C0.cell 1; have z2 := C0.cell 2; have z3 := C0.cell 3
  have f0 := C0.frozen 0; have f1 := C0.frozen 1; have f2 := C0.frozen 2; have f3 := C0.frozen 3
  simp at a0 a1 a2 a3 z0 z1 z2 z3
  clear B0 B1 hb C1 hB
  go_wp2
  refine bodyPost_ret (v := .tuple #[.agg (lms n), .nilIface]) ?_ rfl ⟨rfl, ?_⟩
  · simp [results, Tryd.results62, go_sem, z0, z1, z2, z3]
  · exact (((D.setCell (p := ⟨w.heap.size, 0, none⟩) (Nat.le_refl _) _).setCell (p := ⟨w.heap.size, 1, none⟩) (Nat.le_refl _) _).setCell (p := ⟨w.heap.size, 2, none⟩) (Nat.le_refl _) _).setCell (p := ⟨w.heap.size, 3, none⟩) (Nat.le_refl _) _

end Go.Proofs.YtodofaoaenddgaaDoor
