/-
  Elements of the reference in rows: what is read and what is stored, eight cells at a time.
-/
import Derived.Test.YtodofaoaenddgaaDoorSpg
namespace Go.Proofs.YtodofaoaenddgaaDoor
open Go.RowKit Go.Lib Fr

/-- A number's eight cells, from an offset on. -/
def E8 (w : World) (g p : Nat) (n : Int) : Prop := ∀ j, j < 8 → w.cell? ⟨g, p + j, none⟩ = some (.int .i64 (hw n j))
theorem E8.lt {w : World} {g p : Nat} {n : Int} (h : E8 w g p n) : g < w.heap.size := block_lt_of_cell (h 0 (by decide))
theorem E8.next {w w' : World} {g p : Nat} {n : Int} (h : E8 w g p n) (hb : RowKit.Below w.heap.size w w') : E8 w' g p n := fun j hj =>
  (hb.cell (p := ⟨g, p + j, none⟩) (block_lt_of_cell (h j hj))).trans (h j hj)
theorem E8.below {w w' : World} {B g p : Nat} {n : Int} (h : E8 w g p n) (hb : RowKit.Below B w w') (hg : g < B) : E8 w' g p n := fun j hj => (hb.cell (p := ⟨g, p + j, none⟩) hg).trans (h j hj)
theorem E8.drew {w : World} {g p : Nat} {n : Int} (h : E8 w g p n) : E8 w.drew g p n := h
theorem E8.cells {w' : World} {b q : Nat} {n : Int} (h : E8 w' b q n) : w'.cell? ⟨b, q, none⟩ = some (.int .i64 (hw (n) 0)) ∧ w'.cell? ⟨b, q + 1, none⟩ = some (.int .i64 (hw (n) 1)) ∧ w'.cell? ⟨b, q + 2, none⟩ = some (.int .i64 (hw (n) 2)) ∧ w'.cell? ⟨b, q + 3, none⟩ = some (.int .i64 (hw (n) 3)) ∧ w'.cell? ⟨b, q + 4, none⟩ = some (.int .i64 (hw (n) 4)) ∧ w'.cell? ⟨b, q + 5, none⟩ = some (.int .i64 (hw (n) 5)) ∧ w'.cell? ⟨b, q + 6, none⟩ = some (.int .i64 (hw (n) 6)) ∧ w'.cell? ⟨b, q + 7, none⟩ = some (.int .i64 (hw (n) 7)) :=
  ⟨h 0 (by decide), h 1 (by decide), h 2 (by decide), h 3 (by decide), h 4 (by decide), h 5 (by decide), h 6 (by decide), h 7 (by decide)⟩
theorem E8.cells2 {w' : World} {b q c r : Nat} {n m : Int} (h : E8 w' b q n) (k : E8 w' c r m) : w'.cell? ⟨b, q, none⟩ = some (.int .i64 (hw (n) 0)) ∧ w'.cell? ⟨b, q + 1, none⟩ = some (.int .i64 (hw (n) 1)) ∧ w'.cell? ⟨b, q + 2, none⟩ = some (.int .i64 (hw (n) 2)) ∧ w'.cell? ⟨b, q + 3, none⟩ = some (.int .i64 (hw (n) 3)) ∧ w'.cell? ⟨b, q + 4, none⟩ = some (.int .i64 (hw (n) 4)) ∧ w'.cell? ⟨b, q + 5, none⟩ = some (.int .i64 (hw (n) 5)) ∧ w'.cell? ⟨b, q + 6, none⟩ = some (.int .i64 (hw (n) 6)) ∧ w'.cell? ⟨b, q + 7, none⟩ = some (.int .i64 (hw (n) 7)) ∧ w'.cell? ⟨c, r, none⟩ = some (.int .i64 (hw (m) 0)) ∧ w'.cell? ⟨c, r + 1, none⟩ = some (.int .i64 (hw (m) 1)) ∧ w'.cell? ⟨c, r + 2, none⟩ = some (.int .i64 (hw (m) 2)) ∧ w'.cell? ⟨c, r + 3, none⟩ = some (.int .i64 (hw (m) 3)) ∧ w'.cell? ⟨c, r + 4, none⟩ = some (.int .i64 (hw (m) 4)) ∧ w'.cell? ⟨c, r + 5, none⟩ = some (.int .i64 (hw (m) 5)) ∧ w'.cell? ⟨c, r + 6, none⟩ = some (.int .i64 (hw (m) 6)) ∧ w'.cell? ⟨c, r + 7, none⟩ = some (.int .i64 (hw (m) 7)) :=
  ⟨h 0 (by decide), h 1 (by decide), h 2 (by decide), h 3 (by decide), h 4 (by decide), h 5 (by decide), h 6 (by decide), h 7 (by decide), k.cells⟩
theorem E8.cells3 {w' : World} {b q c r d s : Nat} {n m l : Int} (h : E8 w' b q n) (k : E8 w' c r m) (i : E8 w' d s l) : w'.cell? ⟨b, q, none⟩ = some (.int .i64 (hw (n) 0)) ∧ w'.cell? ⟨b, q + 1, none⟩ = some (.int .i64 (hw (n) 1)) ∧ w'.cell? ⟨b, q + 2, none⟩ = some (.int .i64 (hw (n) 2)) ∧ w'.cell? ⟨b, q + 3, none⟩ = some (.int .i64 (hw (n) 3)) ∧ w'.cell? ⟨b, q + 4, none⟩ = some (.int .i64 (hw (n) 4)) ∧ w'.cell? ⟨b, q + 5, none⟩ = some (.int .i64 (hw (n) 5)) ∧ w'.cell? ⟨b, q + 6, none⟩ = some (.int .i64 (hw (n) 6)) ∧ w'.cell? ⟨b, q + 7, none⟩ = some (.int .i64 (hw (n) 7)) ∧ w'.cell? ⟨c, r, none⟩ = some (.int .i64 (hw (m) 0)) ∧ w'.cell? ⟨c, r + 1, none⟩ = some (.int .i64 (hw (m) 1)) ∧ w'.cell? ⟨c, r + 2, none⟩ = some (.int .i64 (hw (m) 2)) ∧ w'.cell? ⟨c, r + 3, none⟩ = some (.int .i64 (hw (m) 3)) ∧ w'.cell? ⟨c, r + 4, none⟩ = some (.int .i64 (hw (m) 4)) ∧ w'.cell? ⟨c, r + 5, none⟩ = some (.int .i64 (hw (m) 5)) ∧ w'.cell? ⟨c, r + 6, none⟩ = some (.int .i64 (hw (m) 6)) ∧ w'.cell? ⟨c, r + 7, none⟩ = some (.int .i64 (hw (m) 7)) ∧ w'.cell? ⟨d, s, none⟩ = some (.int .i64 (hw (l) 0)) ∧ w'.cell? ⟨d, s + 1, none⟩ = some (.int .i64 (hw (l) 1)) ∧ w'.cell? ⟨d, s + 2, none⟩ = some (.int .i64 (hw (l) 2)) ∧ w'.cell? ⟨d, s + 3, none⟩ = some (.int .i64 (hw (l) 3)) ∧ w'.cell? ⟨d, s + 4, none⟩ = some (.int .i64 (hw (l) 4)) ∧ w'.cell? ⟨d, s + 5, none⟩ = some (.int .i64 (hw (l) 5)) ∧ w'.cell? ⟨d, s + 6, none⟩ = some (.int .i64 (hw (l) 6)) ∧ w'.cell? ⟨d, s + 7, none⟩ = some (.int .i64 (hw (l) 7)) :=
  ⟨h 0 (by decide), h 1 (by decide), h 2 (by decide), h 3 (by decide), h 4 (by decide), h 5 (by decide), h 6 (by decide), h 7 (by decide), k.cells2 i⟩
theorem E8.far {w : World} {g p : Nat} {n : Int} (h : E8 w g p n) {a : Addr} (hne : g ≠ a.block) (v : Value) : E8 (w.setCell a v) g p n := fun j hj =>
  (World.cell?_of_block (a := ⟨g, p + j, none⟩) (heap_setCell_other w a g v hne)).trans (h j hj)
theorem E8.far8 {w : World} {g p b q : Nat} {n : Int} (h : E8 w g p n) (hne : g ≠ b) (v0 v1 v2 v3 v4 v5 v6 v7 : Value) : E8 ((((((((w.setCell ⟨b, q, none⟩ (v0)).setCell ⟨b, q + 1, none⟩ (v1)).setCell ⟨b, q + 2, none⟩ (v2)).setCell ⟨b, q + 3, none⟩ (v3)).setCell ⟨b, q + 4, none⟩ (v4)).setCell ⟨b, q + 5, none⟩ (v5)).setCell ⟨b, q + 6, none⟩ (v6)).setCell ⟨b, q + 7, none⟩ (v7)) g p n :=
  (((((((h.far hne v0).far hne v1).far hne v2).far hne v3).far hne v4).far hne v5).far hne v6).far hne v7
theorem Below.set8o {w : World} {b B q : Nat} {w0 : World} (h : RowKit.Below B w0 w) (hb : B ≤ b) (v0 v1 v2 v3 v4 v5 v6 v7 : Value) : RowKit.Below B w0 ((((((((w.setCell ⟨b, q, none⟩ (v0)).setCell ⟨b, q + 1, none⟩ (v1)).setCell ⟨b, q + 2, none⟩ (v2)).setCell ⟨b, q + 3, none⟩ (v3)).setCell ⟨b, q + 4, none⟩ (v4)).setCell ⟨b, q + 5, none⟩ (v5)).setCell ⟨b, q + 6, none⟩ (v6)).setCell ⟨b, q + 7, none⟩ (v7)) :=
  RowKit.Below.setCell (RowKit.Below.setCell (RowKit.Below.setCell (RowKit.Below.setCell (RowKit.Below.setCell (RowKit.Below.setCell (RowKit.Below.setCell (RowKit.Below.setCell h hb _) hb _) hb _) hb _) hb _) hb _) hb _) hb _
theorem Blk.far8o {w : World} {b b' q : Nat} {t : TypeId} {cs : Array Value} (h : Blk w b t cs) (hne : b ≠ b') (v0 v1 v2 v3 v4 v5 v6 v7 : Value) : Blk ((((((((w.setCell ⟨b', q, none⟩ (v0)).setCell ⟨b', q + 1, none⟩ (v1)).setCell ⟨b', q + 2, none⟩ (v2)).setCell ⟨b', q + 3, none⟩ (v3)).setCell ⟨b', q + 4, none⟩ (v4)).setCell ⟨b', q + 5, none⟩ (v5)).setCell ⟨b', q + 6, none⟩ (v6)).setCell ⟨b', q + 7, none⟩ (v7)) b t cs :=
  (((((((h.far hne _).far hne _).far hne _).far hne _).far hne _).far hne _).far hne _).far hne _
theorem LE.e8 {w : World} {g o : Nat} {ns : List Int} (hl : LE w g o ns) {k : Nat} {n : Int} (hn : ns[k]? = some n) : E8 w g (o + k * 8) n := hl k n hn
theorem LE.next {w w' : World} {g o : Nat} {ns : List Int} (hl : LE w g o ns) (hb : RowKit.Below w.heap.size w w') : LE w' g o ns := fun _ _ hn => (hl.e8 hn).next hb
theorem Blk.e8 {w : World} {b : Nat} {t : TypeId} {n : Int} (h : Blk w b t (hws n)) : E8 w b 0 n := fun j hj => by rw [h.cell, Nat.zero_add]; exact hws_at n hj
theorem Blk.rowe8 {w : World} {b : Nat} {t : TypeId} {l : List Int} (h : Blk w b t (hwsL l).toArray) {i : Nat} {n : Int} (hn : l[i]? = some n) : E8 w b (i * 8) n := fun j hj => by
  rw [h.cell]
  simpa using hwsL_at l i n j hn hj
theorem Blk.rowf8 {w' : World} {b : Nat} {t : TypeId} {cs : Array Value} (h : Blk w' b t cs) (q : Nat) : w'.frozen? ⟨b, q, none⟩ = false ∧ w'.frozen? ⟨b, q + 1, none⟩ = false ∧ w'.frozen? ⟨b, q + 2, none⟩ = false ∧ w'.frozen? ⟨b, q + 3, none⟩ = false ∧ w'.frozen? ⟨b, q + 4, none⟩ = false ∧ w'.frozen? ⟨b, q + 5, none⟩ = false ∧ w'.frozen? ⟨b, q + 6, none⟩ = false ∧ w'.frozen? ⟨b, q + 7, none⟩ = false :=
  ⟨h.frozen _, h.frozen _, h.frozen _, h.frozen _, h.frozen _, h.frozen _, h.frozen _, h.frozen _⟩
theorem hwsL_set : ∀ (l : List Int) (i : Nat) (m : Int), i < l.length →
    ((((((((hwsL l).set (i * 8) (.int .i64 (hw m 0))).set (i * 8 + 1) (.int .i64 (hw m 1))).set (i * 8 + 2) (.int .i64 (hw m 2))).set (i * 8 + 3) (.int .i64 (hw m 3))).set (i * 8 + 4) (.int .i64 (hw m 4))).set (i * 8 + 5) (.int .i64 (hw m 5))).set (i * 8 + 6) (.int .i64 (hw m 6))).set (i * 8 + 7) (.int .i64 (hw m 7)) = hwsL (l.set i m)
  | n :: r, 0, m, _ => by simp [hwsL]
  | n :: r, i + 1, m, h => by
    have ih := hwsL_set r i m (by simpa using h)
    simp only [hwsL, List.set_cons_succ, ← ih]
    have e : ∀ j (x : Value) (l : List Value), ([Value.int .i64 (hw n 0), .int .i64 (hw n 1), .int .i64 (hw n 2), .int .i64 (hw n 3), .int .i64 (hw n 4), .int .i64 (hw n 5), .int .i64 (hw n 6), .int .i64 (hw n 7)] ++ l).set ((i + 1) * 8 + j) x = [Value.int .i64 (hw n 0), .int .i64 (hw n 1), .int .i64 (hw n 2), .int .i64 (hw n 3), .int .i64 (hw n 4), .int .i64 (hw n 5), .int .i64 (hw n 6), .int .i64 (hw n 7)] ++ l.set (i * 8 + j) x := fun j x l => by
      rw [List.set_append_right _ _ (by simp; omega)]
      congr 2
      simp; omega
    have e0 := fun x l => e 0 x l
    simp only [Nat.add_zero] at e0
    rw [e0, e 1, e 2, e 3, e 4, e 5, e 6, e 7]
theorem Blk.rowset8 {w : World} {b : Nat} {t : TypeId} {l : List Int} (h : Blk w b t (hwsL l).toArray) {i : Nat} (hi : i < l.length) (m : Int) : Blk ((((((((w.setCell ⟨b, i * 8, none⟩ (.int .i64 (hw m 0))).setCell ⟨b, i * 8 + 1, none⟩ (.int .i64 (hw m 1))).setCell ⟨b, i * 8 + 2, none⟩ (.int .i64 (hw m 2))).setCell ⟨b, i * 8 + 3, none⟩ (.int .i64 (hw m 3))).setCell ⟨b, i * 8 + 4, none⟩ (.int .i64 (hw m 4))).setCell ⟨b, i * 8 + 5, none⟩ (.int .i64 (hw m 5))).setCell ⟨b, i * 8 + 6, none⟩ (.int .i64 (hw m 6))).setCell ⟨b, i * 8 + 7, none⟩ (.int .i64 (hw m 7))) b t (hwsL (l.set i m)).toArray := by
  have h' := (((((((h.set_ (i * 8) (.int .i64 (hw m 0))).set_ (i * 8 + 1) (.int .i64 (hw m 1))).set_ (i * 8 + 2) (.int .i64 (hw m 2))).set_ (i * 8 + 3) (.int .i64 (hw m 3))).set_ (i * 8 + 4) (.int .i64 (hw m 4))).set_ (i * 8 + 5) (.int .i64 (hw m 5))).set_ (i * 8 + 6) (.int .i64 (hw m 6))).set_ (i * 8 + 7) (.int .i64 (hw m 7))
  simp only [List.setIfInBounds_toArray] at h'
  rw [hwsL_set l i m hi] at h'
  exact h'
theorem Kp.rowset8 {w0 w : World} {L : List (Nat × TypeId × Array Value)} {b : Nat} {t : TypeId} {l : List Int} (h : Kp w0 w ((b, t, (hwsL l).toArray) :: L)) (hb : w0.heap.size ≤ b) (hL : ∀ x ∈ L, x.1 ≠ b) {i : Nat} (hi : i < l.length) (m : Int) :
    Kp w0 ((((((((w.setCell ⟨b, i * 8, none⟩ (.int .i64 (hw m 0))).setCell ⟨b, i * 8 + 1, none⟩ (.int .i64 (hw m 1))).setCell ⟨b, i * 8 + 2, none⟩ (.int .i64 (hw m 2))).setCell ⟨b, i * 8 + 3, none⟩ (.int .i64 (hw m 3))).setCell ⟨b, i * 8 + 4, none⟩ (.int .i64 (hw m 4))).setCell ⟨b, i * 8 + 5, none⟩ (.int .i64 (hw m 5))).setCell ⟨b, i * 8 + 6, none⟩ (.int .i64 (hw m 6))).setCell ⟨b, i * 8 + 7, none⟩ (.int .i64 (hw m 7))) ((b, t, (hwsL (l.set i m)).toArray) :: L) :=
  Kp.cons ⟨Below.set8o h.1 hb _ _ _ _ _ _ _ _, fun x hx => (h.tl.2 x hx).far8o (hL x hx) _ _ _ _ _ _ _ _⟩ (h.b0.rowset8 hi m)
end Go.Proofs.YtodofaoaenddgaaDoor
