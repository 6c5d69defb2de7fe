/-
  Rows of elements: what a walk of the permutation keeps: blocks that begin with a list of elements, read and written one element at a time.
-/
import Derived.Test.YtodofaoaenddgaaDoorEls
import Derived.Test.YtodofaoaenddgaaDoorSqr
import Derived.Maps.Range
import Derived.Maps.RangeWalk
namespace Go.Proofs.YtodofaoaenddgaaDoor
open Go.RowKit Go.Lib Fr

theorem elsL_at : ∀ (l : List Int) (i : Nat) (n : Int) (j : Nat), l[i]? = some n → j < 4 → (elsL l)[i * 4 + j]? = some (.int .u64 (lim n j))
  | [], i, n, j, h, _ => by simp at h
  | m :: l, 0, n, j, h, hj => by
    simp only [List.getElem?_cons_zero, Option.some.injEq] at h
    subst h
    match j, hj with
    | 0, _ => rfl
    | 1, _ => rfl
    | 2, _ => rfl
    | 3, _ => rfl
  | m :: l, i + 1, n, j, h, hj => by
    simp only [List.getElem?_cons_succ] at h
    rw [show (i + 1) * 4 + j = i * 4 + j + 1 + 1 + 1 + 1 from by omega]
    simpa only [elsL, List.getElem?_cons_succ] using elsL_at l i n j h hj
theorem elsL_set : ∀ (l : List Int) (i : Nat) (m : Int) (r : List Value), i < l.length →
    ((((elsL l ++ r).set (i * 4) (.int .u64 (lim m 0))).set (i * 4 + 1) (.int .u64 (lim m 1))).set (i * 4 + 2) (.int .u64 (lim m 2))).set (i * 4 + 3) (.int .u64 (lim m 3)) = elsL (l.set i m) ++ r
  | n :: t, 0, m, r, _ => by simp [elsL]
  | n :: t, i + 1, m, r, h => by
    have ih := elsL_set t i m r (by simpa using h)
    rw [show (i + 1) * 4 + 1 = i * 4 + 1 + 1 + 1 + 1 + 1 from by omega, show (i + 1) * 4 + 2 = i * 4 + 2 + 1 + 1 + 1 + 1 from by omega, show (i + 1) * 4 + 3 = i * 4 + 3 + 1 + 1 + 1 + 1 from by omega, show (i + 1) * 4 = i * 4 + 1 + 1 + 1 + 1 from by omega]
    simp only [elsL, List.cons_append, List.set_cons_succ, ih]
/-- A block that begins with a list of elements. -/
def Row (w : World) (b : Nat) (ns : List Int) : Prop := ∃ r : List Value, Blk w b 69 (elsL ns ++ r).toArray
theorem Row.lt {w : World} {b : Nat} {ns : List Int} (h : Row w b ns) : b < w.heap.size := by
  obtain ⟨r, hr⟩ := h
  exact hr.lt
theorem Row.of {w : World} {b : Nat} {ns : List Int} (h : Blk w b 69 (elsL ns).toArray) : Row w b ns := ⟨[], by simpa using h⟩
theorem Row.keep {w w' : World} {b : Nat} {ns : List Int} (h : Row w b ns) (hb : w'.heap[b]? = w.heap[b]?) : Row w' b ns := by
  obtain ⟨r, hr⟩ := h
  exact ⟨r, hr.keep hb⟩
theorem Row.el {w : World} {b i o : Nat} {ns : List Int} {n : Int} (h : Row w b ns) (hi : ns[i]? = some n) (ho : o = i * 4) : El w b o n := by
  obtain ⟨r, hr⟩ := h
  have hk := (List.getElem?_eq_some_iff.1 hi).1
  have e : ∀ j, j < 4 → (elsL ns ++ r).toArray[i * 4 + j]? = some (.int .u64 (lim n j)) := fun j hj => by
    rw [List.getElem?_toArray, List.getElem?_append_left (by rw [length_elsL]; omega)]
    exact elsL_at ns i n j hi hj
  subst ho
  exact hr.at4 (e 0 (by decide)) (e 1 (by decide)) (e 2 (by decide)) (e 3 (by decide))
theorem Row.wr {w : World} {b i o : Nat} {ns : List Int} (h : Row w b ns) (hi : i < ns.length) (ho : o = i * 4) : Wr4 w b o := by
  obtain ⟨r, hr⟩ := h
  exact hr.wr4 (by rw [List.size_toArray, List.length_append, length_elsL]; omega)
theorem Row.put {w : World} {b i o : Nat} {ns : List Int} (h : Row w b ns) (hi : i < ns.length) (ho : o = i * 4) (n : Int) : Row (putE w b o n) b (ns.set i n) := by
  obtain ⟨r, hr⟩ := h
  refine ⟨r, ?_⟩
  have h' := hr.put4 o (lim n 0) (lim n 1) (lim n 2) (lim n 3)
  subst ho
  simp only [set4, List.setIfInBounds_toArray] at h'
  rw [elsL_set ns i n r hi] at h'
  exact h'
theorem Row.put_far {w : World} {b b' o : Nat} {ns : List Int} (h : Row w b ns) (hb : b ≠ b') (n : Int) : Row (putE w b' o n) b ns := by
  obtain ⟨r, hr⟩ := h
  exact ⟨r, hr.put4_far hb _ _ _ _ _⟩
theorem ap4 {g i o g' i' o' : Nat} (ho : o = i * 4) (ho' : o' = i' * 4) : Apart4 g o g' o' := fun _ => by omega
/-- What a walk keeps: nothing that was there at first has turned but the one row; and these blocks are lists of elements. -/
def Rg (w0 w : World) (row : Option Nat) (L : List (Nat × List Int)) : Prop :=
  w0.grownBy w row ∧ (∀ x ∈ L, Row w x.1 x.2) ∧ (L.map Prod.fst).Nodup ∧ ∀ x ∈ L, row = some x.1 ∨ w0.heap.size ≤ x.1
theorem nodup_apart {L : List (Nat × List Int)} (h : (L.map Prod.fst).Nodup) {i j : Nat} {x y : Nat × List Int} (hi : L[i]? = some x) (hj : L[j]? = some y) (hij : i ≠ j) : x.1 ≠ y.1 := fun e => by
  have h1 : (L.map Prod.fst)[i]? = some x.1 := by simp [hi]
  have h2 : (L.map Prod.fst)[j]? = some y.1 := by simp [hj]
  obtain ⟨hi', e1⟩ := List.getElem?_eq_some_iff.1 h1
  obtain ⟨hj', e2⟩ := List.getElem?_eq_some_iff.1 h2
  have hp := List.pairwise_iff_getElem.1 h
  rcases Nat.lt_or_gt_of_ne hij with hlt | hlt
  · exact hp i j hi' hj' hlt (by rw [e1, e2, e])
  · exact hp j i hj' hi' hlt (by rw [e1, e2, e])
theorem mem_set_at {α : Type} {L : List α} {j : Nat} {y x : α} (h : x ∈ L.set j y) : x = y ∨ ∃ i, i ≠ j ∧ L[i]? = some x := by
  obtain ⟨i, hi⟩ := List.mem_iff_getElem?.1 h
  rw [List.getElem?_set] at hi
  split at hi
  · split at hi
    · exact .inl (Option.some.inj hi).symm
    · cases hi
  · rename_i hne
    exact .inr ⟨i, fun e => hne e.symm, hi⟩
theorem map_set_same {L : List (Nat × List Int)} {j b : Nat} {ns ns' : List Int} (hj : L[j]? = some (b, ns)) : (L.set j (b, ns')).map Prod.fst = L.map Prod.fst := by
  rw [List.map_set]
  apply List.ext_getElem?
  intro i
  rw [List.getElem?_set]
  split
  · rename_i e
    subst e
    have hl := (List.getElem?_eq_some_iff.1 hj).1
    rw [if_pos (by simpa using hl)]
    simp [hj]
  · rfl
theorem Rg.el {w0 w : World} {row : Option Nat} {L : List (Nat × List Int)} (h : Rg w0 w row L) {j b i o : Nat} {ns : List Int} {n : Int} (hj : L[j]? = some (b, ns)) (hi : ns[i]? = some n) (ho : o = i * 4) : El w b o n :=
  Row.el (h.2.1 (b, ns) (List.mem_of_getElem? hj)) hi ho
theorem Rg.wr {w0 w : World} {row : Option Nat} {L : List (Nat × List Int)} (h : Rg w0 w row L) {j b i o : Nat} {ns : List Int} (hj : L[j]? = some (b, ns)) (hi : i < ns.length) (ho : o = i * 4) : Wr4 w b o :=
  Row.wr (h.2.1 (b, ns) (List.mem_of_getElem? hj)) hi ho
theorem Rg.row {w0 w : World} {row : Option Nat} {L : List (Nat × List Int)} (h : Rg w0 w row L) {j b : Nat} {ns : List Int} (hj : L[j]? = some (b, ns)) : Row w b ns := h.2.1 (b, ns) (List.mem_of_getElem? hj)
theorem Rg.drewN {w0 w : World} {row : Option Nat} {L : List (Nat × List Int)} (h : Rg w0 w row L) (k : Nat) : Rg w0 (w.drewN k) row L :=
  ⟨⟨h.1.os, h.1.tape, h.1.output, h.1.size, h.1.block⟩, h.2⟩
theorem Rg.drew {w0 w : World} {row : Option Nat} {L : List (Nat × List Int)} (h : Rg w0 w row L) : Rg w0 w.drew row L := h.drewN 1
/-- A call that turns one of the blocks, and makes memory. -/
theorem Rg.call {w0 w w' : World} {row : Option Nat} {L : List (Nat × List Int)} (h : Rg w0 w row L) {j b : Nat} {ns ns' : List Int} (hj : L[j]? = some (b, ns)) (hg : w.grownBy w' (some b)) (hB : Row w' b ns') : Rg w0 w' row (L.set j (b, ns')) := by
  have hb := h.2.2.2 (b, ns) (List.mem_of_getElem? hj)
  refine ⟨h.1.andThen hg (fun k hk => by cases hk; exact hb.symm), fun x hx => ?_, by rw [map_set_same hj]; exact h.2.2.1, fun x hx => ?_⟩
  · rcases mem_set_at hx with rfl | ⟨i, hi, hx'⟩
    · exact hB
    · have hm := h.2.1 x (List.mem_of_getElem? hx')
      exact hm.keep (hg.block _ hm.lt (fun e => nodup_apart h.2.2.1 hx' hj hi (Option.some.inj e)))
  · rcases mem_set_at hx with rfl | ⟨i, hi, hx'⟩
    · exact hb
    · exact h.2.2.2 x (List.mem_of_getElem? hx')
theorem grown_put4 (w : World) (b o : Nat) (x y z u : Int) : w.grownBy (put4 w b o x y z u) (some b) :=
  ⟨rfl, rfl, rfl, by rw [size_put4]; exact Nat.le_refl _, fun k hk hne => by
    have hb : b ≠ k := fun e => hne (by rw [e])
    simp [put4, World.setCell, Array.getElem?_modify, hb]⟩
theorem grown_drewN {w w' : World} {row : Option Nat} (h : w.grownBy w' row) (k : Nat) : w.grownBy (w'.drewN k) row := ⟨h.os, h.tape, h.output, h.size, h.block⟩
theorem grown_putE (w : World) (b o : Nat) (n : Int) : w.grownBy (putE w b o n) (some b) :=
  ⟨rfl, rfl, rfl, by rw [putE, size_put4]; exact Nat.le_refl _, fun k hk hne => by
    have hb : b ≠ k := fun e => hne (by rw [e])
    simp [putE, put4, World.setCell, Array.getElem?_modify, hb]⟩
theorem Rg.put {w0 w : World} {row : Option Nat} {L : List (Nat × List Int)} (h : Rg w0 w row L) {j b i o : Nat} {ns : List Int} (hj : L[j]? = some (b, ns)) (hi : i < ns.length) (ho : o = i * 4) (n : Int) : Rg w0 (putE w b o n) row (L.set j (b, ns.set i n)) :=
  h.call hj (grown_putE w b o n) (Row.put (h.2.1 (b, ns) (List.mem_of_getElem? hj)) hi ho n)
theorem Rg.next {w0 w w' : World} {row : Option Nat} {L : List (Nat × List Int)} (h : Rg w0 w row L) (hg : w.grownBy w' none) : Rg w0 w' row L :=
  ⟨h.1.andThen hg (fun k hk => by cases hk), fun x hx => (h.2.1 x hx).keep (hg.block _ (h.2.1 x hx).lt (by simp)), h.2.2⟩
theorem grown_of_below {w w' : World} (h : RowKit.Below w.heap.size w w') : w.grownBy w' none := ⟨h.os, h.tape, h.output, h.size, fun k hk _ => h.block k hk⟩
theorem below_of_grown {w w' : World} (h : w.grownBy w' none) : RowKit.Below w.heap.size w w' := ⟨h.os, h.tape, h.output, h.size, fun k hk => h.block k hk (by simp)⟩
theorem Rg.cons {w0 w : World} {row : Option Nat} {L : List (Nat × List Int)} (h : Rg w0 w row L) {b : Nat} {ns : List Int} (hB : Row w b ns) (hb : row = some b ∨ w0.heap.size ≤ b) (hL : ∀ x ∈ L, x.1 ≠ b) : Rg w0 w row ((b, ns) :: L) :=
  ⟨h.1, fun x hx => by
    rcases List.mem_cons.1 hx with rfl | hx
    · exact hB
    · exact h.2.1 x hx, by
    rw [List.map_cons, List.nodup_cons]
    refine ⟨fun hm => ?_, h.2.2.1⟩
    obtain ⟨x, hx, e⟩ := List.mem_map.1 hm
    exact hL x hx e, fun x hx => by
    rcases List.mem_cons.1 hx with rfl | hx
    · exact hb
    · exact h.2.2.2 x hx⟩
theorem Rg.nil {w0 w : World} {row : Option Nat} (h : w0.grownBy w row) : Rg w0 w row [] := ⟨h, (fun _ hx => nomatch hx), List.nodup_nil, (fun _ hx => nomatch hx)⟩
theorem Rg.pick {w0 w : World} {row : Option Nat} {L : List (Nat × List Int)} (h : Rg w0 w row L) {j : Nat} {x : Nat × List Int} (hj : L[j]? = some x) : Rg w0 w row [x] :=
  ⟨h.1, fun y hy => by rw [List.mem_singleton] at hy; subst hy; exact h.2.1 _ (List.mem_of_getElem? hj), by simp, fun y hy => by rw [List.mem_singleton] at hy; subst hy; exact h.2.2.2 _ (List.mem_of_getElem? hj)⟩
theorem Rg.alloc {w0 w : World} {row : Option Nat} {L : List (Nat × List Int)} (h : Rg w0 w row L) (ns : List Int) {cs : Array Value} (hcs : cs = (elsL ns).toArray) {b : Nat} (hb : b = w.heap.size) : Rg w0 (w.alloc (.cells cs 69)) row ((b, ns) :: L) :=
  Rg.cons (h.next (World.grownBy_alloc w _ none)) (Row.of (hcs ▸ Blk.new _ _ _ hb)) (.inr (by rw [hb]; exact h.1.size)) (fun x hx => by have := (h.2.1 x hx).lt; omega)
/-- What is not among the rows. -/
theorem Rg.other {w0 w : World} {row : Option Nat} {L : List (Nat × List Int)} (h : Rg w0 w row L) (o : Obj) : Rg w0 (w.alloc o) row L := h.next (World.grownBy_alloc w _ none)
theorem Rg.cell {w0 w : World} {row : Option Nat} {L : List (Nat × List Int)} (h : Rg w0 w row L) {a : Addr} {v : Value} (hc : w0.cell? a = some v) (ha : some a.block ≠ row) : w.cell? a = some v := h.1.cell hc ha
theorem zero_row : #[Value.int .u64 0, .int .u64 0, .int .u64 0, .int .u64 0] = (elsL [0]).toArray := by
  have e : lim 0 0 = 0 ∧ lim 0 1 = 0 ∧ lim 0 2 = 0 ∧ lim 0 3 = 0 := by decide +kernel
  simp only [elsL, e.1, e.2.1, e.2.2.1, e.2.2.2]

/-! ### the field's functions over rows -/
theorem Rg.add {w0 w : World} {row : Option Nat} {L : List (Nat × List Int)} (h : Rg w0 w row L) (jz iz jx ix jy iy : Nat) {bz bx by_ oz ox oy : Nat} {nz nx ny : List Int} {x y : Int}
    (hz : L[jz]? = some (bz, nz)) (hx : L[jx]? = some (bx, nx)) (hy : L[jy]? = some (by_, ny)) (hiz : iz < nz.length) (hix : nx[ix]? = some x) (hiy : ny[iy]? = some y) (ez : oz = iz * 4) (ex : ox = ix * 4) (ey : oy = iy * 4) :
    Calls Tryd.prog 57 #[.pointer (some ⟨bz, oz, none⟩), .pointer (some ⟨bx, ox, none⟩), .pointer (some ⟨by_, oy, none⟩)] w fun e w' =>
      e = .returned (.pointer (some ⟨bz, oz, none⟩)) ∧ Rg w0 w' row (L.set jz (bz, nz.set iz ((x + y) % fp))) :=
  (add_any bz oz bx ox by_ oy x y w (h.el hx hix ex) (h.el hy hiy ey) (h.wr hz hiz ez) (ap4 ez ex) (ap4 ez ey)).mono fun e w' ⟨he, k, hw⟩ => ⟨he, by rw [hw]; exact (h.put hz hiz ez _).drewN k⟩
theorem Rg.mul {w0 w : World} {row : Option Nat} {L : List (Nat × List Int)} (h : Rg w0 w row L) (jz iz jx ix jy iy : Nat) {bz bx by_ oz ox oy : Nat} {nz nx ny : List Int} {x y : Int}
    (hz : L[jz]? = some (bz, nz)) (hx : L[jx]? = some (bx, nx)) (hy : L[jy]? = some (by_, ny)) (hiz : iz < nz.length) (hix : nx[ix]? = some x) (hiy : ny[iy]? = some y) (ez : oz = iz * 4) (ex : ox = ix * 4) (ey : oy = iy * 4) :
    Calls Tryd.prog 60 #[.pointer (some ⟨bz, oz, none⟩), .pointer (some ⟨bx, ox, none⟩), .pointer (some ⟨by_, oy, none⟩)] w fun e w' =>
      e = .returned (.pointer (some ⟨bz, oz, none⟩)) ∧ Rg w0 w' row (L.set jz (bz, nz.set iz (x * y % fp))) :=
  (mul_any bz oz bx ox by_ oy x y w (h.el hx hix ex) (h.el hy hiy ey) (h.wr hz hiz ez)).mono fun e w' ⟨he, k, hw⟩ => ⟨he, by rw [hw]; exact (h.put hz hiz ez _).drewN k⟩
theorem Rg.dbl {w0 w : World} {row : Option Nat} {L : List (Nat × List Int)} (h : Rg w0 w row L) (jz iz jx ix : Nat) {bz bx oz ox : Nat} {nz nx : List Int} {x : Int}
    (hz : L[jz]? = some (bz, nz)) (hx : L[jx]? = some (bx, nx)) (hiz : iz < nz.length) (hix : nx[ix]? = some x) (ez : oz = iz * 4) (ex : ox = ix * 4) :
    Calls Tryd.prog 58 #[.pointer (some ⟨bz, oz, none⟩), .pointer (some ⟨bx, ox, none⟩)] w fun e w' =>
      e = .returned (.pointer (some ⟨bz, oz, none⟩)) ∧ Rg w0 w' row (L.set jz (bz, nz.set iz ((x + x) % fp))) :=
  (double_any bz oz bx ox x w (h.el hx hix ex) (h.wr hz hiz ez) (ap4 ez ex)).mono fun e w' ⟨he, k, hw⟩ => ⟨he, by rw [hw]; exact (h.put hz hiz ez _).drewN k⟩
theorem Rg.sqr {w0 w : World} {row : Option Nat} {L : List (Nat × List Int)} (h : Rg w0 w row L) (jz iz jx ix : Nat) {bz bx oz ox : Nat} {nz nx : List Int} {x : Int}
    (hz : L[jz]? = some (bz, nz)) (hx : L[jx]? = some (bx, nx)) (hiz : iz < nz.length) (hix : nx[ix]? = some x) (ez : oz = iz * 4) (ex : ox = ix * 4) :
    Calls Tryd.prog 63 #[.pointer (some ⟨bz, oz, none⟩), .pointer (some ⟨bx, ox, none⟩)] w fun e w' =>
      e = .returned (.pointer (some ⟨bz, oz, none⟩)) ∧ Rg w0 w' row (L.set jz (bz, nz.set iz (x * x % fp))) :=
  (square_any bz oz bx ox x w (h.el hx hix ex) (h.wr hz hiz ez)).mono fun e w' ⟨he, k, hw⟩ => ⟨he, by rw [hw]; exact (h.put hz hiz ez _).drewN k⟩
theorem Rg.set_ {w0 w : World} {row : Option Nat} {L : List (Nat × List Int)} (h : Rg w0 w row L) (jz iz jx ix : Nat) {bz bx oz ox : Nat} {nz nx : List Int} {x : Int}
    (hz : L[jz]? = some (bz, nz)) (hx : L[jx]? = some (bx, nx)) (hiz : iz < nz.length) (hix : nx[ix]? = some x) (ez : oz = iz * 4) (ex : ox = ix * 4) :
    Calls Tryd.prog 59 #[.pointer (some ⟨bz, oz, none⟩), .pointer (some ⟨bx, ox, none⟩)] w fun e w' =>
      e = .returned (.pointer (some ⟨bz, oz, none⟩)) ∧ Rg w0 w' row (L.set jz (bz, nz.set iz x)) :=
  (set_any bz oz bx ox x w (h.el hx hix ex) (h.wr hz hiz ez) (ap4 ez ex)).mono fun e w' ⟨he, k, hw⟩ => ⟨he, by rw [hw]; exact (h.put hz hiz ez _).drewN k⟩
end Go.Proofs.YtodofaoaenddgaaDoor
