/-
  fromMont, PutElement, Element.Bytes, walked: an element becomes its 32 bytes.
-/
import Derived.Test.YtodofaoaenddgaaDoorMem
import Derived.Test.YtodofaoaenddgaaDoorFrom
import Derived.Deep.RegionHeld3
namespace Go.Proofs.YtodofaoaenddgaaDoor
open Go.RowKit Go.Lib Fr
attribute [local go_sem] setCell_drewN alloc_drewN

set_option maxRecDepth 100000 in
theorem fromMontP_any (g o : Nat) (n : Int) (w : World) (hn : 0 ≤ n) (hn' : n < fp) (hx : El w g o n) (hz : Wr4 w g o) :
    Calls Tryd.prog 73 #[.pointer (some ⟨g, o, none⟩)] w fun e w' =>
      e = .returned (.tuple #[]) ∧ ∃ k, w' = (put4 w g o (rl n 0) (rl n 1) (rl n 2) (rl n 3)).drewN k := by
  have H := Lib.hid (fromMontG_any g o n w hn hn' hx hz)
  clear hx hz hn hn'
  go_enter Tryd.func73, Tryd.ntmps73
  go_wp2_with fail
  refine H.out.mono ?_
  rintro e w1 ⟨rfl, h1⟩
  have H1 := Lib.hid h1
  clear h1 H
  go_wp2_with fail
  go_end0
  exact ⟨rfl, H1.out⟩
set_option maxRecDepth 100000 in
theorem fromMont_any (g o : Nat) (n : Int) (w : World) (hn : 0 ≤ n) (hn' : n < fp) (hx : El w g o n) (hz : Wr4 w g o) :
    Calls Tryd.prog 64 #[.pointer (some ⟨g, o, none⟩)] w fun e w' =>
      e = .returned (.pointer (some ⟨g, o, none⟩)) ∧ ∃ k, w' = (put4 w g o (rl n 0) (rl n 1) (rl n 2) (rl n 3)).drewN k := by
  have H := Lib.hid (fromMontP_any g o n w hn hn' hx hz)
  clear hx hz hn hn'
  go_enter Tryd.func64, Tryd.ntmps64
  go_wp2_with fail
  refine H.out.mono ?_
  rintro e w1 ⟨rfl, h1⟩
  have H1 := Lib.hid h1
  clear h1 H
  go_wp2_with fail
  go_ret
  exact ⟨rfl, H1.out⟩

/-! ### 32 bytes, laid eight at a time -/
/-- 32 cells, told by a function. -/
def mixB (f : Nat → Value) : Array Value := ((List.range 32).map f).toArray
theorem mixB_at (f : Nat → Value) {i : Nat} (h : i < 32) : (mixB f)[i]? = some (f i) := by simp [mixB, h]
theorem size_mixB (f : Nat → Value) : (mixB f).size = 32 := by simp [mixB]
theorem mixB_set (f : Nat → Value) (j : Nat) (v : Value) : (mixB f).setIfInBounds j v = mixB (fun i => if i = j then v else f i) := by
  apply Array.ext_getElem?
  intro i
  rw [Array.getElem?_setIfInBounds, size_mixB]
  rcases Nat.lt_or_ge i 32 with h | h
  · rw [mixB_at _ h, mixB_at _ h]
    by_cases e : j = i
    · subst e; simp [h]
    · rw [if_neg e, if_neg (fun e' => e e'.symm)]
  · have n1 : ∀ f, (mixB f)[i]? = none := fun f => Array.getElem?_eq_none (by rw [size_mixB]; exact h)
    rw [n1, n1]
    by_cases e : j = i
    · subst e; simp; omega
    · rw [if_neg e]
theorem Blk.put8 {w : World} {g : Nat} {t : TypeId} {f : Nat → Value} (h : Blk w g t (mixB f)) (o : Nat) (v : Int) : Blk (put8 w g o v) g t
    (mixB fun i => if i = o + 7 then .int .u8 (v % 256) else if i = o + 6 then .int .u8 (v / 256 % 256) else if i = o + 5 then .int .u8 (v / 65536 % 256) else if i = o + 4 then .int .u8 (v / 16777216 % 256) else if i = o + 3 then .int .u8 (v / 4294967296 % 256)
      else if i = o + 2 then .int .u8 (v / 1099511627776 % 256) else if i = o + 1 then .int .u8 (v / 281474976710656 % 256) else if i = o then .int .u8 (v / 72057594037927936 % 256) else f i) := by
  have h' := (((((((h.set_ o (.int .u8 (v / 72057594037927936 % 256))).set_ (o + 1) (.int .u8 (v / 281474976710656 % 256))).set_ (o + 2) (.int .u8 (v / 1099511627776 % 256))).set_ (o + 3) (.int .u8 (v / 4294967296 % 256))).set_ (o + 4) (.int .u8 (v / 16777216 % 256))).set_ (o + 5) (.int .u8 (v / 65536 % 256))).set_ (o + 6) (.int .u8 (v / 256 % 256))).set_ (o + 7) (.int .u8 (v % 256))
  simp only [mixB_set] at h'
  exact h'
theorem Blk.put8_far {w : World} {g g' : Nat} {t : TypeId} {cs : Array Value} (h : Blk w g t cs) (hg : g ≠ g') (o : Nat) (v : Int) : Blk (Proofs.YtodofaoaenddgaaDoor.put8 w g' o v) g t cs :=
  ((((((((h.far (p := ⟨g', _, none⟩) hg _).far (p := ⟨g', _, none⟩) hg _).far (p := ⟨g', _, none⟩) hg _).far (p := ⟨g', _, none⟩) hg _).far (p := ⟨g', _, none⟩) hg _).far (p := ⟨g', _, none⟩) hg _).far (p := ⟨g', _, none⟩) hg _).far (p := ⟨g', _, none⟩) hg _)
theorem grown_setCell (w : World) (b o : Nat) (v : Value) : w.grownBy (w.setCell ⟨b, o, none⟩ v) (some b) :=
  ⟨rfl, rfl, rfl, by simp [World.setCell], fun k hk hne => by
    have hb : b ≠ k := fun e => hne (by rw [e])
    simp [World.setCell, Array.getElem?_modify, hb]⟩
theorem grown_put8 (w : World) (b o : Nat) (v : Int) : w.grownBy (put8 w b o v) (some b) :=
  (((((((grown_setCell w b _ _).trans (grown_setCell _ b _ _)).trans (grown_setCell _ b _ _)).trans (grown_setCell _ b _ _)).trans (grown_setCell _ b _ _)).trans (grown_setCell _ b _ _)).trans (grown_setCell _ b _ _)).trans (grown_setCell _ b _ _)
theorem bytes_of_words (n : Int) (f : Nat → Value) : mixB (fun i => if i = 0 + 7 then .int .u8 (rl n 3 % 256) else if i = 0 + 6 then .int .u8 (rl n 3 / 256 % 256) else if i = 0 + 5 then .int .u8 (rl n 3 / 65536 % 256) else if i = 0 + 4 then .int .u8 (rl n 3 / 16777216 % 256) else if i = 0 + 3 then .int .u8 (rl n 3 / 4294967296 % 256)
      else if i = 0 + 2 then .int .u8 (rl n 3 / 1099511627776 % 256) else if i = 0 + 1 then .int .u8 (rl n 3 / 281474976710656 % 256) else if i = 0 then .int .u8 (rl n 3 / 72057594037927936 % 256) else
    if i = 8 + 7 then .int .u8 (rl n 2 % 256) else if i = 8 + 6 then .int .u8 (rl n 2 / 256 % 256) else if i = 8 + 5 then .int .u8 (rl n 2 / 65536 % 256) else if i = 8 + 4 then .int .u8 (rl n 2 / 16777216 % 256) else if i = 8 + 3 then .int .u8 (rl n 2 / 4294967296 % 256)
      else if i = 8 + 2 then .int .u8 (rl n 2 / 1099511627776 % 256) else if i = 8 + 1 then .int .u8 (rl n 2 / 281474976710656 % 256) else if i = 8 then .int .u8 (rl n 2 / 72057594037927936 % 256) else
    if i = 16 + 7 then .int .u8 (rl n 1 % 256) else if i = 16 + 6 then .int .u8 (rl n 1 / 256 % 256) else if i = 16 + 5 then .int .u8 (rl n 1 / 65536 % 256) else if i = 16 + 4 then .int .u8 (rl n 1 / 16777216 % 256) else if i = 16 + 3 then .int .u8 (rl n 1 / 4294967296 % 256)
      else if i = 16 + 2 then .int .u8 (rl n 1 / 1099511627776 % 256) else if i = 16 + 1 then .int .u8 (rl n 1 / 281474976710656 % 256) else if i = 16 then .int .u8 (rl n 1 / 72057594037927936 % 256) else
    if i = 24 + 7 then .int .u8 (rl n 0 % 256) else if i = 24 + 6 then .int .u8 (rl n 0 / 256 % 256) else if i = 24 + 5 then .int .u8 (rl n 0 / 65536 % 256) else if i = 24 + 4 then .int .u8 (rl n 0 / 16777216 % 256) else if i = 24 + 3 then .int .u8 (rl n 0 / 4294967296 % 256)
      else if i = 24 + 2 then .int .u8 (rl n 0 / 1099511627776 % 256) else if i = 24 + 1 then .int .u8 (rl n 0 / 281474976710656 % 256) else if i = 24 then .int .u8 (rl n 0 / 72057594037927936 % 256) else f i) = bts n := by
  apply Array.ext_getElem?
  intro i
  rcases Nat.lt_or_ge i 32 with h | h
  · rw [mixB_at _ h, bts_at n h]
    have hB : ∀ (a b : Int), a = b → some (Value.int .u8 a) = some (Value.int .u8 b) := fun a b h => by rw [h]
    match i, h with
    | 0, _ | 1, _ | 2, _ | 3, _ | 4, _ | 5, _ | 6, _ | 7, _ | 8, _ | 9, _ | 10, _ | 11, _ | 12, _ | 13, _ | 14, _ | 15, _ | 16, _ | 17, _ | 18, _ | 19, _ | 20, _ | 21, _ | 22, _ | 23, _ | 24, _ | 25, _ | 26, _ | 27, _ | 28, _ | 29, _ | 30, _ | 31, _ => refine hB _ _ ?_; simp only [byt, rl]; omega
    | k + 32, hk => exact absurd hk (by omega)
  · rw [Array.getElem?_eq_none (by rw [size_mixB]; exact h), Array.getElem?_eq_none (by rw [size_bts]; exact h)]
end Go.Proofs.YtodofaoaenddgaaDoor
