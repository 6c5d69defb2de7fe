/-
  PutElement, Element.Bytes, walked.
-/
import Derived.Test.YtodofaoaenddgaaDoorImb
import Derived.Test.YtodofaoaenddgaaDoorRg
namespace Go.Proofs.YtodofaoaenddgaaDoor
open Go.RowKit Go.Lib Fr
attribute [local go_sem] setCell_drewN alloc_drewN

theorem rl_bd (n : Int) (i : Nat) : 0 ≤ rl n i ∧ rl n i < 18446744073709551616 := ⟨Int.emod_nonneg _ (by decide), Int.emod_lt_of_pos _ (by decide)⟩
theorem Blk.drew {w : World} {g : Nat} {t : TypeId} {cs : Array Value} (h : Blk w g t cs) : Blk w.drew g t cs := h
theorem Blk.there8 {w : World} {g : Nat} {t : TypeId} {f : Nat → Value} (h : Blk w g t (mixB f)) {o : Nat} (ho : o + 8 ≤ 32) : ∀ i, i < 8 → ∃ x, w.cell? ⟨g, o + i, none⟩ = some x := fun i hi =>
  ⟨_, by rw [h.cell]; exact mixB_at f (by omega)⟩
theorem Blk.soft8 {w : World} {g : Nat} {t : TypeId} {f : Nat → Value} (h : Blk w g t (mixB f)) {o : Nat} : ∀ i, i < 8 → w.frozen? ⟨g, o + i, none⟩ = false := fun _ _ => h.frozen _

def lay8 (o : Nat) (v : Int) (f : Nat → Value) : Nat → Value := fun i => if i = o + 7 then .int .u8 (v % 256) else if i = o + 6 then .int .u8 (v / 256 % 256) else if i = o + 5 then .int .u8 (v / 65536 % 256) else if i = o + 4 then .int .u8 (v / 16777216 % 256) else if i = o + 3 then .int .u8 (v / 4294967296 % 256)
      else if i = o + 2 then .int .u8 (v / 1099511627776 % 256) else if i = o + 1 then .int .u8 (v / 281474976710656 % 256) else if i = o then .int .u8 (v / 72057594037927936 % 256) else f i
/-- What a walk of PutElement keeps. -/
def PE (w0 : World) (B gb : Nat) (cs : Array Value) (f : Nat → Value) (w : World) : Prop := Blk w B 69 cs ∧ Blk w gb 38 (mixB f) ∧ w0.grownBy w (some gb)
theorem PE.drew {w0 w : World} {B gb : Nat} {cs : Array Value} {f : Nat → Value} (h : PE w0 B gb cs f w) : PE w0 B gb cs f w.drew := ⟨h.1, h.2.1, grown_drewN h.2.2 1⟩
theorem PE.step {w0 w w' : World} {B gb : Nat} {cs : Array Value} {f : Nat → Value} (h : PE w0 B gb cs f w) (hne : B ≠ gb) {o : Nat} {v : Int} (hw : w' = put8 w gb o v) : PE w0 B gb cs (lay8 o v f) w' := by
  subst hw
  exact ⟨h.1.put8_far hne _ _, h.2.1.put8 o v, h.2.2.trans (grown_put8 _ gb _ _)⟩

set_option maxHeartbeats 1000000 in
set_option maxRecDepth 100000 in
theorem putElement_any (u : Int) (gb : Nat) (f : Nat → Value) (n : Int) (w : World) (h0 : 0 ≤ n) (h1 : n < fp) (hB : Blk w gb 38 (mixB f)) :
    Calls Tryd.prog 55 #[.int .u8 u, .pointer (some ⟨gb, 0, none⟩), .agg (lms n)] w fun e w' =>
      e = .returned (.tuple #[]) ∧ Blk w' gb 38 (bts n) ∧ w.grownBy w' (some gb) := by
  have HB0 := Lib.hid (hB.alloc (.cells (lms n) 69))
  have HE := Lib.hid (Blk.new w 69 (lms n) rfl)
  have hg := Lib.hid hB.lt
  have HN := Lib.hid (And.intro h0 h1)
  have HBW := Lib.hid (bytes_of_words n f)
  clear hB h0 h1
  go_enter Tryd.func55, Tryd.ntmps55
  go_wp2_with fail
  refine (fromMont_any w.heap.size 0 n _ HN.out.1 HN.out.2 HE.out.el HE.out.wr).mono ?_
  rintro e w1 ⟨rfl, k, hw1⟩
  have HE1 := Lib.hid (show Blk w1 w.heap.size 69 #[.int .u64 (rl n 0), .int .u64 (rl n 1), .int .u64 (rl n 2), .int .u64 (rl n 3)] from hw1 ▸ (HE.out.put4 0 _ _ _ _).drewN k)
  have HB1 := Lib.hid (show Blk w1 gb 38 (mixB f) from hw1 ▸ (HB0.out.put4_far (by have := hg.out; omega) 0 _ _ _ _).drewN k)
  have G1 := Lib.hid (show w.grownBy w1 (some gb) from hw1 ▸ grown_drewN ((World.grownBy_alloc w _ (some gb)).andThen (grown_put4 _ w.heap.size 0 _ _ _ _) (fun j hj => by cases hj; exact .inl (Nat.le_refl _))) k)
  obtain ⟨r0a, r0b⟩ := rl_bd n 0; obtain ⟨r1a, r1b⟩ := rl_bd n 1; obtain ⟨r2a, r2b⟩ := rl_bd n 2; obtain ⟨r3a, r3b⟩ := rl_bd n 3
  clear hw1 HB0 HE
  generalize rl n 0 = r0 at *; generalize rl n 1 = r1 at *; generalize rl n 2 = r2 at *; generalize rl n 3 = r3 at *
  go_wp2_with fail
  have P1 := Lib.hid (show PE w w.heap.size gb #[.int .u64 r0, .int .u64 r1, .int .u64 r2, .int .u64 r3] f w1 from ⟨HE1.out, HB1.out, G1.out⟩)
  clear HE1 HB1 G1
  have D1 := Lib.hid P1.out.drew
  go_region_held3 (fun w' => w'.cell? ⟨w.heap.size, 0, none⟩ = some (.int .u64 r0)) (first | exact P2.out.1.cell 0 | exact D1.out.1.cell 0)
    (first | (go_at_call 65; refine (bePut_any gb 24 _ r0 _ r0a r0b (D1.out.2.1.there8 (by decide)) D1.out.2.1.soft8).mono ?_; rintro e w2 ⟨rfl, hw⟩; have P2 := Lib.hid (D1.out.step (by have := hg.out; omega) hw); clear hw))
  clear D1 P1
  go_wp2_with fail
  have D2 := Lib.hid P2.out.drew
  go_region_held3 (fun w' => w'.cell? ⟨w.heap.size, 1, none⟩ = some (.int .u64 r1)) (first | exact P3.out.1.cell 1 | exact D2.out.1.cell 1)
    (first | (go_at_call 65; refine (bePut_any gb 16 _ r1 _ r1a r1b (D2.out.2.1.there8 (by decide)) D2.out.2.1.soft8).mono ?_; rintro e w3 ⟨rfl, hw⟩; have P3 := Lib.hid (D2.out.step (by have := hg.out; omega) hw); clear hw))
  clear D2 P2
  go_wp2_with fail
  have D3 := Lib.hid P3.out.drew
  go_region_held3 (fun w' => w'.cell? ⟨w.heap.size, 2, none⟩ = some (.int .u64 r2)) (first | exact P4.out.1.cell 2 | exact D3.out.1.cell 2)
    (first | (go_at_call 65; refine (bePut_any gb 8 _ r2 _ r2a r2b (D3.out.2.1.there8 (by decide)) D3.out.2.1.soft8).mono ?_; rintro e w4 ⟨rfl, hw⟩; have P4 := Lib.hid (D3.out.step (by have := hg.out; omega) hw); clear hw))
  clear D3 P3
  go_wp2_with fail
  have D4 := Lib.hid P4.out.drew
  go_region_held3 (fun w' => w'.cell? ⟨w.heap.size, 3, none⟩ = some (.int .u64 r3)) (first | exact P5.out.1.cell 3 | exact D4.out.1.cell 3)
    (first | (go_at_call 65; refine (bePut_any gb 0 _ r3 _ r3a r3b (D4.out.2.1.there8 (by decide)) D4.out.2.1.soft8).mono ?_; rintro e w5 ⟨rfl, hw⟩; have P5 := Lib.hid (D4.out.step (by have := hg.out; omega) hw); clear hw))
  clear D4 P4
  go_wp2_with fail
  go_end0
  refine ⟨rfl, ?_, P5.out.2.2⟩
  rw [← HBW.out]
  exact P5.out.2.1
end Go.Proofs.YtodofaoaenddgaaDoor
