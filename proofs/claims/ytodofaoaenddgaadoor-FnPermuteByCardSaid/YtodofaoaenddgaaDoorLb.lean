/-
  laws.are, walked: rows of 32 bytes that are those of numbers.
-/
import Derived.Test.YtodofaoaenddgaaDoorLa
namespace Go.Proofs.YtodofaoaenddgaaDoor
open Go.RowKit Go.Lib Fr
attribute [local go_sem] setCell_drewN alloc_drewN

theorem LB.range {w : World} {g o : Nat} {ns : List Int} (h : LB w g o ns) {k : Nat} {n : Int} (hn : ns[k]? = some n) : w.rangeAt g (o + k * 32) (bts n).toList := fun j v hj => by
  have hl := (List.getElem?_eq_some_iff.1 hj).1
  rw [Array.length_toList, size_bts] at hl
  have e := bts_at n hl
  rw [← Array.getElem?_toList, hj] at e
  cases e
  exact h k n hn j hl
theorem LB.next {w w' : World} {g o : Nat} {ns : List Int} (h : LB w g o ns) (hb : RowKit.Below w.heap.size w w') : LB w' g o ns := fun i n hi j hj =>
  (hb.cell (p := ⟨g, o + i * 32 + j, none⟩) (block_lt_of_cell (h i n hi j hj))).trans (h i n hi j hj)
theorem LB.drew {w : World} {g o : Nat} {ns : List Int} (h : LB w g o ns) : LB w.drew g o ns := h
theorem LE.drew {w : World} {g o : Nat} {ns : List Int} (h : LE w g o ns) : LE w.drew g o ns := h

set_option maxHeartbeats 1000000 in
set_option maxRecDepth 100000 in
theorem are_yes (g o cap g2 o2 cap2 : Nat) (ns : List Int) (w : World) (hl : LB w g o ns) (he : LE w g2 o2 ns) (hk : ns.length ≤ 65536) :
    Calls Tryd.prog 12 #[.slice (some ⟨g, o, none⟩) ns.length cap, .slice (some ⟨g2, o2, none⟩) ns.length cap2] w fun e w' =>
      e = .returned (.bool true) ∧ Below w.heap.size w w' := by
  have HL := Lib.hid hl
  have HE := Lib.hid he
  clear hl he
  go_enter Tryd.func12, Tryd.ntmps12
  go_wp2_with fail
  go_loopw [13] (fun v wr => ∃ k : Nat, k ≤ ns.length ∧ v = .int .i64 k ∧ Below w.heap.size w wr) (fun v _ => ns.length - (intOf v).toNat)
  case atStart => exact ⟨0, Nat.zero_le _, rfl, RowKit.Below.refl _ _⟩
  case round =>
    obtain ⟨k, hk', rfl, hb⟩ := hrel
    have HB := Lib.hid hb
    by_cases hlt : k < ns.length
    · obtain ⟨n, hn'⟩ : ∃ n, ns[k]? = some n := ⟨_, List.getElem?_eq_getElem hlt⟩
      have R0 := Lib.hid ((HL.out.next hb).drew.range hn')
      have E0 := Lib.hid ((HE.out.next hb).drew.e8 hn')
      have R1 := Lib.hid (fun (w1 : World) (h1 : RowKit.Below wr.drew.heap.size wr.drew w1) => ((HL.out.next hb).drew.next h1).range hn')
      have E1 := Lib.hid (fun (w1 : World) (h1 : RowKit.Below wr.drew.heap.size wr.drew w1) => ((HE.out.next hb).drew.next h1).e8 hn')
      have hu := Tryd.underlying38
      have hi := b32_size n
      clear hn' hb
      go_wp2_with fail
      go_region_held3 (fun w' => w'.rangeAt g (o + k * 32) (bts n).toList ∧ w'.cell? ⟨g2, o2 + k * 8, none⟩ = some (.int .i64 (hw (n) 0)) ∧ w'.cell? ⟨g2, o2 + k * 8 + 1, none⟩ = some (.int .i64 (hw (n) 1)) ∧ w'.cell? ⟨g2, o2 + k * 8 + 2, none⟩ = some (.int .i64 (hw (n) 2)) ∧ w'.cell? ⟨g2, o2 + k * 8 + 3, none⟩ = some (.int .i64 (hw (n) 3)) ∧ w'.cell? ⟨g2, o2 + k * 8 + 4, none⟩ = some (.int .i64 (hw (n) 4)) ∧ w'.cell? ⟨g2, o2 + k * 8 + 5, none⟩ = some (.int .i64 (hw (n) 5)) ∧ w'.cell? ⟨g2, o2 + k * 8 + 6, none⟩ = some (.int .i64 (hw (n) 6)) ∧ w'.cell? ⟨g2, o2 + k * 8 + 7, none⟩ = some (.int .i64 (hw (n) 7))) (first | exact ⟨R1.out _ h1.out, (E1.out _ h1.out).cells⟩ | exact ⟨R0.out, E0.out.cells⟩)
        (first | (go_at_call 24; refine (is_yes n _).mono ?_; rintro e w1 ⟨rfl, h1'⟩; have h1 := Lib.hid h1'; clear h1'))
      go_wp2_with fail
      go_roundw
      case rel => exact ⟨k + 1, by omega, by go_num, HB.out.trans (RowKit.Below.mono (show RowKit.Below wr.heap.size wr w1 from ⟨h1.out.os, h1.out.tape, h1.out.output, h1.out.size, h1.out.block⟩) HB.out.size)⟩
      case measure => simp [intOf] <;> omega
    · obtain rfl : k = ns.length := by omega
      go_wp2_with fail
      go_ret
      exact ⟨rfl, HB.out⟩
end Go.Proofs.YtodofaoaenddgaaDoor
