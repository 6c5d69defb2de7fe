/-
  The law FnMatricesSum, walked. Printed by gen_msum.py.
-/
import Derived.Test.YtodofaoaenddgaaDoorLz
import Derived.Laws.IdiomStrings
namespace Go.Proofs.YtodofaoaenddgaaDoor
open Go.RowKit Go.Lib Fr
attribute [local go_sem] setCell_drewN alloc_drewN

/-- The bytes of a list of numbers. -/
def bysL (ns : List Int) : List UInt8 := ns.flatMap bys
theorem length_bysL : ∀ ns, (bysL ns).length = ns.length * 32
  | [] => rfl
  | n :: r => by
    have ih := length_bysL r
    simp only [bysL] at ih
    simp only [bysL, List.flatMap_cons, List.length_append, List.length_cons, length_bys, ih]; omega
theorem btsL_bysL : ∀ ns, btsL ns = (bysL ns).map Extern.Stop.cell
  | [] => rfl
  | n :: r => by
    have ih := btsL_bysL r
    simp only [bysL] at ih
    simp only [btsL, bysL, List.flatMap_cons, List.map_append, ih, bts_bys]
/-- What flat hands back, as a string. -/
theorem conv_flat {w : World} {B : Nat} {v : Value} {ns : List Int} {n : Nat} (hn : ns.length = n) (h0 : 0 < n) (h : w.ownsRow B 5 1 v (n * 32) (btsL ns)) :
    ∃ g c, v = .slice (some ⟨g, 0, none⟩) (n * 32) c ∧ ∀ w' : World, RowKit.Below w.heap.size w w' → (convert 35 9 (.slice (some ⟨g, 0, none⟩) (n * 32) c)).run Tryd.prog w' = .ok (.string ⟨(bysL ns).toArray⟩) w' := by
  subst hn
  rcases h.2 with ⟨_, h1⟩ | ⟨g, cap, cur, rfl, _, hg, hc, _, hs, ht⟩
  · omega
  · refine ⟨g, cap, rfl, fun w' hb => ?_⟩
    have hL := length_bysL ns
    have hgl : g < w.heap.size := by
      rcases Nat.lt_or_ge g w.heap.size with hl | hl
      · exact hl
      · rw [Array.getElem?_eq_none hl] at hg; cases hg
    have key := run_convert_bytes_back (P := Tryd.prog) w' 35 9 5 ⟨g, 0, none⟩ cap (bysL ns) Tryd.underlying35 Tryd.underlying5 Tryd.underlying9 (fun j hj => by
      rw [add_at, Nat.zero_add, hb.cell (p := ⟨g, j, none⟩) hgl, cell_of_row w g j cur _ _ hg]
      have e1 : (btsL ns)[j]? = some (.int .u8 ((bysL ns)[j].toNat : Int)) := by
        rw [btsL_bysL, List.getElem?_map, List.getElem?_eq_getElem hj]; rfl
      rw [← ht, Nat.mul_one, List.getElem?_take_of_lt (by omega)] at e1
      simpa using e1)
    rw [hL] at key
    exact key
theorem ownsRow_LB {w : World} {B : Nat} {v : Value} {ns : List Int} {n : Nat} (hn : ns.length = n) (h0 : 0 < n) (h : w.ownsRow B 38 32 v n (btsL ns)) :
    ∃ g cap, v = .slice (some ⟨g, 0, none⟩) n cap ∧ LB w g 0 ns := by
  subst hn
  rcases h.2 with ⟨_, h1⟩ | ⟨g, cap, cur, rfl, _, hg, hc, _, hs, ht⟩
  · omega
  · refine ⟨g, cap, rfl, fun i n hi j hj => ?_⟩
    have hlt := (List.getElem?_eq_some_iff.1 hi).1
    rw [cell_of_row w g (0 + i * 32 + j) cur _ _ hg, Nat.zero_add]
    have h1 := btsL_at ns i n j hi hj
    rw [← ht, List.getElem?_take_of_lt (by omega)] at h1
    simpa using h1
theorem addL_bd : ∀ (ns ms : List Int), ∀ n ∈ addL ns ms, 0 ≤ n ∧ n < fp
  | [], ms, n, hn => by simp [addL] at hn
  | a :: ns, [], n, hn => by simp [addL] at hn
  | a :: ns, m :: ms, n, hn => by
    simp only [addL, List.zipWith_cons_cons, List.mem_cons] at hn
    rcases hn with rfl | hn
    · exact ⟨mod_fp_lo _, mod_fp_hi _⟩
    · exact addL_bd ns ms n hn
theorem extL_add {ns ms : List Int} (h2 : 2 ≤ ns.length) (h3 : ns.length ≤ 3) (h : ns.length = ms.length) : extL (addL ns ms) = addL (extL ns) (extL ms) := by
  match ns, ms, h2, h3, h with
  | [x, y], [p, q], _, _, _ =>
    simp only [addL, extL, tot, List.zipWith_cons_cons, List.zipWith_nil_left, List.map_cons, List.map_nil, List.foldl_cons, List.foldl_nil, Int.zero_add, Int.emod_add_emod, Int.add_emod_emod]
    exact l2 (md (by omega)) (md (by omega))
  | [x, y, z], [p, q, r], _, _, _ =>
    simp only [addL, extL, tot, List.zipWith_cons_cons, List.zipWith_nil_left, List.map_cons, List.map_nil, List.foldl_cons, List.foldl_nil, Int.zero_add, Int.emod_add_emod, Int.add_emod_emod]
    exact l3 (md (by omega)) (md (by omega)) (md (by omega))
/-- The inner matrix of width 2 or 3. -/
def dgL (n : Nat) : List Int := if n = 2 then [1, 2] else [1, 1, 2]
theorem intL_add {ns ms : List Int} (h2 : 2 ≤ ns.length) (h3 : ns.length ≤ 3) (h : ns.length = ms.length) : intL (dgL ns.length) (addL ns ms) = addL (intL (dgL ns.length) ns) (intL (dgL ns.length) ms) := by
  match ns, ms, h2, h3, h with
  | [x, y], [p, q], _, _, _ =>
    show intL [1, 2] _ = addL (intL [1, 2] _) (intL [1, 2] _)
    simp only [addL, intL, tot, List.zipWith_cons_cons, List.zipWith_nil_left, List.foldl_cons, List.foldl_nil, Int.zero_add, Int.one_mul, Int.emod_add_emod, Int.add_emod_emod]
    exact l2 (md (by omega)) (by rw [fp_eq]; omega)
  | [x, y, z], [p, q, r], _, _, _ =>
    show intL [1, 1, 2] _ = addL (intL [1, 1, 2] _) (intL [1, 1, 2] _)
    simp only [addL, intL, tot, List.zipWith_cons_cons, List.zipWith_nil_left, List.foldl_cons, List.foldl_nil, Int.zero_add, Int.one_mul, Int.emod_add_emod, Int.add_emod_emod]
    exact l3 (md (by omega)) (md (by omega)) (by rw [fp_eq]; omega)
theorem length_extLn {ns : List Int} {n : Nat} (h : ns.length = n) : (extL ns).length = n := (length_extL ns).trans h
theorem length_dgL {ns : List Int} {n : Nat} (h : ns.length = n) (h2 : 2 ≤ n) (h3 : n ≤ 3) : (intL (dgL n) ns).length = n := by
  rw [length_intL, h]
  rcases (show n = 2 ∨ n = 3 by omega) with rfl | rfl <;> exact h.symm
theorem extN_any (g o cap n : Nat) (ns : List Int) (w : World) (hl : LB w g o ns) (hn : ∀ n ∈ ns, 0 ≤ n ∧ n < fp) (hnl : ns.length = n) (h2 : 2 ≤ n) (h3 : n ≤ 3) :
    Calls Tryd.prog 17 #[.slice (some ⟨g, o, none⟩) n cap] w fun e w' =>
      ∃ b, e = .returned (.tuple #[.slice (some ⟨b, 0, none⟩) n n, .bool true]) ∧ w.heap.size ≤ b ∧ Blk w' b 38 (btsL (extL ns)).toArray ∧ Below w.heap.size w w' := by
  subst hnl
  rcases two_or_three h2 h3 with ⟨x, y, rfl⟩ | ⟨x, y, z, rfl⟩
  · exact doExt2_any g o cap x y w hl hn
  · exact doExt3_any g o cap x y z w hl hn
theorem intN_any (g o cap n : Nat) (ns : List Int) (w : World) (hl : LB w g o ns) (hn : ∀ n ∈ ns, 0 ≤ n ∧ n < fp) (hnl : ns.length = n) (h2 : 2 ≤ n) (h3 : n ≤ 3) :
    Calls Tryd.prog 15 #[.slice (some ⟨g, o, none⟩) n cap, .slice none 0 0] w fun e w' =>
      ∃ b, e = .returned (.tuple #[.slice (some ⟨b, 0, none⟩) n n, .bool true]) ∧ w.heap.size ≤ b ∧ Blk w' b 38 (btsL (intL (dgL n) ns)).toArray ∧ Below w.heap.size w w' := by
  subst hnl
  rcases two_or_three h2 h3 with ⟨x, y, rfl⟩ | ⟨x, y, z, rfl⟩
  · exact doInt2_any g o cap x y w hl hn
  · exact doInt3_any g o cap x y z w hl hn
set_option maxRecDepth 100000 in
theorem cloN_any (g o cap n : Nat) (ns : List Int) (w : World) (hl : LB w g o ns) (hn : ∀ n ∈ ns, 0 ≤ n ∧ n < fp) (hnl : ns.length = n) (h2 : 2 ≤ n) (h3 : n ≤ 3) :
    Calls Tryd.prog 19 #[.slice (some ⟨g, o, none⟩) n cap] w fun e w' =>
      ∃ b, e = .returned (.tuple #[.slice (some ⟨b, 0, none⟩) n n, .bool true]) ∧ w.heap.size ≤ b ∧ Blk w' b 38 (btsL (intL (dgL n) ns)).toArray ∧ Below w.heap.size w w' := by
  have H := Lib.hid (intN_any g o cap n ns w hl hn hnl h2 h3)
  clear hl hn hnl h2 h3
  go_enter Tryd.func19, Tryd.ntmps19
  go_wp2_with fail
  refine H.out.mono ?_
  rintro e w1 ⟨b, rfl, hb, hB, h1⟩
  have R := Lib.hid (And.intro hb (And.intro hB h1))
  clear hb hB h1 H
  go_wp2_with fail
  go_ret2
  exact ⟨b, rfl, R.out.1, R.out.2.1, R.out.2.2⟩
theorem allN_any (g o cap n : Nat) (ns : List Int) (w : World) (hl : LB w g o ns) (hn : ∀ n ∈ ns, 0 ≤ n ∧ n < fp) (hnl : ns.length = n) (h3 : n ≤ 3) :
    Calls Tryd.prog 10 #[.slice (some ⟨g, o, none⟩) n cap, .int .i64 3] w fun e w' => e = .returned (.bool true) ∧ Below w.heap.size w w' := by
  subst hnl
  have AL := all_any (some ⟨g, o, none⟩) g o cap ns 3 w (fun _ => rfl) hl (fun n h => num_of_fp (hn n h).1 (hn n h).2) (by decide)
  rw [show (ns.all fun n => decide (n < fp)) = true from by rw [List.all_eq_true]; exact fun n h => decide_eq_true (hn n h).2, Bool.and_true, decide_eq_true (by omega)] at AL
  exact AL
theorem sumsN_any (g o cap g2 o2 cap2 n : Nat) (ns ms : List Int) (w : World) (hl : LB w g o ns) (hl2 : LB w g2 o2 ms) (hn : ∀ n ∈ ns, 0 ≤ n ∧ n < fp) (hm : ∀ n ∈ ms, 0 ≤ n ∧ n < fp) (hnl : ns.length = n) (hml : ms.length = n) (h2 : 2 ≤ n) (h3 : n ≤ 3) :
    Calls Tryd.prog 20 #[.slice (some ⟨g, o, none⟩) n cap, .slice (some ⟨g2, o2, none⟩) n cap2] w fun e w' =>
      ∃ b c, e = .returned (.slice (some ⟨b, 0, none⟩) n c) ∧ LB w' b 0 (addL ns ms) ∧ Below w.heap.size w w' := by
  have S := sums_any g o cap g2 o2 cap2 ns ms w hl hl2 hn hm (hnl.trans hml.symm) (by omega)
  rw [hnl, hml] at S
  refine S.mono fun e w' ⟨v, he, hO, hb⟩ => ?_
  obtain ⟨b, c, hv, hL⟩ := ownsRow_LB (n := n) ((length_addL (hnl.trans hml.symm)).trans hnl) (by omega) hO
  exact ⟨b, c, by rw [he, hv], hL, hb⟩
theorem flatN_any (g o cap n : Nat) (ns : List Int) (w : World) (hl : LB w g o ns) (hnl : ns.length = n) (h2 : 2 ≤ n) (h3 : n ≤ 3) :
    Calls Tryd.prog 21 #[.slice (some ⟨g, o, none⟩) n cap] w fun e w' =>
      ∃ b c, e = .returned (.slice (some ⟨b, 0, none⟩) (n * 32) c) ∧ (∀ w'' : World, RowKit.Below w'.heap.size w' w'' → (convert 35 9 (.slice (some ⟨b, 0, none⟩) (n * 32) c)).run Tryd.prog w'' = .ok (.string ⟨(bysL ns).toArray⟩) w'') ∧ Below w.heap.size w w' := by
  have S := flat_any (some ⟨g, o, none⟩) g o cap ns w (fun _ => rfl) hl (by omega)
  rw [hnl] at S
  refine S.mono fun e w' ⟨v, he, hO, hb⟩ => ?_
  obtain ⟨b, c, hv, hL⟩ := conv_flat hnl (by omega) hO
  exact ⟨b, c, by rw [he, hv], hL, hb⟩

end Go.Proofs.YtodofaoaenddgaaDoor
