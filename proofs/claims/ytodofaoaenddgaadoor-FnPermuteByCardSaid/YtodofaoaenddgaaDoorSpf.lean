/-
  The reference's lists, walked: Numbers, total.
-/
import Derived.Test.YtodofaoaenddgaaDoorSpe
import Derived.Deep.AppendLies
import Derived.Maps.Range
namespace Go.Proofs.YtodofaoaenddgaaDoor
open Go.RowKit Go.Lib Fr
attribute [local go_sem] setCell_drewN alloc_drewN

/-- The words of a list of numbers. -/
def hwsL : List Int → List Value
  | [] => []
  | n :: r => (hws n).toList ++ hwsL r
theorem length_hwsL : ∀ ns, (hwsL ns).length = ns.length * 8
  | [] => rfl
  | n :: r => by simp only [hwsL, List.length_append, List.length_cons, length_hwsL r, List.length_nil]; omega
theorem hwsL_snoc : ∀ (l : List Int) (n : Int), hwsL (l ++ [n]) = hwsL l ++ (hws n).toList
  | [], n => by simp [hwsL]
  | m :: l, n => by simp only [List.cons_append, hwsL, hwsL_snoc l n, List.append_assoc]
theorem hwsL_at : ∀ (l : List Int) (i : Nat) (n : Int) (j : Nat), l[i]? = some n → j < 8 → (hwsL l)[i * 8 + j]? = some (.int .i64 (hw n j))
  | [], i, n, j, h, _ => by simp at h
  | m :: l, 0, n, j, h, hj => by
    simp only [List.getElem?_cons_zero, Option.some.injEq] at h
    subst h
    simp only [hwsL, Nat.zero_mul, Nat.zero_add]
    rw [List.getElem?_append_left (by simpa [hws] using hj)]
    have := hws_at m hj
    simpa using this
  | m :: l, i + 1, n, j, h, hj => by
    simp only [List.getElem?_cons_succ] at h
    simp only [hwsL]
    rw [List.getElem?_append_right (by simp; omega)]
    rw [show (i + 1) * 8 + j - (hws m).toList.length = i * 8 + j from by simp; omega]
    exact hwsL_at l i n j h hj
/-- A list of the reference's numbers in memory. -/
def LE (w : World) (g o : Nat) (ns : List Int) : Prop := ∀ i n, ns[i]? = some n → ∀ j, j < 8 → w.cell? ⟨g, o + i * 8 + j, none⟩ = some (.int .i64 (hw n j))
theorem LE.load {w wr : World} {g o : Nat} {ns : List Int} (hl : LE w g o ns) {B : Nat} (hb : RowKit.Below B w wr) (hB : B = w.heap.size) {k : Nat} {n : Int} (hn : ns[k]? = some n) :
    ∀ j u, (hws n)[j]? = some u → wr.cell? ((⟨g, o + k * 8, none⟩ : Addr).add j) = some u := fun j u hj => by
  subst hB
  have hj' : j < 8 := by
    rcases Nat.lt_or_ge j 8 with h | h
    · exact h
    · rw [Array.getElem?_eq_none (by simpa [hws] using h)] at hj; cases hj
  rw [hws_at n hj'] at hj
  cases hj
  rw [add_at]
  exact (hb.cell (p := ⟨g, o + k * 8 + j, none⟩) (block_lt_of_cell (hl k n hn j hj'))).trans (hl k n hn j hj')
theorem ownsRow_below {w w' : World} {B : Nat} {e : TypeId} {size : Nat} {v : Value} {n : Nat} {xs : List Value} (h : w.ownsRow B e size v n xs) (hb : RowKit.Below w.heap.size w w') : w'.ownsRow B e size v n xs := by
  refine ⟨h.1, ?_⟩
  rcases h.2 with h2 | ⟨g, cap, cur, hv, hB, hg, h3⟩
  · exact .inl h2
  · refine .inr ⟨g, cap, cur, hv, hB, ?_, h3⟩
    rw [hb.block g (by
      rcases Nat.lt_or_ge g w.heap.size with hlt | hge
      · exact hlt
      · rw [Array.getElem?_eq_none hge] at hg; cases hg)]
    exact hg
theorem grown_below {w w' : World} {B : Nat} {row : Option Nat} (h : w.grownBy w' row) (hB : B ≤ w.heap.size) (hr : ∀ k, row = some k → B ≤ k) : RowKit.Below B w w' :=
  ⟨h.os, h.tape, h.output, h.size, fun k hk => h.block k (by omega) (fun e => by have := hr k e.symm; omega)⟩
/-- The row that a value owns, as a list in memory. -/
theorem ownsRow_LE {w : World} {B : Nat} {v : Value} {ns : List Int} (h : w.ownsRow B 44 8 v ns.length (hwsL ns)) :
    ∃ ao g cap, v = .slice ao ns.length cap ∧ (0 < ns.length → ao = some ⟨g, 0, none⟩) ∧ LE w g 0 ns := by
  rcases h.2 with ⟨rfl, h0⟩ | ⟨g, cap, cur, rfl, _, hg, hc, _, hs, ht⟩
  · refine ⟨none, 0, 0, by rw [h0], fun h => by omega, fun i n hn => ?_⟩
    have := (List.getElem?_eq_some_iff.1 hn).1
    omega
  · refine ⟨some ⟨g, 0, none⟩, g, cap, rfl, fun _ => rfl, fun i n hn j hj => ?_⟩
    have hi := (List.getElem?_eq_some_iff.1 hn).1
    rw [cell_of_row w g (0 + i * 8 + j) cur _ _ hg, Nat.zero_add]
    have h1 := hwsL_at ns i n j hn hj
    rw [← ht, List.getElem?_take_of_lt (by omega)] at h1
    simpa using h1
theorem hws_one {n : Int} : ∀ u ∈ (hws n).toList, u.oneCell' = true := fun u hu => by
  simp only [List.mem_cons, List.not_mem_nil, or_false] at hu
  rcases hu with rfl | rfl | rfl | rfl | rfl | rfl | rfl | rfl <;> rfl
theorem spec_elt_info : (Tryd.prog.info? 44).map (fun i => (i.zero, i.size, i.bytes)) = some (some (.agg #[.int .i64 0, .int .i64 0, .int .i64 0, .int .i64 0, .int .i64 0, .int .i64 0, .int .i64 0, .int .i64 0]), 8, 64) := by kernel_rfl

set_option maxHeartbeats 1000000 in
set_option maxRecDepth 100000 in
theorem numbers_any (ao : Option Addr) (g o cap : Nat) (ns : List Int) (w : World) (ha : 0 < ns.length → ao = some ⟨g, o, none⟩) (hl : LB w g o ns) (hn : ∀ n ∈ ns, Num n) (hk : ns.length ≤ 65536) :
    Calls Tryd.prog 14 #[.slice ao ns.length cap] w fun e w' =>
      ∃ v, e = .returned v ∧ w'.ownsRow w.heap.size 44 8 v ns.length (hwsL ns) ∧ Below w.heap.size w w' := by
  obtain ⟨i0, hi, hz0, hz1, hz2⟩ := info_parts spec_elt_info
  have HI := Lib.hid (And.intro hi (And.intro hz0 (And.intro hz1 hz2)))
  clear hi hz0 hz1 hz2
  go_enter Tryd.func14, Tryd.ntmps14
  go_wp2_with fail
  go_loopw [3, 9] (fun out v wr => ∃ k : Nat, k ≤ ns.length ∧ v = .int .i64 k ∧ wr.ownsRow w.heap.size 44 8 out k (hwsL (ns.take k)) ∧ Below w.heap.size w wr) (fun _ v _ => ns.length - (intOf v).toNat)
  case atStart =>
    refine ⟨0, Nat.zero_le _, rfl, ?_, ?_⟩
    · exact World.ownsRow_made w #[] 0 (Nat.le_refl _) (by decide) rfl
    · exact (RowKit.Below.refl _ _).alloc (Nat.le_refl _) _
  case round =>
    obtain ⟨k, hk', rfl, hO, hb⟩ := hrel
    by_cases hlt : k < ns.length
    · obtain ⟨n, hn'⟩ : ∃ n, ns[k]? = some n := ⟨_, List.getElem?_eq_getElem hlt⟩
      have HNum := Lib.hid (hn n (List.mem_of_getElem? hn'))
      have HC := Lib.hid (hl.load hb rfl hn')
      have HN := Lib.hid hn'
      obtain rfl := ha (by omega)
      have K0 := Lib.hid (((Kp.nil (RowKit.Below.refl wr.heap.size wr)).alloc (bpre 0 0) 38 rfl).setRow (Nat.le_refl _) (fun x hx => nomatch hx) (bts n))
      have HO := Lib.hid (And.intro hO hb)
      clear hn' hn hl hb hO
      go_wp2_with (first | (refine wpList_load_at rfl 38 _ rfl ⟨g, o + k * 32, none⟩ rfl (bts n) _ HC.out Tryd.underlying38 rfl (by kernel_rfl) ?_; go_frame) | (rw [z32 0]; refine wpList_store_blk rfl 38 _ _ rfl (wr.heap.size) 38 (bpre 0 0) (bts (n)) (Blk.new _ _ _ (by simp)) rfl rfl (by kernel_rfl) (by rw [size_bpre, size_bts]) (one_bts _) ?_; go_frame) | (refine wpList_load_at rfl 38 _ rfl ⟨wr.heap.size, 0, none⟩ rfl (bts n) _ (K0.out.b0).load Tryd.underlying38 rfl (by kernel_rfl) ?_; go_frame))
      refine (number_any _ _ HNum.out).mono ?_
      rintro e w1 ⟨rfl, h1⟩
      have b0 := (K0.out.next h1).1
      have B1 := Lib.hid ((HO.out.2.trans (b0.mono HO.out.2.size)).alloc (B := w.heap.size) (by have := HO.out.2.size; have := b0.size; omega) (.cells (hws n) 44))
      have O1 := Lib.hid (ownsRow_below (ownsRow_below HO.out.1 b0) ((RowKit.Below.refl w1.heap.size w1).alloc (Nat.le_refl _) (.cells (hws n) 44)))
      have L1 := HO.out.1.lt
      have HL := Lib.hid L1
      clear h1 K0 HC HO b0 L1
      go_wp2_with (first | (at_builtin; refine wpList_append_lies _ rfl _ _ _ rfl w.heap.size 44 i0 _ 8 64 Tryd.underlying27 HI.out.1 HI.out.2.1 HI.out.2.2.1 HI.out.2.2.2 rfl (by decide) _ _ _ rfl O1.out ⟨w1.heap.size, 0, none⟩ 1 1 (hws n).toList rfl rfl (World.news_of_block (heap_alloc_new w1 _)) hws_one (by decide) (by unfold maxLen; omega) (by omega) B1.out.size _ rfl ?_; intro g3 cap3 w3 hown3 hgrow3 hat3 hlt3))
      go_roundw
      case rel =>
        refine ⟨k + 1, by omega, by go_num, ?_, B1.out.trans (grown_below hgrow3 B1.out.size (fun j hj => (HL.out j hj).1))⟩
        rw [List.take_add_one, HN.out]
        show w3.ownsRow _ _ _ _ _ (hwsL (_ ++ [n]))
        rw [hwsL_snoc]
        exact hown3
      case measure => simp [intOf] <;> omega
    · obtain rfl : k = ns.length := by omega
      rw [List.take_length] at hO
      have HO := Lib.hid (And.intro hO hb)
      clear hO hb hlt
      go_wp2_with fail
      go_ret
      exact ⟨_, rfl, HO.out.1, HO.out.2⟩
end Go.Proofs.YtodofaoaenddgaaDoor
