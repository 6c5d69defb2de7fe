/-
  The reference's lists, walked: Is, All, Numbers.
-/
import Derived.Test.YtodofaoaenddgaaDoorSpd
namespace Go.Proofs.YtodofaoaenddgaaDoor
open Go.RowKit Go.Lib Fr
attribute [local go_sem] setCell_drewN alloc_drewN

theorem z32 (n : Int) : #[Value.int .u8 0, Value.int .u8 0, Value.int .u8 0, Value.int .u8 0, Value.int .u8 0, Value.int .u8 0, Value.int .u8 0, Value.int .u8 0, Value.int .u8 0, Value.int .u8 0, Value.int .u8 0, Value.int .u8 0, Value.int .u8 0, Value.int .u8 0, Value.int .u8 0, Value.int .u8 0, Value.int .u8 0, Value.int .u8 0, Value.int .u8 0, Value.int .u8 0, Value.int .u8 0, Value.int .u8 0, Value.int .u8 0, Value.int .u8 0, Value.int .u8 0, Value.int .u8 0, Value.int .u8 0, Value.int .u8 0, Value.int .u8 0, Value.int .u8 0, Value.int .u8 0, Value.int .u8 0] = bpre n 0 := rfl

set_option maxRecDepth 100000 in
theorem is_any (n : Int) (w : World) (hn : Num n) : Calls Tryd.prog 22 #[.agg (bts n)] w fun e w' =>
    e = .returned (.bool (decide (n < fp))) ∧ Below w.heap.size w w' := by
  go_enter Tryd.func22, Tryd.ntmps22
  have K0 := Lib.hid ((Kp.nil (RowKit.Below.refl w.heap.size w)).alloc (bts n) 38 rfl)
  go_wp2_with (first | (refine wpList_load_at rfl 38 _ rfl ⟨w.heap.size, 0, none⟩ rfl (bts n) _ (K0.out.b0).load Tryd.underlying38 rfl (by kernel_rfl) ?_; go_frame))
  refine (number_any _ _ hn).mono ?_
  rintro e w1 ⟨rfl, h1⟩
  have K1 := Lib.hid (K0.out.next h1)
  clear h1 K0
  go_wp2_with fail
  refine (prime_any _).mono ?_
  rintro e w2 ⟨rfl, h2⟩
  have K2 := Lib.hid (K1.out.next h2)
  clear h2 K1
  go_wp2_with fail
  refine (below_any _ _ _ hn num_fp).mono ?_
  rintro e w3 ⟨rfl, h3⟩
  have K3 := Lib.hid (K2.out.next h3)
  clear h3 K2
  go_wp2_with fail
  go_ret
  exact ⟨rfl, K3.out.1⟩

/-- A row of bytes, out of a list, in a world that came after. -/
theorem LB.load {w wr : World} {g o : Nat} {ns : List Int} (hl : LB w g o ns) {B : Nat} (hb : RowKit.Below B w wr) (hB : B = w.heap.size) {k : Nat} {n : Int} (hn : ns[k]? = some n) :
    ∀ j u, (bts n)[j]? = some u → wr.cell? ((⟨g, o + k * 32, none⟩ : Addr).add j) = some u := fun j u hj => by
  subst hB
  have hj' : j < 32 := by
    rcases Nat.lt_or_ge j 32 with h | h
    · exact h
    · rw [Array.getElem?_eq_none (by simpa using h)] at hj; cases hj
  rw [bts_at n hj'] at hj
  cases hj
  rw [add_at]
  exact (hb.cell (p := ⟨g, o + k * 32 + j, none⟩) (block_lt_of_cell (hl k n hn j hj'))).trans (hl k n hn j hj')

set_option maxHeartbeats 1000000 in
set_option maxRecDepth 100000 in
theorem all_any (ao : Option Addr) (g o cap : Nat) (ns : List Int) (most : Int) (w : World) (ha : 0 < ns.length → ao = some ⟨g, o, none⟩) (hl : LB w g o ns) (hn : ∀ n ∈ ns, Num n) (hk : most ≤ 65536) :
    Calls Tryd.prog 10 #[.slice ao ns.length cap, .int .i64 most] w fun e w' =>
      e = .returned (.bool (decide ((ns.length : Int) ≤ most) && ns.all fun n => decide (n < fp))) ∧ Below w.heap.size w w' := by
  go_enter Tryd.func10, Tryd.ntmps10
  by_cases hm : (ns.length : Int) ≤ most
  · rw [decide_eq_true hm, Bool.true_and]
    have hm' : ¬ most < (ns.length : Int) := by omega
    have hk6 : ns.length ≤ 65536 := by omega
    go_wp2_with fail
    clear hm hm'
    go_loopw [13] (fun v wr => ∃ k : Nat, k ≤ ns.length ∧ v = .int .i64 k ∧ ((ns.take k).all fun n => decide (n < fp)) = true ∧ Below w.heap.size w wr) (fun v _ => ns.length - (intOf v).toNat)
    case atStart => exact ⟨0, Nat.zero_le _, rfl, rfl, RowKit.Below.refl _ _⟩
    case round =>
      obtain ⟨k, hk', rfl, hA, hb⟩ := hrel
      have HA := Lib.hid hA
      clear hA
      by_cases hlt : k < ns.length
      · obtain ⟨n, hn'⟩ : ∃ n, ns[k]? = some n := ⟨_, List.getElem?_eq_getElem hlt⟩
        have HNum := Lib.hid (hn n (List.mem_of_getElem? hn'))
        have HC := Lib.hid (hl.load hb rfl hn')
        have HN := Lib.hid hn'
        obtain rfl := ha (by omega)
        clear hn' hn hl
        have K0 := Lib.hid (((Kp.nil hb).alloc (bpre 0 0) 38 rfl).setRow hb.size (fun x hx => nomatch hx) (bts n))
        clear hb
        go_wp2_with (first | (refine wpList_load_at rfl 38 _ rfl ⟨g, o + k * 32, none⟩ rfl (bts n) _ HC.out Tryd.underlying38 rfl (by kernel_rfl) ?_; go_frame) | (rw [z32 0]; refine wpList_store_blk rfl 38 _ _ rfl (wr.heap.size) 38 (bpre 0 0) (bts (n)) (Blk.new _ _ _ (by simp)) rfl rfl (by kernel_rfl) (by rw [size_bpre, size_bts]) (one_bts _) ?_; go_frame) | (refine wpList_load_at rfl 38 _ rfl ⟨wr.heap.size, 0, none⟩ rfl (bts n) _ (K0.out.b0).load Tryd.underlying38 rfl (by kernel_rfl) ?_; go_frame))
        refine (is_any _ _ HNum.out).mono ?_
        rintro e w1 ⟨rfl, h1⟩
        have K1 := Lib.hid (K0.out.next h1).1
        clear h1 K0 HC
        by_cases h : n < fp
        · have HF := Lib.hid h
          rw [decide_eq_true h]
          clear h
          go_wp2_with fail
          go_roundw
          case rel =>
            refine ⟨k + 1, by omega, by go_num, ?_, K1.out⟩
            rw [List.take_add_one, HN.out, List.all_append, HA.out]
            simp [HF.out]
          case measure => simp [intOf] <;> omega
        · have hf : (ns.all fun n => decide (n < fp)) = false := by
            rw [List.all_eq_false]
            exact ⟨n, List.mem_of_getElem? HN.out, by simpa using h⟩
          have HF := Lib.hid hf
          rw [decide_eq_false h]
          clear h hf
          go_wp2_with fail
          go_ret
          rw [HF.out]
          exact ⟨rfl, K1.out⟩
      · obtain rfl : k = ns.length := by omega
        have hA := HA.out
        rw [List.take_length] at hA
        have HF := Lib.hid hA
        clear hA hlt
        go_wp2_with fail
        go_ret
        rw [HF.out]
        exact ⟨rfl, hb⟩
  · rw [decide_eq_false hm, Bool.false_and]
    go_wp2_with fail
    go_ret
    exact ⟨rfl, RowKit.Below.refl _ _⟩
end Go.Proofs.YtodofaoaenddgaaDoor
