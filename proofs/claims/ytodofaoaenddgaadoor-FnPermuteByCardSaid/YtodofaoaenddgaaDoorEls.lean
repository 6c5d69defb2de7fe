/-
  impl.elements, walked: a list of numbers below the prime becomes a row of elements.
-/
import Derived.Test.YtodofaoaenddgaaDoorSet
import Derived.LoopTactic
import Derived.Maps.RangeWalk
import Derived.Laws.MakeOwn
namespace Go.Proofs.YtodofaoaenddgaaDoor
open Go.RowKit Go.Lib Fr
attribute [local go_sem] setCell_drewN alloc_drewN

/-- A make of elements of several cells, at any size that fits. -/
theorem run_makeN {P : Program} (t e : TypeId) (i : TypeInfo) (z : Value) (ht : P.underlying t = some (.slice e)) (hi : P.info? e = some i) (hz : i.zero = some z)
    (kl kc : IntKind) (n c : Nat) (hnc : n ≤ c) (hbytes : i.bytes * c ≤ 281474976710656) (h63 : c ≤ 9223372036854775807) (w : World) :
    (Instr.makeSlice t (.int kl (n : Int)) (.int kc (c : Int))).run P w = .ok (.slice (some ⟨w.heap.size, 0, none⟩) n c) (w.alloc (.cells (madeCells z.cells (c * i.size)) e)) := by
  have hb : (i.bytes : Int) * (c : Int) ≤ 281474976710656 := by
    have h : ((i.bytes * c : Nat) : Int) ≤ 281474976710656 := by omega
    rwa [Int.natCast_mul] at h
  have hr := run_make (P := P) w t e i z ht hi hz kl kc n c (by omega) (by omega) hb (by omega)
  simp only [Int.toNat_natCast] at hr
  exact hr

/-- The cells of a list of elements. -/
def elsL : List Int → List Value
  | [] => []
  | n :: r => .int .u64 (lim n 0) :: .int .u64 (lim n 1) :: .int .u64 (lim n 2) :: .int .u64 (lim n 3) :: elsL r
theorem length_elsL : ∀ ns, (elsL ns).length = 4 * ns.length
  | [] => rfl
  | n :: r => by simp only [elsL, List.length_cons, length_elsL r]; omega
/-- A list of numbers, as rows of 32 bytes in memory. -/
def LB (w : World) (g o : Nat) (ns : List Int) : Prop := ∀ i n, ns[i]? = some n → ∀ j, j < 32 → w.cell? ⟨g, o + i * 32 + j, none⟩ = some (.int .u8 (byt n j))
/-- The first i elements, and zeros behind them. -/
def part (ns : List Int) (i : Nat) : Array Value := (elsL (ns.take i) ++ List.replicate (4 * (ns.length - i)) (Value.int .u64 0)).toArray

theorem part_zero {ns : List Int} {k : Nat} (h : k < ns.length) (j : Nat) (hj : j < 4) : (part ns k)[k * 4 + j]? = some (.int .u64 0) := by
  have hl : (elsL (ns.take k)).length = 4 * k := by rw [length_elsL, List.length_take]; omega
  simp only [part, List.getElem?_toArray]
  rw [List.getElem?_append_right (by omega), List.getElem?_replicate, if_pos (by omega)]
theorem part_full (ns : List Int) : part ns ns.length = (elsL ns).toArray := by
  simp [part]
theorem made_zero (ns : List Int) : madeCells #[Value.int .u64 0, .int .u64 0, .int .u64 0, .int .u64 0] (ns.length * 4) = part ns 0 := by
  apply Array.ext'
  simp only [madeCells, part, List.take_zero, elsL, List.nil_append, Nat.sub_zero, Array.toList_map, Array.toList_range]
  rw [Nat.mul_comm 4]
  apply List.ext_getElem
  · simp
  · intro i h1 h2
    simp only [List.getElem_map, List.getElem_range, List.getElem_replicate]
    have h4 : i % 4 < 4 := Nat.mod_lt _ (by decide)
    show (#[Value.int .u64 0, .int .u64 0, .int .u64 0, .int .u64 0])[i % 4]! = _
    match i % 4, h4 with
    | 0, _ => rfl
    | 1, _ => rfl
    | 2, _ => rfl
    | 3, _ => rfl
theorem elsL_snoc : ∀ (l : List Int) (n : Int), elsL (l ++ [n]) = elsL l ++ [.int .u64 (lim n 0), .int .u64 (lim n 1), .int .u64 (lim n 2), .int .u64 (lim n 3)]
  | [], n => rfl
  | m :: l, n => by simp only [List.cons_append, elsL, elsL_snoc l n]
theorem set4_mid (l r : List Value) (x0 x1 x2 x3 : Value) (o : Nat) (ho : o = l.length) (a b c d : Int) :
    set4 (l ++ x0 :: x1 :: x2 :: x3 :: r).toArray o a b c d = (l ++ .int .u64 a :: .int .u64 b :: .int .u64 c :: .int .u64 d :: r).toArray := by
  subst ho
  simp only [set4, List.setIfInBounds_toArray]
  congr 1
  simp [List.set_append_right]
theorem part_next {ns : List Int} {k : Nat} {n : Int} (h : ns[k]? = some n) : set4 (part ns k) (k * 4) (lim n 0) (lim n 1) (lim n 2) (lim n 3) = part ns (k + 1) := by
  have hk : k < ns.length := (List.getElem?_eq_some_iff.1 h).1
  have hl : (elsL (ns.take k)).length = 4 * k := by rw [length_elsL, List.length_take]; omega
  have e : 4 * (ns.length - k) = 4 * (ns.length - (k + 1)) + 1 + 1 + 1 + 1 := by omega
  have ht : ns.take (k + 1) = ns.take k ++ [n] := by
    rw [List.take_add_one, h]; rfl
  simp only [part]
  rw [e]
  simp only [List.replicate_succ]
  rw [set4_mid _ _ _ _ _ _ _ (by omega), ht, elsL_snoc]
  simp
/-- A whole array read out of memory, wherever it lies. -/
theorem run_loadVar_at {P : Program} (w : World) (p : Addr) (ty : TypeId) (cs : Array Value) (d : TypeDesc) (hc : ∀ j u, cs[j]? = some u → w.cell? (p.add j) = some u)
    (hu : P.underlying ty = some d) (hd : (match d with | .struct _ | .array _ _ => true | _ => false) = true) (hi : (P.info? ty).map (·.size) = some cs.size) :
    (loadVar ty p).run P w = .ok (.agg cs) w := by
  have hl : (loadCells p cs.toList.length).run P w = .ok cs.toList.toArray w := run_loadCells_list (P := P) w p cs.toList (fun j v hv => hc j v (by simpa using hv))
  cases hq : P.info? ty with
  | none => simp [hq] at hi
  | some i =>
    have hs : i.size = cs.size := by simpa [hq] using hi
    have hagg : (isAgg ty).run P w = .ok true w := by
      unfold isAgg
      rw [Sem.run_bind, run_underlying hu w]
      cases d <;> simp_all
    simp only [Array.length_toList, Array.toArray_toList] at hl
    simp [loadVar, Sem.run_bind, hagg, sizeOf, typeInfo, hq, hs, hl]
theorem wpList_load_at {P : Program} {ops : Array Oper} {rest : List Oper} {o : Oper} {a : Act} {w : World} {Q : Exit → Act → World → Prop} (hgd : o.guard = none) (ty : TypeId) (x : Operand) (ho : o.op = .load ty x)
    (p : Addr) (hx : a.eval x = .pointer (some p)) (cs : Array Value) (d : TypeDesc) (hc : ∀ j u, cs[j]? = some u → w.cell? (p.add j) = some u)
    (hu : P.underlying ty = some d) (hd : (match d with | .struct _ | .array _ _ => true | _ => false) = true) (hi : (P.info? ty).map (·.size) = some cs.size)
    (h : wpList P ops Q rest (a.put o.dst (.agg cs)) w) : wpList P ops Q (o :: rest) a w :=
  wpList_plain hgd fun _ hK => by
    unfold Oper.wp execOp
    simp only [ho, hx, Instr.loadAt, Instr.sureAddr, Sem.run_bind, Sem.run_pure, Result.andThen_ok, run_loadVar_at w p ty cs d hc hu hd hi]
    exact hK _ _ h
theorem add_at (g o j : Nat) : (⟨g, o, none⟩ : Addr).add j = ⟨g, o + j, none⟩ := by unfold Addr.add; split <;> simp_all

theorem elt_info : (Tryd.prog.info? 69).map (fun i => (i.zero, i.size, i.bytes)) = some (some (.agg #[.int .u64 0, .int .u64 0, .int .u64 0, .int .u64 0]), 4, 32) := by kernel_rfl

set_option maxHeartbeats 1000000 in
set_option maxRecDepth 100000 in
theorem elements_yes (ao : Option Addr) (g o cap : Nat) (ns : List Int) (w : World) (ha : 0 < ns.length → ao = some ⟨g, o, none⟩) (hl : LB w g o ns) (hn : ∀ n ∈ ns, 0 ≤ n ∧ n < fp) (hk : ns.length ≤ 65536) :
    Calls Tryd.prog 30 #[.slice ao ns.length cap] w fun e w' =>
      ∃ b, e = .returned (.tuple #[.slice (some ⟨b, 0, none⟩) ns.length ns.length, .bool true]) ∧ w.heap.size ≤ b ∧ Blk w' b 69 (elsL ns).toArray ∧ Below w.heap.size w w' := by
  obtain ⟨i0, hi, hz0, hz1, hz2⟩ := info_parts elt_info
  have hmk := run_makeN (P := Tryd.prog) 53 69 i0 _ Tryd.underlying53 hi hz0 .i64 .i64 ns.length ns.length (Nat.le_refl _) (by rw [hz2]; omega) (by omega)
  rw [hz1] at hmk
  clear hi hz0 hz1 hz2
  go_enter Tryd.func30, Tryd.ntmps30
  go_wp2_with fail
  go_loopw [13] (fun v wr => ∃ k : Nat, k ≤ ns.length ∧ v = .int .i64 k ∧ Blk wr w.heap.size 69 (part ns k) ∧ Below w.heap.size w wr) (fun v _ => ns.length - (intOf v).toNat)
  case atStart =>
    refine ⟨0, Nat.zero_le _, rfl, ?_, (RowKit.Below.refl _ _).alloc (Nat.le_refl _) _⟩
    rw [← made_zero]
    exact Blk.new _ _ _ rfl
  case round =>
    obtain ⟨k, hk', rfl, hB, hb⟩ := hrel
    by_cases hlt : k < ns.length
    · obtain ⟨n, hn'⟩ : ∃ n, ns[k]? = some n := ⟨_, List.getElem?_eq_getElem hlt⟩
      obtain ⟨h0, h1⟩ := hn n (List.mem_of_getElem? hn')
      have hcl := hl k n hn'
      have HN := Lib.hid hn'
      obtain rfl := ha (by omega)
      have hcw : ∀ j u, (bts n)[j]? = some u → wr.cell? ((⟨g, o + k * 32, none⟩ : Addr).add j) = some u := fun j u hj => by
        have hj' : j < 32 := by
          rcases Nat.lt_or_ge j 32 with h | h
          · exact h
          · rw [Array.getElem?_eq_none (by simpa using h)] at hj; cases hj
        rw [bts_at n hj'] at hj
        cases hj
        rw [add_at]
        exact (hb.cell (p := ⟨g, o + k * 32 + j, none⟩) (block_lt_of_cell (hcl j hj'))).trans (hcl j hj')
      have HC := Lib.hid hcw
      clear hn' hn hcw hcl hl
      go_wp2_with (first | (refine wpList_load_at rfl 38 _ rfl ⟨g, o + k * 32, none⟩ rfl (bts n) _ HC.out Tryd.underlying38 rfl (by kernel_rfl) ?_; go_frame))
      refine (element_yes n _ h0 h1).mono ?_
      rintro e w1 ⟨rfl, hb1⟩
      have sz0 := hB.lt
      have sz1 := hb1.size
      have sz2 : w.heap.size < w1.heap.size := by omega
      have hB1 := hB.below hb1 sz0
      have D1 : Below w.heap.size w w1 := hb.trans (hb1.mono hb.size)
      have q0 : w1.cell? ⟨w.heap.size, k * 4, none⟩ = some (.int .u64 0) := by rw [hB1.cell]; exact part_zero hlt 0 (by decide)
      have q1 : w1.cell? ⟨w.heap.size, k * 4 + 1, none⟩ = some (.int .u64 0) := by rw [hB1.cell]; exact part_zero hlt 1 (by decide)
      have q2 : w1.cell? ⟨w.heap.size, k * 4 + 2, none⟩ = some (.int .u64 0) := by rw [hB1.cell]; exact part_zero hlt 2 (by decide)
      have q3 : w1.cell? ⟨w.heap.size, k * 4 + 3, none⟩ = some (.int .u64 0) := by rw [hB1.cell]; exact part_zero hlt 3 (by decide)
      have f0 := hB1.frozen (k * 4); have f1 := hB1.frozen (k * 4 + 1); have f2 := hB1.frozen (k * 4 + 2); have f3 := hB1.frozen (k * 4 + 3)
      have HB1 := Lib.hid hB1
      clear hB hb hb1 hB1 HC
      go_wp2_with fail
      go_roundw
      case rel =>
        refine ⟨k + 1, by omega, by go_num, ?_, ?_⟩
        · rw [← part_next HN.out]
          exact (HB1.out.put4 (k * 4) _ _ _ _).alloc _
        · exact RowKit.Below.alloc (Below.put4 D1 (Nat.le_refl _) (k * 4) (lim n 0) (lim n 1) (lim n 2) (lim n 3)) (by rw [size_put4]; omega) _
      case measure => simp [intOf]; omega
    · obtain rfl : k = ns.length := by omega
      have hB' := Lib.hid hB
      clear hB
      go_wp2_with fail
      go_ret2
      refine ⟨_, rfl, Nat.le_refl _, ?_, hb⟩
      have := hB'.out
      rw [part_full] at this
      exact this
end Go.Proofs.YtodofaoaenddgaaDoor
