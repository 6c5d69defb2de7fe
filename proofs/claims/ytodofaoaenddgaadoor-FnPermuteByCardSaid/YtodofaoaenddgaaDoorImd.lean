/-
  Element.Bytes and impl.plain, walked: a list of elements becomes rows of 32 bytes.
-/
import Derived.Test.YtodofaoaenddgaaDoorImc
import Derived.Test.YtodofaoaenddgaaDoorRb
import Derived.Test.YtodofaoaenddgaaDoorSpi
namespace Go.Proofs.YtodofaoaenddgaaDoor
open Go.RowKit Go.Lib Fr
attribute [local go_sem] setCell_drewN alloc_drewN

theorem El.load {w : World} {g o : Nat} {n : Int} (h : El w g o n) : ∀ j u, (lms n)[j]? = some u → w.cell? ((⟨g, o, none⟩ : Addr).add j) = some u := fun j u hj => by
  rw [add_at]
  match j, hj with
  | 0, hj => simp at hj; subst hj; exact h.c0
  | 1, hj => simp at hj; subst hj; exact h.c1
  | 2, hj => simp at hj; subst hj; exact h.c2
  | 3, hj => simp at hj; subst hj; exact h.c3
  | k + 4, hj => simp at hj
theorem El.alloc {w : World} {g o : Nat} {n : Int} (h : El w g o n) (O : Obj) : El (w.alloc O) g o n := At4.alloc h O
theorem El.next {w w' : World} {g o : Nat} {n : Int} (h : El w g o n) (hb : RowKit.Below w.heap.size w w') : El w' g o n := At4.below h hb (At4.lt h)
theorem El.below {w w' : World} {B g o : Nat} {n : Int} (h : El w g o n) (hb : RowKit.Below B w w') (hg : g < B) : El w' g o n := At4.below h hb hg

set_option maxRecDepth 100000 in
theorem bytesE_any (g o : Nat) (n : Int) (w : World) (h0 : 0 ≤ n) (h1 : n < fp) (hx : El w g o n) :
    Calls Tryd.prog 44 #[.pointer (some ⟨g, o, none⟩)] w fun e w' =>
      e = .returned (.agg (bts n)) ∧ Below w.heap.size w w' := by
  have HC := Lib.hid (hx.alloc (.cells (mixB fun _ => .int .u8 0) 38)).load
  have HB := Lib.hid (Blk.new w 38 (mixB fun _ => .int .u8 0) rfl)
  have HN := Lib.hid (And.intro h0 h1)
  clear hx h0 h1
  go_enter Tryd.func44, Tryd.ntmps44
  go_wp2_with (first | (rw [show #[Value.int .u8 0, Value.int .u8 0, Value.int .u8 0, Value.int .u8 0, Value.int .u8 0, Value.int .u8 0, Value.int .u8 0, Value.int .u8 0, Value.int .u8 0, Value.int .u8 0, Value.int .u8 0, Value.int .u8 0, Value.int .u8 0, Value.int .u8 0, Value.int .u8 0, Value.int .u8 0, Value.int .u8 0, Value.int .u8 0, Value.int .u8 0, Value.int .u8 0, Value.int .u8 0, Value.int .u8 0, Value.int .u8 0, Value.int .u8 0, Value.int .u8 0, Value.int .u8 0, Value.int .u8 0, Value.int .u8 0, Value.int .u8 0, Value.int .u8 0, Value.int .u8 0, Value.int .u8 0] = mixB (fun _ => .int .u8 0) from rfl]; refine wpList_load_at rfl 69 _ rfl ⟨g, o, none⟩ rfl (lms n) _ HC.out Tryd.underlying69 rfl (by kernel_rfl) ?_; go_frame))
  refine (putElement_any _ _ _ n _ HN.out.1 HN.out.2 HB.out).mono ?_
  rintro e w1 ⟨rfl, h1, h2⟩
  have H1 := Lib.hid h1
  have G1 := Lib.hid ((World.grownBy_alloc w (.cells (mixB fun _ => .int .u8 0) 38) none).andThen h2 (fun j hj => by cases hj; exact .inl (Nat.le_refl _)))
  clear h1 h2 HB HC
  go_wp2_with fail
  exact bodyPost_ret (results_blk Tryd.results44 _ _ H1.out rfl Tryd.underlying38 rfl (by kernel_rfl)) rfl ⟨rfl, below_of_grown G1.out⟩

/-- A list of elements in memory. -/
def LF (w : World) (g o : Nat) (ns : List Int) : Prop := ∀ i n, ns[i]? = some n → El w g (o + i * 4) n
theorem Row.lf {w : World} {b : Nat} {ns : List Int} (h : Row w b ns) : LF w b 0 ns := fun i n hi => by rw [Nat.zero_add]; exact h.el hi rfl
theorem b32_info : (Tryd.prog.info? 38).map (fun i => (i.zero, i.size, i.bytes)) = some (some (.agg (bts 0)), 32, 32) := by kernel_rfl
theorem Blk.there_ {w : World} {b : Nat} {t : TypeId} {cs : Array Value} (h : Blk w b t cs) {o n : Nat} (ho : o + n ≤ cs.size) : w.there b o n := fun j hj =>
  ⟨by rw [h.cell, Array.getElem?_eq_getElem (by omega)]; rfl, h.frozen _⟩

set_option maxHeartbeats 1000000 in
set_option maxRecDepth 100000 in
theorem plain_any (ao : Option Addr) (g o cap : Nat) (ns : List Int) (w : World) (ha : 0 < ns.length → ao = some ⟨g, o, none⟩) (hl : LF w g o ns) (hn : ∀ n ∈ ns, 0 ≤ n ∧ n < fp) (hk : ns.length ≤ 65536) :
    Calls Tryd.prog 31 #[.slice ao ns.length cap] w fun e w' =>
      ∃ b, e = .returned (.slice (some ⟨b, 0, none⟩) ns.length ns.length) ∧ w.heap.size ≤ b ∧ Blk w' b 38 (btsL ns).toArray ∧ Below w.heap.size w w' := by
  obtain ⟨i0, hi, hz0, hz1, hz2⟩ := info_parts b32_info
  have hmk := run_makeN (P := Tryd.prog) 22 38 i0 _ Tryd.underlying22 hi hz0 .i64 .i64 ns.length ns.length (Nat.le_refl _) (by rw [hz2]; omega) (by omega)
  rw [hz1] at hmk
  simp only [Value.cells] at hmk
  rw [made_zero32] at hmk
  clear hi hz0 hz1 hz2
  have HL := Lib.hid hl
  have HN := Lib.hid hn
  go_enter Tryd.func31, Tryd.ntmps31
  clear hl hn
  go_wp2_with fail
  go_loopw [10] (fun v wr => ∃ k : Nat, k ≤ ns.length ∧ v = .int .i64 k ∧ Kp w wr [(w.heap.size, 38, (btsL (pre ns k)).toArray)]) (fun v _ => ns.length - (intOf v).toNat)
  case atStart =>
    refine ⟨0, Nat.zero_le _, rfl, ?_⟩
    have e : pre ns 0 = List.replicate ns.length 0 := by rw [pre, List.take_zero, List.nil_append, Nat.sub_zero]
    rw [e]
    exact (Kp.nil (RowKit.Below.refl _ _)).alloc _ _ rfl
  case round =>
    obtain ⟨k, hk', rfl, hK⟩ := hrel
    by_cases hlt : k < ns.length
    · obtain ⟨n, hn'⟩ : ∃ n, ns[k]? = some n := ⟨_, List.getElem?_eq_getElem hlt⟩
      have HNum := Lib.hid (HN.out n (List.mem_of_getElem? hn'))
      have HE := Lib.hid ((HL.out k n hn').below hK.1 (At4.lt (HL.out k n hn')))
      have HS := Lib.hid (pre_set hn')
      have K := Lib.hid hK
      obtain rfl := ha (by omega)
      clear hn' hK ha
      go_wp2_with fail
      refine (bytesE_any _ _ n _ HNum.out.1 HNum.out.2 HE.out).mono ?_
      rintro e w1 ⟨rfl, h1⟩
      have K1 := Lib.hid (K.out.next h1)
      have HT := Lib.hid (show w1.there w.heap.size (k * 32) (bts n).size from K1.out.b0.there_ (by rw [size_bts, List.size_toArray, length_btsL, length_pre _ hk']; omega))
      have H1 := Lib.hid (one_bts n)
      clear h1 K
      go_wp2_with (first | (refine wpList_store_mid rfl 38 _ _ rfl (w.heap.size) (k * 32) (bts (n)) ?shx ?shy ?sht ?shi ?sh1 ?_; (case shx => rfl); (case shy => rfl); (case sht => exact HT.out); (case shi => kernel_rfl); (case sh1 => exact H1.out); go_frame))
      go_roundw
      case rel =>
        refine ⟨k + 1, by omega, by go_num, Kp.cons (Kp.nil (Below.setCells (Nat.le_refl _) _ _ _ K1.out.1)) ?_⟩
        rw [← HS.out, ← btsL_set (by rw [length_pre _ hk']; exact hlt)]
        exact Blk.setCells _ _ _ _ K1.out.b0
      case measure => simp [intOf] <;> omega
    · obtain rfl : k = ns.length := by omega
      rw [pre_full] at hK
      have K := Lib.hid hK
      clear hK
      go_wp2_with fail
      go_ret
      exact ⟨_, rfl, Nat.le_refl _, K.out.b0, K.out.1⟩
end Go.Proofs.YtodofaoaenddgaaDoor
