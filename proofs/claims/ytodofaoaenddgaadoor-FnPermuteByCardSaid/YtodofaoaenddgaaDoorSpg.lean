/-
  The reference's lists, walked: total, External.
-/
import Derived.Test.YtodofaoaenddgaaDoorSpf
namespace Go.Proofs.YtodofaoaenddgaaDoor
open Go.RowKit Go.Lib Fr
attribute [local go_sem] setCell_drewN alloc_drewN

/-- The sum of a list modulo the prime. -/
def tot (ns : List Int) : Int := ns.foldl (fun s a => (s + a) % fp) 0
theorem tot_snoc (ns : List Int) (n : Int) : tot (ns ++ [n]) = (tot ns + n) % fp := by simp [tot]
theorem tot_take {ns : List Int} {k : Nat} {n : Int} (h : ns[k]? = some n) : tot (ns.take (k + 1)) = (tot (ns.take k) + n) % fp := by
  rw [List.take_add_one, h]; exact tot_snoc _ _
theorem tot_lo : ∀ (k : Nat) (ns : List Int), 0 ≤ tot (ns.take k) ∧ tot (ns.take k) < fp
  | 0, ns => by rw [List.take_zero]; exact ⟨Int.le_refl 0, by rw [fp_eq]; decide⟩
  | k + 1, ns => by
    cases h : ns[k]? with
    | none => rw [List.take_add_one, h, Option.toList_none, List.append_nil]; exact tot_lo k ns
    | some n => rw [tot_take h]; exact ⟨mod_fp_lo _, mod_fp_hi _⟩

set_option maxHeartbeats 1000000 in
set_option maxRecDepth 100000 in
theorem total_any (ao : Option Addr) (g o cap : Nat) (ns : List Int) (w : World) (ha : 0 < ns.length → ao = some ⟨g, o, none⟩) (hl : LE w g o ns) (hn : ∀ n ∈ ns, 0 ≤ n ∧ n < fp) (hk : ns.length ≤ 65536) :
    Calls Tryd.prog 37 #[.slice ao ns.length cap] w fun e w' =>
      e = .returned (.agg (hws (tot ns))) ∧ Below w.heap.size w w' := by
  go_enter Tryd.func37, Tryd.ntmps37
  go_wp2_with fail
  go_loopw [9] (fun v wr => ∃ k : Nat, k ≤ ns.length ∧ v = .int .i64 k ∧ Kp w wr [(w.heap.size + 1, 44, hws (tot (ns.take k))), (w.heap.size, 44, hws 0)]) (fun v _ => ns.length - (intOf v).toNat)
  case atStart =>
    exact ⟨0, Nat.zero_le _, rfl, ((Kp.nil (RowKit.Below.refl _ _)).alloc (hws 0) _ rfl).alloc (hws 0) _ (by simp)⟩
  case round =>
    obtain ⟨k, hk', rfl, hK⟩ := hrel
    have K := Lib.hid hK
    by_cases hlt : k < ns.length
    · obtain ⟨n, hn'⟩ : ∃ n, ns[k]? = some n := ⟨_, List.getElem?_eq_getElem hlt⟩
      have HNum := Lib.hid (hn n (List.mem_of_getElem? hn'))
      have HC := Lib.hid (hl.load hK.1 rfl hn')
      have HN := Lib.hid hn'
      obtain rfl := ha (by omega)
      have HT := Lib.hid (tot_lo k ns)
      have ET := Lib.hid (tot_take hn')
      have K1 := Lib.hid (hK.alloc (hws n) 44 rfl)
      have hs := K.out.b0.lt
      clear hn' hn hl hK ha
      obtain ⟨x, hx⟩ : ∃ x, tot (ns.take k) = x := ⟨_, rfl⟩
      rw [hx] at K K1 HT ET
      clear hx
      go_wp2_with (first | (refine wpList_load_at rfl 44 _ rfl ⟨g, o + k * 8, none⟩ rfl (hws n) _ HC.out Tryd.underlying44 rfl (by kernel_rfl) ?_; go_frame) | (refine wpList_load_at rfl 44 _ rfl ⟨w.heap.size + 1, 0, none⟩ rfl (hws x) _ (K1.out.tl.b0).load Tryd.underlying44 rfl (by kernel_rfl) ?_; go_frame) | (refine wpList_load_at rfl 44 _ rfl ⟨wr.heap.size, 0, none⟩ rfl (hws n) _ (K1.out.b0).load Tryd.underlying44 rfl (by kernel_rfl) ?_; go_frame))
      refine (plus_any _ _ _ HT.out.1 HT.out.2 HNum.out.1 HNum.out.2).mono ?_
      rintro e w1 ⟨rfl, h1⟩
      have K2 := Lib.hid (K1.out.next h1).tl
      rw [← ET.out]
      obtain ⟨y, hy⟩ : ∃ y, tot (ns.take (k + 1)) = y := ⟨_, rfl⟩
      rw [hy]
      have HY := Lib.hid hy
      clear h1 hy
      go_wp2_with (first | (refine wpList_store_blk rfl 44 _ _ rfl (w.heap.size + 1) 44 (hws x) (hws y) (K2.out.b0) rfl rfl (by kernel_rfl) rfl (one_hws _) ?_; go_frame))
      go_roundw
      case rel => exact ⟨k + 1, by omega, by go_num, by rw [HY.out]; exact K2.out.setRow (by omega) (fun x hx => by simp at hx; subst hx; simp) _⟩
      case measure => simp [intOf] <;> omega
    · obtain rfl : k = ns.length := by omega
      clear hK
      rw [List.take_length] at K
      go_wp2_with (first | (refine wpList_load_at rfl 44 _ rfl ⟨w.heap.size + 1, 0, none⟩ rfl (hws (tot ns)) _ (K.out.b0).load Tryd.underlying44 rfl (by kernel_rfl) ?_; go_frame) | (refine wpList_store_blk rfl 44 _ _ rfl (w.heap.size) 44 (hws 0) (hws (tot ns)) (K.out.tl.b0) rfl rfl (by kernel_rfl) rfl (one_hws _) ?_; go_frame))
      refine bodyPost_ret (results_blk Tryd.results37 _ _ (K.out.tl.b0.setRow _) rfl Tryd.underlying44 rfl (by kernel_rfl)) rfl ⟨rfl, ?_⟩
      exact Below.setRow K.out.1 (Nat.le_refl _) _
end Go.Proofs.YtodofaoaenddgaaDoor
