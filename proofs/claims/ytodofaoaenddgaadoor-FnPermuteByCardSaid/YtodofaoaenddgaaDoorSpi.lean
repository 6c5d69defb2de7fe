/-
  The reference's External (not of four elements), walked.
-/
import Derived.Test.YtodofaoaenddgaaDoorSph
namespace Go.Proofs.YtodofaoaenddgaaDoor
open Go.RowKit Go.Lib Fr
attribute [local go_sem] setCell_drewN alloc_drewN

theorem E8.cellsB {w' : World} {b q c : Nat} {t : TypeId} {n m : Int} (h : E8 w' b q n) (k : Blk w' c t (hws m)) : w'.cell? ⟨b, q, none⟩ = some (.int .i64 (hw (n) 0)) ∧ w'.cell? ⟨b, q + 1, none⟩ = some (.int .i64 (hw (n) 1)) ∧ w'.cell? ⟨b, q + 2, none⟩ = some (.int .i64 (hw (n) 2)) ∧ w'.cell? ⟨b, q + 3, none⟩ = some (.int .i64 (hw (n) 3)) ∧ w'.cell? ⟨b, q + 4, none⟩ = some (.int .i64 (hw (n) 4)) ∧ w'.cell? ⟨b, q + 5, none⟩ = some (.int .i64 (hw (n) 5)) ∧ w'.cell? ⟨b, q + 6, none⟩ = some (.int .i64 (hw (n) 6)) ∧ w'.cell? ⟨b, q + 7, none⟩ = some (.int .i64 (hw (n) 7)) ∧ w'.cell? ⟨c, 0, none⟩ = some (.int .i64 (hw (m) 0)) ∧ w'.cell? ⟨c, 1, none⟩ = some (.int .i64 (hw (m) 1)) ∧ w'.cell? ⟨c, 2, none⟩ = some (.int .i64 (hw (m) 2)) ∧ w'.cell? ⟨c, 3, none⟩ = some (.int .i64 (hw (m) 3)) ∧ w'.cell? ⟨c, 4, none⟩ = some (.int .i64 (hw (m) 4)) ∧ w'.cell? ⟨c, 5, none⟩ = some (.int .i64 (hw (m) 5)) ∧ w'.cell? ⟨c, 6, none⟩ = some (.int .i64 (hw (m) 6)) ∧ w'.cell? ⟨c, 7, none⟩ = some (.int .i64 (hw (m) 7)) :=
  ⟨h 0 (by decide), h 1 (by decide), h 2 (by decide), h 3 (by decide), h 4 (by decide), h 5 (by decide), h 6 (by decide), h 7 (by decide), Blk.cells8 k⟩
/-- The first k of a list, and zeros behind them. -/
def pre (ms : List Int) (k : Nat) : List Int := ms.take k ++ List.replicate (ms.length - k) 0
theorem length_pre (ms : List Int) {k : Nat} (h : k ≤ ms.length) : (pre ms k).length = ms.length := by simp [pre]; omega
theorem pre_at {ms : List Int} {k : Nat} (h : k < ms.length) : (pre ms k)[k]? = some 0 := by
  simp only [pre]
  rw [List.getElem?_append_right (by rw [List.length_take]; omega), List.getElem?_replicate, if_pos (by rw [List.length_take]; omega)]
theorem pre_set {ms : List Int} {k : Nat} {m : Int} (h : ms[k]? = some m) : (pre ms k).set k m = pre ms (k + 1) := by
  have hk : k < ms.length := (List.getElem?_eq_some_iff.1 h).1
  simp only [pre]
  rw [List.take_add_one, h, List.set_append_right _ _ (by rw [List.length_take]; omega), show ms.length - k = (ms.length - (k + 1)) + 1 from by omega, List.replicate_succ, show k - (List.take k ms).length = 0 from by rw [List.length_take]; omega]
  simp
theorem pre_full (ms : List Int) : pre ms ms.length = ms := by simp [pre]
theorem hwsL_zeros : ∀ n, hwsL (List.replicate n 0) = List.replicate (n * 8) (Value.int .i64 0)
  | 0 => rfl
  | n + 1 => by
    rw [List.replicate_succ, hwsL, hwsL_zeros n, show (n + 1) * 8 = n * 8 + 1 + 1 + 1 + 1 + 1 + 1 + 1 + 1 from by omega]
    simp only [List.replicate_succ]
    rfl
theorem made_zero8 (n : Nat) : madeCells #[Value.int .i64 0, .int .i64 0, .int .i64 0, .int .i64 0, .int .i64 0, .int .i64 0, .int .i64 0, .int .i64 0] (n * 8) = (hwsL (List.replicate n 0)).toArray := by
  rw [hwsL_zeros]
  apply Array.ext'
  simp only [madeCells, Array.toList_map, Array.toList_range]
  apply List.ext_getElem
  · simp
  · intro i h1 h2
    simp only [List.getElem_map, List.getElem_range, List.getElem_replicate]
    have h8 : i % 8 < 8 := Nat.mod_lt _ (by decide)
    show (#[Value.int .i64 0, .int .i64 0, .int .i64 0, .int .i64 0, .int .i64 0, .int .i64 0, .int .i64 0, .int .i64 0])[i % 8]! = _
    match i % 8, h8 with
    | 0, _ => rfl
    | 1, _ => rfl
    | 2, _ => rfl
    | 3, _ => rfl
    | 4, _ => rfl
    | 5, _ => rfl
    | 6, _ => rfl
    | 7, _ => rfl
/-- What the outer matrix makes of a list. -/
def extL (ns : List Int) : List Int := ns.map fun n => (n + tot ns) % fp
theorem length_extL (ns : List Int) : (extL ns).length = ns.length := by simp [extL]
theorem extL_at {ns : List Int} {k : Nat} {n : Int} (h : ns[k]? = some n) : (extL ns)[k]? = some ((n + tot ns) % fp) := by simp [extL, h]

set_option maxHeartbeats 1000000 in
set_option maxRecDepth 100000 in
theorem external_any (ao : Option Addr) (g o cap : Nat) (ns : List Int) (w : World) (ha : 0 < ns.length → ao = some ⟨g, o, none⟩) (hl : LE w g o ns) (hn : ∀ n ∈ ns, 0 ≤ n ∧ n < fp) (hk : ns.length ≤ 65536) (h4 : ns.length ≠ 4) :
    Calls Tryd.prog 18 #[.slice ao ns.length cap] w fun e w' =>
      ∃ b, e = .returned (.slice (some ⟨b, 0, none⟩) ns.length ns.length) ∧ w.heap.size ≤ b ∧ Blk w' b 44 (hwsL (extL ns)).toArray ∧ Below w.heap.size w w' := by
  obtain ⟨i0, hi, hz0, hz1, hz2⟩ := info_parts spec_elt_info
  have hmk := run_makeN (P := Tryd.prog) 27 44 i0 _ Tryd.underlying27 hi hz0 .i64 .i64 ns.length ns.length (Nat.le_refl _) (by rw [hz2]; omega) (by omega)
  rw [hz1] at hmk
  simp only [Value.cells] at hmk
  rw [made_zero8] at hmk
  clear hi hz0 hz1 hz2
  have hb4 : ((ns.length : Int) == 4) = false := by simp; omega
  have HT := Lib.hid (tot_lo ns.length ns)
  rw [List.take_length] at HT
  have HL := Lib.hid hl
  have HN := Lib.hid hn
  go_enter Tryd.func18, Tryd.ntmps18
  clear hl hn
  go_wp2_with fail
  refine (total_any ao g o cap ns _ ha HL.out HN.out hk).mono ?_
  rintro e w1 ⟨rfl, h1⟩
  have K1 := Lib.hid (((Kp.nil h1).alloc (hws (tot ns)) 44 rfl).alloc (hwsL (List.replicate ns.length 0)).toArray 44 (b := w1.heap.size + 1) (by simp))
  have hs1 := h1.size
  obtain ⟨x, hx⟩ : ∃ x, tot ns = x := ⟨_, rfl⟩
  rw [hx] at K1 HT ⊢
  have HX := Lib.hid hx
  clear h1 h4 hx
  go_wp2_with fail
  go_loopw [18] (fun v wr => ∃ k : Nat, k ≤ ns.length ∧ v = .int .i64 k ∧ Kp w wr [(w1.heap.size + 1, 44, (hwsL (pre (extL ns) k)).toArray), (w1.heap.size, 44, hws x)]) (fun v _ => ns.length - (intOf v).toNat)
  case atStart =>
    refine ⟨0, Nat.zero_le _, rfl, ?_⟩
    have e : pre (extL ns) 0 = List.replicate ns.length 0 := by simp [pre, extL]
    rw [e]
    exact K1.out
  case round =>
    obtain ⟨k, hk', rfl, hK⟩ := hrel
    have K := Lib.hid hK
    clear K1
    by_cases hlt : k < ns.length
    · obtain ⟨n, hn'⟩ : ∃ n, ns[k]? = some n := ⟨_, List.getElem?_eq_getElem hlt⟩
      have HNum := Lib.hid (HN.out n (List.mem_of_getElem? hn'))
      have HE := Lib.hid ((HL.out.e8 hn').below hK.1 (HL.out.e8 hn').lt).drew
      have HA := Lib.hid (extL_at hn')
      rw [HX.out] at HA
      obtain rfl := ha (by omega)
      have KD := Lib.hid hK.drew
      have HZ := Lib.hid (pre_at (ms := extL ns) (k := k) (by rw [length_extL]; exact hlt))
      have HLen := Lib.hid (length_pre (extL ns) (k := k) (by rw [length_extL]; omega))
      rw [length_extL] at HLen
      obtain ⟨y, hy⟩ : ∃ y, (n + x) % fp = y := ⟨_, rfl⟩
      rw [hy] at HA
      have HY := Lib.hid hy
      have hg := Lib.hid (HL.out.e8 hn').lt
      have hs2 := Lib.hid hs1
      clear hn' hK ha hy hs1
      go_wp2_with fail
      go_region_held3 (fun w' => w'.cell? ⟨g, o + k * 8, none⟩ = some (.int .i64 (hw (n) 0)) ∧ w'.cell? ⟨g, o + k * 8 + 1, none⟩ = some (.int .i64 (hw (n) 1)) ∧ w'.cell? ⟨g, o + k * 8 + 2, none⟩ = some (.int .i64 (hw (n) 2)) ∧ w'.cell? ⟨g, o + k * 8 + 3, none⟩ = some (.int .i64 (hw (n) 3)) ∧ w'.cell? ⟨g, o + k * 8 + 4, none⟩ = some (.int .i64 (hw (n) 4)) ∧ w'.cell? ⟨g, o + k * 8 + 5, none⟩ = some (.int .i64 (hw (n) 5)) ∧ w'.cell? ⟨g, o + k * 8 + 6, none⟩ = some (.int .i64 (hw (n) 6)) ∧ w'.cell? ⟨g, o + k * 8 + 7, none⟩ = some (.int .i64 (hw (n) 7)) ∧ w'.cell? ⟨w1.heap.size, 0, none⟩ = some (.int .i64 (hw (x) 0)) ∧ w'.cell? ⟨w1.heap.size, 1, none⟩ = some (.int .i64 (hw (x) 1)) ∧ w'.cell? ⟨w1.heap.size, 2, none⟩ = some (.int .i64 (hw (x) 2)) ∧ w'.cell? ⟨w1.heap.size, 3, none⟩ = some (.int .i64 (hw (x) 3)) ∧ w'.cell? ⟨w1.heap.size, 4, none⟩ = some (.int .i64 (hw (x) 4)) ∧ w'.cell? ⟨w1.heap.size, 5, none⟩ = some (.int .i64 (hw (x) 5)) ∧ w'.cell? ⟨w1.heap.size, 6, none⟩ = some (.int .i64 (hw (x) 6)) ∧ w'.cell? ⟨w1.heap.size, 7, none⟩ = some (.int .i64 (hw (x) 7))) (first | (with_reducible exact E8.cellsB E4.out K4.out.tl.b0) | (with_reducible exact E8.cellsB HE.out KD.out.tl.b0) | (with_reducible exact E8.cellsB (E8.far8 E4.out (by have := hg.out; have := hs2.out; omega) _ _ _ _ _ _ _ _) (Blk.far8o K4.out.tl.b0 (by omega) _ _ _ _ _ _ _ _)))
        (first
          | (go_at_call 33; refine (plus_any _ _ _ HNum.out.1 HNum.out.2 HT.out.1 HT.out.2).mono ?_; rintro e w4 ⟨rfl, h4⟩; rw [HY.out]; have K4 := Lib.hid (KD.out.next h4); have E4 := Lib.hid (HE.out.next h4); obtain ⟨z0, z1, z2, z3, z4, z5, z6, z7⟩ := (K4.out.b0.rowe8 HZ.out).cells; obtain ⟨f0, f1, f2, f3, f4, f5, f6, f7⟩ := Blk.rowf8 K4.out.b0 (k * 8)))
      go_wp2_with fail
      go_roundw
      case rel =>
        refine ⟨k + 1, by omega, by go_num, ?_⟩
        rw [← pre_set HA.out]
        exact K4.out.rowset8 (by have := hs2.out; omega) (fun x hx => by simp at hx; subst hx; simp) (by rw [HLen.out]; exact hlt) y
      case measure => simp [intOf] <;> omega
    · obtain rfl : k = ns.length := by omega
      clear hK
      have E := length_extL ns
      rw [← E, pre_full] at K
      have hs2 := Lib.hid hs1
      clear E hs1
      go_wp2_with fail
      go_ret
      exact ⟨_, rfl, by have := hs2.out; omega, K.out.b0, K.out.1⟩
end Go.Proofs.YtodofaoaenddgaaDoor
