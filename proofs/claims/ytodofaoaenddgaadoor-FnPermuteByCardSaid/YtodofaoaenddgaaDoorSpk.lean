/-
  The reference's MatMulM4, walked.
-/
import Derived.Test.YtodofaoaenddgaaDoorSpi
namespace Go.Proofs.YtodofaoaenddgaaDoor
open Go.RowKit Go.Lib Fr
attribute [local go_sem] setCell_drewN alloc_drewN

/-- The matrix of four, and its cells. -/
def cf (i k : Nat) : Int := (([[5, 7, 1, 3], [4, 6, 1, 1], [1, 3, 5, 7], [1, 1, 4, 6]] : List (List Int)).getD i []).getD k 0
def m4rows : Array Value := #[.int .i64 5, .int .i64 7, .int .i64 1, .int .i64 3, .int .i64 4, .int .i64 6, .int .i64 1, .int .i64 1, .int .i64 1, .int .i64 3, .int .i64 5, .int .i64 7, .int .i64 1, .int .i64 1, .int .i64 4, .int .i64 6]
theorem m4rows_at : ∀ i k : Nat, i < 4 → k < 4 → m4rows[i * 4 + k]? = some (.int .i64 (cf i k))
  | 0, 0, _, _ => rfl
  | 0, 1, _, _ => rfl
  | 0, 2, _, _ => rfl
  | 0, 3, _, _ => rfl
  | 1, 0, _, _ => rfl
  | 1, 1, _, _ => rfl
  | 1, 2, _, _ => rfl
  | 1, 3, _, _ => rfl
  | 2, 0, _, _ => rfl
  | 2, 1, _, _ => rfl
  | 2, 2, _, _ => rfl
  | 2, 3, _, _ => rfl
  | 3, 0, _, _ => rfl
  | 3, 1, _, _ => rfl
  | 3, 2, _, _ => rfl
  | 3, 3, _, _ => rfl
theorem cf_bd {i k : Nat} (hi : i < 4) (hk : k < 4) : 0 ≤ cf i k ∧ cf i k < 8 := by
  have h : ∀ i, i < 4 → ∀ k, k < 4 → 0 ≤ cf i k ∧ cf i k < 8 := by decide
  exact h i hi k hk
/-- What has been added up for an element, and what becomes of a list. -/
def accM (ns : List Int) (i : Nat) : Nat → Int
  | 0 => 0
  | k + 1 => (accM ns i k + cf (i % 4) k * ns.getD (i - i % 4 + k) 0 % fp) % fp
def m4L (ns : List Int) : List Int := (List.range ns.length).map fun i => accM ns i 4
theorem length_m4L (ns : List Int) : (m4L ns).length = ns.length := by simp [m4L]
theorem m4L_at {ns : List Int} {i : Nat} (h : i < ns.length) : (m4L ns)[i]? = some (accM ns i 4) := by simp [m4L, h]
theorem accM_bd (ns : List Int) (i : Nat) : ∀ k, 0 ≤ accM ns i k ∧ accM ns i k < fp
  | 0 => ⟨Int.le_refl 0, by show (0 : Int) < fp; rw [fp_eq]; decide⟩
  | k + 1 => ⟨mod_fp_lo _, mod_fp_hi _⟩
theorem pre_set0 {ms : List Int} {k : Nat} (h : k < ms.length) : (pre ms k).set k 0 = pre ms k := by
  apply List.ext_getElem?
  intro i
  rw [List.getElem?_set]
  split
  · rename_i e
    subst e
    rw [if_pos (by rw [length_pre ms (by omega)]; exact h), pre_at h]
  · rfl

theorem E8.cellsM {w' : World} {rb ro c s : Nat} {m u : Int} (k : w'.cell? ⟨rb, ro, none⟩ = some (.int .i64 u)) (i : E8 w' c s m) : w'.cell? ⟨rb, ro, none⟩ = some (.int .i64 u) ∧ w'.cell? ⟨c, s, none⟩ = some (.int .i64 (hw (m) 0)) ∧ w'.cell? ⟨c, s + 1, none⟩ = some (.int .i64 (hw (m) 1)) ∧ w'.cell? ⟨c, s + 2, none⟩ = some (.int .i64 (hw (m) 2)) ∧ w'.cell? ⟨c, s + 3, none⟩ = some (.int .i64 (hw (m) 3)) ∧ w'.cell? ⟨c, s + 4, none⟩ = some (.int .i64 (hw (m) 4)) ∧ w'.cell? ⟨c, s + 5, none⟩ = some (.int .i64 (hw (m) 5)) ∧ w'.cell? ⟨c, s + 6, none⟩ = some (.int .i64 (hw (m) 6)) ∧ w'.cell? ⟨c, s + 7, none⟩ = some (.int .i64 (hw (m) 7)) :=
  ⟨k, i.cells⟩
theorem far8_cell {w : World} {b q : Nat} {a : Addr} {u : Value} (h : w.cell? a = some u) (hne : a.block ≠ b) (v0 v1 v2 v3 v4 v5 v6 v7 : Value) : ((((((((w.setCell ⟨b, q, none⟩ (v0)).setCell ⟨b, q + 1, none⟩ (v1)).setCell ⟨b, q + 2, none⟩ (v2)).setCell ⟨b, q + 3, none⟩ (v3)).setCell ⟨b, q + 4, none⟩ (v4)).setCell ⟨b, q + 5, none⟩ (v5)).setCell ⟨b, q + 6, none⟩ (v6)).setCell ⟨b, q + 7, none⟩ (v7)).cell? a = some u := by
  have e : ∀ (w : World) (o : Nat) (v : Value), (w.setCell ⟨b, o, none⟩ v).cell? a = w.cell? a := fun w o v => World.cell?_setCell_other _ _ _ _ (fun e => hne (by rw [← e]))
  rw [e, e, e, e, e, e, e, e]; exact h

set_option maxHeartbeats 8000000 in
set_option maxRecDepth 100000 in
theorem matM4_any (g o cap : Nat) (ns : List Int) (w : World) (hl : LE w g o ns) (hn : ∀ n ∈ ns, 0 ≤ n ∧ n < fp) (hk : ns.length ≤ 65536) (h4 : ns.length % 4 = 0) :
    Calls Tryd.prog 13 #[.slice (some ⟨g, o, none⟩) ns.length cap] w fun e w' =>
      ∃ b, e = .returned (.slice (some ⟨b, 0, none⟩) ns.length ns.length) ∧ w.heap.size ≤ b ∧ Blk w' b 44 (hwsL (m4L ns)).toArray ∧ Below w.heap.size w w' := by
  obtain ⟨i0, hi, hz0, hz1, hz2⟩ := info_parts spec_elt_info
  have hmk := run_makeN (P := Tryd.prog) 27 44 i0 _ Tryd.underlying27 hi hz0 .i64 .i64 ns.length ns.length (Nat.le_refl _) (by rw [hz2]; omega) (by omega)
  rw [hz1] at hmk
  simp only [Value.cells] at hmk
  rw [made_zero8] at hmk
  clear hi hz0 hz1 hz2
  have HL := Lib.hid hl
  have HN := Lib.hid hn
  have H4 := Lib.hid h4
  go_enter Tryd.func13, Tryd.ntmps13
  clear hl hn h4
  go_wp2_with fail
  have K0 := Lib.hid ((((Kp.nil (RowKit.Below.refl w.heap.size w)).alloc m4rows 59 rfl).alloc (hwsL (List.replicate ns.length 0)).toArray 44 (b := w.heap.size + 1) (by simp)))
  go_loopw [17] (fun v wr => ∃ i : Nat, i ≤ ns.length ∧ v = .int .i64 i ∧ Kp w wr [(w.heap.size + 1, 44, (hwsL (pre (m4L ns) i)).toArray), (w.heap.size, 59, m4rows)]) (fun v _ => ns.length - (intOf v).toNat)
  case atStart =>
    refine ⟨0, Nat.zero_le _, rfl, ?_⟩
    have e : pre (m4L ns) 0 = List.replicate ns.length 0 := by rw [pre, length_m4L, List.take_zero, List.nil_append, Nat.sub_zero]
    rw [e]
    exact K0.out
  case round =>
    obtain ⟨i, hi', rfl, hK⟩ := hrel
    have K := Lib.hid hK
    clear K0 hK
    by_cases hlt : i < ns.length
    · obtain ⟨wo, rfl⟩ : ∃ wo : World, wo = wr := ⟨_, rfl⟩
      go_wp2_with fail
      go_loopw [20] (fun v wr => ∃ k : Nat, k ≤ 4 ∧ v = .int .i64 k ∧ Kp w wr [(w.heap.size + 1, 44, (hwsL ((pre (m4L ns) i).set i (accM ns i k))).toArray), (w.heap.size, 59, m4rows)]) (fun v _ => 4 - (intOf v).toNat)
      case atStart =>
        refine ⟨0, Nat.zero_le _, rfl, ?_⟩
        rw [accM, pre_set0 (by rw [length_m4L]; exact hlt)]
        exact K.out
      case round =>
        obtain ⟨k, hk', rfl, hK⟩ := hrel
        have K1 := Lib.hid hK
        clear hK K
        by_cases hk4 : k < 4
        · obtain ⟨r, hr⟩ : ∃ r, i % 4 = r := ⟨_, rfl⟩
          have hr4 : r < 4 := by omega
          have HCF := Lib.hid (cf_bd hr4 hk4)
          have HM4 := Lib.hid (m4rows_at r k hr4 hk4)
          obtain ⟨q, hq⟩ : ∃ q, i - r = q := ⟨_, rfl⟩
          obtain ⟨s, hs'⟩ : ∃ s, q + k = s := ⟨_, rfl⟩
          have hlen : s < ns.length := by have := H4.out; omega
          obtain ⟨n, hn'⟩ : ∃ n, ns[s]? = some n := ⟨_, List.getElem?_eq_getElem hlen⟩
          have HNum := Lib.hid (HN.out n (List.mem_of_getElem? hn'))
          have HAc := Lib.hid (show accM ns i (k + 1) = (accM ns i k + cf r k * n % fp) % fp from by rw [accM, hr, hq, hs', List.getD_eq_getElem?_getD, hn']; rfl)
          have HAb := Lib.hid (accM_bd ns i k)
          have KD := Lib.hid K1.out.drew
          have HE := Lib.hid ((HL.out.e8 hn').below K1.out.1 (HL.out.e8 hn').lt).drew
          have hg := Lib.hid (HL.out.e8 hn').lt
          have hs := Lib.hid K1.out.b0.lt
          have HLen := Lib.hid (show ((pre (m4L ns) i).set i (accM ns i k)).length = ns.length from by rw [List.length_set, length_pre _ (by rw [length_m4L]; omega), length_m4L])
          have HZ := Lib.hid (show ((pre (m4L ns) i).set i (accM ns i k))[i]? = some (accM ns i k) from by rw [List.getElem?_set_self (by rw [length_pre _ (by rw [length_m4L]; omega), length_m4L]; exact hlt)])
          have HSet := Lib.hid (fun y => show ((pre (m4L ns) i).set i (accM ns i k)).set i y = (pre (m4L ns) i).set i y from List.set_set ..)
          obtain ⟨a0, ha0⟩ : ∃ a0, accM ns i k = a0 := ⟨_, rfl⟩
          rw [ha0] at HAc HAb KD HLen HZ HSet K1
          obtain ⟨l0, hl0⟩ : ∃ l0, (pre (m4L ns) i).set i a0 = l0 := ⟨_, rfl⟩
          rw [hl0] at KD HLen HZ HSet K1
          obtain ⟨c, hc⟩ : ∃ c, cf r k = c := ⟨_, rfl⟩
          rw [hc] at HCF HM4 HAc
          obtain ⟨p, hp⟩ : ∃ p, c * n % fp = p := ⟨_, rfl⟩
          have HP := Lib.hid hp
          have HPb := Lib.hid (show 0 ≤ p ∧ p < fp from hp ▸ ⟨mod_fp_lo _, mod_fp_hi _⟩)
          rw [hp] at HAc
          obtain ⟨y, hy⟩ : ∃ y, (a0 + p) % fp = y := ⟨_, rfl⟩
          have HY := Lib.hid hy
          rw [hy] at HAc
          have hrz : (i : Int) % 4 = (r : Int) := by omega
          have hrt : (i : Int).tmod 4 = (r : Int) := by rw [Int.tmod_eq_emod_of_nonneg (by omega)]; exact hrz
          have hq0 : IntKind.i64.wrap ((i : Int) - (r : Int)) = (q : Int) := by rw [IntKind.wrap_i64]; omega
          have hq1 : IntKind.i64.wrap ((q : Int) + (k : Int)) = (s : Int) := by rw [IntKind.wrap_i64]; omega
          have hr0 : (0 : Int) ≤ (r : Int) := by omega
          have hr1 : (r : Int) < 4 := by omega
          have hs0 : (0 : Int) ≤ (s : Int) := by omega
          have hs1 : (s : Int) < (ns.length : Int) := by omega
          clear hn' ha0 hl0 hc hp hy hr K1 hq hs' hlen
          go_wp2_with fail
          obtain ⟨x0, x1, x2, x3, x4, x5, x6, x7⟩ := (KD.out.b0.rowe8 HZ.out).cells
          obtain ⟨y0, y1, y2, y3, y4, y5, y6, y7⟩ := HE.out.cells
          have r0 := (KD.out.tl.b0.cell _).trans HM4.out
          go_region_with
            (first
              | (go_at_call 35; refine (small_any _ _ HCF.out.1 (by have := HCF.out.2; omega)).mono ?_; rintro e w3 ⟨rfl, h3⟩; have K3 := Lib.hid (KD.out.next h3); have E3 := Lib.hid (HE.out.next h3); obtain ⟨x0, x1, x2, x3, x4, x5, x6, x7⟩ := (K3.out.b0.rowe8 HZ.out).cells; obtain ⟨y0, y1, y2, y3, y4, y5, y6, y7⟩ := E3.out.cells)
              | (go_at_call 34; refine (times_any _ _ _ HCF.out.1 (by have := HCF.out.2; rw [fp_eq]; omega) HNum.out.1 HNum.out.2).mono ?_; rintro e w4 ⟨rfl, h4⟩; rw [HP.out]; have K4 := Lib.hid (K3.out.next h4); have E4 := Lib.hid (E3.out.next h4); obtain ⟨x0, x1, x2, x3, x4, x5, x6, x7⟩ := (K4.out.b0.rowe8 HZ.out).cells)
              | (go_at_call 33; refine (plus_any _ _ _ HAb.out.1 HAb.out.2 HPb.out.1 HPb.out.2).mono ?_; rintro e w5 ⟨rfl, h5⟩; rw [HY.out]; have K5 := Lib.hid (K4.out.next h5); have E5 := Lib.hid (E4.out.next h5); obtain ⟨z0, z1, z2, z3, z4, z5, z6, z7⟩ := (K5.out.b0.rowe8 HZ.out).cells; obtain ⟨f0, f1, f2, f3, f4, f5, f6, f7⟩ := Blk.rowf8 K5.out.b0 (i * 8)))

          all_goals
            go_wp2_with fail
            go_roundw
            case rel =>
              refine ⟨k + 1, by omega, by go_num, ?_⟩
              rw [HAc.out, ← HSet.out]
              exact K5.out.rowset8 (by simp) (fun x hx => by simp at hx; subst hx; simp) (by rw [HLen.out]; exact hlt) y
            case measure => simp [intOf] <;> omega
        · obtain rfl : k = 4 := by omega
          have E := pre_set (m4L_at hlt)
          rw [E] at K1
          clear E
          go_wp2_with fail
          go_roundw
          case rel => exact ⟨i + 1, by omega, by go_num, K1.out⟩
          case measure => simp [intOf] <;> omega
    · obtain rfl : i = ns.length := by omega
      have E := length_m4L ns
      rw [← E, pre_full] at K
      clear E
      go_wp2_with fail
      go_ret
      exact ⟨_, rfl, by omega, K.out.b0, K.out.1⟩
end Go.Proofs.YtodofaoaenddgaaDoor
