/-
  Permutation of width 2 or 3 with one full round at each end, walked.
-/
import Derived.Test.YtodofaoaenddgaaDoorPa
import Derived.Test.YtodofaoaenddgaaDoorImj
import Derived.Test.YtodofaoaenddgaaDoorLw
namespace Go.Proofs.YtodofaoaenddgaaDoor
open Go.RowKit Go.Lib Fr
attribute [local go_sem] setCell_drewN alloc_drewN

/-- The inner matrix's diagonal, less 1, of width 2 or 3. -/
def dgL (n : Nat) : List Int := if n = 2 then [1, 2] else [1, 1, 2]
def hd5 : List Int → List Int
  | [] => []
  | a :: t => p5 a :: t
/-- A full round and an inner one. -/
def rndF (s ks : List Int) : List Int := extL ((addK s ks).map p5)
def rndI (n : Nat) (s ks : List Int) : List Int := intL (dgL n) (hd5 (addK s ks))
/-- The state behind so many rounds: the first and those behind the m inner ones are full. -/
def stt (n m : Nat) (K : List (List Int)) (s : List Int) : Nat → List Int
  | 0 => extL s
  | j + 1 => if 1 ≤ j ∧ j ≤ m then rndI n (stt n m K s j) (K.getD j []) else rndF (stt n m K s j) (K.getD j [])
theorem length_rndF (s ks : List Int) : (rndF s ks).length = s.length := by rw [rndF, length_extL, List.length_map, length_addK]
theorem length_hd5 (s : List Int) : (hd5 s).length = s.length := by cases s <;> rfl
theorem length_rndI {n : Nat} {s ks : List Int} (h : s.length = n) (h2 : 2 ≤ n) (h3 : n ≤ 3) : (rndI n s ks).length = n := by
  have e : (hd5 (addK s ks)).length = n := by rw [length_hd5, length_addK, h]
  rw [rndI, length_intL, e]
  rw [e]
  rcases (show n = 2 ∨ n = 3 by omega) with rfl | rfl <;> rfl
theorem length_stt {n m : Nat} {K : List (List Int)} {s : List Int} (h : s.length = n) (h2 : 2 ≤ n) (h3 : n ≤ 3) : ∀ j, (stt n m K s j).length = n
  | 0 => by rw [stt, length_extL, h]
  | j + 1 => by
    rw [stt]
    split
    · exact length_rndI (length_stt h h2 h3 j) h2 h3
    · rw [length_rndF]; exact length_stt h h2 h3 j
theorem two3 {s : List Int} {n : Nat} (h : s.length = n) (h2 : 2 ≤ n) (h3 : n ≤ 3) : (n = 2 ∧ ∃ x y, s = [x, y]) ∨ (n = 3 ∧ ∃ x y z, s = [x, y, z]) := by
  subst h
  match s, h2, h3 with
  | [x, y], _, _ => exact .inl ⟨rfl, x, y, rfl⟩
  | [x, y, z], _, _ => exact .inr ⟨rfl, x, y, z, rfl⟩
theorem extIn_any (gp op gq oq g cap n : Nat) (s : List Int) (w : World) (hp : w.cell? ⟨gp, op, none⟩ = some (.pointer (some ⟨gq, oq, none⟩))) (hq : w.cell? ⟨gq, oq, none⟩ = some (.int .i64 n)) (hr : Row w g s) (h : s.length = n) (h2 : 2 ≤ n) (h3 : n ≤ 3) :
    Calls Tryd.prog 52 #[.pointer (some ⟨gp, op, none⟩), .slice (some ⟨g, 0, none⟩) n cap] w fun e w' =>
      e = .returned (.tuple #[]) ∧ Row w' g (extL s) ∧ w.grownBy w' (some g) := by
  rcases two3 h h2 h3 with ⟨rfl, x, y, rfl⟩ | ⟨rfl, x, y, z, rfl⟩
  · exact ext2_any gp op gq oq g cap x y w hp hq hr
  · exact ext3_any gp op gq oq g cap x y z w hp hq hr
theorem intIn_any (gp op gq oq g cap n : Nat) (s : List Int) (w : World) (hp : w.cell? ⟨gp, op, none⟩ = some (.pointer (some ⟨gq, oq, none⟩))) (hq : w.cell? ⟨gq, oq, none⟩ = some (.int .i64 n)) (hr : Row w g s) (h : s.length = n) (h2 : 2 ≤ n) (h3 : n ≤ 3) :
    Calls Tryd.prog 51 #[.pointer (some ⟨gp, op, none⟩), .slice (some ⟨g, 0, none⟩) n cap] w fun e w' =>
      e = .returned (.tuple #[]) ∧ Row w' g (intL (dgL n) s) ∧ w.grownBy w' (some g) := by
  rcases two3 h h2 h3 with ⟨rfl, x, y, rfl⟩ | ⟨rfl, x, y, z, rfl⟩
  · exact int2_any gp op gq oq g cap x y w hp hq hr
  · exact int3_any gp op gq oq g cap x y z w hp hq hr
/-- The keys of the rounds in memory, none of them in block g. -/
def KF (w : World) (gk g : Nat) (K : List (List Int)) : Prop := ∀ i ks, K[i]? = some ks → ∃ gr cr, w.cell? ⟨gk, i, none⟩ = some (.slice (some ⟨gr, 0, none⟩) ks.length cr) ∧ LF w gr 0 ks ∧ gr ≠ g
theorem grown_lf {w w' : World} {row : Option Nat} (h : w.grownBy w' row) {g o : Nat} {ns : List Int} (hl : LF w g o ns) (hg : some g ≠ row) : LF w' g o ns := fun i n hi => grown_el h (hl i n hi) hg
/-- How many keys a round has. -/
def Shape (n m : Nat) (K : List (List Int)) : Prop := K.length = m + 2 ∧ ∀ i ks, K[i]? = some ks → ks.length = if 1 ≤ i ∧ i ≤ m then 1 else n

theorem sBoxN_any (hp : Value) (g cap n : Nat) (ns : List Int) (i : Nat) (x : Int) (w : World) (hr : Row w g ns) (hi : ns[i]? = some x) (hn : ns.length = n) :
    Calls Tryd.prog 54 #[hp, .int .i64 i, .slice (some ⟨g, 0, none⟩) n cap] w fun e w' =>
      e = .returned (.tuple #[]) ∧ Row w' g (ns.set i (p5 x)) ∧ w.grownBy w' (some g) := by
  subst hn
  exact sBox_any hp g cap ns i x w hr hi

set_option maxHeartbeats 8000000 in
set_option maxRecDepth 100000 in
theorem perm_any (gp gq gk g cap n m ck : Nat) (K : List (List Int)) (s : List Int) (w : World) (hp : w.cell? ⟨gp, 0, none⟩ = some (.pointer (some ⟨gq, 0, none⟩)))
    (q0 : w.cell? ⟨gq, 0, none⟩ = some (.int .i64 n)) (q1 : w.cell? ⟨gq, 1, none⟩ = some (.int .i64 2)) (q2 : w.cell? ⟨gq, 2, none⟩ = some (.int .i64 m)) (q3 : w.cell? ⟨gq, 3, none⟩ = some (.slice (some ⟨gk, 0, none⟩) (m + 2) ck))
    (hK : KF w gk g K) (hS : Shape n m K) (hr : Row w g s) (h : s.length = n) (h2 : 2 ≤ n) (h3 : n ≤ 3) (hm : m ≤ 100) (n1 : gp ≠ g) (n2 : gq ≠ g) (n3 : gk ≠ g) :
    Calls Tryd.prog 56 #[.pointer (some ⟨gp, 0, none⟩), .slice (some ⟨g, 0, none⟩) n cap] w fun e w' =>
      e = .returned .nilIface ∧ Row w' g (stt n m K s (m + 2)) ∧ w.grownBy w' (some g) := by
  have K0 := Lib.hid (show Rg w w (some g) [(g, s)] from (Rg.nil (World.grownBy.refl w (some g))).cons hr (.inl rfl) (fun x hx => nomatch hx))
  have HP := Lib.hid hp
  have Q := Lib.hid (And.intro q0 (And.intro q1 (And.intro q2 q3)))
  have NE := Lib.hid (And.intro (show some gp ≠ some g from fun e => n1 (Option.some.inj e)) (And.intro (show some gq ≠ some g from fun e => n2 (Option.some.inj e)) (show some gk ≠ some g from fun e => n3 (Option.some.inj e))))
  have HK := Lib.hid hK
  have HSh := Lib.hid hS
  have H := Lib.hid (And.intro h (And.intro h2 (And.intro h3 hm)))
  have hne : ((n : Int) != (n : Int)) = false := by simp
  clear hK hS hr h n1 n2 n3 h2 h3
  go_enter Tryd.func56, Tryd.ntmps56
  go_wp2_with fail
  refine (extIn_any gp 0 gq 0 g cap n s _ hp q0 (K0.out.row (j := 0) rfl) H.out.1 H.out.2.1 H.out.2.2.1).mono ?_
  rintro e w1 ⟨rfl, h, hg⟩
  have K1 := Lib.hid (show Rg w w1 (some g) [(g, stt n m K s 0)] from K0.out.call (j := 0) rfl hg h)
  clear h hg K0 hp q0 q1 q2 q3 hne
  have hp := K1.out.cell HP.out NE.out.1
  have q0 := K1.out.cell Q.out.1 NE.out.2.1
  have q1 := K1.out.cell Q.out.2.1 NE.out.2.1
  have q2 := K1.out.cell Q.out.2.2.1 NE.out.2.1
  have q3 := K1.out.cell Q.out.2.2.2 NE.out.2.1
  go_wp2_with fail
  clear hp q0 q1 q2 q3
  go_loopw [34] (fun v wr => ∃ i : Nat, i ≤ 1 ∧ v = .int .i64 i ∧ Rg w wr (some g) [(g, stt n m K s i)]) (fun v _ => 1 - (intOf v).toNat)
  case atStart => exact ⟨0, Nat.zero_le _, rfl, K1.out⟩
  case round =>
    obtain ⟨i, hi, rfl, hK⟩ := hrel
    have K0 := Lib.hid hK
    clear K1
    have hp := K0.out.cell HP.out NE.out.1
    have q0 := K0.out.cell Q.out.1 NE.out.2.1
    have q1 := K0.out.cell Q.out.2.1 NE.out.2.1
    have q2 := K0.out.cell Q.out.2.2.1 NE.out.2.1
    have q3 := K0.out.cell Q.out.2.2.2 NE.out.2.1
    by_cases hlt : i < 1
    · obtain ⟨ks, hks⟩ : ∃ ks, K[i]? = some ks := ⟨_, List.getElem?_eq_getElem (by have := HSh.out.1; omega)⟩
      obtain ⟨gr, cr, c1, c2, c3⟩ := HK.out i ks hks
      have HX := Lib.hid (And.intro c1 (And.intro c2 c3))
      have hkl := HSh.out.2 i ks hks
      rw [if_neg (by omega)] at hkl
      have HKL := Lib.hid hkl
      have HSt := Lib.hid (length_stt (m := m) (K := K) H.out.1 H.out.2.1 H.out.2.2.1 i)
      have HN := Lib.hid (show rndF (stt n m K s i) ks = stt n m K s (i + 1) from by rw [stt, if_neg (by omega), List.getD_eq_getElem?_getD, hks]; rfl)
      have hgrn : some gr ≠ some g := fun e => c3 (Option.some.inj e)
      have HGR := Lib.hid hgrn
      clear c1 c2 c3 hks hkl hgrn hK
      obtain ⟨st, hst⟩ : ∃ st, stt n m K s i = st := ⟨_, rfl⟩
      rw [hst] at K0 HSt HN
      clear hst
      go_wp2_with fail
      refine (addKey_any gp 0 gq 0 gk 0 gr 0 (m + 2) ck cr g cap n i st ks _ (K0.out.cell HP.out NE.out.1) (by rw [Nat.zero_add]; exact K0.out.cell Q.out.2.2.2 NE.out.2.1) (by rw [Nat.zero_add]; exact K0.out.cell HX.out.1 NE.out.2.2) (K0.out.row (j := 0) rfl) (grown_lf K0.out.1 HX.out.2.1 HGR.out) HSt.out (by rw [HKL.out]; exact Nat.le_refl _) (by omega) (by have := H.out.2.2.1; omega) (by simpa using NE.out.1) (by simpa using NE.out.2.1) (by simpa using NE.out.2.2) HX.out.2.2).mono ?_
      rintro e w2 ⟨rfl, h, hg⟩
      obtain ⟨a, ha⟩ : ∃ a, addK st ks = a := ⟨_, rfl⟩
      rw [ha] at h
      have HA := Lib.hid ha
      have K2 := Lib.hid (show Rg w w2 (some g) [(g, mixL (a.map p5) a 0)] from by rw [mixL_zero]; exact K0.out.call (j := 0) rfl hg h)
      have HLA := Lib.hid (show a.length = n from by rw [← ha, length_addK]; exact HSt.out)
      clear h hg hp q0 q1 q2 q3 K0 ha
      have hp := K2.out.cell HP.out NE.out.1
      have q0 := K2.out.cell Q.out.1 NE.out.2.1
      have q1 := K2.out.cell Q.out.2.1 NE.out.2.1
      have q2 := K2.out.cell Q.out.2.2.1 NE.out.2.1
      have q3 := K2.out.cell Q.out.2.2.2 NE.out.2.1
      go_wp2_with fail
      clear hp q0 q1 q2 q3
      go_loopw [48] (fun v wr => ∃ j : Nat, j ≤ n ∧ v = .int .i64 j ∧ Rg w wr (some g) [(g, mixL (a.map p5) a j)]) (fun v _ => n - (intOf v).toNat)
      case atStart => exact ⟨0, Nat.zero_le _, rfl, K2.out⟩
      case round =>
        obtain ⟨j, hj, rfl, hK⟩ := hrel
        have K3 := Lib.hid hK
        have hn3 := H.out.2.2.1
        clear K2
        by_cases hlt2 : j < n
        · have hla := HLA.out
          have hle : (a.map p5).length = a.length := List.length_map ..
          obtain ⟨x, hx⟩ : ∃ x, a[j]? = some x := ⟨_, List.getElem?_eq_getElem (by omega)⟩
          have HM := Lib.hid ((mixL_later hle (Nat.le_refl j) (by omega)).trans hx)
          have HS := Lib.hid (mixL_set hle (show (a.map p5)[j]? = some (p5 x) from by rw [List.getElem?_map, hx]; rfl))
          have Hl := Lib.hid (show (mixL (a.map p5) a j).length = n from by rw [length_mixL hle (by omega)]; exact hla)
          clear hx hla hle hK
          go_wp2_with fail
          refine (sBoxN_any _ g cap n _ j x _ (K3.out.row (j := 0) rfl) HM.out Hl.out).mono ?_
          rintro e w4 ⟨rfl, h, hg⟩
          have K4 := Lib.hid (show Rg w w4 (some g) [(g, mixL (a.map p5) a (j + 1))] from by rw [← HS.out]; exact K3.out.call (j := 0) rfl hg h)
          clear h hg K3
          go_wp2_with fail
          go_roundw
          case rel => exact ⟨j + 1, by omega, by go_num, K4.out⟩
          case measure => simp [intOf] <;> omega
        · obtain rfl : n = j := by omega
          have E : mixL (a.map p5) a n = a.map p5 := by have e := mixL_full (a := a.map p5) (b := a) (List.length_map ..); rw [HLA.out] at e; exact e
          rw [E] at hK
          have K5 := Lib.hid hK
          clear hK K3 E
          have hp := K5.out.cell HP.out NE.out.1
          have q0 := K5.out.cell Q.out.1 NE.out.2.1
          have q1 := K5.out.cell Q.out.2.1 NE.out.2.1
          have q2 := K5.out.cell Q.out.2.2.1 NE.out.2.1
          have q3 := K5.out.cell Q.out.2.2.2 NE.out.2.1
          go_wp2_with fail
          refine (extIn_any gp 0 gq 0 g cap n (a.map p5) _ hp q0 (K5.out.row (j := 0) rfl) (by rw [List.length_map]; exact HLA.out) H.out.2.1 H.out.2.2.1).mono ?_
          rintro e w6 ⟨rfl, h, hg⟩
          have K6 := Lib.hid (show Rg w w6 (some g) [(g, stt n m K s (i + 1))] from by rw [← HN.out, rndF, HA.out]; exact K5.out.call (j := 0) rfl hg h)
          clear h hg K5 hp q0 q1 q2 q3
          go_wp2_with fail
          go_roundw
          case rel => exact ⟨i + 1, by omega, by go_num, K6.out⟩
          case measure => simp [intOf] <;> omega
    · obtain rfl : i = 1 := by omega
      clear hK
      rw [show ((1 : Nat) : Int) = 1 from rfl]
      go_wp2_with fail
      clear hp q0 q1 q2 q3
      have K1 := K0
      clear K0
      go_loopw [8] (fun v wr => ∃ i : Nat, 1 ≤ i ∧ i ≤ m + 1 ∧ v = .int .i64 i ∧ Rg w wr (some g) [(g, stt n m K s i)]) (fun v _ => m + 1 - (intOf v).toNat)
      case atStart => exact ⟨1, Nat.le_refl _, by omega, rfl, K1.out⟩
      case round =>
        obtain ⟨i, hi1, hi, rfl, hK⟩ := hrel
        have K0 := Lib.hid hK
        clear K1
        have hm := H.out.2.2.2
        have hp := K0.out.cell HP.out NE.out.1
        have q0 := K0.out.cell Q.out.1 NE.out.2.1
        have q1 := K0.out.cell Q.out.2.1 NE.out.2.1
        have q2 := K0.out.cell Q.out.2.2.1 NE.out.2.1
        have q3 := K0.out.cell Q.out.2.2.2 NE.out.2.1
        by_cases hlt : i < m + 1
        · obtain ⟨ks, hks⟩ : ∃ ks, K[i]? = some ks := ⟨_, List.getElem?_eq_getElem (by have := HSh.out.1; omega)⟩
          obtain ⟨gr, cr, c1, c2, c3⟩ := HK.out i ks hks
          have HX := Lib.hid (And.intro c1 (And.intro c2 c3))
          have hkl := HSh.out.2 i ks hks
          rw [if_pos (by omega)] at hkl
          have HKL := Lib.hid hkl
          have HSt := Lib.hid (length_stt (m := m) (K := K) H.out.1 H.out.2.1 H.out.2.2.1 i)
          have HN := Lib.hid (show rndI n (stt n m K s i) ks = stt n m K s (i + 1) from by rw [stt, if_pos (by omega), List.getD_eq_getElem?_getD, hks]; rfl)
          have hgrn : some gr ≠ some g := fun e => c3 (Option.some.inj e)
          have HGR := Lib.hid hgrn
          have hlz : (i : Int) < 1 + (m : Int) := by omega
          clear c1 c2 c3 hks hkl hgrn hK
          obtain ⟨st, hst⟩ : ∃ st, stt n m K s i = st := ⟨_, rfl⟩
          rw [hst] at K0 HSt HN
          clear hst
          go_wp2_with fail
          refine (addKey_any gp 0 gq 0 gk 0 gr 0 (m + 2) ck cr g cap n i st ks _ hp (by rw [Nat.zero_add]; exact q3) (by rw [Nat.zero_add]; exact K0.out.cell HX.out.1 NE.out.2.2) (K0.out.row (j := 0) rfl) (grown_lf K0.out.1 HX.out.2.1 HGR.out) HSt.out (by rw [HKL.out]; have := H.out.2.1; omega) (by omega) (by have := H.out.2.2.1; omega) (by simpa using NE.out.1) (by simpa using NE.out.2.1) (by simpa using NE.out.2.2) HX.out.2.2).mono ?_
          rintro e w2 ⟨rfl, h, hg⟩
          obtain ⟨a, ha⟩ : ∃ a, addK st ks = a := ⟨_, rfl⟩
          rw [ha] at h
          have HA := Lib.hid ha
          have K2 := Lib.hid (show Rg w w2 (some g) [(g, a)] from K0.out.call (j := 0) rfl hg h)
          have HLA := Lib.hid (show a.length = n from by rw [← ha, length_addK]; exact HSt.out)
          clear h hg hp q0 q1 q2 q3 K0 ha
          obtain ⟨x, r, rfl⟩ : ∃ x r, a = x :: r := by
            have h1 := HLA.out
            have h2 := H.out.2.1
            cases a with
            | nil => simp at h1; omega
            | cons x r => exact ⟨x, r, rfl⟩
          go_wp2_with fail
          refine (sBoxN_any _ g cap n (x :: r) 0 x _ (K2.out.row (j := 0) rfl) rfl HLA.out).mono ?_
          rintro e w4 ⟨rfl, h, hg⟩
          have K4 := Lib.hid (show Rg w w4 (some g) [(g, hd5 (x :: r))] from K2.out.call (j := 0) rfl hg h)
          clear h hg K2
          have hp := K4.out.cell HP.out NE.out.1
          have q0 := K4.out.cell Q.out.1 NE.out.2.1
          have q1 := K4.out.cell Q.out.2.1 NE.out.2.1
          have q2 := K4.out.cell Q.out.2.2.1 NE.out.2.1
          have q3 := K4.out.cell Q.out.2.2.2 NE.out.2.1
          go_wp2_with fail
          refine (intIn_any gp 0 gq 0 g cap n (hd5 (x :: r)) _ hp q0 (K4.out.row (j := 0) rfl) (by rw [length_hd5]; exact HLA.out) H.out.2.1 H.out.2.2.1).mono ?_
          rintro e w6 ⟨rfl, h, hg⟩
          have K6 := Lib.hid (show Rg w w6 (some g) [(g, stt n m K s (i + 1))] from by rw [← HN.out, rndI, HA.out]; exact K4.out.call (j := 0) rfl hg h)
          clear h hg K4 hp q0 q1 q2 q3
          go_wp2_with fail
          go_roundw
          case rel => exact ⟨i + 1, by omega, by omega, by go_num, K6.out⟩
          case measure => simp [intOf] <;> omega
        · obtain rfl : i = m + 1 := by omega
          clear hK
          have hnz : ¬ ((m + 1 : Nat) : Int) < 1 + (m : Int) := by omega
          go_wp2_with fail
          clear hp q0 q1 q2 q3 hnz
          have K1 := K0
          clear K0
          go_loopw [9] (fun v wr => ∃ i : Nat, m + 1 ≤ i ∧ i ≤ m + 2 ∧ v = .int .i64 i ∧ Rg w wr (some g) [(g, stt n m K s i)]) (fun v _ => m + 2 - (intOf v).toNat)
          case atStart => exact ⟨m + 1, Nat.le_refl _, by omega, by go_num, K1.out⟩
          case round =>
            obtain ⟨i, hi1, hi, rfl, hK⟩ := hrel
            have K0 := Lib.hid hK
            clear K1
            have hm := H.out.2.2.2
            have hp := K0.out.cell HP.out NE.out.1
            have q0 := K0.out.cell Q.out.1 NE.out.2.1
            have q1 := K0.out.cell Q.out.2.1 NE.out.2.1
            have q2 := K0.out.cell Q.out.2.2.1 NE.out.2.1
            have q3 := K0.out.cell Q.out.2.2.2 NE.out.2.1
            by_cases hlt : i < m + 2
            · have hlz : (i : Int) < 2 + (m : Int) := by omega
              obtain ⟨ks, hks⟩ : ∃ ks, K[i]? = some ks := ⟨_, List.getElem?_eq_getElem (by have := HSh.out.1; omega)⟩
              obtain ⟨gr, cr, c1, c2, c3⟩ := HK.out i ks hks
              have HX := Lib.hid (And.intro c1 (And.intro c2 c3))
              have hkl := HSh.out.2 i ks hks
              rw [if_neg (by omega)] at hkl
              have HKL := Lib.hid hkl
              have HSt := Lib.hid (length_stt (m := m) (K := K) H.out.1 H.out.2.1 H.out.2.2.1 i)
              have HN := Lib.hid (show rndF (stt n m K s i) ks = stt n m K s (i + 1) from by rw [stt, if_neg (by omega), List.getD_eq_getElem?_getD, hks]; rfl)
              have hgrn : some gr ≠ some g := fun e => c3 (Option.some.inj e)
              have HGR := Lib.hid hgrn
              clear c1 c2 c3 hks hkl hgrn hK
              obtain ⟨st, hst⟩ : ∃ st, stt n m K s i = st := ⟨_, rfl⟩
              rw [hst] at K0 HSt HN
              clear hst
              go_wp2_with fail
              go_quiet (fail)
              go_wp2_with fail
              refine (addKey_any gp 0 gq 0 gk 0 gr 0 (m + 2) ck cr g cap n i st ks _ ((K0.out.drewN _).cell HP.out NE.out.1) (by rw [Nat.zero_add]; exact (K0.out.drewN _).cell Q.out.2.2.2 NE.out.2.1) (by rw [Nat.zero_add]; exact (K0.out.drewN _).cell HX.out.1 NE.out.2.2) ((K0.out.drewN _).row (j := 0) rfl) (grown_lf (K0.out.drewN _).1 HX.out.2.1 HGR.out) HSt.out (by rw [HKL.out]; exact Nat.le_refl _) (by omega) (by have := H.out.2.2.1; omega) (by simpa using NE.out.1) (by simpa using NE.out.2.1) (by simpa using NE.out.2.2) HX.out.2.2).mono ?_
              rintro e w2 ⟨rfl, h, hg⟩
              obtain ⟨a, ha⟩ : ∃ a, addK st ks = a := ⟨_, rfl⟩
              rw [ha] at h
              have HA := Lib.hid ha
              have K2 := Lib.hid (show Rg w w2 (some g) [(g, mixL (a.map p5) a 0)] from by rw [mixL_zero]; exact (K0.out.drewN _).call (j := 0) rfl hg h)
              have HLA := Lib.hid (show a.length = n from by rw [← ha, length_addK]; exact HSt.out)
              clear h hg hp q0 q1 q2 q3 K0 ha
              have hp := K2.out.cell HP.out NE.out.1
              have q0 := K2.out.cell Q.out.1 NE.out.2.1
              have q1 := K2.out.cell Q.out.2.1 NE.out.2.1
              have q2 := K2.out.cell Q.out.2.2.1 NE.out.2.1
              have q3 := K2.out.cell Q.out.2.2.2 NE.out.2.1
              go_wp2_with fail
              clear hp q0 q1 q2 q3
              go_loopw [123] (fun v wr => ∃ j : Nat, j ≤ n ∧ v = .int .i64 j ∧ Rg w wr (some g) [(g, mixL (a.map p5) a j)]) (fun v _ => n - (intOf v).toNat)
              case atStart => exact ⟨0, Nat.zero_le _, rfl, K2.out⟩
              case round =>
                obtain ⟨j, hj, rfl, hK⟩ := hrel
                have K3 := Lib.hid hK
                have hn3 := H.out.2.2.1
                clear K2
                by_cases hlt2 : j < n
                · have hla := HLA.out
                  have hle : (a.map p5).length = a.length := List.length_map ..
                  obtain ⟨x, hx⟩ : ∃ x, a[j]? = some x := ⟨_, List.getElem?_eq_getElem (by omega)⟩
                  have HM := Lib.hid ((mixL_later hle (Nat.le_refl j) (by omega)).trans hx)
                  have HS := Lib.hid (mixL_set hle (show (a.map p5)[j]? = some (p5 x) from by rw [List.getElem?_map, hx]; rfl))
                  have Hl := Lib.hid (show (mixL (a.map p5) a j).length = n from by rw [length_mixL hle (by omega)]; exact hla)
                  clear hx hla hle hK
                  go_wp2_with fail
                  refine (sBoxN_any _ g cap n _ j x _ (K3.out.row (j := 0) rfl) HM.out Hl.out).mono ?_
                  rintro e w4 ⟨rfl, h, hg⟩
                  have K4 := Lib.hid (show Rg w w4 (some g) [(g, mixL (a.map p5) a (j + 1))] from by rw [← HS.out]; exact K3.out.call (j := 0) rfl hg h)
                  clear h hg K3
                  go_wp2_with fail
                  go_roundw
                  case rel => exact ⟨j + 1, by omega, by go_num, K4.out⟩
                  case measure => simp [intOf] <;> omega
                · obtain rfl : n = j := by omega
                  have E : mixL (a.map p5) a n = a.map p5 := by have e := mixL_full (a := a.map p5) (b := a) (List.length_map ..); rw [HLA.out] at e; exact e
                  rw [E] at hK
                  have K5 := Lib.hid hK
                  clear hK K3 E
                  have hp := K5.out.cell HP.out NE.out.1
                  have q0 := K5.out.cell Q.out.1 NE.out.2.1
                  have q1 := K5.out.cell Q.out.2.1 NE.out.2.1
                  have q2 := K5.out.cell Q.out.2.2.1 NE.out.2.1
                  have q3 := K5.out.cell Q.out.2.2.2 NE.out.2.1
                  go_wp2_with fail
                  refine (extIn_any gp 0 gq 0 g cap n (a.map p5) _ hp q0 (K5.out.row (j := 0) rfl) (by rw [List.length_map]; exact HLA.out) H.out.2.1 H.out.2.2.1).mono ?_
                  rintro e w6 ⟨rfl, h, hg⟩
                  have K6 := Lib.hid (show Rg w w6 (some g) [(g, stt n m K s (i + 1))] from by rw [← HN.out, rndF, HA.out]; exact K5.out.call (j := 0) rfl hg h)
                  clear h hg K5 hp q0 q1 q2 q3
                  go_wp2_with fail
                  go_roundw
                  case rel => exact ⟨i + 1, by omega, by omega, by go_num, K6.out⟩
                  case measure => simp [intOf] <;> omega
            · obtain rfl : i = m + 2 := by omega
              clear hK
              have hnz : ¬ ((m + 2 : Nat) : Int) < 2 + (m : Int) := by omega
              go_wp2_with fail
              go_quiet (fail)
              go_wp2_with fail
              go_ret
              exact ⟨rfl, K0.out.row (j := 0) rfl, (K0.out.drewN _).1⟩
end Go.Proofs.YtodofaoaenddgaaDoor
