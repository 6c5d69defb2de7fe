/-
  addRoundKeyInPlace, walked: a round's keys are added to a row.
-/
import Derived.Test.YtodofaoaenddgaaDoorImh
namespace Go.Proofs.YtodofaoaenddgaaDoor
open Go.RowKit Go.Lib Fr
attribute [local go_sem] setCell_drewN alloc_drewN

/-- Keys added to as many elements as there are keys. -/
def addK : List Int → List Int → List Int
  | s, [] => s
  | [], _ :: _ => []
  | a :: s, k :: ks => (a + k) % fp :: addK s ks
theorem length_addK : ∀ s ks : List Int, (addK s ks).length = s.length
  | s, [] => by cases s <;> rfl
  | [], _ :: _ => rfl
  | a :: s, k :: ks => by simp only [addK, List.length_cons, length_addK s ks]
theorem addK_at : ∀ (s ks : List Int) (i : Nat) (a k : Int), s[i]? = some a → ks[i]? = some k → (addK s ks)[i]? = some ((a + k) % fp)
  | _, [], i, a, k, _, h => by simp at h
  | [], _ :: _, i, a, k, h, _ => by simp at h
  | x :: s, y :: ks, 0, a, k, h1, h2 => by
    simp only [List.getElem?_cons_zero, Option.some.injEq] at h1 h2
    subst h1; subst h2; rfl
  | x :: s, y :: ks, i + 1, a, k, h1, h2 => by
    simp only [List.getElem?_cons_succ] at h1 h2
    simpa only [addK, List.getElem?_cons_succ] using addK_at s ks i a k h1 h2
theorem addK_drop : ∀ s ks : List Int, (addK s ks).drop ks.length = s.drop ks.length
  | s, [] => by cases s <;> rfl
  | [], _ :: _ => by simp [addK]
  | a :: s, k :: ks => by simpa [addK] using addK_drop s ks
theorem mixL_addK (s ks : List Int) : mixL (addK s ks) s ks.length = addK s ks := by
  rw [mixL, ← addK_drop, List.take_append_drop]

set_option maxHeartbeats 1000000 in
set_option maxRecDepth 100000 in
theorem addKey_any (gp op gq oq gk ok gr or_ nk ck cr g cap n : Nat) (r : Nat) (s ks : List Int) (w : World) (hp : w.cell? ⟨gp, op, none⟩ = some (.pointer (some ⟨gq, oq, none⟩)))
    (hk : w.cell? ⟨gq, oq + 3, none⟩ = some (.slice (some ⟨gk, ok, none⟩) nk ck)) (hc : w.cell? ⟨gk, ok + r, none⟩ = some (.slice (some ⟨gr, or_, none⟩) ks.length cr)) (hr : Row w g s) (hl : LF w gr or_ ks) (hn : s.length = n) (hks : ks.length ≤ n) (hrk : r < nk) (hn6 : n ≤ 65536)
    (n1 : gp ≠ g) (n2 : gq ≠ g) (n3 : gk ≠ g) (n4 : gr ≠ g) :
    Calls Tryd.prog 66 #[.pointer (some ⟨gp, op, none⟩), .int .i64 r, .slice (some ⟨g, 0, none⟩) n cap] w fun e w' =>
      e = .returned (.tuple #[]) ∧ Row w' g (addK s ks) ∧ w.grownBy w' (some g) := by
  have K0 := Lib.hid (show Rg w w (some g) [(g, mixL (addK s ks) s 0)] from (Rg.nil (World.grownBy.refl w (some g))).cons (by rw [mixL_zero]; exact hr) (.inl rfl) (fun x hx => nomatch hx))
  have HP := Lib.hid hp
  have HK := Lib.hid hk
  have HC := Lib.hid hc
  have HL := Lib.hid hl
  have HN := Lib.hid hn
  have hr0 : (0 : Int) ≤ (r : Int) := by omega
  have hr1 : (r : Int) < (nk : Int) := by omega
  have NE := Lib.hid (And.intro (show some gp ≠ some g from fun e => n1 (Option.some.inj e)) (And.intro (show some gq ≠ some g from fun e => n2 (Option.some.inj e)) (And.intro (show some gk ≠ some g from fun e => n3 (Option.some.inj e)) (show some gr ≠ some g from fun e => n4 (Option.some.inj e)))))
  have HG := Lib.hid n4
  clear hr hl hn n1 n2 n3 n4
  go_enter Tryd.func66, Tryd.ntmps66
  go_wp2_with fail
  clear hp hk hc
  go_loopw [18] (fun v wr => ∃ i : Nat, i ≤ ks.length ∧ v = .int .i64 i ∧ Rg w wr (some g) [(g, mixL (addK s ks) s i)]) (fun v _ => ks.length - (intOf v).toNat)
  case atStart => exact ⟨0, Nat.zero_le _, rfl, K0.out⟩
  case round =>
    obtain ⟨i, hi', rfl, hK⟩ := hrel
    have K1 := Lib.hid hK.drew
    clear K0
    by_cases hlt : i < ks.length
    · have hnn := HN.out
      obtain ⟨a, ha⟩ : ∃ a, s[i]? = some a := ⟨_, List.getElem?_eq_getElem (by omega)⟩
      obtain ⟨k, hkk⟩ : ∃ k, ks[i]? = some k := ⟨_, List.getElem?_eq_getElem hlt⟩
      have hle := length_addK s ks
      have HM := Lib.hid ((mixL_later hle (Nat.le_refl i) (by omega)).trans ha)
      have HS := Lib.hid (mixL_set hle (addK_at s ks i a k ha hkk))
      have HX := Lib.hid (HL.out i k hkk)
      have Hl := Lib.hid (show i < (mixL (addK s ks) s i).length from by rw [length_mixL hle (by omega)]; omega)
      have i0 : (0 : Int) ≤ (i : Int) := by omega
      have i1 : (i : Int) < (n : Int) := by omega
      have i2 : (i : Int) < (ks.length : Int) := by omega
      clear ha hkk hle hK hnn
      go_wp2_with fail
      go_region_held3 (fun w' => w'.cell? ⟨gp, op, none⟩ = some (.pointer (some ⟨gq, oq, none⟩)) ∧ w'.cell? ⟨gq, oq + 3, none⟩ = some (.slice (some ⟨gk, ok, none⟩) nk ck) ∧ w'.cell? ⟨gk, ok + r, none⟩ = some (.slice (some ⟨gr, or_, none⟩) ks.length cr))
        (first | exact ⟨K2.out.cell HP.out NE.out.1, K2.out.cell HK.out NE.out.2.1, K2.out.cell HC.out NE.out.2.2.1⟩ | exact ⟨K1.out.cell HP.out NE.out.1, K1.out.cell HK.out NE.out.2.1, K1.out.cell HC.out NE.out.2.2.1⟩)
        (first | (go_at_call 57; refine (K1.out.addE 0 i 0 i rfl rfl HX.out NE.out.2.2.2 Hl.out HM.out rfl rfl HG.out).mono ?_; rintro e w2 ⟨rfl, h2⟩; have K2 := Lib.hid h2; clear h2))
      go_wp2_with fail
      go_roundw
      case rel =>
        refine ⟨i + 1, by omega, by go_num, ?_⟩
        have h := K2.out
        rw [show ∀ (x y : Nat × List Int), ([x].set 0 y) = [y] from fun _ _ => rfl, HS.out] at h
        exact h
      case measure => simp [intOf] <;> omega
    · obtain rfl : i = ks.length := by omega
      rw [mixL_addK] at hK
      have K2 := Lib.hid hK
      clear hK K1
      go_wp2_with fail
      go_end0
      exact ⟨rfl, K2.out.row (j := 0) rfl, K2.out.1⟩
end Go.Proofs.YtodofaoaenddgaaDoor
