/-
  The permutation's inner matrix of width 4 with a given diagonal, walked.
-/
import Derived.Test.YtodofaoaenddgaaDoorImf
import Derived.Test.YtodofaoaenddgaaDoorImd
import Derived.Test.YtodofaoaenddgaaDoorIme
namespace Go.Proofs.YtodofaoaenddgaaDoor
open Go.RowKit Go.Lib Fr
attribute [local go_sem] setCell_drewN alloc_drewN

/-- The first k of one list, and another one's behind them. -/
def mixL (a b : List Int) (k : Nat) : List Int := a.take k ++ b.drop k
theorem mixL_zero (a b : List Int) : mixL a b 0 = b := by simp [mixL]
theorem mixL_full {a b : List Int} (h : a.length = b.length) : mixL a b b.length = a := by simp [mixL, ← h]
theorem length_mixL {a b : List Int} (h : a.length = b.length) {k : Nat} (hk : k ≤ b.length) : (mixL a b k).length = b.length := by simp [mixL]; omega
theorem mixL_later {a b : List Int} (h : a.length = b.length) {k j : Nat} (hk : k ≤ j) (hj : j < b.length) : (mixL a b k)[j]? = b[j]? := by
  rw [mixL, List.getElem?_append_right (by rw [List.length_take]; omega), List.getElem?_drop, List.length_take]
  congr 1; omega
theorem mixL_set {a b : List Int} (h : a.length = b.length) {k : Nat} {y : Int} (hy : a[k]? = some y) : (mixL a b k).set k y = mixL a b (k + 1) := by
  have hk : k < a.length := (List.getElem?_eq_some_iff.1 hy).1
  have e1 : a.take (k + 1) = a.take k ++ [y] := by rw [List.take_add_one, hy]; rfl
  have e2 : b.drop k = b[k]'(by omega) :: b.drop (k + 1) := (List.getElem_cons_drop (by omega)).symm
  rw [mixL, mixL, e1, e2, List.set_append_right _ _ (by rw [List.length_take]; omega), List.length_take, show k - min k a.length = 0 from by omega, List.set_cons_zero, List.append_assoc]
  rfl
theorem grown_el {w w' : World} {row : Option Nat} (h : w.grownBy w' row) {g o : Nat} {n : Int} (he : El w g o n) (hg : some g ≠ row) : El w' g o n := At4.keep he (h.block g (At4.lt he) hg)
theorem Rg.mulE {w0 w : World} {row : Option Nat} {L : List (Nat × List Int)} (h : Rg w0 w row L) (jz iz jx ix : Nat) {bz bx gy oz ox oy : Nat} {nz nx : List Int} {x y : Int}
    (hz : L[jz]? = some (bz, nz)) (hx : L[jx]? = some (bx, nx)) (hy : El w0 gy oy y) (hgy : some gy ≠ row) (hiz : iz < nz.length) (hix : nx[ix]? = some x) (ez : oz = iz * 4) (ex : ox = ix * 4) :
    Calls Tryd.prog 60 #[.pointer (some ⟨bz, oz, none⟩), .pointer (some ⟨bx, ox, none⟩), .pointer (some ⟨gy, oy, none⟩)] w fun e w' =>
      e = .returned (.pointer (some ⟨bz, oz, none⟩)) ∧ Rg w0 w' row (L.set jz (bz, nz.set iz (x * y % fp))) :=
  (mul_any bz oz bx ox gy oy x y w (h.el hx hix ex) (grown_el h.1 hy hgy) (h.wr hz hiz ez)).mono fun e w' ⟨he, k, hw⟩ => ⟨he, by rw [hw]; exact (h.put hz hiz ez _).drewN k⟩
theorem Rg.addE {w0 w : World} {row : Option Nat} {L : List (Nat × List Int)} (h : Rg w0 w row L) (jz iz jx ix : Nat) {bz bx gy oz ox oy : Nat} {nz nx : List Int} {x y : Int}
    (hz : L[jz]? = some (bz, nz)) (hx : L[jx]? = some (bx, nx)) (hy : El w0 gy oy y) (hgy : some gy ≠ row) (hiz : iz < nz.length) (hix : nx[ix]? = some x) (ez : oz = iz * 4) (ex : ox = ix * 4) (eyz : gy ≠ bz) :
    Calls Tryd.prog 57 #[.pointer (some ⟨bz, oz, none⟩), .pointer (some ⟨bx, ox, none⟩), .pointer (some ⟨gy, oy, none⟩)] w fun e w' =>
      e = .returned (.pointer (some ⟨bz, oz, none⟩)) ∧ Rg w0 w' row (L.set jz (bz, nz.set iz ((x + y) % fp))) :=
  (add_any bz oz bx ox gy oy x y w (h.el hx hix ex) (grown_el h.1 hy hgy) (h.wr hz hiz ez) (ap4 ez ex) (.blocks fun e => eyz e.symm)).mono fun e w' ⟨he, k, hw⟩ => ⟨he, by rw [hw]; exact (h.put hz hiz ez _).drewN k⟩
theorem int_at {ds ns : List Int} {k : Nat} {d n : Int} (h1 : ds[k]? = some d) (h2 : ns[k]? = some n) : (intL ds ns)[k]? = some ((n * d % fp + tot ns) % fp) := by
  rw [intL_at h1 h2, Int.mul_comm]
theorem tot_one {n : Int} (h0 : 0 ≤ n) (h1 : n < fp) : tot [n] = n := by
  show (0 + n) % fp = n
  rw [Int.zero_add, Int.emod_eq_of_lt h0 h1]

set_option maxHeartbeats 1000000 in
set_option maxRecDepth 100000 in
theorem int4_any (gp op gq oq g cap gd od capd : Nat) (ns ds : List Int) (w : World) (hp : w.cell? ⟨gp, op, none⟩ = some (.pointer (some ⟨gq, oq, none⟩))) (hq : w.cell? ⟨gq, oq, none⟩ = some (.int .i64 4))
    (hd : w.cell? ⟨gq, oq + 4, none⟩ = some (.slice (some ⟨gd, od, none⟩) 4 capd)) (hr : Row w g ns) (hl : LF w gd od ds) (hn : ns.length = 4) (hdn : ds.length = 4) (n1 : gp ≠ g) (n2 : gq ≠ g) (n3 : gd ≠ g)
    (hb : ∀ n ∈ ns, 0 ≤ n ∧ n < fp) :
    Calls Tryd.prog 51 #[.pointer (some ⟨gp, op, none⟩), .slice (some ⟨g, 0, none⟩) 4 cap] w fun e w' =>
      e = .returned (.tuple #[]) ∧ Row w' g (intL ds ns) ∧ w.grownBy w' (some g) := by
  have K0 := Lib.hid (show Rg w (w.alloc (.cells #[.int .u64 0, .int .u64 0, .int .u64 0, .int .u64 0] 69)) (some g) [(w.heap.size, [0]), (g, ns)] from
    ((Rg.nil (World.grownBy.refl w (some g))).cons hr (.inl rfl) (fun x hx => nomatch hx)).alloc [0] zero_row rfl)
  obtain ⟨n0, h0⟩ : ∃ n, ns[0]? = some n := ⟨_, List.getElem?_eq_getElem (by omega)⟩
  have H0 := Lib.hid h0
  have HT1 := Lib.hid (show tot (ns.take 1) = n0 from by rw [List.take_add_one, h0]; exact tot_one (hb n0 (List.mem_of_getElem? h0)).1 (hb n0 (List.mem_of_getElem? h0)).2)
  have HP := Lib.hid hp
  have HQ := Lib.hid hq
  have HD := Lib.hid hd
  have HL := Lib.hid hl
  have HN := Lib.hid (And.intro hn hdn)
  have NE := Lib.hid (And.intro (show some gp ≠ some g from fun e => n1 (Option.some.inj e)) (And.intro (show some gq ≠ some g from fun e => n2 (Option.some.inj e)) (show some gd ≠ some g from fun e => n3 (Option.some.inj e))))
  clear hr hl hn hdn n1 n2 n3 hb h0
  go_enter Tryd.func51, Tryd.ntmps51
  go_wp2_with fail
  go_quiet (fail)
  go_wp2_with fail
  refine ((K0.out.drewN _).set_ 0 0 1 0 rfl rfl (by simp) H0.out rfl rfl).mono ?_
  rintro e w1 ⟨rfl, h1⟩
  have K1 := Lib.hid (show Rg w w1 (some g) [(w.heap.size, [tot (ns.take 1)]), (g, ns)] from HT1.out ▸ h1)
  clear h1 K0 hp hq hd
  go_wp2_with fail
  go_loopw [7] (fun v wr => ∃ k : Nat, 1 ≤ k ∧ k ≤ 4 ∧ v = .int .i64 k ∧ Rg w wr (some g) [(w.heap.size, [tot (ns.take k)]), (g, ns)]) (fun v _ => 4 - (intOf v).toNat)
  case atStart => exact ⟨1, by decide, by decide, rfl, K1.out⟩
  case round =>
    obtain ⟨k, hk1, hk4, rfl, hK⟩ := hrel
    have K := Lib.hid hK
    have hp := hK.cell HP.out NE.out.1
    have hq := hK.cell HQ.out NE.out.2.1
    clear hK K1
    by_cases hlt : k < 4
    · obtain ⟨n, hn'⟩ : ∃ n, ns[k]? = some n := ⟨_, List.getElem?_eq_getElem (by have := HN.out.1; omega)⟩
      have HT := Lib.hid (tot_take hn')
      have HE := Lib.hid hn'
      clear hn'
      go_wp2_with fail
      refine (K.out.add 0 0 0 0 1 k rfl rfl rfl (by simp) rfl HE.out rfl rfl rfl).mono ?_
      rintro e w2 ⟨rfl, h2⟩
      have K2 := Lib.hid (show Rg w w2 (some g) [(w.heap.size, [tot (ns.take (k + 1))]), (g, ns)] from HT.out ▸ h2)
      clear h2 K hp hq
      go_wp2_with fail
      go_roundw
      case rel => exact ⟨k + 1, by omega, by omega, by go_num, K2.out⟩
      case measure => simp [intOf] <;> omega
    · obtain rfl : k = 4 := by omega
      have E : ns.take 4 = ns := by rw [List.take_of_length_le]; have := HN.out.1; omega
      rw [E] at K
      clear E
      have KK := Lib.hid (show Rg w wr (some g) [(w.heap.size, [tot ns]), (g, mixL (intL ds ns) ns 0)] from by rw [mixL_zero]; exact K.out)
      clear K
      rw [show ((4 : Nat) : Int) = 4 from rfl]
      go_wp2_with fail
      go_loopw [58] (fun v wr => ∃ k : Nat, k ≤ 4 ∧ v = .int .i64 k ∧ Rg w wr (some g) [(w.heap.size, [tot ns]), (g, mixL (intL ds ns) ns k)]) (fun v _ => 4 - (intOf v).toNat)
      case atStart => exact ⟨0, by decide, rfl, KK.out⟩
      case round =>
        clear KK hp hq
        obtain ⟨k, hk4, rfl, hK⟩ := hrel
        have K := Lib.hid hK.drew
        have hp := hK.cell HP.out NE.out.1
        have hd := hK.cell HD.out NE.out.2.1
        have hle : (intL ds ns).length = ns.length := length_intL (by rw [HN.out.1, HN.out.2])
        by_cases hlt : k < 4
        · obtain ⟨n, hn'⟩ : ∃ n, ns[k]? = some n := ⟨_, List.getElem?_eq_getElem (by have := HN.out.1; omega)⟩
          obtain ⟨d, hd'⟩ : ∃ d, ds[k]? = some d := ⟨_, List.getElem?_eq_getElem (by have := HN.out.2; omega)⟩
          have HM := Lib.hid ((mixL_later hle (Nat.le_refl k) (by have := HN.out.1; omega)).trans hn')
          have HS := Lib.hid (mixL_set hle (int_at hd' hn'))
          have HX := Lib.hid (HL.out k d hd')
          have Hl := Lib.hid (show k < (mixL (intL ds ns) ns k).length from by rw [length_mixL hle (by have := HN.out.1; omega)]; have := HN.out.1; omega)
          have hlt0 : (k : Int) < 4 := by omega
          clear hn' hd' hK hle
          go_wp2_with fail
          go_region_held3 (fun w' => w'.cell? ⟨gp, op, none⟩ = some (.pointer (some ⟨gq, oq, none⟩)) ∧ w'.cell? ⟨gq, oq + 4, none⟩ = some (.slice (some ⟨gd, od, none⟩) 4 capd))
            (first | exact ⟨K3.out.cell HP.out NE.out.1, K3.out.cell HD.out NE.out.2.1⟩ | exact ⟨K2.out.cell HP.out NE.out.1, K2.out.cell HD.out NE.out.2.1⟩ | exact ⟨K.out.cell HP.out NE.out.1, K.out.cell HD.out NE.out.2.1⟩)
            (first
              | (go_at_call 57; refine (K2.out.add 1 k 1 k 0 0 rfl rfl rfl (len_set Hl.out _) (set_at Hl.out _) rfl rfl rfl rfl).mono ?_; rintro e w3 ⟨rfl, h3⟩; have K3 := Lib.hid h3; clear h3)
              | (go_at_call 60; refine (K.out.mulE 1 k 1 k rfl rfl HX.out NE.out.2.2 Hl.out HM.out rfl rfl).mono ?_; rintro e w2 ⟨rfl, h2⟩; have K2 := Lib.hid h2; clear h2))
          go_wp2_with fail
          go_roundw
          case rel =>
            refine ⟨k + 1, by omega, by go_num, ?_⟩
            have h := K3.out
            rw [show ∀ (x y : Nat × List Int) (z u : Nat × List Int), (([x, y].set 1 z).set 1 u) = [x, u] from fun _ _ _ _ => rfl, List.set_set, HS.out] at h
            exact h
          case measure => simp [intOf] <;> omega
        · obtain rfl : k = 4 := by omega
          have E : mixL (intL ds ns) ns 4 = intL ds ns := by have h4 := mixL_full hle; rw [HN.out.1] at h4; exact h4
          rw [E] at hK
          have KK := Lib.hid hK
          clear hK hle E hp hd K
          go_wp2_with fail
          go_end0
          exact ⟨rfl, KK.out.row (j := 1) rfl, KK.out.1⟩
end Go.Proofs.YtodofaoaenddgaaDoor
