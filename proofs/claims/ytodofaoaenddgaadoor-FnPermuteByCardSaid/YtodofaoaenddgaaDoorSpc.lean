/-
  The reference's numbers, walked: less, Plus, Small.
-/
import Derived.Test.YtodofaoaenddgaaDoorSpa
import Derived.Deep.RegionWith
import Derived.Deep.RegionHeld3
namespace Go.Proofs.YtodofaoaenddgaaDoor
open Go.RowKit Go.Lib Fr
attribute [local go_sem] setCell_drewN alloc_drewN

theorem num_of_fp {n : Int} (h0 : 0 ≤ n) (h1 : n < fp) : Num n := ⟨h0, by rw [fp_eq] at h1; omega⟩
theorem num_fp : Num fp := by rw [fp_eq]; exact ⟨by decide, by decide⟩
theorem Blk.cells8 {w' : World} {b : Nat} {t : TypeId} {n : Int} (h : Blk w' b t (hws n)) : w'.cell? ⟨b, 0, none⟩ = some (.int .i64 (hw (n) 0)) ∧ w'.cell? ⟨b, 1, none⟩ = some (.int .i64 (hw (n) 1)) ∧ w'.cell? ⟨b, 2, none⟩ = some (.int .i64 (hw (n) 2)) ∧ w'.cell? ⟨b, 3, none⟩ = some (.int .i64 (hw (n) 3)) ∧ w'.cell? ⟨b, 4, none⟩ = some (.int .i64 (hw (n) 4)) ∧ w'.cell? ⟨b, 5, none⟩ = some (.int .i64 (hw (n) 5)) ∧ w'.cell? ⟨b, 6, none⟩ = some (.int .i64 (hw (n) 6)) ∧ w'.cell? ⟨b, 7, none⟩ = some (.int .i64 (hw (n) 7)) :=
  ⟨h.cell 0, h.cell 1, h.cell 2, h.cell 3, h.cell 4, h.cell 5, h.cell 6, h.cell 7⟩
theorem Blk.cells8x2 {w' : World} {b c : Nat} {t u : TypeId} {n m : Int} (h : Blk w' b t (hws n)) (k : Blk w' c u (hws m)) : w'.cell? ⟨b, 0, none⟩ = some (.int .i64 (hw (n) 0)) ∧ w'.cell? ⟨b, 1, none⟩ = some (.int .i64 (hw (n) 1)) ∧ w'.cell? ⟨b, 2, none⟩ = some (.int .i64 (hw (n) 2)) ∧ w'.cell? ⟨b, 3, none⟩ = some (.int .i64 (hw (n) 3)) ∧ w'.cell? ⟨b, 4, none⟩ = some (.int .i64 (hw (n) 4)) ∧ w'.cell? ⟨b, 5, none⟩ = some (.int .i64 (hw (n) 5)) ∧ w'.cell? ⟨b, 6, none⟩ = some (.int .i64 (hw (n) 6)) ∧ w'.cell? ⟨b, 7, none⟩ = some (.int .i64 (hw (n) 7)) ∧ w'.cell? ⟨c, 0, none⟩ = some (.int .i64 (hw (m) 0)) ∧ w'.cell? ⟨c, 1, none⟩ = some (.int .i64 (hw (m) 1)) ∧ w'.cell? ⟨c, 2, none⟩ = some (.int .i64 (hw (m) 2)) ∧ w'.cell? ⟨c, 3, none⟩ = some (.int .i64 (hw (m) 3)) ∧ w'.cell? ⟨c, 4, none⟩ = some (.int .i64 (hw (m) 4)) ∧ w'.cell? ⟨c, 5, none⟩ = some (.int .i64 (hw (m) 5)) ∧ w'.cell? ⟨c, 6, none⟩ = some (.int .i64 (hw (m) 6)) ∧ w'.cell? ⟨c, 7, none⟩ = some (.int .i64 (hw (m) 7)) :=
  ⟨h.cell 0, h.cell 1, h.cell 2, h.cell 3, h.cell 4, h.cell 5, h.cell 6, h.cell 7, k.cell 0, k.cell 1, k.cell 2, k.cell 3, k.cell 4, k.cell 5, k.cell 6, k.cell 7⟩
theorem Blk.frozen8 {w' : World} {b : Nat} {t : TypeId} {n : Int} (h : Blk w' b t (hws n)) : w'.frozen? ⟨b, 0, none⟩ = false ∧ w'.frozen? ⟨b, 1, none⟩ = false ∧ w'.frozen? ⟨b, 2, none⟩ = false ∧ w'.frozen? ⟨b, 3, none⟩ = false ∧ w'.frozen? ⟨b, 4, none⟩ = false ∧ w'.frozen? ⟨b, 5, none⟩ = false ∧ w'.frozen? ⟨b, 6, none⟩ = false ∧ w'.frozen? ⟨b, 7, none⟩ = false :=
  ⟨h.frozen 0, h.frozen 1, h.frozen 2, h.frozen 3, h.frozen 4, h.frozen 5, h.frozen 6, h.frozen 7⟩
/-- What a walk keeps: nothing below the first world's end has turned, and these blocks are known whole. -/
def Kp (w0 w : World) (L : List (Nat × TypeId × Array Value)) : Prop := RowKit.Below w0.heap.size w0 w ∧ ∀ x ∈ L, Blk w x.1 x.2.1 x.2.2
theorem Kp.next {w0 w w' : World} {L : List (Nat × TypeId × Array Value)} (h : Kp w0 w L) (hb : RowKit.Below w.heap.size w w') : Kp w0 w' L :=
  ⟨h.1.trans (hb.mono h.1.size), fun x hx => (h.2 x hx).below hb (h.2 x hx).lt⟩
theorem Kp.drew {w0 w : World} {L : List (Nat × TypeId × Array Value)} (h : Kp w0 w L) : Kp w0 w.drew L := ⟨h.1.drew, h.2⟩
theorem Kp.drewN {w0 w : World} {L : List (Nat × TypeId × Array Value)} (h : Kp w0 w L) (k : Nat) : Kp w0 (w.drewN k) L := ⟨Below.drewN h.1 k, h.2⟩
theorem Kp.b0 {w0 w : World} {L : List (Nat × TypeId × Array Value)} {b : Nat} {t : TypeId} {cs : Array Value} (h : Kp w0 w ((b, t, cs) :: L)) : Blk w b t cs := h.2 (b, t, cs) (List.mem_cons_self ..)
theorem Kp.tl {w0 w : World} {L : List (Nat × TypeId × Array Value)} {x : Nat × TypeId × Array Value} (h : Kp w0 w (x :: L)) : Kp w0 w L := ⟨h.1, fun y hy => h.2 y (List.mem_cons_of_mem _ hy)⟩
theorem Kp.cons {w0 w : World} {L : List (Nat × TypeId × Array Value)} {b : Nat} {t : TypeId} {cs : Array Value} (h : Kp w0 w L) (hb : Blk w b t cs) : Kp w0 w ((b, t, cs) :: L) := ⟨h.1, fun y hy => by
  rcases List.mem_cons.1 hy with rfl | hy
  · exact hb
  · exact h.2 y hy⟩
theorem Kp.nil {w0 w : World} (h : RowKit.Below w0.heap.size w0 w) : Kp w0 w [] := ⟨h, fun _ hy => nomatch hy⟩
theorem Kp.alloc {w0 w : World} {L : List (Nat × TypeId × Array Value)} (h : Kp w0 w L) (cs : Array Value) (t : TypeId) {b : Nat} (hb : b = w.heap.size) : Kp w0 (w.alloc (.cells cs t)) ((b, t, cs) :: L) :=
  Kp.cons ⟨h.1.alloc h.1.size _, fun x hx => (h.2 x hx).alloc _⟩ (Blk.new _ _ _ hb)
theorem Kp.setRow {w0 w : World} {L : List (Nat × TypeId × Array Value)} {b : Nat} {t : TypeId} {cs : Array Value} (h : Kp w0 w ((b, t, cs) :: L)) (hb : w0.heap.size ≤ b) (hL : ∀ x ∈ L, x.1 ≠ b) (cs' : Array Value) : Kp w0 (w.setRow b cs') ((b, t, cs') :: L) :=
  Kp.cons ⟨Below.setRow h.1 hb _, fun x hx => (h.tl.2 x hx).setRow_far (hL x hx) _⟩ (h.b0.setRow _)
theorem Kp.setRow1 {w0 w : World} {L : List (Nat × TypeId × Array Value)} {y : Nat × TypeId × Array Value} {b : Nat} {t : TypeId} {cs : Array Value} (h : Kp w0 w (y :: (b, t, cs) :: L)) (hb : w0.heap.size ≤ b) (hy : y.1 ≠ b) (hL : ∀ x ∈ L, x.1 ≠ b) (cs' : Array Value) :
    Kp w0 (w.setRow b cs') (y :: (b, t, cs') :: L) :=
  Kp.cons (h.tl.setRow hb hL cs') ((h.2 y (List.mem_cons_self ..)).setRow_far hy _)
theorem Blk.far8 {w : World} {b b' : Nat} {t : TypeId} {cs : Array Value} (h : Blk w b t cs) (hne : b ≠ b') (v0 v1 v2 v3 v4 v5 v6 v7 : Value) : Blk ((((((((w.setCell ⟨b', 0, none⟩ (v0)).setCell ⟨b', 1, none⟩ (v1)).setCell ⟨b', 2, none⟩ (v2)).setCell ⟨b', 3, none⟩ (v3)).setCell ⟨b', 4, none⟩ (v4)).setCell ⟨b', 5, none⟩ (v5)).setCell ⟨b', 6, none⟩ (v6)).setCell ⟨b', 7, none⟩ (v7)) b t cs :=
  (((((((h.far hne _).far hne _).far hne _).far hne _).far hne _).far hne _).far hne _).far hne _
theorem Blk.set8 {w : World} {b : Nat} {t : TypeId} {n : Int} (h : Blk w b t (hws n)) (v0 v1 v2 v3 v4 v5 v6 v7 : Value) : Blk ((((((((w.setCell ⟨b, 0, none⟩ (v0)).setCell ⟨b, 1, none⟩ (v1)).setCell ⟨b, 2, none⟩ (v2)).setCell ⟨b, 3, none⟩ (v3)).setCell ⟨b, 4, none⟩ (v4)).setCell ⟨b, 5, none⟩ (v5)).setCell ⟨b, 6, none⟩ (v6)).setCell ⟨b, 7, none⟩ (v7)) b t #[v0, v1, v2, v3, v4, v5, v6, v7] := by
  have h' := (((((((h.set_ 0 v0).set_ 1 v1).set_ 2 v2).set_ 3 v3).set_ 4 v4).set_ 5 v5).set_ 6 v6).set_ 7 v7
  simp only [hws, List.setIfInBounds_toArray, List.set_cons_zero, List.set_cons_succ] at h'
  exact h'
theorem Below.set8 {w : World} {b B : Nat} {w0 : World} (h : RowKit.Below B w0 w) (hb : B ≤ b) (v0 v1 v2 v3 v4 v5 v6 v7 : Value) : RowKit.Below B w0 ((((((((w.setCell ⟨b, 0, none⟩ (v0)).setCell ⟨b, 1, none⟩ (v1)).setCell ⟨b, 2, none⟩ (v2)).setCell ⟨b, 3, none⟩ (v3)).setCell ⟨b, 4, none⟩ (v4)).setCell ⟨b, 5, none⟩ (v5)).setCell ⟨b, 6, none⟩ (v6)).setCell ⟨b, 7, none⟩ (v7)) :=
  RowKit.Below.setCell (RowKit.Below.setCell (RowKit.Below.setCell (RowKit.Below.setCell (RowKit.Below.setCell (RowKit.Below.setCell (RowKit.Below.setCell (RowKit.Below.setCell h hb _) hb _) hb _) hb _) hb _) hb _) hb _) hb _
/-- A loop that goes over two numbers' words: what the round sees. -/
theorem add_mod_fp {a b : Int} (h0 : 0 ≤ a) (h1 : a < fp) (h2 : 0 ≤ b) (h3 : b < fp) : (a + b < fp → (a + b) % fp = a + b) ∧ (¬ a + b < fp → (a + b) % fp = a + b - fp) := by
  rw [fp_eq] at *
  constructor <;> intro h <;> omega

set_option maxHeartbeats 1000000 in
set_option maxRecDepth 100000 in
theorem less_any (a b : Int) (w : World) (ha : Num a) (hb' : Num b) (hle : b ≤ a) : Calls Tryd.prog 50 #[.agg (hws a), .agg (hws b)] w fun e w' =>
    e = .returned (.agg (hws (a - b))) ∧ Below w.heap.size w w' := by
  have hcar := Lib.hid (carried_any (fun i => hw a i - hw b i) · (fun i _ => by have := hw_lo a i; have := hw_hi a i; have := hw_lo b i; have := hw_hi b i; constructor <;> omega)
    (by have := ha.1; have := hb'.1; rw [val8_sub, val8_hw ha.1 ha.2, val8_hw hb'.1 hb'.2]; omega) (by have := ha.2; have := hb'.1; rw [val8_sub, val8_hw ha.1 ha.2, val8_hw hb'.1 hb'.2]; omega))
  rw [val8_sub, val8_hw ha.1 ha.2, val8_hw hb'.1 hb'.2] at hcar
  clear ha hb' hle
  go_enter Tryd.func50, Tryd.ntmps50
  go_wp2_with fail
  go_loopw [6] (fun v wr => ∃ k : Nat, k ≤ 8 ∧ v = .int .i64 k ∧ Blk wr w.heap.size 44 (mix (hw a) (fun i => hw a i - hw b i) k) ∧ Blk wr (w.heap.size + 1) 44 (hws b) ∧ Blk wr (w.heap.size + 1 + 1) 44 (hws 0) ∧ Below w.heap.size w wr) (fun v _ => 8 - (intOf v).toNat)
  case atStart =>
    refine ⟨0, by decide, rfl, ?_, (Blk.new _ _ _ (by simp)).alloc _, Blk.new _ _ (hws 0) (by simp), (((RowKit.Below.refl _ _).alloc (Nat.le_refl _) _).alloc (by simp) _).alloc (by simp; omega) _⟩
    exact ((Blk.new _ _ (mix (hw a) (fun i => hw a i - hw b i) 0) rfl).alloc _).alloc _
  case round =>
    obtain ⟨k, hk', rfl, hB0, hB1, hB2, hb⟩ := hrel
    by_cases hlt : k < 8
    · have ca : wr.cell? ⟨w.heap.size, k, none⟩ = some (.int .i64 (hw a k)) := by rw [hB0.cell]; exact mix_at _ _ hlt
      have cb : wr.cell? ⟨w.heap.size + 1, k, none⟩ = some (.int .i64 (hw b k)) := by rw [hB1.cell]; exact hws_at _ hlt
      have fo := hB0.frozen k
      have l0 := hw_lo a k; have l1 := hw_hi a k; have l2 := hw_lo b k; have l3 := hw_hi b k
      have HB0 := Lib.hid hB0; have HB1 := Lib.hid hB1; have HB2 := Lib.hid hB2
      clear hB0 hB1 hB2
      go_wp2_with fail
      go_region
      go_wp2_with fail
      go_roundw
      case rel =>
        refine ⟨k + 1, by omega, by go_num, ?_, HB1.out.far (by simp) _, HB2.out.far (by simp <;> omega) _, (RowKit.Below.setCell hb (by simp) _).drew⟩
        rw [← mix_step]
        exact HB0.out.set_ _ _
      case measure => simp [intOf]; omega
    · obtain rfl : k = 8 := by omega
      have HB0 := Lib.hid hB0; have HB2 := Lib.hid hB2
      clear hB0 hB1 hB2
      go_wp2_with (first | (refine wpList_load_at rfl 44 _ rfl ⟨w.heap.size, 0, none⟩ rfl (wds fun i => hw a i - hw b i) _ (HB0.out).load Tryd.underlying44 rfl (by kernel_rfl) ?_; go_frame))
      refine (hcar.out _).mono ?_
      rintro e w1 ⟨rfl, h1⟩
      have hs : w.heap.size < wr.heap.size := HB0.out.lt
      have HB2' := Lib.hid (HB2.out.below h1 HB2.out.lt)
      go_wp2_with (first | (refine wpList_store_blk rfl 44 _ _ rfl (w.heap.size + 1 + 1) 44 (hws 0) (hws (a - b)) (HB2'.out) rfl rfl (by kernel_rfl) rfl (one_hws _) ?_; go_frame))
      refine bodyPost_ret (results_blk Tryd.results50 _ _ (HB2'.out.setRow _) rfl Tryd.underlying44 rfl (by kernel_rfl)) rfl ⟨rfl, ?_⟩
      exact Below.setRow (hb.trans (h1.mono (by omega))) (by omega) _

set_option maxHeartbeats 1000000 in
set_option maxRecDepth 100000 in
theorem plus_any (a b : Int) (w : World) (ha0 : 0 ≤ a) (ha1 : a < fp) (hb0 : 0 ≤ b) (hb1 : b < fp) : Calls Tryd.prog 33 #[.agg (hws a), .agg (hws b)] w fun e w' =>
    e = .returned (.agg (hws ((a + b) % fp))) ∧ Below w.heap.size w w' := by
  have ha := num_of_fp ha0 ha1
  have hb' := num_of_fp hb0 hb1
  have hS : Num (a + b) := ⟨by omega, by rw [fp_eq] at ha1 hb1; omega⟩
  have HS := Lib.hid hS
  have HM := Lib.hid (add_mod_fp ha0 ha1 hb0 hb1)
  have hcar := Lib.hid (carried_any (fun i => hw a i + hw b i) · (fun i _ => by have := hw_lo a i; have := hw_hi a i; have := hw_lo b i; have := hw_hi b i; constructor <;> omega)
    (by have := ha.1; have := hb'.1; rw [val8_add, val8_hw ha.1 ha.2, val8_hw hb'.1 hb'.2]; omega) (by have := hS.2; rw [val8_add, val8_hw ha.1 ha.2, val8_hw hb'.1 hb'.2]; omega))
  rw [val8_add, val8_hw ha.1 ha.2, val8_hw hb'.1 hb'.2] at hcar
  clear ha hb' ha0 ha1 hb0 hb1 hS
  go_enter Tryd.func33, Tryd.ntmps33
  go_wp2_with fail
  go_loopw [6] (fun v wr => ∃ k : Nat, k ≤ 8 ∧ v = .int .i64 k ∧ Blk wr w.heap.size 44 (mix (hw a) (fun i => hw a i + hw b i) k) ∧ Blk wr (w.heap.size + 1) 44 (hws b) ∧ Blk wr (w.heap.size + 1 + 1) 44 (hws 0) ∧ Below w.heap.size w wr) (fun v _ => 8 - (intOf v).toNat)
  case atStart =>
    refine ⟨0, by decide, rfl, ?_, (Blk.new _ _ _ (by simp)).alloc _, Blk.new _ _ (hws 0) (by simp), (((RowKit.Below.refl _ _).alloc (Nat.le_refl _) _).alloc (by simp) _).alloc (by simp; omega) _⟩
    exact ((Blk.new _ _ (mix (hw a) (fun i => hw a i + hw b i) 0) rfl).alloc _).alloc _
  case round =>
    obtain ⟨k, hk', rfl, hB0, hB1, hB2, hb⟩ := hrel
    by_cases hlt : k < 8
    · have ca : wr.cell? ⟨w.heap.size, k, none⟩ = some (.int .i64 (hw a k)) := by rw [hB0.cell]; exact mix_at _ _ hlt
      have cb : wr.cell? ⟨w.heap.size + 1, k, none⟩ = some (.int .i64 (hw b k)) := by rw [hB1.cell]; exact hws_at _ hlt
      have fo := hB0.frozen k
      have l0 := hw_lo a k; have l1 := hw_hi a k; have l2 := hw_lo b k; have l3 := hw_hi b k
      have HB0 := Lib.hid hB0; have HB1 := Lib.hid hB1; have HB2 := Lib.hid hB2
      clear hB0 hB1 hB2
      go_wp2_with fail
      go_region
      go_wp2_with fail
      go_roundw
      case rel =>
        refine ⟨k + 1, by omega, by go_num, ?_, HB1.out.far (by simp) _, HB2.out.far (by simp <;> omega) _, (RowKit.Below.setCell hb (by simp) _).drew⟩
        rw [← mix_step]
        exact HB0.out.set_ _ _
      case measure => simp [intOf]; omega
    · obtain rfl : k = 8 := by omega
      have HB0 := Lib.hid hB0; have HB2 := Lib.hid hB2
      clear hB0 hB1 hB2
      go_wp2_with (first | (refine wpList_load_at rfl 44 _ rfl ⟨w.heap.size, 0, none⟩ rfl (wds fun i => hw a i + hw b i) _ (HB0.out).load Tryd.underlying44 rfl (by kernel_rfl) ?_; go_frame))
      refine (hcar.out _).mono ?_
      rintro e w1 ⟨rfl, h1⟩
      have hs : w.heap.size < wr.heap.size := HB0.out.lt
      have HB0' := Lib.hid (HB0.out.below h1 HB0.out.lt)
      have HB2' := Lib.hid (HB2.out.below h1 HB2.out.lt)
      have hb1 := Lib.hid (hb.trans (h1.mono (by omega)))
      clear hb h1 hs
      go_wp2_with (first | (refine wpList_store_blk rfl 44 _ _ rfl (w.heap.size) 44 (wds fun i => hw a i + hw b i) (hws (a + b)) (HB0'.out) rfl rfl (by kernel_rfl) rfl (one_hws _) ?_; go_frame))
      have K2 := Lib.hid (Kp.setRow (cs := wds fun i => hw a i + hw b i) (((Kp.nil hb1.out).cons HB2'.out).cons HB0'.out) (Nat.le_refl _) (fun x hx => by rw [List.mem_singleton] at hx; subst hx; simp <;> omega) (hws (a + b)))
      clear HB0 HB0' HB2 HB2' hb1
      generalize w1.setRow w.heap.size (hws (a + b)) = w2 at *
      have KD := Lib.hid K2.out.drew
      clear K2
      go_region_held3 (fun w' => w'.cell? ⟨w.heap.size, 0, none⟩ = some (.int .i64 (hw (a + b) 0)) ∧ w'.cell? ⟨w.heap.size, 1, none⟩ = some (.int .i64 (hw (a + b) 1)) ∧ w'.cell? ⟨w.heap.size, 2, none⟩ = some (.int .i64 (hw (a + b) 2)) ∧ w'.cell? ⟨w.heap.size, 3, none⟩ = some (.int .i64 (hw (a + b) 3)) ∧ w'.cell? ⟨w.heap.size, 4, none⟩ = some (.int .i64 (hw (a + b) 4)) ∧ w'.cell? ⟨w.heap.size, 5, none⟩ = some (.int .i64 (hw (a + b) 5)) ∧ w'.cell? ⟨w.heap.size, 6, none⟩ = some (.int .i64 (hw (a + b) 6)) ∧ w'.cell? ⟨w.heap.size, 7, none⟩ = some (.int .i64 (hw (a + b) 7))) (first | exact Blk.cells8 K4.out.b0 | exact Blk.cells8 K3.out.b0 | exact Blk.cells8 KD.out.b0)
        (first
          | (go_at_call 41; refine (prime_any _).mono ?_; rintro e w3 ⟨rfl, h3⟩; have K3 := Lib.hid (KD.out.next h3))
          | (go_at_call 40; refine (below_any _ _ _ HS.out num_fp).mono ?_; rintro e w4 ⟨rfl, h4⟩; have K4 := Lib.hid (K3.out.next h4)))
      clear h3 h4 K3 KD
      by_cases hlt : a + b < fp
      · have e1 := Lib.hid (HM.out.1 hlt)
        rw [decide_eq_true hlt]
        go_wp2_with (first | (refine wpList_load_at rfl 44 _ rfl ⟨w.heap.size, 0, none⟩ rfl (hws (a + b)) _ (K4.out.b0).load Tryd.underlying44 rfl (by kernel_rfl) ?_; go_frame) | (refine wpList_store_blk rfl 44 _ _ rfl (w.heap.size + 1 + 1) 44 (hws 0) (hws (a + b)) (K4.out.tl.b0) rfl rfl (by kernel_rfl) rfl (one_hws _) ?_; go_frame))
        rw [e1.out]
        refine bodyPost_ret (results_blk Tryd.results33 _ _ (K4.out.tl.b0.setRow _) rfl Tryd.underlying44 rfl (by kernel_rfl)) rfl ⟨rfl, ?_⟩
        exact Below.setRow K4.out.1 (by omega) _
      · have e1 := Lib.hid (HM.out.2 (by omega))
        have HL := Lib.hid (show fp ≤ a + b by omega)
        rw [decide_eq_false hlt]
        clear hlt
        go_wp2_with fail
        have KD := Lib.hid K4.out.drew
        clear K4
        go_region_held3 (fun w' => w'.cell? ⟨w.heap.size, 0, none⟩ = some (.int .i64 (hw (a + b) 0)) ∧ w'.cell? ⟨w.heap.size, 1, none⟩ = some (.int .i64 (hw (a + b) 1)) ∧ w'.cell? ⟨w.heap.size, 2, none⟩ = some (.int .i64 (hw (a + b) 2)) ∧ w'.cell? ⟨w.heap.size, 3, none⟩ = some (.int .i64 (hw (a + b) 3)) ∧ w'.cell? ⟨w.heap.size, 4, none⟩ = some (.int .i64 (hw (a + b) 4)) ∧ w'.cell? ⟨w.heap.size, 5, none⟩ = some (.int .i64 (hw (a + b) 5)) ∧ w'.cell? ⟨w.heap.size, 6, none⟩ = some (.int .i64 (hw (a + b) 6)) ∧ w'.cell? ⟨w.heap.size, 7, none⟩ = some (.int .i64 (hw (a + b) 7))) (first | (with_reducible exact Blk.cells8 K6.out.b0) | (with_reducible exact Blk.cells8 K5.out.b0) | (with_reducible exact Blk.cells8 KD.out.b0) | (with_reducible exact Blk.cells8 (Blk.far8 K6.out.b0 (by omega) _ _ _ _ _ _ _ _)))
          (first
            | (go_at_call 41; refine (prime_any _).mono ?_; rintro e w5 ⟨rfl, h5⟩; have K5 := Lib.hid (KD.out.next h5))
            | (go_at_call 50; refine (less_any _ _ _ HS.out num_fp HL.out).mono ?_; rintro e w6 ⟨rfl, h6⟩; have K6 := Lib.hid (K5.out.next h6); (obtain ⟨z0, z1, z2, z3, z4, z5, z6, z7⟩ := Blk.cells8 (K6.out.tl.b0); obtain ⟨f0, f1, f2, f3, f4, f5, f6, f7⟩ := Blk.frozen8 (K6.out.tl.b0))))
        go_wp2_with fail
        refine bodyPost_ret (results_blk Tryd.results33 _ _ (Blk.set8 K6.out.tl.b0 _ _ _ _ _ _ _ _) rfl Tryd.underlying44 rfl (by kernel_rfl)) rfl ⟨?_, ?_⟩
        · rw [e1.out]
        · exact Below.set8 K6.out.1 (by omega) _ _ _ _ _ _ _ _
end Go.Proofs.YtodofaoaenddgaaDoor
