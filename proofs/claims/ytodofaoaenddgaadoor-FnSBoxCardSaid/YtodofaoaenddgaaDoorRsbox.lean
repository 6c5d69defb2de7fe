/-
  WHAT IS PROVED: called with any array of 32 bytes, 'laws.FnSBox' returns true, and the array and the error variable read behind the call as they did before. CONDITIONS: the row's own (the listed error variable starts as the program's text lays it, which the card ties).
-/
import Derived.Test.YtodofaoaenddgaaDoorRc
import Derived.Test.YtodofaoaenddgaaDoorLx
import Derived.Test.YtodofaoaenddgaaDoorCards
import Derived.Test.YtodofaoaenddgaaDoorTie
import Derived.SevenTiedAt
namespace Go.Proofs.YtodofaoaenddgaaDoor
open Go.ChangeShapes Go.WideShapes Go.ChangeAt Go.WideElems Go.RowKit Go.Deep Fr

set_option maxRecDepth 100000 in
theorem fnSBox_lifted (os : Os) (started : os.Started) (H : Type) (enc : TypeId × Value → H) :
    ReturnsInHanded {} Tryd.checked os 8 .any (fun w args => (Rows.fnSBoxSpec.pre enc Tryd.prog Tryd.f8 [] false w args ∧ laidMetH Tryd.prog Rows.fnSBoxRow.laid w) ∧ sizedMet enc Tryd.prog Tryd.f8 (OpenSpec.ofChange Rows.fnSBoxSpec) false w args)
      (Rows.fnSBoxSpec.post enc Tryd.prog Tryd.f8 false true false false) := by
  refine returnsInHanded_of_change_and (C := Tryd.checked) (X := fun w _ => laidMetH Tryd.prog Rows.fnSBoxRow.laid w) (fun _ _ _ hh h => h.of_heap hh) own started (by kernel_rfl) Tryd.func8
    (ChangeSpec.witness_shaped (enc := enc) (C := Tryd.checked) (os := os) (X := fun w _ => laidMetH Tryd.prog Rows.fnSBoxRow.laid w) false (World.doorLaid Tryd.prog 400 os) #[.agg (bts 0)] 8 rfl (World.shaped_of_RefB (by kernel_rfl) (by kernel_rfl)) (by kernel_rfl) (by kernel_rfl) (by kernel_rfl) (door_met os _)) ?_
  intro W base args ds gs before hval0 hW _ _ _ _
  have hval : ∀ (j : Nat) t v, Tryd.f8.params[j]? = some t → args[j]? = some v → Value.okWide Tryd.prog W .any base t v := hval0
  have hW' := hW
  obtain ⟨p, q, hA0, hV, rfl, hfz, hnd⟩ := hW
  have hA : DataW.TrodAll enc Tryd.prog W 0 (fun _ => true) true Tryd.f8.params.toList args.toList ds p := hA0
  rw [Tryd.params8] at hA hval
  obtain ⟨v0, d0, rfl, rfl, h0⟩ := trodAll_one hA
  obtain ⟨y0, rfl⟩ := one_var hV
  have hlt : ∀ x ∈ p, x.block < W.heap.size := fun x hx => hW'.lt x (List.mem_append.2 (.inl hx))
  obtain ⟨n0, rfl, hn0⟩ := open_b32v (hval 0 38 v0 rfl rfl) h0
  have fin : ∀ W' : World, RowKit.Below W.heap.size W W' → Rows.fnSBoxSpec.post enc Tryd.prog Tryd.f8 false true false false W _ (.bool true) W' := fun W' hb =>
    ⟨_, _, _, [], _, _, hW', trodAll_mk1 (shut_bool Tryd.underlying4 true), trodAll_mk1 (Below.trod laidOut (by kernel_rfl) (of_decide_eq_true (by kernel_rfl)) h0 hb hlt), Below.trodVars laidOut hb (by kernel_rfl) hV, hb.frame _, fun h => by cases h⟩
  refine (fnSBox_any n0 W hn0).mono fun e W' ⟨he, hb⟩ => ?_
  subst he
  exact ⟨_, rfl, fin W' hb⟩

theorem fnSBox_holds : Rows.FnSBoxSaid :=
  OpenClaim.holds_of_wide 8 Tryd.f8 rfl rfl rfl rfl rfl rfl rfl ⟨rfl, rfl, rfl, rfl, rfl⟩ rfl rfl rfl rfl rfl (by kernel_rfl) Tryd.func8 (by kernel_rfl)
    (of_decide_eq_true (by kernel_rfl)) (by unfold Func.isWrapper; first | (rw [if_pos (by decide +kernel)]; kernel_rfl) | (rw [if_neg (by decide +kernel)]; exact ⟨rfl, rfl⟩))
    (fun os started H enc _ => fnSBox_lifted os started H enc)
/-- THE TIED CARD. -/
theorem fnSBox_card : Rows.FnSBoxCardSaid :=
  Claim7.holds_tied_plain_at .later [] [.sentinel] true (true, "d476a15600ed133f0fcefc182bb2539d88011fc29c74bb169b2ba3b5a54d9ac4") false
    fnSBox_holds (fun _ h => by cases h) (by kernel_rfl) (fun _ h => by cases h) fnSBox_row_tie rfl ⟨rfl, rfl⟩ (by kernel_rfl) rfl
    (fun f fn hf hfn => by
      obtain rfl : f = 8 := Option.some.inj ((show Tryd.prog.funcNamed "loop.example/pub-g03244/laws.FnSBox" = some 8 by kernel_rfl).symm.trans hf) |>.symm
      obtain rfl : fn = Tryd.f8 := (Option.some.inj (Tryd.func8.symm.trans hfn)).symm
      exact ⟨by kernel_rfl, fun j t ht => by
        rw [Tryd.params8] at ht
        have hm : t ∈ [38] := by simpa using Array.mem_of_getElem? ht
        have hall : ([38].all fun u => !Tryd.prog.wantsStandIn u) = true := by kernel_rfl
        exact (show Tryd.prog.wantsStandIn t = false by simpa using List.all_eq_true.1 hall t hm)⟩)
    (by kernel_rfl)
#print axioms fnSBox_card
end Go.Proofs.YtodofaoaenddgaaDoor
