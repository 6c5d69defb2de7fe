/-
  WHAT IS PROVED: called with any list of arrays of 32 bytes, 'laws.FnInternal' returns true, and the list and the error variable read behind the call as they did before. CONDITIONS: the row's own (the listed error variable starts as the program's text lays it, which the card ties; what is read takes no more memory than the form's reach).
-/
import Derived.Test.YtodofaoaenddgaaDoorRc
import Derived.Test.YtodofaoaenddgaaDoorLw
import Derived.Test.YtodofaoaenddgaaDoorCards
import Derived.Test.YtodofaoaenddgaaDoorTie
import Derived.SevenTiedAt
namespace Go.Proofs.YtodofaoaenddgaaDoor
open Go.ChangeShapes Go.WideShapes Go.ChangeAt Go.WideElems Go.RowKit Go.Deep Fr

set_option maxRecDepth 100000 in
theorem fnInternal_lifted (os : Os) (started : os.Started) (H : Type) (enc : TypeId × Value → H) :
    ReturnsInHanded {} Tryd.checked os 4 .any (fun w args => (Rows.fnInternalSpec.pre enc Tryd.prog Tryd.f4 [] false w args ∧ laidMetH Tryd.prog Rows.fnInternalRow.laid w) ∧ sizedMet enc Tryd.prog Tryd.f4 (OpenSpec.ofChange Rows.fnInternalSpec) false w args)
      (Rows.fnInternalSpec.post enc Tryd.prog Tryd.f4 false true false false) := by
  refine returnsInHanded_of_change_and (C := Tryd.checked) (X := fun w _ => laidMetH Tryd.prog Rows.fnInternalRow.laid w) (fun _ _ _ hh h => h.of_heap hh) own started (by kernel_rfl) Tryd.func4
    (ChangeSpec.witness_shaped (enc := enc) (C := Tryd.checked) (os := os) (X := fun w _ => laidMetH Tryd.prog Rows.fnInternalRow.laid w) false (World.doorLaid Tryd.prog 400 os) #[.slice none 0 0] 8 rfl (World.shaped_of_RefB (by kernel_rfl) (by kernel_rfl)) (by kernel_rfl) (by kernel_rfl) (by kernel_rfl) (door_met os _)) ?_
  intro W base args ds gs before hval0 hW _ _ _ _
  have hval : ∀ (j : Nat) t v, Tryd.f4.params[j]? = some t → args[j]? = some v → Value.okWide Tryd.prog W .any base t v := hval0
  have hW' := hW
  obtain ⟨p, q, hA0, hV, rfl, hfz, hnd⟩ := hW
  have hA : DataW.TrodAll enc Tryd.prog W 0 (fun _ => true) true Tryd.f4.params.toList args.toList ds p := hA0
  rw [Tryd.params4] at hA hval
  obtain ⟨v0, d0, rfl, rfl, h0⟩ := trodAll_one hA
  obtain ⟨y0, rfl⟩ := one_var hV
  have hlt : ∀ x ∈ p, x.block < W.heap.size := fun x hx => hW'.lt x (List.mem_append.2 (.inl hx))
  obtain ⟨ao0, g0, o0, c0, ns0, rfl, ha0, hl0, hn0⟩ := open_b32s (hval 0 22 v0 rfl rfl) h0
  have fin : ∀ W' : World, RowKit.Below W.heap.size W W' → Rows.fnInternalSpec.post enc Tryd.prog Tryd.f4 false true false false W _ (.bool true) W' := fun W' hb =>
    ⟨_, _, _, [], _, _, hW', trodAll_mk1 (shut_bool Tryd.underlying4 true), trodAll_mk1 (Below.trod laidOut (by kernel_rfl) (of_decide_eq_true (by kernel_rfl)) h0 hb hlt), Below.trodVars laidOut hb (by kernel_rfl) hV, hb.frame _, fun h => by cases h⟩
  refine (fnInt_any ao0 g0 o0 c0 ns0 W ha0 hl0 hn0).mono fun e W' ⟨he, hb⟩ => ?_
  subst he
  exact ⟨_, rfl, fin W' hb⟩

theorem fnInternal_holds : Rows.FnInternalSaid :=
  OpenClaim.holds_of_wide 4 Tryd.f4 rfl rfl rfl rfl rfl rfl rfl ⟨rfl, rfl, rfl, rfl, rfl⟩ rfl rfl rfl rfl rfl (by kernel_rfl) Tryd.func4 (by kernel_rfl)
    (of_decide_eq_true (by kernel_rfl)) (by unfold Func.isWrapper; first | (rw [if_pos (by decide +kernel)]; kernel_rfl) | (rw [if_neg (by decide +kernel)]; exact ⟨rfl, rfl⟩))
    (fun os started H enc _ => fnInternal_lifted os started H enc)
/-- THE TIED CARD. -/
theorem fnInternal_card : Rows.FnInternalCardSaid :=
  Claim7.holds_tied_plain_at .later [] [.sentinel] true (true, "d476a15600ed133f0fcefc182bb2539d88011fc29c74bb169b2ba3b5a54d9ac4") false
    fnInternal_holds (fun _ h => by cases h) (by kernel_rfl) (fun _ h => by cases h) fnInternal_row_tie rfl ⟨rfl, rfl⟩ (by kernel_rfl) rfl
    (fun f fn hf hfn => by
      obtain rfl : f = 4 := Option.some.inj ((show Tryd.prog.funcNamed "loop.example/pub-g03244/laws.FnInternal" = some 4 by kernel_rfl).symm.trans hf) |>.symm
      obtain rfl : fn = Tryd.f4 := (Option.some.inj (Tryd.func4.symm.trans hfn)).symm
      exact ⟨by kernel_rfl, fun j t ht => by
        rw [Tryd.params4] at ht
        have hm : t ∈ [22] := by simpa using Array.mem_of_getElem? ht
        have hall : ([22].all fun u => !Tryd.prog.wantsStandIn u) = true := by kernel_rfl
        exact (show Tryd.prog.wantsStandIn t = false by simpa using List.all_eq_true.1 hall t hm)⟩)
    (by kernel_rfl)
#print axioms fnInternal_card
end Go.Proofs.YtodofaoaenddgaaDoor
