/-
  WHAT IS PROVED: called with any two lists of arrays of 32 bytes, 'laws.FnInternal4' returns true, and the lists and the error variable read behind the call as they did before. CONDITIONS: the row's own (the listed error variable starts as the program's text lays it, which the card ties; what is read takes no more memory than the form's reach).
-/
import Derived.Test.YtodofaoaenddgaaDoorRc
import Derived.Test.YtodofaoaenddgaaDoorLy
import Derived.Test.YtodofaoaenddgaaDoorCards
import Derived.Test.YtodofaoaenddgaaDoorTie
import Derived.SevenTiedAt
namespace Go.Proofs.YtodofaoaenddgaaDoor
open Go.ChangeShapes Go.WideShapes Go.ChangeAt Go.WideElems Go.RowKit Go.Deep Fr

set_option maxRecDepth 100000 in
theorem fnInternal4_lifted (os : Os) (started : os.Started) (H : Type) (enc : TypeId × Value → H) :
    ReturnsInHanded {} Tryd.checked os 5 .any (fun w args => (Rows.fnInternal4Spec.pre enc Tryd.prog Tryd.f5 [] false w args ∧ laidMetH Tryd.prog Rows.fnInternal4Row.laid w) ∧ sizedMet enc Tryd.prog Tryd.f5 (OpenSpec.ofChange Rows.fnInternal4Spec) false w args)
      (Rows.fnInternal4Spec.post enc Tryd.prog Tryd.f5 false true false false) := by
  refine returnsInHanded_of_change_and (C := Tryd.checked) (X := fun w _ => laidMetH Tryd.prog Rows.fnInternal4Row.laid w) (fun _ _ _ hh h => h.of_heap hh) own started (by kernel_rfl) Tryd.func5
    (ChangeSpec.witness_shaped (enc := enc) (C := Tryd.checked) (os := os) (X := fun w _ => laidMetH Tryd.prog Rows.fnInternal4Row.laid w) false (World.doorLaid Tryd.prog 400 os) #[.slice none 0 0, .slice none 0 0] 8 rfl (World.shaped_of_RefB (by kernel_rfl) (by kernel_rfl)) (by kernel_rfl) (by kernel_rfl) (by kernel_rfl) (door_met os _)) ?_
  intro W base args ds gs before hval0 hW _ _ _ _
  have hval : ∀ (j : Nat) t v, Tryd.f5.params[j]? = some t → args[j]? = some v → Value.okWide Tryd.prog W .any base t v := hval0
  have hW' := hW
  obtain ⟨p, q, hA0, hV, rfl, hfz, hnd⟩ := hW
  have hA : DataW.TrodAll enc Tryd.prog W 0 (fun _ => true) true Tryd.f5.params.toList args.toList ds p := hA0
  rw [Tryd.params5] at hA hval
  obtain ⟨v0, v1, d0, d1, p0, p1, rfl, rfl, rfl, h0, h1⟩ := trodAll_two hA
  obtain ⟨y0, rfl⟩ := one_var hV
  have hlt : ∀ x ∈ p0 ++ p1, x.block < W.heap.size := fun x hx => hW'.lt x (List.mem_append.2 (.inl hx))
  obtain ⟨ao0, g0, o0, c0, ns0, rfl, ha0, hl0, hn0⟩ := open_b32s (hval 0 22 v0 rfl rfl) h0
  obtain ⟨ao1, g1, o1, c1, ns1, rfl, ha1, hl1, hn1⟩ := open_b32s (hval 1 22 v1 rfl rfl) h1
  have fin : ∀ W' : World, RowKit.Below W.heap.size W W' → Rows.fnInternal4Spec.post enc Tryd.prog Tryd.f5 false true false false W _ (.bool true) W' := fun W' hb =>
    ⟨_, _, _, [], _, _, hW', trodAll_mk1 (shut_bool Tryd.underlying4 true), trodAll_mk2 (Below.trod laidOut (by kernel_rfl) (of_decide_eq_true (by kernel_rfl)) h0 hb (fun x hx => hlt x (by simp [hx]))) (Below.trod laidOut (by kernel_rfl) (of_decide_eq_true (by kernel_rfl)) h1 hb (fun x hx => hlt x (by simp [hx]))), Below.trodVars laidOut hb (by kernel_rfl) hV, hb.frame _, fun h => by cases h⟩
  refine (fnInt4_any ao0 g0 o0 c0 ns0 ao1 g1 o1 c1 ns1 W ha0 hl0 hn0 ha1 hl1 hn1).mono fun e W' ⟨he, hb⟩ => ?_
  subst he
  exact ⟨_, rfl, fin W' hb⟩

theorem fnInternal4_holds : Rows.FnInternal4Said :=
  OpenClaim.holds_of_wide 5 Tryd.f5 rfl rfl rfl rfl rfl rfl rfl ⟨rfl, rfl, rfl, rfl, rfl⟩ rfl rfl rfl rfl rfl (by kernel_rfl) Tryd.func5 (by kernel_rfl)
    (of_decide_eq_true (by kernel_rfl)) (by unfold Func.isWrapper; first | (rw [if_pos (by decide +kernel)]; kernel_rfl) | (rw [if_neg (by decide +kernel)]; exact ⟨rfl, rfl⟩))
    (fun os started H enc _ => fnInternal4_lifted os started H enc)
/-- THE TIED CARD. -/
theorem fnInternal4_card : Rows.FnInternal4CardSaid :=
  Claim7.holds_tied_plain_at .later [] [.sentinel] true (true, "d476a15600ed133f0fcefc182bb2539d88011fc29c74bb169b2ba3b5a54d9ac4") false
    fnInternal4_holds (fun _ h => by cases h) (by kernel_rfl) (fun _ h => by cases h) fnInternal4_row_tie rfl ⟨rfl, rfl⟩ (by kernel_rfl) rfl
    (fun f fn hf hfn => by
      obtain rfl : f = 5 := Option.some.inj ((show Tryd.prog.funcNamed "loop.example/pub-g03244/laws.FnInternal4" = some 5 by kernel_rfl).symm.trans hf) |>.symm
      obtain rfl : fn = Tryd.f5 := (Option.some.inj (Tryd.func5.symm.trans hfn)).symm
      exact ⟨by kernel_rfl, fun j t ht => by
        rw [Tryd.params5] at ht
        have hm : t ∈ [22, 22] := by simpa using Array.mem_of_getElem? ht
        have hall : ([22, 22].all fun u => !Tryd.prog.wantsStandIn u) = true := by kernel_rfl
        exact (show Tryd.prog.wantsStandIn t = false by simpa using List.all_eq_true.1 hall t hm)⟩)
    (by kernel_rfl)
#print axioms fnInternal4_card
end Go.Proofs.YtodofaoaenddgaaDoor
