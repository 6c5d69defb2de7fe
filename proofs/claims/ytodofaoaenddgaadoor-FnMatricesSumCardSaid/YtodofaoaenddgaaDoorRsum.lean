/-
  WHAT IS PROVED: called with any bool and any two lists of arrays of 32 bytes, 'laws.FnMatricesSum' returns true, and the lists and the error variable read behind the call as they did before. CONDITIONS: the row's own (the listed error variable starts as the program's text lays it, which the card ties; what is read takes no more memory than the form's reach).
-/
import Derived.Test.YtodofaoaenddgaaDoorRc
import Derived.Test.YtodofaoaenddgaaDoorMt
import Derived.Test.YtodofaoaenddgaaDoorCards
import Derived.Test.YtodofaoaenddgaaDoorTie
import Derived.SevenTiedAt
namespace Go.Proofs.YtodofaoaenddgaaDoor
open Go.ChangeShapes Go.WideShapes Go.ChangeAt Go.WideElems Go.RowKit Go.Deep Fr

set_option maxRecDepth 100000 in
theorem fnMatricesSum_lifted (os : Os) (started : os.Started) (H : Type) (enc : TypeId × Value → H) :
    ReturnsInHanded {} Tryd.checked os 7 .any (fun w args => (Rows.fnMatricesSumSpec.pre enc Tryd.prog Tryd.f7 [] false w args ∧ laidMetH Tryd.prog Rows.fnMatricesSumRow.laid w) ∧ sizedMet enc Tryd.prog Tryd.f7 (OpenSpec.ofChange Rows.fnMatricesSumSpec) false w args)
      (Rows.fnMatricesSumSpec.post enc Tryd.prog Tryd.f7 false true false false) := by
  refine returnsInHanded_of_change_and (C := Tryd.checked) (X := fun w _ => laidMetH Tryd.prog Rows.fnMatricesSumRow.laid w) (fun _ _ _ hh h => h.of_heap hh) own started (by kernel_rfl) Tryd.func7
    (ChangeSpec.witness_shaped (enc := enc) (C := Tryd.checked) (os := os) (X := fun w _ => laidMetH Tryd.prog Rows.fnMatricesSumRow.laid w) false (World.doorLaid Tryd.prog 400 os) #[.bool false, .slice none 0 0, .slice none 0 0] 8 rfl (World.shaped_of_RefB (by kernel_rfl) (by kernel_rfl)) (by kernel_rfl) (by kernel_rfl) (by kernel_rfl) (door_met os _)) ?_
  intro W base args ds gs before hval0 hW _ _ _ _
  have hval : ∀ (j : Nat) t v, Tryd.f7.params[j]? = some t → args[j]? = some v → Value.okWide Tryd.prog W .any base t v := hval0
  have hW' := hW
  obtain ⟨p, q, hA0, hV, rfl, hfz, hnd⟩ := hW
  have hA : DataW.TrodAll enc Tryd.prog W 0 (fun _ => true) true Tryd.f7.params.toList args.toList ds p := hA0
  rw [Tryd.params7] at hA hval
  obtain ⟨v0, v1, v2, d0, d1, d2, p0, p1, p2, rfl, rfl, rfl, h0, h1, h2⟩ := trodAll_three hA
  obtain ⟨y0, rfl⟩ := one_var hV
  have hlt : ∀ x ∈ p0 ++ p1 ++ p2, x.block < W.heap.size := fun x hx => hW'.lt x (List.mem_append.2 (.inl hx))
  obtain ⟨b0, rfl, rfl, rfl⟩ := open_bool Tryd.underlying4 (hval 0 4 v0 rfl rfl) h0
  obtain ⟨ao1, g1, o1, c1, ns1, rfl, ha1, hl1, hn1⟩ := open_b32s (hval 1 22 v1 rfl rfl) h1
  obtain ⟨ao2, g2, o2, c2, ns2, rfl, ha2, hl2, hn2⟩ := open_b32s (hval 2 22 v2 rfl rfl) h2
  have fin : ∀ W' : World, RowKit.Below W.heap.size W W' → Rows.fnMatricesSumSpec.post enc Tryd.prog Tryd.f7 false true false false W _ (.bool true) W' := fun W' hb =>
    ⟨_, _, _, [], _, _, hW', trodAll_mk1 (shut_bool Tryd.underlying4 true), trodAll_mk3 (shut_bool Tryd.underlying4 _) (Below.trod laidOut (by kernel_rfl) (of_decide_eq_true (by kernel_rfl)) h1 hb (fun x hx => hlt x (by simp [hx]))) (Below.trod laidOut (by kernel_rfl) (of_decide_eq_true (by kernel_rfl)) h2 hb (fun x hx => hlt x (by simp [hx]))), Below.trodVars laidOut hb (by kernel_rfl) hV, hb.frame _, fun h => by cases h⟩
  refine (fnSum_any b0 ao1 g1 o1 c1 ns1 ao2 g2 o2 c2 ns2 W ha1 hl1 hn1 ha2 hl2 hn2).mono fun e W' ⟨he, hb⟩ => ?_
  subst he
  exact ⟨_, rfl, fin W' hb⟩

theorem fnMatricesSum_holds : Rows.FnMatricesSumSaid :=
  OpenClaim.holds_of_wide 7 Tryd.f7 rfl rfl rfl rfl rfl rfl rfl ⟨rfl, rfl, rfl, rfl, rfl⟩ rfl rfl rfl rfl rfl (by kernel_rfl) Tryd.func7 (by kernel_rfl)
    (of_decide_eq_true (by kernel_rfl)) (by unfold Func.isWrapper; first | (rw [if_pos (by decide +kernel)]; kernel_rfl) | (rw [if_neg (by decide +kernel)]; exact ⟨rfl, rfl⟩))
    (fun os started H enc _ => fnMatricesSum_lifted os started H enc)
/-- THE TIED CARD. -/
theorem fnMatricesSum_card : Rows.FnMatricesSumCardSaid :=
  Claim7.holds_tied_plain_at .later [] [.sentinel] true (true, "d476a15600ed133f0fcefc182bb2539d88011fc29c74bb169b2ba3b5a54d9ac4") false
    fnMatricesSum_holds (fun _ h => by cases h) (by kernel_rfl) (fun _ h => by cases h) fnMatricesSum_row_tie rfl ⟨rfl, rfl⟩ (by kernel_rfl) rfl
    (fun f fn hf hfn => by
      obtain rfl : f = 7 := Option.some.inj ((show Tryd.prog.funcNamed "loop.example/pub-g03244/laws.FnMatricesSum" = some 7 by kernel_rfl).symm.trans hf) |>.symm
      obtain rfl : fn = Tryd.f7 := (Option.some.inj (Tryd.func7.symm.trans hfn)).symm
      exact ⟨by kernel_rfl, fun j t ht => by
        rw [Tryd.params7] at ht
        have hm : t ∈ [4, 22, 22] := by simpa using Array.mem_of_getElem? ht
        have hall : ([4, 22, 22].all fun u => !Tryd.prog.wantsStandIn u) = true := by kernel_rfl
        exact (show Tryd.prog.wantsStandIn t = false by simpa using List.all_eq_true.1 hall t hm)⟩)
    (by kernel_rfl)
#print axioms fnMatricesSum_card
end Go.Proofs.YtodofaoaenddgaaDoor
