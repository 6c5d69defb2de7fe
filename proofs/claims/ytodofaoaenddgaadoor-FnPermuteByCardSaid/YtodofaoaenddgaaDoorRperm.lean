/-
  WHAT IS PROVED: called with any four lists of arrays of 32 bytes, 'laws.FnPermuteBy' returns true, and the lists and the error variables read behind the call as they did before. CONDITIONS: the row's own (the listed error variables start as the program's text lays them, which the card ties; what is read takes no more memory than the form's reach).
-/
import Derived.Test.YtodofaoaenddgaaDoorRc
import Derived.Test.YtodofaoaenddgaaDoorPh
import Derived.Test.YtodofaoaenddgaaDoorCards
import Derived.Test.YtodofaoaenddgaaDoorTie
import Derived.SevenTiedAt
import Derived.Carry
namespace Go.Proofs.YtodofaoaenddgaaDoor
open Go.ChangeShapes Go.WideShapes Go.ChangeAt Go.WideElems Go.RowKit Go.Deep Fr
/-- The door's own heap meets the condition. -/
theorem door_met2 (os : Os) (args : Array Value) : laidMetH Tryd.prog [("loop.example/pub-g03244/pub/bn254fr.errInvalidEncoding", Rows.laid_loop_example_pub_g03244_pub_bn254fr_errInvalidEncoding), ("loop.example/pub-g03244/pub/bn254poseidon2.ErrInvalidSizebuffer", Rows.laid_loop_example_pub_g03244_pub_bn254poseidon2_ErrInvalidSizebuffer)] ((World.doorLaid Tryd.prog 400 os).forCall (fun _ _ => 0) ⟨#[], args, []⟩).memory :=
  laidMetH_of_parts3 (fuel := 8) (laidMet_of_run' 8 (by kernel_rfl) (by kernel_rfl)) (by kernel_rfl) (by kernel_rfl)

set_option maxRecDepth 100000 in
theorem fnPermuteBy_lifted (os : Os) (started : os.Started) (H : Type) (enc : TypeId × Value → H) :
    ReturnsInHanded {} Tryd.checked os 9 .any (fun w args => (Rows.fnPermuteBySpec.pre enc Tryd.prog Tryd.f9 [] false w args ∧ laidMetH Tryd.prog Rows.fnPermuteByRow.laid w) ∧ sizedMet enc Tryd.prog Tryd.f9 (OpenSpec.ofChange Rows.fnPermuteBySpec) false w args)
      (Rows.fnPermuteBySpec.post enc Tryd.prog Tryd.f9 false true false false) := by
  refine returnsInHanded_of_change_and (C := Tryd.checked) (X := fun w _ => laidMetH Tryd.prog Rows.fnPermuteByRow.laid w) (fun _ _ _ hh h => h.of_heap hh) own started (by kernel_rfl) Tryd.func9
    (ChangeSpec.witness_shaped (enc := enc) (C := Tryd.checked) (os := os) (X := fun w _ => laidMetH Tryd.prog Rows.fnPermuteByRow.laid w) false (World.doorLaid Tryd.prog 400 os) #[.slice none 0 0, .slice none 0 0, .slice none 0 0, .slice none 0 0] 8 rfl (World.shaped_of_RefB (by kernel_rfl) (by kernel_rfl)) (by kernel_rfl) (by kernel_rfl) (by kernel_rfl) (door_met2 os _)) ?_
  intro W base args ds gs before hval0 hW _ _ _ _
  have hval : ∀ (j : Nat) t v, Tryd.f9.params[j]? = some t → args[j]? = some v → Value.okWide Tryd.prog W .any base t v := hval0
  have hW' := hW
  obtain ⟨p, q, hA0, hV, rfl, hfz, hnd⟩ := hW
  have hA : DataW.TrodAll enc Tryd.prog W 0 (fun _ => true) true Tryd.f9.params.toList args.toList ds p := hA0
  rw [Tryd.params9] at hA hval
  obtain ⟨v0, v1, v2, v3, d0, d1, d2, d3, p0, p1, p2, p3, rfl, rfl, rfl, h0, h1, h2, h3⟩ := trodAll_four hA
  obtain ⟨y0, y1, rfl⟩ := two_vars hV
  have hlt : ∀ x ∈ p0 ++ p1 ++ p2 ++ p3, x.block < W.heap.size := fun x hx => hW'.lt x (List.mem_append.2 (.inl hx))
  obtain ⟨ao0, g0, o0, c0, ns0, rfl, ha0, hl0, hn0⟩ := open_b32s (hval 0 22 v0 rfl rfl) h0
  obtain ⟨ao1, g1, o1, c1, ns1, rfl, ha1, hl1, hn1⟩ := open_b32s (hval 1 22 v1 rfl rfl) h1
  obtain ⟨ao2, g2, o2, c2, ns2, rfl, ha2, hl2, hn2⟩ := open_b32s (hval 2 22 v2 rfl rfl) h2
  obtain ⟨ao3, g3, o3, c3, ns3, rfl, ha3, hl3, hn3⟩ := open_b32s (hval 3 22 v3 rfl rfl) h3
  have fin : ∀ W' : World, RowKit.Below W.heap.size W W' → Rows.fnPermuteBySpec.post enc Tryd.prog Tryd.f9 false true false false W _ (.bool true) W' := fun W' hb =>
    ⟨_, _, _, [], _, _, hW', trodAll_mk1 (shut_bool Tryd.underlying4 true), trodAll_mk4 (Below.trod laidOut (by kernel_rfl) (of_decide_eq_true (by kernel_rfl)) h0 hb (fun x hx => hlt x (by simp [hx]))) (Below.trod laidOut (by kernel_rfl) (of_decide_eq_true (by kernel_rfl)) h1 hb (fun x hx => hlt x (by simp [hx]))) (Below.trod laidOut (by kernel_rfl) (of_decide_eq_true (by kernel_rfl)) h2 hb (fun x hx => hlt x (by simp [hx]))) (Below.trod laidOut (by kernel_rfl) (of_decide_eq_true (by kernel_rfl)) h3 hb (fun x hx => hlt x (by simp [hx]))), Below.trodVars laidOut hb (by kernel_rfl) hV, hb.frame _, fun h => by cases h⟩
  refine (fnPB_any ao0 g0 o0 c0 ns0 ao1 g1 o1 c1 ns1 ao2 g2 o2 c2 ns2 ao3 g3 o3 c3 ns3 W ha0 hl0 hn0 ha1 hl1 hn1 ha2 hl2 hn2 ha3 hl3 hn3).mono fun e W' ⟨he, hb⟩ => ?_
  subst he
  exact ⟨_, rfl, fin W' hb⟩

theorem fnPermuteBy_holds : Rows.FnPermuteBySaid :=
  OpenClaim.holds_of_wide 9 Tryd.f9 rfl rfl rfl rfl rfl rfl rfl ⟨rfl, rfl, rfl, rfl, rfl⟩ rfl rfl rfl rfl rfl (by kernel_rfl) Tryd.func9 (by kernel_rfl)
    (of_decide_eq_true (by kernel_rfl)) (by unfold Func.isWrapper; first | (rw [if_pos (by decide +kernel)]; kernel_rfl) | (rw [if_neg (by decide +kernel)]; exact ⟨rfl, rfl⟩))
    (fun os started H enc _ => fnPermuteBy_lifted os started H enc)
/-- THE TIED CARD. -/
theorem fnPermuteBy_card : Rows.FnPermuteByCardSaid :=
  Claim7.holds_tied_plain_at .later [] [.sentinel, .sentinel] true (true, "d476a15600ed133f0fcefc182bb2539d88011fc29c74bb169b2ba3b5a54d9ac4") false
    fnPermuteBy_holds (fun _ h => by cases h) (by kernel_rfl) (fun _ h => by cases h) fnPermuteBy_row_tie rfl ⟨rfl, rfl⟩ (by kernel_rfl) rfl
    (fun f fn hf hfn => by
      obtain rfl : f = 9 := Option.some.inj ((show Tryd.prog.funcNamed "loop.example/pub-g03244/laws.FnPermuteBy" = some 9 by kernel_rfl).symm.trans hf) |>.symm
      obtain rfl : fn = Tryd.f9 := (Option.some.inj (Tryd.func9.symm.trans hfn)).symm
      exact ⟨by kernel_rfl, fun j t ht => by
        rw [Tryd.params9] at ht
        have hm : t ∈ [22, 22, 22, 22] := by simpa using Array.mem_of_getElem? ht
        have hall : ([22, 22, 22, 22].all fun u => !Tryd.prog.wantsStandIn u) = true := by kernel_rfl
        exact (show Tryd.prog.wantsStandIn t = false by simpa using List.all_eq_true.1 hall t hm)⟩)
    (by kernel_rfl)
#print axioms fnPermuteBy_card
end Go.Proofs.YtodofaoaenddgaaDoor
