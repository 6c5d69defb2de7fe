/-
  The law FnMatricesSum, for every pair of lists.
-/
import Derived.Test.YtodofaoaenddgaaDoorMe
import Derived.Test.YtodofaoaenddgaaDoorMi
namespace Go.Proofs.YtodofaoaenddgaaDoor
open Go.RowKit Go.Lib Fr
attribute [local go_sem] setCell_drewN alloc_drewN

set_option maxHeartbeats 1000000 in
set_option maxRecDepth 100000 in
theorem fnSum_any (inner : Bool) (ao : Option Addr) (g o cap : Nat) (ns : List Int) (ao2 : Option Addr) (g2 o2 cap2 : Nat) (ms : List Int) (w : World) (ha : 0 < ns.length → ao = some ⟨g, o, none⟩) (hl : LB w g o ns) (hn : ∀ n ∈ ns, Num n)
    (ha2 : 0 < ms.length → ao2 = some ⟨g2, o2, none⟩) (hl2 : LB w g2 o2 ms) (hn2 : ∀ n ∈ ms, Num n) :
    Calls Tryd.prog 7 #[.bool inner, .slice ao ns.length cap, .slice ao2 ms.length cap2] w fun e w' =>
      e = .returned (.bool true) ∧ Below w.heap.size w w' := by
  by_cases hbig : 2147483647 < (ns.length : Int)
  · clear ha hl hn ha2 hl2 hn2
    go_enter Tryd.func7, Tryd.ntmps7
    go_wp2_with fail
    go_ret
    exact ⟨rfl, RowKit.Below.refl _ _⟩
  by_cases hbig2 : 2147483647 < (ms.length : Int)
  · clear ha hl hn ha2 hl2 hn2
    go_enter Tryd.func7, Tryd.ntmps7
    go_wp2_with fail
    go_ret
    exact ⟨rfl, RowKit.Below.refl _ _⟩
  have AL := Lib.hid (all_any ao g o cap ns 3 w ha hl hn (by decide))
  have AM := Lib.hid (fun (w1 : World) (h1 : RowKit.Below w.heap.size w w1) => all_any ao2 g2 o2 cap2 ms 3 w1 ha2 (hl2.next h1) hn2 (by decide))
  cases hb : (decide ((ns.length : Int) ≤ 3) && ns.all fun n => decide (n < fp))
  · rw [hb] at AL
    clear ha hl hn ha2 hl2 hn2 hb AM
    go_enter Tryd.func7, Tryd.ntmps7
    go_wp2_with fail
    refine AL.out.mono ?_
    rintro e w1 ⟨rfl, h1⟩
    have B1 := Lib.hid h1
    clear h1 AL
    go_wp2_with fail
    go_ret
    exact ⟨rfl, B1.out⟩
  rw [hb] at AL
  obtain ⟨hle, hall⟩ := all_of hb
  clear hb
  cases hb : (decide ((ms.length : Int) ≤ 3) && ms.all fun n => decide (n < fp))
  · rw [hb] at AM
    clear ha hl hn ha2 hl2 hn2 hb hall
    go_enter Tryd.func7, Tryd.ntmps7
    go_wp2_with fail
    refine AL.out.mono ?_
    rintro e w1 ⟨rfl, h1⟩
    have B1 := Lib.hid h1
    clear h1 AL
    go_wp2_with fail
    refine (AM.out w1 B1.out).mono ?_
    rintro e w2 ⟨rfl, h2⟩
    have B2 := Lib.hid (bel B1.out h2)
    clear h2 AM
    go_wp2_with fail
    go_ret
    exact ⟨rfl, B2.out⟩
  rw [hb] at AM
  obtain ⟨hle2, hall2⟩ := all_of hb
  clear hb
  by_cases h2 : (ns.length : Int) < 2
  · clear ha hl hn ha2 hl2 hn2 hall hall2
    go_enter Tryd.func7, Tryd.ntmps7
    go_wp2_with fail
    refine AL.out.mono ?_
    rintro e w1 ⟨rfl, h1⟩
    have B1 := Lib.hid h1
    clear h1 AL
    go_wp2_with fail
    refine (AM.out w1 B1.out).mono ?_
    rintro e w2 ⟨rfl, h2⟩
    have B2 := Lib.hid (bel B1.out h2)
    clear h2 AM
    go_wp2_with fail
    go_ret
    exact ⟨rfl, B2.out⟩
  by_cases he : ms.length = ns.length
  · obtain rfl := ha (by omega)
    obtain rfl := ha2 (by omega)
    rw [he]
    cases inner
    · exact sumE_main g o cap g2 o2 cap2 ns.length ns ms w hl hl2 (fun n h => ⟨(hn n h).1, hall n h⟩) (fun n h => ⟨(hn2 n h).1, hall2 n h⟩) rfl he (by omega) (by omega)
    · exact sumI_main g o cap g2 o2 cap2 ns.length ns ms w hl hl2 (fun n h => ⟨(hn n h).1, hall n h⟩) (fun n h => ⟨(hn2 n h).1, hall2 n h⟩) rfl he (by omega) (by omega)
  · have hz : ((ms.length : Int) != (ns.length : Int)) = true := by rw [bne_iff_ne]; omega
    clear ha hl hn ha2 hl2 hn2 hall hall2 he
    go_enter Tryd.func7, Tryd.ntmps7
    go_wp2_with fail
    refine AL.out.mono ?_
    rintro e w1 ⟨rfl, h1⟩
    have B1 := Lib.hid h1
    clear h1 AL
    go_wp2_with fail
    refine (AM.out w1 B1.out).mono ?_
    rintro e w2 ⟨rfl, h2⟩
    have B2 := Lib.hid (bel B1.out h2)
    clear h2 AM
    go_wp2_with fail
    go_ret
    exact ⟨rfl, B2.out⟩
end Go.Proofs.YtodofaoaenddgaaDoor
