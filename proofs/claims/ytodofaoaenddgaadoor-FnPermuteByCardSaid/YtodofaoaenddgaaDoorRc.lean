/-
  What the rows need: arguments opened as lists of numbers, read again behind the call; the door's own world meets the condition.
-/
import Derived.Test.YtodofaoaenddgaaDoorRows
import Derived.Test.YtodofaoaenddgaaDoorRep
import Derived.Test.YtodofaoaenddgaaDoorEls
import Derived.ProofKit
import Derived.LaidMore
import Derived.OpenShut
import Derived.OpenVars
import Derived.Deep.Slices
import Derived.Stop.Joined
namespace Go.Proofs.YtodofaoaenddgaaDoor
open Go.ChangeShapes Go.WideShapes Go.ChangeAt Go.WideElems Go.RowKit Go.Deep Fr

theorem own : ownKnob Tryd.prog.godebug = none := by kernel_rfl
theorem laidOut : laidOutB Tryd.prog = true := by kernel_rfl

/-! ### bytes are a number -/
def nb (f : Nat → Int) : Nat → Int
  | 0 => 0
  | k + 1 => nb f k * 256 + f k
theorem nb_bd {f : Nat → Int} (h : ∀ j, j < 32 → 0 ≤ f j ∧ f j < 256) : ∀ k, k ≤ 32 → 0 ≤ nb f k ∧ nb f k < 256 ^ k
  | 0, _ => ⟨Int.le_refl 0, by show (0 : Int) < 1; decide⟩
  | k + 1, hk => by
    obtain ⟨a, b⟩ := nb_bd h k (by omega)
    obtain ⟨c, d⟩ := h k (by omega)
    rw [Int.pow_succ]
    simp only [nb]
    constructor <;> omega
theorem nb_at {f : Nat → Int} (h : ∀ j, j < 32 → 0 ≤ f j ∧ f j < 256) : ∀ k, k ≤ 32 → ∀ j, j < k → nb f k / 256 ^ (k - 1 - j) % 256 = f j
  | 0, _, j, hj => absurd hj (by omega)
  | k + 1, hk, j, hj => by
    obtain ⟨c, d⟩ := h k (by omega)
    simp only [nb]
    rcases Nat.lt_or_ge j k with hlt | hge
    · have ih := nb_at h k (by omega) j hlt
      rw [show k + 1 - 1 - j = (k - 1 - j) + 1 from by omega, Int.pow_succ, Int.mul_comm (256 ^ (k - 1 - j)), ← Int.ediv_ediv_of_nonneg (by decide), show (nb f k * 256 + f k) / 256 = nb f k from by omega]
      exact ih
    · obtain rfl : j = k := by omega
      rw [show j + 1 - 1 - j = 0 from by omega, Int.pow_zero, Int.ediv_one]
      omega
theorem bytes_num (f : Nat → Int) (h : ∀ j, j < 32 → 0 ≤ f j ∧ f j < 256) : ∃ n, Num n ∧ ∀ j, j < 32 → byt n j = f j := by
  refine ⟨nb f 32, ?_, fun j hj => ?_⟩
  · obtain ⟨a, b⟩ := nb_bd h 32 (Nat.le_refl _)
    exact ⟨a, Int.lt_of_lt_of_le b (by decide)⟩
  · exact nb_at h 32 (Nat.le_refl _) j hj

section
variable {H : Type} {enc : TypeId × Value → H} {W : World}
theorem cells1 : Tryd.prog.cellsOf 5 = 1 := by kernel_rfl
theorem cells32 : Tryd.prog.cellsOf 38 = 32 := by kernel_rfl
/-- 32 cells that read as an array of bytes hold a number's bytes. -/
theorem open_b32 {base : Nat} {spare : Nat → Bool} {held : Bool} {fuel : Nat} {cs : List Value} {x : DataW H × List MemPlace} (h : DataW.trod enc Tryd.prog W base spare held fuel 38 cs = some x) :
    cs.length = 32 ∧ ∃ n, Num n ∧ ∀ j, j < 32 → cs[j]? = some (.int .u8 (byt n j)) := by
  obtain ⟨xs, m, _, _, hlen, hxs, hel⟩ := DataW.trod_array Tryd.underlying38 h
  rw [cells32] at hlen
  have each : ∀ j, j < 32 → ∃ b : Int, 0 ≤ b ∧ b < 256 ∧ cs[j]? = some (.int .u8 b) := fun j hj => by
    have hj' := hel j hj
    rw [cells1, Nat.mul_one, List.getElem?_eq_getElem (show j < xs.length by omega)] at hj'
    obtain ⟨b, hb, _, hw⟩ := DataW.trod_int Tryd.underlying5 hj'
    have h1 : (cs.drop j).take 1 = [cs[j]'(by omega)] := by
      rw [List.drop_eq_getElem_cons (by omega)]; rfl
    rw [h1, List.cons.injEq] at hb
    simp [Lit.wf, IntKind.min, IntKind.max, IntKind.signed, IntKind.bits] at hw
    exact ⟨b, by omega, by omega, by rw [List.getElem?_eq_getElem (by omega), hb.1]⟩
  obtain ⟨f, hf⟩ := choose_lt (α := Int) (p := fun j b => 0 ≤ b ∧ b < 256 ∧ cs[j]? = some (.int .u8 b)) each
  obtain ⟨n, hn, hb⟩ := bytes_num f (fun j hj => ⟨(hf j hj).1, (hf j hj).2.1⟩)
  exact ⟨hlen, n, hn, fun j hj => by rw [hb j hj]; exact (hf j hj).2.2⟩
set_option maxRecDepth 100000 in
/-- AN ARGUMENT '[][32]byte', OPENED: a list of numbers in memory. -/
theorem open_b32s {v : Value} {d : DataW H} {p : List MemPlace} {r : Reach} {base : Nat} (hv : Value.okWide Tryd.prog W r base 22 v) (h : DataW.Trod enc Tryd.prog W 0 (fun _ => true) true 22 v d p) :
    ∃ (ao : Option Addr) (g o cap : Nat) (ns : List Int), v = .slice ao ns.length cap ∧ (0 < ns.length → ao = some ⟨g, o, none⟩) ∧ LB W g o ns ∧ ∀ n ∈ ns, Num n := by
  obtain ⟨a0, len0, cap0, rfl⟩ := okWide_slice Tryd.underlying22 hv
  obtain ⟨fuel, hf⟩ := h
  rcases open_slice Tryd.underlying22 hf with ⟨hcs, _⟩ | ⟨a, len, cap, m, k, D, Pl, hcs, _, hlc, _, hm, _, hel⟩
  · simp [Value.cells] at hcs
    obtain ⟨rfl, rfl, rfl⟩ := hcs
    exact ⟨none, 0, 0, 0, [], rfl, (fun h => absurd h (by decide)), (fun i n hi => by simp at hi), (fun n hn => by simp at hn)⟩
  · simp [Value.cells] at hcs
    obtain ⟨rfl, rfl, rfl⟩ := hcs
    have hle : len0 ≤ m := by rw [hm]; split <;> omega
    rw [cells32] at hel
    have each : ∀ i, i < len0 → ∃ n : Int, Num n ∧ ∀ j, j < 32 → W.cell? ((a.add (i * 32)).add j) = some (.int .u8 (byt n j)) := fun i hi => by
      obtain ⟨cs, h1, h2⟩ := hel i (by omega)
      obtain ⟨_, _, h4⟩ := World.cells?_some h1
      obtain ⟨_, n, hn, h5⟩ := open_b32 h2
      exact ⟨n, hn, fun j hj => (h4 j hj).trans (h5 j hj)⟩
    obtain ⟨ν, hν⟩ := choose_lt (α := Int) each
    obtain ⟨g, o, sp⟩ := a
    have hsp : 0 < len0 → sp = none := fun h0 => by
      have h1 := (hν 0 h0).2 0 (by decide)
      cases sp with
      | none => rfl
      | some s =>
        exfalso
        simp [Addr.add, World.cell?] at h1
        split at h1 <;> simp at h1
    have hlen : ((List.range len0).map ν).length = len0 := by simp
    refine ⟨some ⟨g, o, sp⟩, g, o, cap0, (List.range len0).map ν, by rw [hlen], (fun h0 => by rw [hsp (by simpa using h0)]), (fun i n hi j hj => ?_), (fun n hn => ?_)⟩
    · have hi' : i < len0 := by have := (List.getElem?_eq_some_iff.1 hi).1; simpa using this
      have e : n = ν i := by simpa [hi'] using hi.symm
      subst e
      have h1 := (hν i hi').2 j hj
      obtain rfl := hsp (by omega)
      rw [add_at, add_at] at h1
      exact h1
    · obtain ⟨i, hi, rfl⟩ := List.mem_map.1 hn
      exact (hν i (List.mem_range.1 hi)).1
set_option maxRecDepth 100000 in
/-- AN ARGUMENT '[32]byte', OPENED. -/
theorem open_b32v {v : Value} {d : DataW H} {p : List MemPlace} {r : Reach} {base : Nat} (hv : Value.okWide Tryd.prog W r base 38 v) (h : DataW.Trod enc Tryd.prog W 0 (fun _ => true) true 38 v d p) :
    ∃ n, v = .agg (bts n) ∧ Num n := by
  obtain ⟨cs, rfl, _⟩ : ∃ cs, v = .agg cs ∧ cs.size = Tryd.prog.cellsOf 38 := by
    simp only [Value.okWide, Tryd.underlying38] at hv
    obtain ⟨cs, h1, h2, _⟩ := hv
    exact ⟨cs, h1, h2⟩
  obtain ⟨fuel, hf⟩ := h
  obtain ⟨hlen, n, hn, hc⟩ := open_b32 hf
  have hs : cs.size = 32 := by rw [← Array.length_toList]; exact hlen
  have e : cs = bts n := Array.ext_getElem? (fun i => by
    rcases Nat.lt_or_ge i 32 with hi | hi
    · rw [bts_at n hi, ← Array.getElem?_toList]
      exact hc i hi
    · rw [Array.getElem?_eq_none (by omega), Array.getElem?_eq_none (by rw [size_bts]; exact hi)])
  exact ⟨n, by rw [e], hn⟩
end

theorem one_var {H : Type} {enc : TypeId × Value → H} {P : Program} {W : World} {sp : Nat → Bool} {n : String} {gs : List (DataW H)} {q : List MemPlace} (h : DataW.TrodVars enc P W sp [n] gs q) : ∃ y, gs = [y] := by
  match gs, h with
  | [y], _ => exact ⟨y, rfl⟩
  | [], h => exact h.elim
  | _ :: _ :: _, h =>
    obtain ⟨_, _, _, _, _, _, _, _, _, _, hs, _⟩ := h
    exact hs.elim
theorem two_vars {H : Type} {enc : TypeId × Value → H} {P : Program} {W : World} {sp : Nat → Bool} {n m : String} {gs : List (DataW H)} {q : List MemPlace} (h : DataW.TrodVars enc P W sp [n, m] gs q) : ∃ y z, gs = [y, z] := by
  match gs, h with
  | [], h => exact h.elim
  | y :: gs, h =>
    obtain ⟨_, _, _, _, _, _, _, _, _, _, hs, _⟩ := h
    obtain ⟨z, rfl⟩ := one_var hs
    exact ⟨y, z, rfl⟩
/-- The door's own heap meets the condition. -/
theorem door_met (os : Os) (args : Array Value) : laidMetH Tryd.prog [("loop.example/pub-g03244/pub/bn254fr.errInvalidEncoding", Rows.laid_loop_example_pub_g03244_pub_bn254fr_errInvalidEncoding)] ((World.doorLaid Tryd.prog 400 os).forCall (fun _ _ => 0) ⟨#[], args, []⟩).memory :=
  laidMetH_of_parts3 (fuel := 8) (laidMet_of_run' 8 (by kernel_rfl) (by kernel_rfl)) (by kernel_rfl) (by kernel_rfl)
end Go.Proofs.YtodofaoaenddgaaDoor
