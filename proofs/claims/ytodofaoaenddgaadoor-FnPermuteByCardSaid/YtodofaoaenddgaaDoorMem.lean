/-
  Memory laws of this claim's own: a whole array stored into a block that is known, whatever its size.
-/
import Derived.Test.YtodofaoaenddgaaDoorEls
import Derived.Deep.WholeRow
namespace Go.Proofs.YtodofaoaenddgaaDoor
open Go.RowKit Go.Lib Fr

theorem wpList_store_blk {P : Program} {ops : Array Oper} {rest : List Oper} {o : Oper} {a : Act} {w : World} {Q : Exit → Act → World → Prop} (hgd : o.guard = none) (ty : TypeId) (x y : Operand) (ho : o.op = .store ty x y)
    (g : Nat) (t : TypeId) (old cs : Array Value) (hB : Blk w g t old) (hx : a.eval x = .pointer (some ⟨g, 0, none⟩)) (hy : a.eval y = .agg cs)
    (hi : (P.info? ty).map (·.size) = some cs.size) (hs : old.size = cs.size) (h1 : cs.all (·.oneCell') = true)
    (h : wpList P ops Q rest (a.put o.dst undef) (w.setRow g cs)) : wpList P ops Q (o :: rest) a w :=
  wpList_plain hgd fun _ hK => by
    unfold Oper.wp execOp
    simp only [ho, hx, hy, Instr.storeAt, Instr.sureAddr, Sem.run_bind, Sem.run_pure, Result.andThen_ok, run_storeVar_row w g t ty old cs hB hi hs h1]
    exact hK _ _ h
theorem Blk.setRow {w : World} {g : Nat} {t : TypeId} {old : Array Value} (h : Blk w g t old) (cs : Array Value) : Blk (w.setRow g cs) g t cs := setRow_heap w g old cs t (0, 0) h
theorem Blk.setRow_far {w : World} {g g' : Nat} {t : TypeId} {cs : Array Value} (h : Blk w g t cs) (hg : g ≠ g') (cs' : Array Value) : Blk (w.setRow g' cs') g t cs := h.keep (setRow_other w g' g cs' hg)
theorem Below.setRow {B : Nat} {a b : World} (h : Below B a b) {g : Nat} (hg : B ≤ g) (cs : Array Value) : Below B a (b.setRow g cs) :=
  h.trans ⟨rfl, rfl, rfl, by simp, fun k hk => setRow_other b g k cs (by omega)⟩
/-- What a function hands back out of a result's block that is known whole. -/
theorem results_blk {P : Program} {fn : Func} {p : Tmp} {ty : TypeId} (h : fn.results = #[.cell p ty]) (tmps : Array Value) {w : World} {g : Nat} {t : TypeId} {cs : Array Value} (d : TypeDesc)
    (hB : Blk w g t cs) (hp : tmps.getD p undef = .pointer (some ⟨g, 0, none⟩)) (hu : P.underlying ty = some d) (hd : (match d with | .struct _ | .array _ _ => true | _ => false) = true) (hi : (P.info? ty).map (·.size) = some cs.size) :
    (results fn tmps).run P w = .ok (.agg cs) w := results_cell_row h tmps w g t cs (0, 0) d hp hB hu hd hi
theorem Blk.load {w : World} {g : Nat} {t : TypeId} {cs : Array Value} (h : Blk w g t cs) : ∀ j u, cs[j]? = some u → w.cell? ((⟨g, 0, none⟩ : Addr).add j) = some u := fun j u hj => by
  rw [add_at, Nat.zero_add, h.cell]; exact hj
theorem one_bts (n : Int) : (bts n).all (·.oneCell') = true := by
  rw [Array.all_eq_true_iff_forall_mem]
  intro v hv
  simp only [bts, List.mem_toArray, List.mem_map] at hv
  obtain ⟨i, _, rfl⟩ := hv
  rfl
end Go.Proofs.YtodofaoaenddgaaDoor
