/-
  Rows of 32 bytes in one block: what impl.plain makes.
-/
import Derived.Test.YtodofaoaenddgaaDoorMem
import Derived.Deep.MidRow
namespace Go.Proofs.YtodofaoaenddgaaDoor
open Go.RowKit Go.Lib Fr

/-- The bytes of a list of numbers. -/
def btsL : List Int → List Value
  | [] => []
  | n :: r => (bts n).toList ++ btsL r
theorem length_btsL : ∀ ns, (btsL ns).length = ns.length * 32
  | [] => rfl
  | n :: r => by simp only [btsL, List.length_append, List.length_cons, length_btsL r, Array.length_toList, size_bts]; omega
theorem btsL_snoc : ∀ (l : List Int) (n : Int), btsL (l ++ [n]) = btsL l ++ (bts n).toList
  | [], n => by simp [btsL]
  | m :: l, n => by simp only [List.cons_append, btsL, btsL_snoc l n, List.append_assoc]
theorem btsL_append : ∀ (l r : List Int), btsL (l ++ r) = btsL l ++ btsL r
  | [], r => rfl
  | m :: l, r => by simp only [List.cons_append, btsL, btsL_append l r, List.append_assoc]
theorem btsL_at : ∀ (l : List Int) (i : Nat) (n : Int) (j : Nat), l[i]? = some n → j < 32 → (btsL l)[i * 32 + j]? = some (.int .u8 (byt n j))
  | [], i, n, j, h, _ => by simp at h
  | m :: l, 0, n, j, h, hj => by
    simp only [List.getElem?_cons_zero, Option.some.injEq] at h
    subst h
    simp only [btsL, Nat.zero_mul, Nat.zero_add]
    rw [List.getElem?_append_left (by simpa using hj)]
    have := bts_at m hj
    simpa using this
  | m :: l, i + 1, n, j, h, hj => by
    simp only [List.getElem?_cons_succ] at h
    simp only [btsL]
    rw [List.getElem?_append_right (by simp; omega)]
    rw [show (i + 1) * 32 + j - (bts m).toList.length = i * 32 + j from by simp; omega]
    exact btsL_at l i n j h hj
/-- Many cells laid in a list. -/
def laid (cs : List Value) : Nat → List Value → List Value
  | _, [] => cs
  | o, v :: r => laid (cs.set o v) (o + 1) r
theorem laid_mid : ∀ (m m' l r : List Value), m.length = m'.length → laid (l ++ m ++ r) l.length m' = l ++ m' ++ r
  | [], [], l, r, _ => by simp [laid]
  | x :: m, y :: m', l, r, h => by
    have ih := laid_mid m m' (l ++ [y]) r (by simpa using h)
    simp only [laid]
    have e : (l ++ x :: m ++ r).set l.length y = l ++ [y] ++ m ++ r := by simp [List.set_append_right]
    rw [e, show l.length + 1 = (l ++ [y]).length from by simp, ih]
    simp
  | [], _ :: _, _, _, h => by simp at h
  | _ :: _, [], _, _, h => by simp at h
theorem Blk.setCells {b : Nat} {t : TypeId} : ∀ (vs : List Value) (o : Nat) (w : World) (cs : List Value), Blk w b t cs.toArray → Blk (w.setCells b o vs) b t (laid cs o vs).toArray
  | [], _, _, _, h => h
  | v :: r, o, w, cs, h => by
    have h' := h.set_ o v
    rw [List.setIfInBounds_toArray] at h'
    exact Blk.setCells r (o + 1) _ _ h'
theorem Blk.setCells_far {b b' : Nat} {t : TypeId} {cs : Array Value} (hne : b ≠ b') : ∀ (vs : List Value) (o : Nat) (w : World), Blk w b t cs → Blk (w.setCells b' o vs) b t cs
  | [], _, _, h => h
  | v :: r, o, _, h => Blk.setCells_far hne r (o + 1) _ (h.far (p := ⟨b', o, none⟩) hne v)
theorem Below.setCells {B b : Nat} {a : World} (hb : B ≤ b) : ∀ (vs : List Value) (o : Nat) (w : World), RowKit.Below B a w → RowKit.Below B a (w.setCells b o vs)
  | [], _, _, h => h
  | v :: r, o, _, h => Below.setCells hb r (o + 1) _ (RowKit.Below.setCell (p := ⟨b, o, none⟩) h hb v)
theorem split_at {ns : List Int} {k : Nat} {n : Int} (h : ns[k]? = some n) : ns = ns.take k ++ n :: ns.drop (k + 1) := by
  obtain ⟨hk, rfl⟩ := List.getElem?_eq_some_iff.1 h
  rw [List.getElem_cons_drop, List.take_append_drop]
theorem btsL_set {ns : List Int} {k : Nat} (hk : k < ns.length) (m : Int) : laid (btsL ns) (k * 32) (bts m).toList = btsL (ns.set k m) := by
  obtain ⟨n, hn⟩ : ∃ n, ns[k]? = some n := ⟨_, List.getElem?_eq_getElem hk⟩
  have e := split_at hn
  have e2 : ns.set k m = ns.take k ++ m :: ns.drop (k + 1) := by
    conv => lhs; rw [e]
    rw [List.set_append_right _ _ (by rw [List.length_take]; omega), show k - (ns.take k).length = 0 from by rw [List.length_take]; omega]
    rfl
  rw [e2, btsL_append, btsL]
  conv => lhs; rw [e, btsL_append, btsL]
  have hl : (btsL (ns.take k)).length = k * 32 := by rw [length_btsL, List.length_take]; omega
  rw [← List.append_assoc, ← hl, laid_mid _ _ _ _ (by simp), List.append_assoc]
theorem bts_zero : (bts 0).toList = List.replicate 32 (Value.int .u8 0) := rfl
theorem btsL_zeros : ∀ n, btsL (List.replicate n 0) = List.replicate (n * 32) (Value.int .u8 0)
  | 0 => rfl
  | n + 1 => by
    rw [List.replicate_succ, btsL, btsL_zeros n, bts_zero, List.replicate_append_replicate, show 32 + n * 32 = (n + 1) * 32 from by omega]
theorem made_zero32 (n : Nat) : madeCells (bts 0) (n * 32) = (btsL (List.replicate n 0)).toArray := by
  rw [btsL_zeros]
  apply Array.ext'
  simp only [madeCells, Array.toList_map, Array.toList_range]
  apply List.ext_getElem
  · simp
  · intro i h1 h2
    simp only [List.getElem_map, List.getElem_range, List.getElem_replicate]
    have h32 : i % 32 < 32 := Nat.mod_lt _ (by decide)
    have e := bts_zero
    have e2 : (bts 0)[i % 32]? = some (Value.int .u8 0) := by
      rw [← Array.getElem?_toList, e, List.getElem?_replicate, if_pos h32]
    show (bts 0)[i % (bts 0).size]! = _
    rw [size_bts, Array.getElem!_eq_getD, Array.getD_eq_getD_getElem?, e2]
    rfl
end Go.Proofs.YtodofaoaenddgaaDoor
