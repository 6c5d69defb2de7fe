/-
  NARROWER THAN 'FOR EVERY INPUT', by the rows' own cells (each row's printed sentence says how): FnMatMulM4: ifaces, laid · FnInternal: ifaces, laid · FnInternal4: ifaces, laid · FnExternal: ifaces, laid · FnMatricesSum: ifaces, laid · FnSBox: ifaces, laid · FnPermuteBy: ifaces, laid.
  DERIVED. THE GIVEN ROWS OF THIS SEAT. 7 by the template 'for every input the law returns true; each argument reads behind the call as it read before'; 0 by the template 'total and deterministic' (their statements: YtodofaoaenddgaaDoorTotals.lean).
  GIVEN WITH THE SEED: the statements are not yours to turn. If you find one false, say at which input.
  Laid BY PROGRAM, IN A SANDBOX (cutbox-rows.mjs): the forced cells as the released guide's own fill.sh prints them over the translation b4ac2a88ba5123ea… (all of the seat's roots in one cut). By AI agents, Wed Nov 11 2026. No macro, syntax, notation, axiom, sorry.
-/
import Derived.Test.YtodofaoaenddgaaDoorChecked
import GoSem.Claim
import GoSem.ClaimJoined
import GoSem.ClaimMapViews
import Derived.JoinedTies
import Derived.KernelRfl
namespace Go.Proofs.YtodofaoaenddgaaDoor
/- THE CELL 'sum', in the pinned program and in every row, IS THE sha256 OF THE DUMP (.gsa) THAT YtodofaoaenddgaaDoorProg.lean LOADS. Nothing in Lean hashes anything: it is a label: what it is worth is what the hold of that sum in a sandbox is worth. -/
noncomputable def Tryd.pinned : Pinned := { name := "ytodofaoaenddgaadoor", sum := "b4ac2a88ba5123eae0ae25c359d9159d174542d3abbdb4d8e2560545c0e65df9", checked := Tryd.checked }
namespace Rows
def none {H : Type} : Left H := { results := [], args := [] }

/- WHAT THE LISTED PACKAGE-LEVEL VARIABLES READ AS WHEN THE CALL BEGINS. Each datum BY PROGRAM (the guide's laid-datum.mjs) off the statement by which the dump's own 'gosem.cut.vars' lays the variable. In a bare row this is a premise. The card (YtodofaoaenddgaaDoorCards.lean) ties it to the program's text. -/
def laid_loop_example_pub_g03244_pub_bn254fr_errInvalidEncoding {H : Type} : DataW H := .iface "*errors.errorString" (.ptr (.agg [.lit (.string [105, 110, 118, 97, 108, 105, 100, 32, 102, 114, 46, 69, 108, 101, 109, 101, 110, 116, 32, 101, 110, 99, 111, 100, 105, 110, 103])]))
def laid_loop_example_pub_g03244_pub_bn254poseidon2_ErrInvalidSizebuffer {H : Type} : DataW H := .iface "*errors.errorString" (.ptr (.agg [.lit (.string [116, 104, 101, 32, 115, 105, 122, 101, 32, 111, 102, 32, 116, 104, 101, 32, 105, 110, 112, 117, 116, 32, 115, 104, 111, 117, 108, 100, 32, 109, 97, 116, 99, 104, 32, 116, 104, 101, 32, 115, 105, 122, 101, 32, 111, 102, 32, 116, 104, 101, 32, 104, 97, 115, 104, 32, 98, 117, 102, 102, 101, 114])]))

/-- 'laws.FnMatMulM4': WHATEVER THE INPUT: true; the input reads as it did. -/
def fnMatMulM4Spec : ChangeSpec := { name := "fnMatMulM4", vars := ["loop.example/pub-g03244/pub/bn254fr.errInvalidEncoding"], fn := fun _ => fun
  | [d, g1] => { results := [.lit (.bool true)], args := [d], vars := [g1] }
  | _ => none }
def fnMatMulM4Row : OpenClaim := { program := "ytodofaoaenddgaadoor", sum := "b4ac2a88ba5123eae0ae25c359d9159d174542d3abbdb4d8e2560545c0e65df9", func := "loop.example/pub-g03244/laws.FnMatMulM4", spec := "fnMatMulM4", inPlace := ["math/bits.Add64", "math/bits.Sub64"], named := ["loop.example/pub-g03244/pub/bn254fr.errInvalidEncoding"], ifaces := true, apart := false, laid := [("loop.example/pub-g03244/pub/bn254fr.errInvalidEncoding", laid_loop_example_pub_g03244_pub_bn254fr_errInvalidEncoding)] }
def FnMatMulM4Said : Prop := fnMatMulM4Row.holds Tryd.pinned (OpenSpec.ofChange fnMatMulM4Spec)

/-- ITS FALSE NEIGHBOUR: 'it returns false'. Refute it at one input. -/
def fnMatMulM4Wrong : ChangeSpec := { name := "fnMatMulM4", vars := ["loop.example/pub-g03244/pub/bn254fr.errInvalidEncoding"], fn := fun _ => fun
  | [d, g1] => { results := [.lit (.bool false)], args := [d], vars := [g1] }
  | _ => none }
def FnMatMulM4WrongFalsely : Prop := fnMatMulM4Row.holds Tryd.pinned (OpenSpec.ofChange fnMatMulM4Wrong)

/-- 'laws.FnInternal': WHATEVER THE INPUT: true; the input reads as it did. -/
def fnInternalSpec : ChangeSpec := { name := "fnInternal", vars := ["loop.example/pub-g03244/pub/bn254fr.errInvalidEncoding"], fn := fun _ => fun
  | [d, g1] => { results := [.lit (.bool true)], args := [d], vars := [g1] }
  | _ => none }
def fnInternalRow : OpenClaim := { program := "ytodofaoaenddgaadoor", sum := "b4ac2a88ba5123eae0ae25c359d9159d174542d3abbdb4d8e2560545c0e65df9", func := "loop.example/pub-g03244/laws.FnInternal", spec := "fnInternal", inPlace := ["math/bits.Add64", "math/bits.Sub64"], named := ["loop.example/pub-g03244/pub/bn254fr.errInvalidEncoding"], ifaces := true, apart := false, laid := [("loop.example/pub-g03244/pub/bn254fr.errInvalidEncoding", laid_loop_example_pub_g03244_pub_bn254fr_errInvalidEncoding)] }
def FnInternalSaid : Prop := fnInternalRow.holds Tryd.pinned (OpenSpec.ofChange fnInternalSpec)

/-- ITS FALSE NEIGHBOUR: 'it returns false'. Refute it at one input. -/
def fnInternalWrong : ChangeSpec := { name := "fnInternal", vars := ["loop.example/pub-g03244/pub/bn254fr.errInvalidEncoding"], fn := fun _ => fun
  | [d, g1] => { results := [.lit (.bool false)], args := [d], vars := [g1] }
  | _ => none }
def FnInternalWrongFalsely : Prop := fnInternalRow.holds Tryd.pinned (OpenSpec.ofChange fnInternalWrong)

/-- 'laws.FnInternal4': WHATEVER THE INPUT: true; the input reads as it did. -/
def fnInternal4Spec : ChangeSpec := { name := "fnInternal4", vars := ["loop.example/pub-g03244/pub/bn254fr.errInvalidEncoding"], fn := fun _ => fun
  | [d1, d2, g1] => { results := [.lit (.bool true)], args := [d1, d2], vars := [g1] }
  | _ => none }
def fnInternal4Row : OpenClaim := { program := "ytodofaoaenddgaadoor", sum := "b4ac2a88ba5123eae0ae25c359d9159d174542d3abbdb4d8e2560545c0e65df9", func := "loop.example/pub-g03244/laws.FnInternal4", spec := "fnInternal4", inPlace := ["math/bits.Add64", "math/bits.Sub64"], named := ["loop.example/pub-g03244/pub/bn254fr.errInvalidEncoding"], ifaces := true, apart := false, laid := [("loop.example/pub-g03244/pub/bn254fr.errInvalidEncoding", laid_loop_example_pub_g03244_pub_bn254fr_errInvalidEncoding)] }
def FnInternal4Said : Prop := fnInternal4Row.holds Tryd.pinned (OpenSpec.ofChange fnInternal4Spec)

/-- ITS FALSE NEIGHBOUR: 'it returns false'. Refute it at one input. -/
def fnInternal4Wrong : ChangeSpec := { name := "fnInternal4", vars := ["loop.example/pub-g03244/pub/bn254fr.errInvalidEncoding"], fn := fun _ => fun
  | [d1, d2, g1] => { results := [.lit (.bool false)], args := [d1, d2], vars := [g1] }
  | _ => none }
def FnInternal4WrongFalsely : Prop := fnInternal4Row.holds Tryd.pinned (OpenSpec.ofChange fnInternal4Wrong)

/-- 'laws.FnExternal': WHATEVER THE INPUT: true; the input reads as it did. -/
def fnExternalSpec : ChangeSpec := { name := "fnExternal", vars := ["loop.example/pub-g03244/pub/bn254fr.errInvalidEncoding"], fn := fun _ => fun
  | [d, g1] => { results := [.lit (.bool true)], args := [d], vars := [g1] }
  | _ => none }
def fnExternalRow : OpenClaim := { program := "ytodofaoaenddgaadoor", sum := "b4ac2a88ba5123eae0ae25c359d9159d174542d3abbdb4d8e2560545c0e65df9", func := "loop.example/pub-g03244/laws.FnExternal", spec := "fnExternal", inPlace := ["math/bits.Add64", "math/bits.Sub64"], named := ["loop.example/pub-g03244/pub/bn254fr.errInvalidEncoding"], ifaces := true, apart := false, laid := [("loop.example/pub-g03244/pub/bn254fr.errInvalidEncoding", laid_loop_example_pub_g03244_pub_bn254fr_errInvalidEncoding)] }
def FnExternalSaid : Prop := fnExternalRow.holds Tryd.pinned (OpenSpec.ofChange fnExternalSpec)

/-- ITS FALSE NEIGHBOUR: 'it returns false'. Refute it at one input. -/
def fnExternalWrong : ChangeSpec := { name := "fnExternal", vars := ["loop.example/pub-g03244/pub/bn254fr.errInvalidEncoding"], fn := fun _ => fun
  | [d, g1] => { results := [.lit (.bool false)], args := [d], vars := [g1] }
  | _ => none }
def FnExternalWrongFalsely : Prop := fnExternalRow.holds Tryd.pinned (OpenSpec.ofChange fnExternalWrong)

/-- 'laws.FnMatricesSum': WHATEVER THE INPUT: true; the input reads as it did. -/
def fnMatricesSumSpec : ChangeSpec := { name := "fnMatricesSum", vars := ["loop.example/pub-g03244/pub/bn254fr.errInvalidEncoding"], fn := fun _ => fun
  | [d1, d2, d3, g1] => { results := [.lit (.bool true)], args := [d1, d2, d3], vars := [g1] }
  | _ => none }
def fnMatricesSumRow : OpenClaim := { program := "ytodofaoaenddgaadoor", sum := "b4ac2a88ba5123eae0ae25c359d9159d174542d3abbdb4d8e2560545c0e65df9", func := "loop.example/pub-g03244/laws.FnMatricesSum", spec := "fnMatricesSum", inPlace := ["math/bits.Add64", "math/bits.Sub64"], unfollowed := true, recurses := true, named := ["loop.example/pub-g03244/pub/bn254fr.errInvalidEncoding"], ifaces := true, apart := false, laid := [("loop.example/pub-g03244/pub/bn254fr.errInvalidEncoding", laid_loop_example_pub_g03244_pub_bn254fr_errInvalidEncoding)] }
def FnMatricesSumSaid : Prop := fnMatricesSumRow.holds Tryd.pinned (OpenSpec.ofChange fnMatricesSumSpec)

/-- ITS FALSE NEIGHBOUR: 'it returns false'. Refute it at one input. -/
def fnMatricesSumWrong : ChangeSpec := { name := "fnMatricesSum", vars := ["loop.example/pub-g03244/pub/bn254fr.errInvalidEncoding"], fn := fun _ => fun
  | [d1, d2, d3, g1] => { results := [.lit (.bool false)], args := [d1, d2, d3], vars := [g1] }
  | _ => none }
def FnMatricesSumWrongFalsely : Prop := fnMatricesSumRow.holds Tryd.pinned (OpenSpec.ofChange fnMatricesSumWrong)

/-- 'laws.FnSBox': WHATEVER THE INPUT: true; the input reads as it did. -/
def fnSBoxSpec : ChangeSpec := { name := "fnSBox", vars := ["loop.example/pub-g03244/pub/bn254fr.errInvalidEncoding"], fn := fun _ => fun
  | [d, g1] => { results := [.lit (.bool true)], args := [d], vars := [g1] }
  | _ => none }
def fnSBoxRow : OpenClaim := { program := "ytodofaoaenddgaadoor", sum := "b4ac2a88ba5123eae0ae25c359d9159d174542d3abbdb4d8e2560545c0e65df9", func := "loop.example/pub-g03244/laws.FnSBox", spec := "fnSBox", inPlace := ["math/bits.Add64", "math/bits.Sub64"], named := ["loop.example/pub-g03244/pub/bn254fr.errInvalidEncoding"], ifaces := true, apart := false, laid := [("loop.example/pub-g03244/pub/bn254fr.errInvalidEncoding", laid_loop_example_pub_g03244_pub_bn254fr_errInvalidEncoding)] }
def FnSBoxSaid : Prop := fnSBoxRow.holds Tryd.pinned (OpenSpec.ofChange fnSBoxSpec)

/-- ITS FALSE NEIGHBOUR: 'it returns false'. Refute it at one input. -/
def fnSBoxWrong : ChangeSpec := { name := "fnSBox", vars := ["loop.example/pub-g03244/pub/bn254fr.errInvalidEncoding"], fn := fun _ => fun
  | [d, g1] => { results := [.lit (.bool false)], args := [d], vars := [g1] }
  | _ => none }
def FnSBoxWrongFalsely : Prop := fnSBoxRow.holds Tryd.pinned (OpenSpec.ofChange fnSBoxWrong)

/-- 'laws.FnPermuteBy': WHATEVER THE INPUT: true; the input reads as it did. -/
def fnPermuteBySpec : ChangeSpec := { name := "fnPermuteBy", vars := ["loop.example/pub-g03244/pub/bn254fr.errInvalidEncoding", "loop.example/pub-g03244/pub/bn254poseidon2.ErrInvalidSizebuffer"], fn := fun _ => fun
  | [d1, d2, d3, d4, g1, g2] => { results := [.lit (.bool true)], args := [d1, d2, d3, d4], vars := [g1, g2] }
  | _ => none }
def fnPermuteByRow : OpenClaim := { program := "ytodofaoaenddgaadoor", sum := "b4ac2a88ba5123eae0ae25c359d9159d174542d3abbdb4d8e2560545c0e65df9", func := "loop.example/pub-g03244/laws.FnPermuteBy", spec := "fnPermuteBy", inPlace := ["math/bits.Add64", "math/bits.Sub64"], named := ["loop.example/pub-g03244/pub/bn254fr.errInvalidEncoding", "loop.example/pub-g03244/pub/bn254poseidon2.ErrInvalidSizebuffer"], ifaces := true, apart := false, laid := [("loop.example/pub-g03244/pub/bn254fr.errInvalidEncoding", laid_loop_example_pub_g03244_pub_bn254fr_errInvalidEncoding), ("loop.example/pub-g03244/pub/bn254poseidon2.ErrInvalidSizebuffer", laid_loop_example_pub_g03244_pub_bn254poseidon2_ErrInvalidSizebuffer)] }
def FnPermuteBySaid : Prop := fnPermuteByRow.holds Tryd.pinned (OpenSpec.ofChange fnPermuteBySpec)

/-- ITS FALSE NEIGHBOUR: 'it returns false'. Refute it at one input. -/
def fnPermuteByWrong : ChangeSpec := { name := "fnPermuteBy", vars := ["loop.example/pub-g03244/pub/bn254fr.errInvalidEncoding", "loop.example/pub-g03244/pub/bn254poseidon2.ErrInvalidSizebuffer"], fn := fun _ => fun
  | [d1, d2, d3, d4, g1, g2] => { results := [.lit (.bool false)], args := [d1, d2, d3, d4], vars := [g1, g2] }
  | _ => none }
def FnPermuteByWrongFalsely : Prop := fnPermuteByRow.holds Tryd.pinned (OpenSpec.ofChange fnPermuteByWrong)

/- THE SECOND FORM. 'bulk': how many values and letters a reading holds, each counted each time it is reached (what is shared counts as often as it is met; a slice's spare places count too). A statement '..UptoSaid' is the law's where the arguments, and the package variables that the reading takes, are together of bulk at most 1048576: NARROWER than '..Said'. Prove '..Said' where nothing that the law and all that it calls make is longer than what came in: it says more and counts as full. Else prove '..UptoSaid'. A law counts once. -/
mutual
def uptoBulk {H : Type} : DataW H → Nat
  | .lit (.string bytes) => bytes.length + 1
  | .lit _ => 1
  | .nil => 1
  | .ptr d => uptoBulk d + 1
  | .slice elems spare => uptoBulkAll elems + uptoBulkAll spare + 1
  | .agg parts => uptoBulkAll parts + 1
  | .iface _ d => uptoBulk d + 1
  | .map entries => uptoBulkEntries entries + 1
  | .held _ => 1
def uptoBulkAll {H : Type} : List (DataW H) → Nat
  | [] => 0
  | d :: r => uptoBulk d + uptoBulkAll r
def uptoBulkEntries {H : Type} : List (Lit × DataW H) → Nat
  | [] => 0
  | x :: r => uptoBulkEntry x + uptoBulkEntries r
def uptoBulkEntry {H : Type} : Lit × DataW H → Nat
  | (.string bytes, d) => bytes.length + uptoBulk d + 1
  | (_, d) => uptoBulk d + 1
 end
def uptoSmall : (H : Type) → List (DataW H) → Bool := fun _ ds => decide (uptoBulkAll ds ≤ 1048576)
def OpenSpec.upto (s : _root_.Go.ChangeSpec) : _root_.Go.OpenSpec := { _root_.Go.OpenSpec.ofChange s with cond := some uptoSmall }

/-- 'laws.FnMatMulM4', WHERE WHAT IT READS IS OF BULK AT MOST 1048576: true; the input reads as it did. -/
def fnMatMulM4UptoRow : OpenClaim := { program := "ytodofaoaenddgaadoor", sum := "b4ac2a88ba5123eae0ae25c359d9159d174542d3abbdb4d8e2560545c0e65df9", func := "loop.example/pub-g03244/laws.FnMatMulM4", spec := "fnMatMulM4", inPlace := ["math/bits.Add64", "math/bits.Sub64"], named := ["loop.example/pub-g03244/pub/bn254fr.errInvalidEncoding"], ifaces := true, apart := false, laid := [("loop.example/pub-g03244/pub/bn254fr.errInvalidEncoding", laid_loop_example_pub_g03244_pub_bn254fr_errInvalidEncoding)], narrowed := true }
def FnMatMulM4UptoSaid : Prop := fnMatMulM4UptoRow.holds Tryd.pinned (OpenSpec.upto fnMatMulM4Spec)

/-- 'laws.FnInternal', WHERE WHAT IT READS IS OF BULK AT MOST 1048576: true; the input reads as it did. -/
def fnInternalUptoRow : OpenClaim := { program := "ytodofaoaenddgaadoor", sum := "b4ac2a88ba5123eae0ae25c359d9159d174542d3abbdb4d8e2560545c0e65df9", func := "loop.example/pub-g03244/laws.FnInternal", spec := "fnInternal", inPlace := ["math/bits.Add64", "math/bits.Sub64"], named := ["loop.example/pub-g03244/pub/bn254fr.errInvalidEncoding"], ifaces := true, apart := false, laid := [("loop.example/pub-g03244/pub/bn254fr.errInvalidEncoding", laid_loop_example_pub_g03244_pub_bn254fr_errInvalidEncoding)], narrowed := true }
def FnInternalUptoSaid : Prop := fnInternalUptoRow.holds Tryd.pinned (OpenSpec.upto fnInternalSpec)

/-- 'laws.FnInternal4', WHERE WHAT IT READS IS OF BULK AT MOST 1048576: true; the input reads as it did. -/
def fnInternal4UptoRow : OpenClaim := { program := "ytodofaoaenddgaadoor", sum := "b4ac2a88ba5123eae0ae25c359d9159d174542d3abbdb4d8e2560545c0e65df9", func := "loop.example/pub-g03244/laws.FnInternal4", spec := "fnInternal4", inPlace := ["math/bits.Add64", "math/bits.Sub64"], named := ["loop.example/pub-g03244/pub/bn254fr.errInvalidEncoding"], ifaces := true, apart := false, laid := [("loop.example/pub-g03244/pub/bn254fr.errInvalidEncoding", laid_loop_example_pub_g03244_pub_bn254fr_errInvalidEncoding)], narrowed := true }
def FnInternal4UptoSaid : Prop := fnInternal4UptoRow.holds Tryd.pinned (OpenSpec.upto fnInternal4Spec)

/-- 'laws.FnExternal', WHERE WHAT IT READS IS OF BULK AT MOST 1048576: true; the input reads as it did. -/
def fnExternalUptoRow : OpenClaim := { program := "ytodofaoaenddgaadoor", sum := "b4ac2a88ba5123eae0ae25c359d9159d174542d3abbdb4d8e2560545c0e65df9", func := "loop.example/pub-g03244/laws.FnExternal", spec := "fnExternal", inPlace := ["math/bits.Add64", "math/bits.Sub64"], named := ["loop.example/pub-g03244/pub/bn254fr.errInvalidEncoding"], ifaces := true, apart := false, laid := [("loop.example/pub-g03244/pub/bn254fr.errInvalidEncoding", laid_loop_example_pub_g03244_pub_bn254fr_errInvalidEncoding)], narrowed := true }
def FnExternalUptoSaid : Prop := fnExternalUptoRow.holds Tryd.pinned (OpenSpec.upto fnExternalSpec)

/-- 'laws.FnMatricesSum', WHERE WHAT IT READS IS OF BULK AT MOST 1048576: true; the input reads as it did. -/
def fnMatricesSumUptoRow : OpenClaim := { program := "ytodofaoaenddgaadoor", sum := "b4ac2a88ba5123eae0ae25c359d9159d174542d3abbdb4d8e2560545c0e65df9", func := "loop.example/pub-g03244/laws.FnMatricesSum", spec := "fnMatricesSum", inPlace := ["math/bits.Add64", "math/bits.Sub64"], unfollowed := true, recurses := true, named := ["loop.example/pub-g03244/pub/bn254fr.errInvalidEncoding"], ifaces := true, apart := false, laid := [("loop.example/pub-g03244/pub/bn254fr.errInvalidEncoding", laid_loop_example_pub_g03244_pub_bn254fr_errInvalidEncoding)], narrowed := true }
def FnMatricesSumUptoSaid : Prop := fnMatricesSumUptoRow.holds Tryd.pinned (OpenSpec.upto fnMatricesSumSpec)

/-- 'laws.FnSBox', WHERE WHAT IT READS IS OF BULK AT MOST 1048576: true; the input reads as it did. -/
def fnSBoxUptoRow : OpenClaim := { program := "ytodofaoaenddgaadoor", sum := "b4ac2a88ba5123eae0ae25c359d9159d174542d3abbdb4d8e2560545c0e65df9", func := "loop.example/pub-g03244/laws.FnSBox", spec := "fnSBox", inPlace := ["math/bits.Add64", "math/bits.Sub64"], named := ["loop.example/pub-g03244/pub/bn254fr.errInvalidEncoding"], ifaces := true, apart := false, laid := [("loop.example/pub-g03244/pub/bn254fr.errInvalidEncoding", laid_loop_example_pub_g03244_pub_bn254fr_errInvalidEncoding)], narrowed := true }
def FnSBoxUptoSaid : Prop := fnSBoxUptoRow.holds Tryd.pinned (OpenSpec.upto fnSBoxSpec)

/-- 'laws.FnPermuteBy', WHERE WHAT IT READS IS OF BULK AT MOST 1048576: true; the input reads as it did. -/
def fnPermuteByUptoRow : OpenClaim := { program := "ytodofaoaenddgaadoor", sum := "b4ac2a88ba5123eae0ae25c359d9159d174542d3abbdb4d8e2560545c0e65df9", func := "loop.example/pub-g03244/laws.FnPermuteBy", spec := "fnPermuteBy", inPlace := ["math/bits.Add64", "math/bits.Sub64"], named := ["loop.example/pub-g03244/pub/bn254fr.errInvalidEncoding", "loop.example/pub-g03244/pub/bn254poseidon2.ErrInvalidSizebuffer"], ifaces := true, apart := false, laid := [("loop.example/pub-g03244/pub/bn254fr.errInvalidEncoding", laid_loop_example_pub_g03244_pub_bn254fr_errInvalidEncoding), ("loop.example/pub-g03244/pub/bn254poseidon2.ErrInvalidSizebuffer", laid_loop_example_pub_g03244_pub_bn254poseidon2_ErrInvalidSizebuffer)], narrowed := true }
def FnPermuteByUptoSaid : Prop := fnPermuteByUptoRow.holds Tryd.pinned (OpenSpec.upto fnPermuteBySpec)

end Rows
end Go.Proofs.YtodofaoaenddgaaDoor
