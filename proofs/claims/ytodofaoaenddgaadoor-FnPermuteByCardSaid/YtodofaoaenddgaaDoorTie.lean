/-
  DERIVED. GIVEN WITH THE SEED: THE PROGRAM's TIES (one call each: nine closed facts by the kernel) AND EACH ROW's TIE, after the 31st guide's Derived/Test/Toyas{Tie, Card}.lean. No idea stands in it: it is a product of the set-up. Laid BY PROGRAM, IN A SANDBOX (cutbox-door.mjs). By AI agents, Wed Nov 11 2026. No macro, syntax, notation, axiom, sorry.
-/
import Derived.Test.YtodofaoaenddgaaDoorRows
import Derived.LaidByTextLater
import Derived.SevenTiedAt
import Derived.LaidSub
import Derived.LaidOnce
namespace Go.Proofs.YtodofaoaenddgaaDoor
open Go
set_option maxRecDepth 100000
theorem seatTie1 : Tryd.prog.laidByTextLater [("loop.example/pub-g03244/pub/bn254fr.errInvalidEncoding", Rows.laid_loop_example_pub_g03244_pub_bn254fr_errInvalidEncoding), ("loop.example/pub-g03244/pub/bn254poseidon2.ErrInvalidSizebuffer", Rows.laid_loop_example_pub_g03244_pub_bn254poseidon2_ErrInvalidSizebuffer)] [.sentinel, .sentinel] true :=
  Program.laidByTextLater_by_one 47 8 2 (by kernel_rfl) (by kernel_rfl) (by kernel_rfl) (by kernel_rfl) (by kernel_rfl) (by kernel_rfl) (fun _ _ => by kernel_rfl)
theorem noOwnUnsafe : Tryd.pinned.checked.prog.headLifts.contains "ownunsafe" = false := by kernel_rfl
theorem tie : Tryd.prog.laidByTextLater [("loop.example/pub-g03244/pub/bn254fr.errInvalidEncoding", Rows.laid_loop_example_pub_g03244_pub_bn254fr_errInvalidEncoding)] [.sentinel] true :=
  Program.laidByTextLater.sub seatTie1 ["loop.example/pub-g03244/pub/bn254fr.errInvalidEncoding"] (by kernel_rfl) (by kernel_rfl)
theorem fnMatMulM4_row_tie : Rows.fnMatMulM4Row.laidByTextAt .later Tryd.pinned [.sentinel] true :=
  OpenClaim.laidByTextAt_later rfl rfl tie noOwnUnsafe
theorem fnInternal_row_tie : Rows.fnInternalRow.laidByTextAt .later Tryd.pinned [.sentinel] true :=
  OpenClaim.laidByTextAt_later rfl rfl tie noOwnUnsafe
theorem fnInternal4_row_tie : Rows.fnInternal4Row.laidByTextAt .later Tryd.pinned [.sentinel] true :=
  OpenClaim.laidByTextAt_later rfl rfl tie noOwnUnsafe
theorem fnExternal_row_tie : Rows.fnExternalRow.laidByTextAt .later Tryd.pinned [.sentinel] true :=
  OpenClaim.laidByTextAt_later rfl rfl tie noOwnUnsafe
theorem fnMatricesSum_row_tie : Rows.fnMatricesSumRow.laidByTextAt .later Tryd.pinned [.sentinel] true :=
  OpenClaim.laidByTextAt_later rfl rfl tie noOwnUnsafe
theorem fnSBox_row_tie : Rows.fnSBoxRow.laidByTextAt .later Tryd.pinned [.sentinel] true :=
  OpenClaim.laidByTextAt_later rfl rfl tie noOwnUnsafe
theorem tie2 : Tryd.prog.laidByTextLater [("loop.example/pub-g03244/pub/bn254fr.errInvalidEncoding", Rows.laid_loop_example_pub_g03244_pub_bn254fr_errInvalidEncoding), ("loop.example/pub-g03244/pub/bn254poseidon2.ErrInvalidSizebuffer", Rows.laid_loop_example_pub_g03244_pub_bn254poseidon2_ErrInvalidSizebuffer)] [.sentinel, .sentinel] true :=
  Program.laidByTextLater.sub seatTie1 ["loop.example/pub-g03244/pub/bn254fr.errInvalidEncoding", "loop.example/pub-g03244/pub/bn254poseidon2.ErrInvalidSizebuffer"] (by kernel_rfl) (by kernel_rfl)
theorem fnPermuteBy_row_tie : Rows.fnPermuteByRow.laidByTextAt .later Tryd.pinned [.sentinel, .sentinel] true :=
  OpenClaim.laidByTextAt_later rfl rfl tie2 noOwnUnsafe
theorem fnMatMulM4Upto_row_tie : Rows.fnMatMulM4UptoRow.laidByTextAt .later Tryd.pinned [.sentinel] true :=
  OpenClaim.laidByTextAt_later rfl rfl tie noOwnUnsafe
theorem fnInternalUpto_row_tie : Rows.fnInternalUptoRow.laidByTextAt .later Tryd.pinned [.sentinel] true :=
  OpenClaim.laidByTextAt_later rfl rfl tie noOwnUnsafe
theorem fnInternal4Upto_row_tie : Rows.fnInternal4UptoRow.laidByTextAt .later Tryd.pinned [.sentinel] true :=
  OpenClaim.laidByTextAt_later rfl rfl tie noOwnUnsafe
theorem fnExternalUpto_row_tie : Rows.fnExternalUptoRow.laidByTextAt .later Tryd.pinned [.sentinel] true :=
  OpenClaim.laidByTextAt_later rfl rfl tie noOwnUnsafe
theorem fnMatricesSumUpto_row_tie : Rows.fnMatricesSumUptoRow.laidByTextAt .later Tryd.pinned [.sentinel] true :=
  OpenClaim.laidByTextAt_later rfl rfl tie noOwnUnsafe
theorem fnSBoxUpto_row_tie : Rows.fnSBoxUptoRow.laidByTextAt .later Tryd.pinned [.sentinel] true :=
  OpenClaim.laidByTextAt_later rfl rfl tie noOwnUnsafe
theorem fnPermuteByUpto_row_tie : Rows.fnPermuteByUptoRow.laidByTextAt .later Tryd.pinned [.sentinel, .sentinel] true :=
  OpenClaim.laidByTextAt_later rfl rfl tie2 noOwnUnsafe
end Go.Proofs.YtodofaoaenddgaaDoor
