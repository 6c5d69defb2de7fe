/-
  DERIVED. GIVEN WITH THE SEED: THE CARDS: each row of YtodofaoaenddgaaDoorRows.lean that lists a variable, with what it lists TIED to the program's text (the seventh form; the later family's looks); each row that meets fmt, with fmt's text TOLD by the authors' own Lean function (tested against real Go, not proved from fmt's source: count such statements apart). THE CARD IS WHAT COUNTS. Prove the row's statement (the work); the ties are given (YtodofaoaenddgaaDoorTie.lean); close each card by the builder's one call (the guide's Derived/Test/ToyasCard.lean, 'card_holds'). Laid BY PROGRAM, IN A SANDBOX (cutbox-door.mjs). By AI agents, Wed Nov 11 2026. No macro, syntax, notation, axiom, sorry.
-/
import Derived.Test.YtodofaoaenddgaaDoorRows
import GoSem.ClaimSeven
namespace Go.Proofs.YtodofaoaenddgaaDoor
namespace Rows

/-- THE TIED CARD OF 'laws.FnMatMulM4'. -/
def fnMatMulM4Card : Claim7 := { stood := { row := fnMatMulM4Row, standIns := [], harness := (true, "d476a15600ed133f0fcefc182bb2539d88011fc29c74bb169b2ba3b5a54d9ac4"), looks := false }, kinds := [], alts := [], laidByText := true, laidKinds := [.sentinel], laidTests := true, laidLooks := .later }
def FnMatMulM4CardSaid : Prop := Claim7.holds Tryd.pinned (.plain (OpenSpec.ofChange fnMatMulM4Spec)) fnMatMulM4Card

/-- THE TIED CARD OF 'laws.FnInternal'. -/
def fnInternalCard : Claim7 := { stood := { row := fnInternalRow, standIns := [], harness := (true, "d476a15600ed133f0fcefc182bb2539d88011fc29c74bb169b2ba3b5a54d9ac4"), looks := false }, kinds := [], alts := [], laidByText := true, laidKinds := [.sentinel], laidTests := true, laidLooks := .later }
def FnInternalCardSaid : Prop := Claim7.holds Tryd.pinned (.plain (OpenSpec.ofChange fnInternalSpec)) fnInternalCard

/-- THE TIED CARD OF 'laws.FnInternal4'. -/
def fnInternal4Card : Claim7 := { stood := { row := fnInternal4Row, standIns := [], harness := (true, "d476a15600ed133f0fcefc182bb2539d88011fc29c74bb169b2ba3b5a54d9ac4"), looks := false }, kinds := [], alts := [], laidByText := true, laidKinds := [.sentinel], laidTests := true, laidLooks := .later }
def FnInternal4CardSaid : Prop := Claim7.holds Tryd.pinned (.plain (OpenSpec.ofChange fnInternal4Spec)) fnInternal4Card

/-- THE TIED CARD OF 'laws.FnExternal'. -/
def fnExternalCard : Claim7 := { stood := { row := fnExternalRow, standIns := [], harness := (true, "d476a15600ed133f0fcefc182bb2539d88011fc29c74bb169b2ba3b5a54d9ac4"), looks := false }, kinds := [], alts := [], laidByText := true, laidKinds := [.sentinel], laidTests := true, laidLooks := .later }
def FnExternalCardSaid : Prop := Claim7.holds Tryd.pinned (.plain (OpenSpec.ofChange fnExternalSpec)) fnExternalCard

/-- THE TIED CARD OF 'laws.FnMatricesSum'. -/
def fnMatricesSumCard : Claim7 := { stood := { row := fnMatricesSumRow, standIns := [], harness := (true, "d476a15600ed133f0fcefc182bb2539d88011fc29c74bb169b2ba3b5a54d9ac4"), looks := false }, kinds := [], alts := [], laidByText := true, laidKinds := [.sentinel], laidTests := true, laidLooks := .later }
def FnMatricesSumCardSaid : Prop := Claim7.holds Tryd.pinned (.plain (OpenSpec.ofChange fnMatricesSumSpec)) fnMatricesSumCard

/-- THE TIED CARD OF 'laws.FnSBox'. -/
def fnSBoxCard : Claim7 := { stood := { row := fnSBoxRow, standIns := [], harness := (true, "d476a15600ed133f0fcefc182bb2539d88011fc29c74bb169b2ba3b5a54d9ac4"), looks := false }, kinds := [], alts := [], laidByText := true, laidKinds := [.sentinel], laidTests := true, laidLooks := .later }
def FnSBoxCardSaid : Prop := Claim7.holds Tryd.pinned (.plain (OpenSpec.ofChange fnSBoxSpec)) fnSBoxCard

/-- THE TIED CARD OF 'laws.FnPermuteBy'. -/
def fnPermuteByCard : Claim7 := { stood := { row := fnPermuteByRow, standIns := [], harness := (true, "d476a15600ed133f0fcefc182bb2539d88011fc29c74bb169b2ba3b5a54d9ac4"), looks := false }, kinds := [], alts := [], laidByText := true, laidKinds := [.sentinel, .sentinel], laidTests := true, laidLooks := .later }
def FnPermuteByCardSaid : Prop := Claim7.holds Tryd.pinned (.plain (OpenSpec.ofChange fnPermuteBySpec)) fnPermuteByCard

/-- THE SECOND FORM's CARD OF 'laws.FnMatMulM4'. -/
def fnMatMulM4UptoCard : Claim7 := { stood := { row := fnMatMulM4UptoRow, standIns := [], harness := (true, "d476a15600ed133f0fcefc182bb2539d88011fc29c74bb169b2ba3b5a54d9ac4"), looks := false }, kinds := [], alts := [], laidByText := true, laidKinds := [.sentinel], laidTests := true, laidLooks := .later }
def FnMatMulM4UptoCardSaid : Prop := Claim7.holds Tryd.pinned (.plain (OpenSpec.upto fnMatMulM4Spec)) fnMatMulM4UptoCard

/-- THE SECOND FORM's CARD OF 'laws.FnInternal'. -/
def fnInternalUptoCard : Claim7 := { stood := { row := fnInternalUptoRow, standIns := [], harness := (true, "d476a15600ed133f0fcefc182bb2539d88011fc29c74bb169b2ba3b5a54d9ac4"), looks := false }, kinds := [], alts := [], laidByText := true, laidKinds := [.sentinel], laidTests := true, laidLooks := .later }
def FnInternalUptoCardSaid : Prop := Claim7.holds Tryd.pinned (.plain (OpenSpec.upto fnInternalSpec)) fnInternalUptoCard

/-- THE SECOND FORM's CARD OF 'laws.FnInternal4'. -/
def fnInternal4UptoCard : Claim7 := { stood := { row := fnInternal4UptoRow, standIns := [], harness := (true, "d476a15600ed133f0fcefc182bb2539d88011fc29c74bb169b2ba3b5a54d9ac4"), looks := false }, kinds := [], alts := [], laidByText := true, laidKinds := [.sentinel], laidTests := true, laidLooks := .later }
def FnInternal4UptoCardSaid : Prop := Claim7.holds Tryd.pinned (.plain (OpenSpec.upto fnInternal4Spec)) fnInternal4UptoCard

/-- THE SECOND FORM's CARD OF 'laws.FnExternal'. -/
def fnExternalUptoCard : Claim7 := { stood := { row := fnExternalUptoRow, standIns := [], harness := (true, "d476a15600ed133f0fcefc182bb2539d88011fc29c74bb169b2ba3b5a54d9ac4"), looks := false }, kinds := [], alts := [], laidByText := true, laidKinds := [.sentinel], laidTests := true, laidLooks := .later }
def FnExternalUptoCardSaid : Prop := Claim7.holds Tryd.pinned (.plain (OpenSpec.upto fnExternalSpec)) fnExternalUptoCard

/-- THE SECOND FORM's CARD OF 'laws.FnMatricesSum'. -/
def fnMatricesSumUptoCard : Claim7 := { stood := { row := fnMatricesSumUptoRow, standIns := [], harness := (true, "d476a15600ed133f0fcefc182bb2539d88011fc29c74bb169b2ba3b5a54d9ac4"), looks := false }, kinds := [], alts := [], laidByText := true, laidKinds := [.sentinel], laidTests := true, laidLooks := .later }
def FnMatricesSumUptoCardSaid : Prop := Claim7.holds Tryd.pinned (.plain (OpenSpec.upto fnMatricesSumSpec)) fnMatricesSumUptoCard

/-- THE SECOND FORM's CARD OF 'laws.FnSBox'. -/
def fnSBoxUptoCard : Claim7 := { stood := { row := fnSBoxUptoRow, standIns := [], harness := (true, "d476a15600ed133f0fcefc182bb2539d88011fc29c74bb169b2ba3b5a54d9ac4"), looks := false }, kinds := [], alts := [], laidByText := true, laidKinds := [.sentinel], laidTests := true, laidLooks := .later }
def FnSBoxUptoCardSaid : Prop := Claim7.holds Tryd.pinned (.plain (OpenSpec.upto fnSBoxSpec)) fnSBoxUptoCard

/-- THE SECOND FORM's CARD OF 'laws.FnPermuteBy'. -/
def fnPermuteByUptoCard : Claim7 := { stood := { row := fnPermuteByUptoRow, standIns := [], harness := (true, "d476a15600ed133f0fcefc182bb2539d88011fc29c74bb169b2ba3b5a54d9ac4"), looks := false }, kinds := [], alts := [], laidByText := true, laidKinds := [.sentinel, .sentinel], laidTests := true, laidLooks := .later }
def FnPermuteByUptoCardSaid : Prop := Claim7.holds Tryd.pinned (.plain (OpenSpec.upto fnPermuteBySpec)) fnPermuteByUptoCard
end Rows
end Go.Proofs.YtodofaoaenddgaaDoor
