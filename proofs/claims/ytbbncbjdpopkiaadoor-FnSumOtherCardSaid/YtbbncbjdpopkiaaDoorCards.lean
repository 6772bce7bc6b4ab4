/-
  DERIVED. GIVEN WITH THE SEED: THE CARDS: each row of YtbbncbjdpopkiaaDoorRows.lean that lists a variable, with what it lists TIED to the program's text (the seventh form; the later family's looks); each row that meets fmt, with fmt's text TOLD by the authors' own Lean function (tested against real Go, not proved from fmt's source: count such statements apart). THE CARD IS WHAT COUNTS. Prove the row's statement (the work); the ties are given (YtbbncbjdpopkiaaDoorTie.lean); close each card by the builder's one call (the guide's Derived/Test/ToyasCard.lean, 'card_holds'). Laid BY PROGRAM, IN A SANDBOX (cutbox-door.mjs). By AI agents, Wed Nov 11 2026. No macro, syntax, notation, axiom, sorry.
-/
import Derived.Test.YtbbncbjdpopkiaaDoorRows
import GoSem.ClaimSeven
namespace Go.Proofs.YtbbncbjdpopkiaaDoor
namespace Rows

/-- THE TIED CARD OF 'laws.FnSumCheck'. -/
def fnSumCheckCard : Claim7 := { stood := { row := fnSumCheckRow, standIns := [], harness := (true, "de4a623a71c0de391d6442eac45bb2f6c5238a5bea9d8c0b9ac46fb393680221"), looks := false }, kinds := [], alts := [], laidByText := true, laidKinds := [.sentinel], laidTests := true, laidLooks := .later }
def FnSumCheckCardSaid : Prop := Claim7.holds Tryd.pinned (.plain (OpenSpec.ofChange fnSumCheckSpec)) fnSumCheckCard

/-- THE TIED CARD OF 'laws.FnSumOther'. -/
def fnSumOtherCard : Claim7 := { stood := { row := fnSumOtherRow, standIns := [], harness := (true, "de4a623a71c0de391d6442eac45bb2f6c5238a5bea9d8c0b9ac46fb393680221"), looks := false }, kinds := [], alts := [], laidByText := true, laidKinds := [.sentinel], laidTests := true, laidLooks := .later }
def FnSumOtherCardSaid : Prop := Claim7.holds Tryd.pinned (.plain (OpenSpec.ofChange fnSumOtherSpec)) fnSumOtherCard

/-- THE TIED CARD OF 'laws.FnValueAppend'. -/
def fnValueAppendCard : Claim7 := { stood := { row := fnValueAppendRow, standIns := [], harness := (true, "de4a623a71c0de391d6442eac45bb2f6c5238a5bea9d8c0b9ac46fb393680221"), looks := false }, kinds := [], alts := [], laidByText := true, laidKinds := [.sentinel], laidTests := true, laidLooks := .later }
def FnValueAppendCardSaid : Prop := Claim7.holds Tryd.pinned (.plain (OpenSpec.ofChange fnValueAppendSpec)) fnValueAppendCard

/-- THE TIED CARD OF 'laws.FnRecBytes'. -/
def fnRecBytesCard : Claim7 := { stood := { row := fnRecBytesRow, standIns := [], harness := (true, "de4a623a71c0de391d6442eac45bb2f6c5238a5bea9d8c0b9ac46fb393680221"), looks := false }, kinds := [], alts := [], laidByText := true, laidKinds := [.sentinel], laidTests := true, laidLooks := .later }
def FnRecBytesCardSaid : Prop := Claim7.holds Tryd.pinned (.plain (OpenSpec.ofChange fnRecBytesSpec)) fnRecBytesCard

/-- THE TIED CARD OF 'laws.FnLogBytes'. -/
def fnLogBytesCard : Claim7 := { stood := { row := fnLogBytesRow, standIns := [], harness := (true, "de4a623a71c0de391d6442eac45bb2f6c5238a5bea9d8c0b9ac46fb393680221"), looks := false }, kinds := [], alts := [], laidByText := true, laidKinds := [.sentinel], laidTests := true, laidLooks := .later }
def FnLogBytesCardSaid : Prop := Claim7.holds Tryd.pinned (.plain (OpenSpec.ofChange fnLogBytesSpec)) fnLogBytesCard

/-- THE TIED CARD OF 'laws.FnRecBack'. -/
def fnRecBackCard : Claim7 := { stood := { row := fnRecBackRow, standIns := [], harness := (true, "de4a623a71c0de391d6442eac45bb2f6c5238a5bea9d8c0b9ac46fb393680221"), looks := false }, kinds := [], alts := [], laidByText := true, laidKinds := [.sentinel], laidTests := true, laidLooks := .later }
def FnRecBackCardSaid : Prop := Claim7.holds Tryd.pinned (.plain (OpenSpec.ofChange fnRecBackSpec)) fnRecBackCard

/-- THE SECOND FORM's CARD OF 'laws.FnSumCheck'. -/
def fnSumCheckUptoCard : Claim7 := { stood := { row := fnSumCheckUptoRow, standIns := [], harness := (true, "de4a623a71c0de391d6442eac45bb2f6c5238a5bea9d8c0b9ac46fb393680221"), looks := false }, kinds := [], alts := [], laidByText := true, laidKinds := [.sentinel], laidTests := true, laidLooks := .later }
def FnSumCheckUptoCardSaid : Prop := Claim7.holds Tryd.pinned (.plain (OpenSpec.upto fnSumCheckSpec)) fnSumCheckUptoCard

/-- THE SECOND FORM's CARD OF 'laws.FnSumOther'. -/
def fnSumOtherUptoCard : Claim7 := { stood := { row := fnSumOtherUptoRow, standIns := [], harness := (true, "de4a623a71c0de391d6442eac45bb2f6c5238a5bea9d8c0b9ac46fb393680221"), looks := false }, kinds := [], alts := [], laidByText := true, laidKinds := [.sentinel], laidTests := true, laidLooks := .later }
def FnSumOtherUptoCardSaid : Prop := Claim7.holds Tryd.pinned (.plain (OpenSpec.upto fnSumOtherSpec)) fnSumOtherUptoCard

/-- THE SECOND FORM's CARD OF 'laws.FnValueAppend'. -/
def fnValueAppendUptoCard : Claim7 := { stood := { row := fnValueAppendUptoRow, standIns := [], harness := (true, "de4a623a71c0de391d6442eac45bb2f6c5238a5bea9d8c0b9ac46fb393680221"), looks := false }, kinds := [], alts := [], laidByText := true, laidKinds := [.sentinel], laidTests := true, laidLooks := .later }
def FnValueAppendUptoCardSaid : Prop := Claim7.holds Tryd.pinned (.plain (OpenSpec.upto fnValueAppendSpec)) fnValueAppendUptoCard

/-- THE SECOND FORM's CARD OF 'laws.FnRecBytes'. -/
def fnRecBytesUptoCard : Claim7 := { stood := { row := fnRecBytesUptoRow, standIns := [], harness := (true, "de4a623a71c0de391d6442eac45bb2f6c5238a5bea9d8c0b9ac46fb393680221"), looks := false }, kinds := [], alts := [], laidByText := true, laidKinds := [.sentinel], laidTests := true, laidLooks := .later }
def FnRecBytesUptoCardSaid : Prop := Claim7.holds Tryd.pinned (.plain (OpenSpec.upto fnRecBytesSpec)) fnRecBytesUptoCard

/-- THE SECOND FORM's CARD OF 'laws.FnLogBytes'. -/
def fnLogBytesUptoCard : Claim7 := { stood := { row := fnLogBytesUptoRow, standIns := [], harness := (true, "de4a623a71c0de391d6442eac45bb2f6c5238a5bea9d8c0b9ac46fb393680221"), looks := false }, kinds := [], alts := [], laidByText := true, laidKinds := [.sentinel], laidTests := true, laidLooks := .later }
def FnLogBytesUptoCardSaid : Prop := Claim7.holds Tryd.pinned (.plain (OpenSpec.upto fnLogBytesSpec)) fnLogBytesUptoCard

/-- THE SECOND FORM's CARD OF 'laws.FnRecBack'. -/
def fnRecBackUptoCard : Claim7 := { stood := { row := fnRecBackUptoRow, standIns := [], harness := (true, "de4a623a71c0de391d6442eac45bb2f6c5238a5bea9d8c0b9ac46fb393680221"), looks := false }, kinds := [], alts := [], laidByText := true, laidKinds := [.sentinel], laidTests := true, laidLooks := .later }
def FnRecBackUptoCardSaid : Prop := Claim7.holds Tryd.pinned (.plain (OpenSpec.upto fnRecBackSpec)) fnRecBackUptoCard
end Rows
end Go.Proofs.YtbbncbjdpopkiaaDoor
