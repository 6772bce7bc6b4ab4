/-
  DERIVED. GIVEN WITH THE SEED: THE CARDS: each row of YtpfmmbhbmdbmeaaGreatDoorRows.lean that lists a variable, with what it lists TIED to the program's text (the seventh form; the later family's looks); each row that meets fmt, with fmt's text TOLD by the authors' own Lean function (tested against real Go, not proved from fmt's source: count such statements apart). THE CARD IS WHAT COUNTS. Prove the row's statement (the work); the ties are given (YtpfmmbhbmdbmeaaGreatDoorTie.lean); close each card by the builder's one call (the guide's Derived/Test/ToyasCard.lean, 'card_holds'). Laid BY PROGRAM, IN A SANDBOX (cutbox-door.mjs). By AI agents, Wed Nov 11 2026. No macro, syntax, notation, axiom, sorry.
-/
import Derived.Test.YtpfmmbhbmdbmeaaGreatDoorRows
import GoSem.ClaimSeven
namespace Go.Proofs.YtpfmmbhbmdbmeaaGreatDoor
namespace Rows

/-- THE TIED CARD OF 'laws.FnLogBroken'. -/
def fnLogBrokenCard : Claim7 := { stood := { row := fnLogBrokenRow, standIns := [], harness := (true, "dd7c7e293b8b06532c6a8af786ac2eb4923c936e709d14aac09618a87fbb7609"), looks := true }, kinds := [], alts := [], laidByText := true, laidKinds := [.data, .data, .data, .sentinel, .sentinel, .sentinel, .sentinel, .sentinel, .sentinel, .sentinel, .sentinel], laidTests := true, laidLooks := .later }
def FnLogBrokenCardSaid : Prop := Claim7.holds Tryz.pinned (.plain (OpenSpec.ofChange fnLogBrokenSpec)) fnLogBrokenCard

/-- THE TIED CARD OF 'laws.FnLogCut'. -/
def fnLogCutCard : Claim7 := { stood := { row := fnLogCutRow, standIns := [], harness := (true, "dd7c7e293b8b06532c6a8af786ac2eb4923c936e709d14aac09618a87fbb7609"), looks := true }, kinds := [], alts := [], laidByText := true, laidKinds := [.data, .data, .data, .sentinel, .sentinel, .sentinel, .sentinel, .sentinel, .sentinel, .sentinel, .sentinel], laidTests := true, laidLooks := .later }
def FnLogCutCardSaid : Prop := Claim7.holds Tryz.pinned (.plain (OpenSpec.ofChange fnLogCutSpec)) fnLogCutCard

/-- THE TIED CARD OF 'laws.FnLogReplay'. -/
def fnLogReplayCard : Claim7 := { stood := { row := fnLogReplayRow, standIns := [], harness := (true, "dd7c7e293b8b06532c6a8af786ac2eb4923c936e709d14aac09618a87fbb7609"), looks := true }, kinds := [], alts := [], laidByText := true, laidKinds := [.data, .data, .data, .sentinel, .sentinel, .sentinel, .sentinel, .sentinel, .sentinel, .sentinel, .sentinel], laidTests := true, laidLooks := .later }
def FnLogReplayCardSaid : Prop := Claim7.holds Tryz.pinned (.plain (OpenSpec.ofChange fnLogReplaySpec)) fnLogReplayCard

/-- THE SECOND FORM's CARD OF 'laws.FnLogBroken'. -/
def fnLogBrokenUptoCard : Claim7 := { stood := { row := fnLogBrokenUptoRow, standIns := [], harness := (true, "dd7c7e293b8b06532c6a8af786ac2eb4923c936e709d14aac09618a87fbb7609"), looks := true }, kinds := [], alts := [], laidByText := true, laidKinds := [.data, .data, .data, .sentinel, .sentinel, .sentinel, .sentinel, .sentinel, .sentinel, .sentinel, .sentinel], laidTests := true, laidLooks := .later }
def FnLogBrokenUptoCardSaid : Prop := Claim7.holds Tryz.pinned (.plain (OpenSpec.upto fnLogBrokenSpec)) fnLogBrokenUptoCard

/-- THE SECOND FORM's CARD OF 'laws.FnLogCut'. -/
def fnLogCutUptoCard : Claim7 := { stood := { row := fnLogCutUptoRow, standIns := [], harness := (true, "dd7c7e293b8b06532c6a8af786ac2eb4923c936e709d14aac09618a87fbb7609"), looks := true }, kinds := [], alts := [], laidByText := true, laidKinds := [.data, .data, .data, .sentinel, .sentinel, .sentinel, .sentinel, .sentinel, .sentinel, .sentinel, .sentinel], laidTests := true, laidLooks := .later }
def FnLogCutUptoCardSaid : Prop := Claim7.holds Tryz.pinned (.plain (OpenSpec.upto fnLogCutSpec)) fnLogCutUptoCard

/-- THE SECOND FORM's CARD OF 'laws.FnLogReplay'. -/
def fnLogReplayUptoCard : Claim7 := { stood := { row := fnLogReplayUptoRow, standIns := [], harness := (true, "dd7c7e293b8b06532c6a8af786ac2eb4923c936e709d14aac09618a87fbb7609"), looks := true }, kinds := [], alts := [], laidByText := true, laidKinds := [.data, .data, .data, .sentinel, .sentinel, .sentinel, .sentinel, .sentinel, .sentinel, .sentinel, .sentinel], laidTests := true, laidLooks := .later }
def FnLogReplayUptoCardSaid : Prop := Claim7.holds Tryz.pinned (.plain (OpenSpec.upto fnLogReplaySpec)) fnLogReplayUptoCard
end Rows
end Go.Proofs.YtpfmmbhbmdbmeaaGreatDoor
