/-
  DERIVED. GIVEN WITH THE SEED: THE CARDS: each row of YtpfmmbhbmdbmeaaDoorRows.lean that lists a variable, with what it lists TIED to the program's text (the seventh form; the later family's looks); each row that meets fmt, with fmt's text TOLD by the authors' own Lean function (tested against real Go, not proved from fmt's source: count such statements apart). THE CARD IS WHAT COUNTS. Prove the row's statement (the work); the ties are given (YtpfmmbhbmdbmeaaDoorTie.lean); close each card by the builder's one call (the guide's Derived/Test/ToyasCard.lean, 'card_holds'). Laid BY PROGRAM, IN A SANDBOX (cutbox-door.mjs). By AI agents, Wed Nov 11 2026. No macro, syntax, notation, axiom, sorry.
-/
import Derived.Test.YtpfmmbhbmdbmeaaDoorRows
import GoSem.ClaimSeven
namespace Go.Proofs.YtpfmmbhbmdbmeaaDoor
namespace Rows

/-- THE TIED CARD OF 'laws.FnManifest'. -/
def fnManifestCard : Claim7 := { stood := { row := fnManifestRow, standIns := [], harness := (true, "1a0c40e626ebcfbd2d9984bc8dcead9d46e8ce5fbf1a44fa6feb5c8f048eb3fc"), looks := true }, kinds := [], alts := [], laidByText := true, laidKinds := [.sentinel, .sentinel, .sentinel, .sentinel, .sentinel], laidTests := true, laidLooks := .later }
def FnManifestCardSaid : Prop := Claim7.holds Tryd.pinned (.plain (OpenSpec.ofChange fnManifestSpec)) fnManifestCard

/-- THE TIED CARD OF 'laws.FnManifestMark'. -/
def fnManifestMarkCard : Claim7 := { stood := { row := fnManifestMarkRow, standIns := [], harness := (true, "1a0c40e626ebcfbd2d9984bc8dcead9d46e8ce5fbf1a44fa6feb5c8f048eb3fc"), looks := true }, kinds := [], alts := [], laidByText := true, laidKinds := [.sentinel, .sentinel, .sentinel, .sentinel, .sentinel], laidTests := true, laidLooks := .later }
def FnManifestMarkCardSaid : Prop := Claim7.holds Tryd.pinned (.plain (OpenSpec.ofChange fnManifestMarkSpec)) fnManifestMarkCard

/-- THE TIED CARD OF 'laws.FnManifestBroken'. -/
def fnManifestBrokenCard : Claim7 := { stood := { row := fnManifestBrokenRow, standIns := [], harness := (true, "1a0c40e626ebcfbd2d9984bc8dcead9d46e8ce5fbf1a44fa6feb5c8f048eb3fc"), looks := true }, kinds := [], alts := [], laidByText := true, laidKinds := [.sentinel, .sentinel, .sentinel, .sentinel, .sentinel], laidTests := true, laidLooks := .later }
def FnManifestBrokenCardSaid : Prop := Claim7.holds Tryd.pinned (.plain (OpenSpec.ofChange fnManifestBrokenSpec)) fnManifestBrokenCard

/-- THE TIED CARD OF 'laws.FnManifestCut'. -/
def fnManifestCutCard : Claim7 := { stood := { row := fnManifestCutRow, standIns := [], harness := (true, "1a0c40e626ebcfbd2d9984bc8dcead9d46e8ce5fbf1a44fa6feb5c8f048eb3fc"), looks := true }, kinds := [], alts := [], laidByText := true, laidKinds := [.sentinel, .sentinel, .sentinel, .sentinel, .sentinel], laidTests := true, laidLooks := .later }
def FnManifestCutCardSaid : Prop := Claim7.holds Tryd.pinned (.plain (OpenSpec.ofChange fnManifestCutSpec)) fnManifestCutCard

/-- THE TIED CARD OF 'laws.FnManifestCannot'. -/
def fnManifestCannotCard : Claim7 := { stood := { row := fnManifestCannotRow, standIns := [], harness := (true, "1a0c40e626ebcfbd2d9984bc8dcead9d46e8ce5fbf1a44fa6feb5c8f048eb3fc"), looks := true }, kinds := [], alts := [], laidByText := true, laidKinds := [.sentinel, .sentinel, .sentinel, .sentinel, .sentinel], laidTests := true, laidLooks := .later }
def FnManifestCannotCardSaid : Prop := Claim7.holds Tryd.pinned (.plain (OpenSpec.ofChange fnManifestCannotSpec)) fnManifestCannotCard

/-- THE SECOND FORM's CARD OF 'laws.FnManifest'. -/
def fnManifestUptoCard : Claim7 := { stood := { row := fnManifestUptoRow, standIns := [], harness := (true, "1a0c40e626ebcfbd2d9984bc8dcead9d46e8ce5fbf1a44fa6feb5c8f048eb3fc"), looks := true }, kinds := [], alts := [], laidByText := true, laidKinds := [.sentinel, .sentinel, .sentinel, .sentinel, .sentinel], laidTests := true, laidLooks := .later }
def FnManifestUptoCardSaid : Prop := Claim7.holds Tryd.pinned (.plain (OpenSpec.upto fnManifestSpec)) fnManifestUptoCard

/-- THE SECOND FORM's CARD OF 'laws.FnManifestMark'. -/
def fnManifestMarkUptoCard : Claim7 := { stood := { row := fnManifestMarkUptoRow, standIns := [], harness := (true, "1a0c40e626ebcfbd2d9984bc8dcead9d46e8ce5fbf1a44fa6feb5c8f048eb3fc"), looks := true }, kinds := [], alts := [], laidByText := true, laidKinds := [.sentinel, .sentinel, .sentinel, .sentinel, .sentinel], laidTests := true, laidLooks := .later }
def FnManifestMarkUptoCardSaid : Prop := Claim7.holds Tryd.pinned (.plain (OpenSpec.upto fnManifestMarkSpec)) fnManifestMarkUptoCard

/-- THE SECOND FORM's CARD OF 'laws.FnManifestBroken'. -/
def fnManifestBrokenUptoCard : Claim7 := { stood := { row := fnManifestBrokenUptoRow, standIns := [], harness := (true, "1a0c40e626ebcfbd2d9984bc8dcead9d46e8ce5fbf1a44fa6feb5c8f048eb3fc"), looks := true }, kinds := [], alts := [], laidByText := true, laidKinds := [.sentinel, .sentinel, .sentinel, .sentinel, .sentinel], laidTests := true, laidLooks := .later }
def FnManifestBrokenUptoCardSaid : Prop := Claim7.holds Tryd.pinned (.plain (OpenSpec.upto fnManifestBrokenSpec)) fnManifestBrokenUptoCard

/-- THE SECOND FORM's CARD OF 'laws.FnManifestCut'. -/
def fnManifestCutUptoCard : Claim7 := { stood := { row := fnManifestCutUptoRow, standIns := [], harness := (true, "1a0c40e626ebcfbd2d9984bc8dcead9d46e8ce5fbf1a44fa6feb5c8f048eb3fc"), looks := true }, kinds := [], alts := [], laidByText := true, laidKinds := [.sentinel, .sentinel, .sentinel, .sentinel, .sentinel], laidTests := true, laidLooks := .later }
def FnManifestCutUptoCardSaid : Prop := Claim7.holds Tryd.pinned (.plain (OpenSpec.upto fnManifestCutSpec)) fnManifestCutUptoCard

/-- THE SECOND FORM's CARD OF 'laws.FnManifestCannot'. -/
def fnManifestCannotUptoCard : Claim7 := { stood := { row := fnManifestCannotUptoRow, standIns := [], harness := (true, "1a0c40e626ebcfbd2d9984bc8dcead9d46e8ce5fbf1a44fa6feb5c8f048eb3fc"), looks := true }, kinds := [], alts := [], laidByText := true, laidKinds := [.sentinel, .sentinel, .sentinel, .sentinel, .sentinel], laidTests := true, laidLooks := .later }
def FnManifestCannotUptoCardSaid : Prop := Claim7.holds Tryd.pinned (.plain (OpenSpec.upto fnManifestCannotSpec)) fnManifestCannotUptoCard
end Rows
end Go.Proofs.YtpfmmbhbmdbmeaaDoor
