/-
  DERIVED. GIVEN WITH THE SEED: THE CARDS: each row of YtjpcdkhapeejjaaGreatDoorRows.lean that lists a variable, with what it lists TIED to the program's text (the seventh form; the later family's looks); each row that meets fmt, with fmt's text TOLD by the authors' own Lean function (tested against real Go, not proved from fmt's source: count such statements apart). THE CARD IS WHAT COUNTS. Prove the row's statement (the work); the ties are given (YtjpcdkhapeejjaaGreatDoorTie.lean); close each card by the builder's one call (the guide's Derived/Test/ToyasCard.lean, 'card_holds'). Laid BY PROGRAM, IN A SANDBOX (cutbox-door.mjs). By AI agents, Wed Nov 11 2026. No macro, syntax, notation, axiom, sorry.
-/
import Derived.Test.YtjpcdkhapeejjaaGreatDoorRows
import GoSem.ClaimSeven
namespace Go.Proofs.YtjpcdkhapeejjaaGreatDoor
namespace Rows

/-- THE TIED CARD OF 'laws.FnNext'. -/
def fnNextCard : Claim7 := { stood := { row := fnNextRow, standIns := [], harness := (true, "ea97ff9f9931305b571885e359e89615ac6fe59bfc46f6a86a872bd3c828f26c"), looks := true }, kinds := [], alts := [], laidByText := true, laidKinds := [.data, .data, .data, .data, .data, .sentinel, .sentinel, .pinned, .pinned], laidTests := true, laidLooks := .later }
def FnNextCardSaid : Prop := Claim7.holds Tryz.pinned (.plain (OpenSpec.ofChange fnNextSpec)) fnNextCard

/-- THE TIED CARD OF 'laws.FnNextIncl'. -/
def fnNextInclCard : Claim7 := { stood := { row := fnNextInclRow, standIns := [], harness := (true, "ea97ff9f9931305b571885e359e89615ac6fe59bfc46f6a86a872bd3c828f26c"), looks := true }, kinds := [], alts := [], laidByText := true, laidKinds := [.data, .data, .data, .data, .data, .sentinel, .sentinel, .pinned, .pinned], laidTests := true, laidLooks := .later }
def FnNextInclCardSaid : Prop := Claim7.holds Tryz.pinned (.plain (OpenSpec.ofChange fnNextInclSpec)) fnNextInclCard

/-- THE TIED CARD OF 'laws.FnPrev'. -/
def fnPrevCard : Claim7 := { stood := { row := fnPrevRow, standIns := [], harness := (true, "ea97ff9f9931305b571885e359e89615ac6fe59bfc46f6a86a872bd3c828f26c"), looks := true }, kinds := [], alts := [], laidByText := true, laidKinds := [.data, .data, .data, .data, .data, .sentinel, .sentinel, .pinned, .pinned], laidTests := true, laidLooks := .later }
def FnPrevCardSaid : Prop := Claim7.holds Tryz.pinned (.plain (OpenSpec.ofChange fnPrevSpec)) fnPrevCard

/-- THE TIED CARD OF 'laws.FnPrevIncl'. -/
def fnPrevInclCard : Claim7 := { stood := { row := fnPrevInclRow, standIns := [], harness := (true, "ea97ff9f9931305b571885e359e89615ac6fe59bfc46f6a86a872bd3c828f26c"), looks := true }, kinds := [], alts := [], laidByText := true, laidKinds := [.data, .data, .data, .data, .data, .sentinel, .sentinel, .pinned, .pinned], laidTests := true, laidLooks := .later }
def FnPrevInclCardSaid : Prop := Claim7.holds Tryz.pinned (.plain (OpenSpec.ofChange fnPrevInclSpec)) fnPrevInclCard

/-- THE TIED CARD OF 'laws.FnQuiet'. -/
def fnQuietCard : Claim7 := { stood := { row := fnQuietRow, standIns := [], harness := (true, "ea97ff9f9931305b571885e359e89615ac6fe59bfc46f6a86a872bd3c828f26c"), looks := true }, kinds := [], alts := [], laidByText := true, laidKinds := [.data, .data, .data, .data, .data, .sentinel, .sentinel, .pinned, .pinned], laidTests := true, laidLooks := .later }
def FnQuietCardSaid : Prop := Claim7.holds Tryz.pinned (.plain (OpenSpec.ofChange fnQuietSpec)) fnQuietCard

/-- THE TIED CARD OF 'laws.FnSpaces'. -/
def fnSpacesCard : Claim7 := { stood := { row := fnSpacesRow, standIns := [], harness := (true, "ea97ff9f9931305b571885e359e89615ac6fe59bfc46f6a86a872bd3c828f26c"), looks := true }, kinds := [], alts := [], laidByText := true, laidKinds := [.data, .data, .data, .data, .data, .sentinel, .sentinel, .pinned, .pinned], laidTests := true, laidLooks := .later }
def FnSpacesCardSaid : Prop := Claim7.holds Tryz.pinned (.plain (OpenSpec.ofChange fnSpacesSpec)) fnSpacesCard

/-- THE TIED CARD OF 'laws.FnRow'. -/
def fnRowCard : Claim7 := { stood := { row := fnRowRow, standIns := [], harness := (true, "ea97ff9f9931305b571885e359e89615ac6fe59bfc46f6a86a872bd3c828f26c"), looks := true }, kinds := [], alts := [], laidByText := true, laidKinds := [.data, .data, .data, .data, .data, .sentinel, .sentinel, .pinned, .pinned], laidTests := true, laidLooks := .later }
def FnRowCardSaid : Prop := Claim7.holds Tryz.pinned (.plain (OpenSpec.ofChange fnRowSpec)) fnRowCard

/-- THE SECOND FORM's CARD OF 'laws.FnNext'. -/
def fnNextUptoCard : Claim7 := { stood := { row := fnNextUptoRow, standIns := [], harness := (true, "ea97ff9f9931305b571885e359e89615ac6fe59bfc46f6a86a872bd3c828f26c"), looks := true }, kinds := [], alts := [], laidByText := true, laidKinds := [.data, .data, .data, .data, .data, .sentinel, .sentinel, .pinned, .pinned], laidTests := true, laidLooks := .later }
def FnNextUptoCardSaid : Prop := Claim7.holds Tryz.pinned (.plain (OpenSpec.upto fnNextSpec)) fnNextUptoCard

/-- THE SECOND FORM's CARD OF 'laws.FnNextIncl'. -/
def fnNextInclUptoCard : Claim7 := { stood := { row := fnNextInclUptoRow, standIns := [], harness := (true, "ea97ff9f9931305b571885e359e89615ac6fe59bfc46f6a86a872bd3c828f26c"), looks := true }, kinds := [], alts := [], laidByText := true, laidKinds := [.data, .data, .data, .data, .data, .sentinel, .sentinel, .pinned, .pinned], laidTests := true, laidLooks := .later }
def FnNextInclUptoCardSaid : Prop := Claim7.holds Tryz.pinned (.plain (OpenSpec.upto fnNextInclSpec)) fnNextInclUptoCard

/-- THE SECOND FORM's CARD OF 'laws.FnPrev'. -/
def fnPrevUptoCard : Claim7 := { stood := { row := fnPrevUptoRow, standIns := [], harness := (true, "ea97ff9f9931305b571885e359e89615ac6fe59bfc46f6a86a872bd3c828f26c"), looks := true }, kinds := [], alts := [], laidByText := true, laidKinds := [.data, .data, .data, .data, .data, .sentinel, .sentinel, .pinned, .pinned], laidTests := true, laidLooks := .later }
def FnPrevUptoCardSaid : Prop := Claim7.holds Tryz.pinned (.plain (OpenSpec.upto fnPrevSpec)) fnPrevUptoCard

/-- THE SECOND FORM's CARD OF 'laws.FnPrevIncl'. -/
def fnPrevInclUptoCard : Claim7 := { stood := { row := fnPrevInclUptoRow, standIns := [], harness := (true, "ea97ff9f9931305b571885e359e89615ac6fe59bfc46f6a86a872bd3c828f26c"), looks := true }, kinds := [], alts := [], laidByText := true, laidKinds := [.data, .data, .data, .data, .data, .sentinel, .sentinel, .pinned, .pinned], laidTests := true, laidLooks := .later }
def FnPrevInclUptoCardSaid : Prop := Claim7.holds Tryz.pinned (.plain (OpenSpec.upto fnPrevInclSpec)) fnPrevInclUptoCard

/-- THE SECOND FORM's CARD OF 'laws.FnQuiet'. -/
def fnQuietUptoCard : Claim7 := { stood := { row := fnQuietUptoRow, standIns := [], harness := (true, "ea97ff9f9931305b571885e359e89615ac6fe59bfc46f6a86a872bd3c828f26c"), looks := true }, kinds := [], alts := [], laidByText := true, laidKinds := [.data, .data, .data, .data, .data, .sentinel, .sentinel, .pinned, .pinned], laidTests := true, laidLooks := .later }
def FnQuietUptoCardSaid : Prop := Claim7.holds Tryz.pinned (.plain (OpenSpec.upto fnQuietSpec)) fnQuietUptoCard

/-- THE SECOND FORM's CARD OF 'laws.FnSpaces'. -/
def fnSpacesUptoCard : Claim7 := { stood := { row := fnSpacesUptoRow, standIns := [], harness := (true, "ea97ff9f9931305b571885e359e89615ac6fe59bfc46f6a86a872bd3c828f26c"), looks := true }, kinds := [], alts := [], laidByText := true, laidKinds := [.data, .data, .data, .data, .data, .sentinel, .sentinel, .pinned, .pinned], laidTests := true, laidLooks := .later }
def FnSpacesUptoCardSaid : Prop := Claim7.holds Tryz.pinned (.plain (OpenSpec.upto fnSpacesSpec)) fnSpacesUptoCard

/-- THE SECOND FORM's CARD OF 'laws.FnRow'. -/
def fnRowUptoCard : Claim7 := { stood := { row := fnRowUptoRow, standIns := [], harness := (true, "ea97ff9f9931305b571885e359e89615ac6fe59bfc46f6a86a872bd3c828f26c"), looks := true }, kinds := [], alts := [], laidByText := true, laidKinds := [.data, .data, .data, .data, .data, .sentinel, .sentinel, .pinned, .pinned], laidTests := true, laidLooks := .later }
def FnRowUptoCardSaid : Prop := Claim7.holds Tryz.pinned (.plain (OpenSpec.upto fnRowSpec)) fnRowUptoCard
end Rows
end Go.Proofs.YtjpcdkhapeejjaaGreatDoor
