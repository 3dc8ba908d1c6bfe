/-
  DERIVED. GIVEN WITH THE SEED: THE CARDS: each row of YtkemlhhpakjojaaDoorRows.lean that lists a variable, with what it lists TIED to the program's text (the seventh form; the later family's looks); each row that meets fmt, with fmt's text TOLD by the authors' own Lean function (tested against real Go, not proved from fmt's source: count such statements apart). THE CARD IS WHAT COUNTS. Prove the row's statement (the work); the ties are given (YtkemlhhpakjojaaDoorTie.lean); close each card by the builder's one call (the guide's Derived/Test/ToyasCard.lean, 'card_holds'). Laid BY PROGRAM, IN A SANDBOX (cutbox-door.mjs). By AI agents, Wed Nov 11 2026. No macro, syntax, notation, axiom, sorry.
-/
import Derived.Test.YtkemlhhpakjojaaDoorRows
import GoSem.ClaimSeven
namespace Go.Proofs.YtkemlhhpakjojaaDoor
namespace Rows

/-- THE TIED CARD OF 'laws.FnCut'. -/
def fnCutCard : Claim7 := { stood := { row := fnCutRow, standIns := [], harness := (true, "63a466f6193f74f2acee2e3d5ec6f73814f637f9c62623395079b1440377faad"), looks := true }, kinds := [], alts := [], laidByText := true, laidKinds := [.data, .sentinel, .sentinel, .sentinel], laidTests := true, laidLooks := .later }
def FnCutCardSaid : Prop := Claim7.holds Tryd.pinned (.plain (OpenSpec.ofChange fnCutSpec)) fnCutCard

/-- THE TIED CARD OF 'laws.FnOfBytes'. -/
def fnOfBytesCard : Claim7 := { stood := { row := fnOfBytesRow, standIns := [], harness := (true, "63a466f6193f74f2acee2e3d5ec6f73814f637f9c62623395079b1440377faad"), looks := true }, kinds := [], alts := [], laidByText := true, laidKinds := [.data, .sentinel, .sentinel, .sentinel], laidTests := true, laidLooks := .later }
def FnOfBytesCardSaid : Prop := Claim7.holds Tryd.pinned (.plain (OpenSpec.ofChange fnOfBytesSpec)) fnOfBytesCard

/-- THE SECOND FORM's CARD OF 'laws.FnCut'. -/
def fnCutUptoCard : Claim7 := { stood := { row := fnCutUptoRow, standIns := [], harness := (true, "63a466f6193f74f2acee2e3d5ec6f73814f637f9c62623395079b1440377faad"), looks := true }, kinds := [], alts := [], laidByText := true, laidKinds := [.data, .sentinel, .sentinel, .sentinel], laidTests := true, laidLooks := .later }
def FnCutUptoCardSaid : Prop := Claim7.holds Tryd.pinned (.plain (OpenSpec.upto fnCutSpec)) fnCutUptoCard

/-- THE SECOND FORM's CARD OF 'laws.FnOfBytes'. -/
def fnOfBytesUptoCard : Claim7 := { stood := { row := fnOfBytesUptoRow, standIns := [], harness := (true, "63a466f6193f74f2acee2e3d5ec6f73814f637f9c62623395079b1440377faad"), looks := true }, kinds := [], alts := [], laidByText := true, laidKinds := [.data, .sentinel, .sentinel, .sentinel], laidTests := true, laidLooks := .later }
def FnOfBytesUptoCardSaid : Prop := Claim7.holds Tryd.pinned (.plain (OpenSpec.upto fnOfBytesSpec)) fnOfBytesUptoCard
end Rows
end Go.Proofs.YtkemlhhpakjojaaDoor
