/-
  DERIVED. GIVEN WITH THE SEED: THE CARDS: each row of YtoheaoihiecgdaaDoorRows.lean that lists a variable, with what it lists TIED to the program's text (the seventh form; the later family's looks); each row that meets fmt, with fmt's text TOLD by the authors' own Lean function (tested against real Go, not proved from fmt's source: count such statements apart). THE CARD IS WHAT COUNTS. Prove the row's statement (the work); the ties are given (YtoheaoihiecgdaaDoorTie.lean); close each card by the builder's one call (the guide's Derived/Test/ToyasCard.lean, 'card_holds'). Laid BY PROGRAM, IN A SANDBOX (cutbox-door.mjs). By AI agents, Wed Nov 11 2026. No macro, syntax, notation, axiom, sorry.
-/
import Derived.Test.YtoheaoihiecgdaaDoorRows
import GoSem.ClaimSeven
namespace Go.Proofs.YtoheaoihiecgdaaDoor
namespace Rows

/-- THE TIED CARD OF 'laws.FnText'. -/
def fnTextCard : Claim7 := { stood := { row := fnTextRow, standIns := [], harness := (true, "0de75e578ff46263364c52af5c81469ad9b53262d36735f378b0f9eb0e614b8e"), looks := false }, kinds := [], alts := [], laidByText := true, laidKinds := [.data, .data, .data, .sentinel], laidTests := true, laidLooks := .later }
def FnTextCardSaid : Prop := Claim7.holds Tryd.pinned (.plain (OpenSpec.ofChange fnTextSpec)) fnTextCard

/-- THE TIED CARD OF 'laws.FnDump'. -/
def fnDumpCard : Claim7 := { stood := { row := fnDumpRow, standIns := [], harness := (true, "0de75e578ff46263364c52af5c81469ad9b53262d36735f378b0f9eb0e614b8e"), looks := false }, kinds := [], alts := [], laidByText := true, laidKinds := [.data, .sentinel], laidTests := true, laidLooks := .later }
def FnDumpCardSaid : Prop := Claim7.holds Tryd.pinned (.plain (OpenSpec.ofChange fnDumpSpec)) fnDumpCard

/-- THE SECOND FORM's CARD OF 'laws.FnText'. -/
def fnTextUptoCard : Claim7 := { stood := { row := fnTextUptoRow, standIns := [], harness := (true, "0de75e578ff46263364c52af5c81469ad9b53262d36735f378b0f9eb0e614b8e"), looks := false }, kinds := [], alts := [], laidByText := true, laidKinds := [.data, .data, .data, .sentinel], laidTests := true, laidLooks := .later }
def FnTextUptoCardSaid : Prop := Claim7.holds Tryd.pinned (.plain (OpenSpec.upto fnTextSpec)) fnTextUptoCard

/-- THE SECOND FORM's CARD OF 'laws.FnDump'. -/
def fnDumpUptoCard : Claim7 := { stood := { row := fnDumpUptoRow, standIns := [], harness := (true, "0de75e578ff46263364c52af5c81469ad9b53262d36735f378b0f9eb0e614b8e"), looks := false }, kinds := [], alts := [], laidByText := true, laidKinds := [.data, .sentinel], laidTests := true, laidLooks := .later }
def FnDumpUptoCardSaid : Prop := Claim7.holds Tryd.pinned (.plain (OpenSpec.upto fnDumpSpec)) fnDumpUptoCard
end Rows
end Go.Proofs.YtoheaoihiecgdaaDoor
