/-
  DERIVED. GIVEN WITH THE SEED: THE CARDS: each row of YthefhfliobjgaaaDoorRows.lean that lists a variable, with what it lists TIED to the program's text (the seventh form; the later family's looks); each row that meets fmt, with fmt's text TOLD by the authors' own Lean function (tested against real Go, not proved from fmt's source: count such statements apart). THE CARD IS WHAT COUNTS. Prove the row's statement (the work); the ties are given (YthefhfliobjgaaaDoorTie.lean); close each card by the builder's one call (the guide's Derived/Test/ToyasCard.lean, 'card_holds'). Laid BY PROGRAM, IN A SANDBOX (cutbox-door.mjs). By AI agents, Wed Nov 11 2026. No macro, syntax, notation, axiom, sorry.
-/
import Derived.Test.YthefhfliobjgaaaDoorRows
import GoSem.ClaimSeven
namespace Go.Proofs.YthefhfliobjgaaaDoor
namespace Rows

/-- THE TIED CARD OF 'laws.FnExtract'. -/
def fnExtractCard : Claim7 := { stood := { row := fnExtractRow, standIns := [], harness := (true, "3618d8add7ba923cfe39b961e7fb436b90105149cab09c7fac87e0096bd5e5ac"), looks := false }, kinds := [], alts := [], laidByText := true, laidKinds := [.data], laidTests := true, laidLooks := .later }
def FnExtractCardSaid : Prop := Claim7.holds Tryd.pinned (.plain (OpenSpec.ofChange fnExtractSpec)) fnExtractCard

/-- THE TIED CARD OF 'laws.FnExtractBack'. -/
def fnExtractBackCard : Claim7 := { stood := { row := fnExtractBackRow, standIns := [], harness := (true, "3618d8add7ba923cfe39b961e7fb436b90105149cab09c7fac87e0096bd5e5ac"), looks := false }, kinds := [], alts := [], laidByText := true, laidKinds := [.data], laidTests := true, laidLooks := .later }
def FnExtractBackCardSaid : Prop := Claim7.holds Tryd.pinned (.plain (OpenSpec.ofChange fnExtractBackSpec)) fnExtractBackCard

/-- THE SECOND FORM's CARD OF 'laws.FnExtract'. -/
def fnExtractUptoCard : Claim7 := { stood := { row := fnExtractUptoRow, standIns := [], harness := (true, "3618d8add7ba923cfe39b961e7fb436b90105149cab09c7fac87e0096bd5e5ac"), looks := false }, kinds := [], alts := [], laidByText := true, laidKinds := [.data], laidTests := true, laidLooks := .later }
def FnExtractUptoCardSaid : Prop := Claim7.holds Tryd.pinned (.plain (OpenSpec.upto fnExtractSpec)) fnExtractUptoCard

/-- THE SECOND FORM's CARD OF 'laws.FnExtractBack'. -/
def fnExtractBackUptoCard : Claim7 := { stood := { row := fnExtractBackUptoRow, standIns := [], harness := (true, "3618d8add7ba923cfe39b961e7fb436b90105149cab09c7fac87e0096bd5e5ac"), looks := false }, kinds := [], alts := [], laidByText := true, laidKinds := [.data], laidTests := true, laidLooks := .later }
def FnExtractBackUptoCardSaid : Prop := Claim7.holds Tryd.pinned (.plain (OpenSpec.upto fnExtractBackSpec)) fnExtractBackUptoCard
end Rows
end Go.Proofs.YthefhfliobjgaaaDoor
