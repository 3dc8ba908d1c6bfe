/-
  DERIVED. GIVEN WITH THE SEED: THE CARDS: each row of YtbahhdeblppooaaDoorRows.lean that lists a variable, with what it lists TIED to the program's text (the seventh form; the later family's looks); each row that meets fmt, with fmt's text TOLD by the authors' own Lean function (tested against real Go, not proved from fmt's source: count such statements apart). THE CARD IS WHAT COUNTS. Prove the row's statement (the work); the ties are given (YtbahhdeblppooaaDoorTie.lean); close each card by the builder's one call (the guide's Derived/Test/ToyasCard.lean, 'card_holds'). Laid BY PROGRAM, IN A SANDBOX (cutbox-door.mjs). By AI agents, Wed Nov 11 2026. No macro, syntax, notation, axiom, sorry.
-/
import Derived.Test.YtbahhdeblppooaaDoorRows
import GoSem.ClaimSeven
namespace Go.Proofs.YtbahhdeblppooaaDoor
namespace Rows

/-- THE TIED CARD OF 'laws.FnNext'. -/
def fnNextCard : Claim7 := { stood := { row := fnNextRow, standIns := [], harness := (true, "e79080b6d1a4d1dcb6559e78ead9800caba5f895ce0d983b93bc86f8fa20e7c9"), looks := false }, kinds := [], alts := [], laidByText := true, laidKinds := [.data], laidTests := true, laidLooks := .later }
def FnNextCardSaid : Prop := Claim7.holds Tryd.pinned (.plain (OpenSpec.ofChange fnNextSpec)) fnNextCard

/-- THE TIED CARD OF 'laws.FnNextMany'. -/
def fnNextManyCard : Claim7 := { stood := { row := fnNextManyRow, standIns := [], harness := (true, "e79080b6d1a4d1dcb6559e78ead9800caba5f895ce0d983b93bc86f8fa20e7c9"), looks := false }, kinds := [], alts := [], laidByText := true, laidKinds := [.data], laidTests := true, laidLooks := .later }
def FnNextManyCardSaid : Prop := Claim7.holds Tryd.pinned (.plain (OpenSpec.ofChange fnNextManySpec)) fnNextManyCard

/-- THE TIED CARD OF 'laws.FnNumbers'. -/
def fnNumbersCard : Claim7 := { stood := { row := fnNumbersRow, standIns := [], harness := (true, "e79080b6d1a4d1dcb6559e78ead9800caba5f895ce0d983b93bc86f8fa20e7c9"), looks := false }, kinds := [], alts := [], laidByText := true, laidKinds := [.data], laidTests := true, laidLooks := .later }
def FnNumbersCardSaid : Prop := Claim7.holds Tryd.pinned (.plain (OpenSpec.ofChange fnNumbersSpec)) fnNumbersCard

/-- THE TIED CARD OF 'laws.FnShift'. -/
def fnShiftCard : Claim7 := { stood := { row := fnShiftRow, standIns := [], harness := (true, "e79080b6d1a4d1dcb6559e78ead9800caba5f895ce0d983b93bc86f8fa20e7c9"), looks := false }, kinds := [], alts := [], laidByText := true, laidKinds := [.data], laidTests := true, laidLooks := .later }
def FnShiftCardSaid : Prop := Claim7.holds Tryd.pinned (.plain (OpenSpec.ofChange fnShiftSpec)) fnShiftCard

/-- THE TIED CARD OF 'laws.FnShiftBack'. -/
def fnShiftBackCard : Claim7 := { stood := { row := fnShiftBackRow, standIns := [], harness := (true, "e79080b6d1a4d1dcb6559e78ead9800caba5f895ce0d983b93bc86f8fa20e7c9"), looks := false }, kinds := [], alts := [], laidByText := true, laidKinds := [.data], laidTests := true, laidLooks := .later }
def FnShiftBackCardSaid : Prop := Claim7.holds Tryd.pinned (.plain (OpenSpec.ofChange fnShiftBackSpec)) fnShiftBackCard

/-- THE SECOND FORM's CARD OF 'laws.FnNext'. -/
def fnNextUptoCard : Claim7 := { stood := { row := fnNextUptoRow, standIns := [], harness := (true, "e79080b6d1a4d1dcb6559e78ead9800caba5f895ce0d983b93bc86f8fa20e7c9"), looks := false }, kinds := [], alts := [], laidByText := true, laidKinds := [.data], laidTests := true, laidLooks := .later }
def FnNextUptoCardSaid : Prop := Claim7.holds Tryd.pinned (.plain (OpenSpec.upto fnNextSpec)) fnNextUptoCard

/-- THE SECOND FORM's CARD OF 'laws.FnNextMany'. -/
def fnNextManyUptoCard : Claim7 := { stood := { row := fnNextManyUptoRow, standIns := [], harness := (true, "e79080b6d1a4d1dcb6559e78ead9800caba5f895ce0d983b93bc86f8fa20e7c9"), looks := false }, kinds := [], alts := [], laidByText := true, laidKinds := [.data], laidTests := true, laidLooks := .later }
def FnNextManyUptoCardSaid : Prop := Claim7.holds Tryd.pinned (.plain (OpenSpec.upto fnNextManySpec)) fnNextManyUptoCard

/-- THE SECOND FORM's CARD OF 'laws.FnNumbers'. -/
def fnNumbersUptoCard : Claim7 := { stood := { row := fnNumbersUptoRow, standIns := [], harness := (true, "e79080b6d1a4d1dcb6559e78ead9800caba5f895ce0d983b93bc86f8fa20e7c9"), looks := false }, kinds := [], alts := [], laidByText := true, laidKinds := [.data], laidTests := true, laidLooks := .later }
def FnNumbersUptoCardSaid : Prop := Claim7.holds Tryd.pinned (.plain (OpenSpec.upto fnNumbersSpec)) fnNumbersUptoCard

/-- THE SECOND FORM's CARD OF 'laws.FnShift'. -/
def fnShiftUptoCard : Claim7 := { stood := { row := fnShiftUptoRow, standIns := [], harness := (true, "e79080b6d1a4d1dcb6559e78ead9800caba5f895ce0d983b93bc86f8fa20e7c9"), looks := false }, kinds := [], alts := [], laidByText := true, laidKinds := [.data], laidTests := true, laidLooks := .later }
def FnShiftUptoCardSaid : Prop := Claim7.holds Tryd.pinned (.plain (OpenSpec.upto fnShiftSpec)) fnShiftUptoCard

/-- THE SECOND FORM's CARD OF 'laws.FnShiftBack'. -/
def fnShiftBackUptoCard : Claim7 := { stood := { row := fnShiftBackUptoRow, standIns := [], harness := (true, "e79080b6d1a4d1dcb6559e78ead9800caba5f895ce0d983b93bc86f8fa20e7c9"), looks := false }, kinds := [], alts := [], laidByText := true, laidKinds := [.data], laidTests := true, laidLooks := .later }
def FnShiftBackUptoCardSaid : Prop := Claim7.holds Tryd.pinned (.plain (OpenSpec.upto fnShiftBackSpec)) fnShiftBackUptoCard
end Rows
end Go.Proofs.YtbahhdeblppooaaDoor
