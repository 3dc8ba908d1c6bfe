/-
  DERIVED. GIVEN WITH THE SEED: THE CARDS: each row of YtmlamceblhhhpaaDoorRows.lean that lists a variable, with what it lists TIED to the program's text (the seventh form; the later family's looks); each row that meets fmt, with fmt's text TOLD by the authors' own Lean function (tested against real Go, not proved from fmt's source: count such statements apart). THE CARD IS WHAT COUNTS. Prove the row's statement (the work); the ties are given (YtmlamceblhhhpaaDoorTie.lean); close each card by the builder's one call (the guide's Derived/Test/ToyasCard.lean, 'card_holds'). Laid BY PROGRAM, IN A SANDBOX (cutbox-door.mjs). By AI agents, Wed Nov 11 2026. No macro, syntax, notation, axiom, sorry.
-/
import Derived.Test.YtmlamceblhhhpaaDoorRows
import GoSem.ClaimSeven
namespace Go.Proofs.YtmlamceblhhhpaaDoor
namespace Rows

/-- THE TIED CARD OF 'laws.FnOne'. -/
def fnOneCard : Claim7 := { stood := { row := fnOneRow, standIns := [], harness := (true, "8a69a8206e3ac468b711853657da6c41a445c6dd5ad62198c6b281af18c888f2"), looks := false }, kinds := [], alts := [], laidByText := true, laidKinds := [.data], laidTests := true, laidLooks := .later }
def FnOneCardSaid : Prop := Claim7.holds Tryd.pinned (.plain (OpenSpec.ofChange fnOneSpec)) fnOneCard

/-- THE TIED CARD OF 'laws.FnInsert'. -/
def fnInsertCard : Claim7 := { stood := { row := fnInsertRow, standIns := [], harness := (true, "8a69a8206e3ac468b711853657da6c41a445c6dd5ad62198c6b281af18c888f2"), looks := false }, kinds := [], alts := [], laidByText := true, laidKinds := [.data], laidTests := true, laidLooks := .later }
def FnInsertCardSaid : Prop := Claim7.holds Tryd.pinned (.plain (OpenSpec.ofChange fnInsertSpec)) fnInsertCard

/-- THE TIED CARD OF 'laws.FnDelete'. -/
def fnDeleteCard : Claim7 := { stood := { row := fnDeleteRow, standIns := [], harness := (true, "8a69a8206e3ac468b711853657da6c41a445c6dd5ad62198c6b281af18c888f2"), looks := false }, kinds := [], alts := [], laidByText := true, laidKinds := [.data], laidTests := true, laidLooks := .later }
def FnDeleteCardSaid : Prop := Claim7.holds Tryd.pinned (.plain (OpenSpec.ofChange fnDeleteSpec)) fnDeleteCard

/-- THE TIED CARD OF 'laws.FnInsertDelete'. -/
def fnInsertDeleteCard : Claim7 := { stood := { row := fnInsertDeleteRow, standIns := [], harness := (true, "8a69a8206e3ac468b711853657da6c41a445c6dd5ad62198c6b281af18c888f2"), looks := false }, kinds := [], alts := [], laidByText := true, laidKinds := [.data], laidTests := true, laidLooks := .later }
def FnInsertDeleteCardSaid : Prop := Claim7.holds Tryd.pinned (.plain (OpenSpec.ofChange fnInsertDeleteSpec)) fnInsertDeleteCard

/-- THE TIED CARD OF 'laws.FnShrink'. -/
def fnShrinkCard : Claim7 := { stood := { row := fnShrinkRow, standIns := [], harness := (true, "8a69a8206e3ac468b711853657da6c41a445c6dd5ad62198c6b281af18c888f2"), looks := false }, kinds := [], alts := [], laidByText := true, laidKinds := [.data], laidTests := true, laidLooks := .later }
def FnShrinkCardSaid : Prop := Claim7.holds Tryd.pinned (.plain (OpenSpec.ofChange fnShrinkSpec)) fnShrinkCard

/-- THE TIED CARD OF 'laws.FnWhole'. -/
def fnWholeCard : Claim7 := { stood := { row := fnWholeRow, standIns := [], harness := (true, "8a69a8206e3ac468b711853657da6c41a445c6dd5ad62198c6b281af18c888f2"), looks := false }, kinds := [], alts := [], laidByText := true, laidKinds := [.data], laidTests := true, laidLooks := .later }
def FnWholeCardSaid : Prop := Claim7.holds Tryd.pinned (.plain (OpenSpec.ofChange fnWholeSpec)) fnWholeCard

/-- THE SECOND FORM's CARD OF 'laws.FnOne'. -/
def fnOneUptoCard : Claim7 := { stood := { row := fnOneUptoRow, standIns := [], harness := (true, "8a69a8206e3ac468b711853657da6c41a445c6dd5ad62198c6b281af18c888f2"), looks := false }, kinds := [], alts := [], laidByText := true, laidKinds := [.data], laidTests := true, laidLooks := .later }
def FnOneUptoCardSaid : Prop := Claim7.holds Tryd.pinned (.plain (OpenSpec.upto fnOneSpec)) fnOneUptoCard

/-- THE SECOND FORM's CARD OF 'laws.FnInsert'. -/
def fnInsertUptoCard : Claim7 := { stood := { row := fnInsertUptoRow, standIns := [], harness := (true, "8a69a8206e3ac468b711853657da6c41a445c6dd5ad62198c6b281af18c888f2"), looks := false }, kinds := [], alts := [], laidByText := true, laidKinds := [.data], laidTests := true, laidLooks := .later }
def FnInsertUptoCardSaid : Prop := Claim7.holds Tryd.pinned (.plain (OpenSpec.upto fnInsertSpec)) fnInsertUptoCard

/-- THE SECOND FORM's CARD OF 'laws.FnDelete'. -/
def fnDeleteUptoCard : Claim7 := { stood := { row := fnDeleteUptoRow, standIns := [], harness := (true, "8a69a8206e3ac468b711853657da6c41a445c6dd5ad62198c6b281af18c888f2"), looks := false }, kinds := [], alts := [], laidByText := true, laidKinds := [.data], laidTests := true, laidLooks := .later }
def FnDeleteUptoCardSaid : Prop := Claim7.holds Tryd.pinned (.plain (OpenSpec.upto fnDeleteSpec)) fnDeleteUptoCard

/-- THE SECOND FORM's CARD OF 'laws.FnInsertDelete'. -/
def fnInsertDeleteUptoCard : Claim7 := { stood := { row := fnInsertDeleteUptoRow, standIns := [], harness := (true, "8a69a8206e3ac468b711853657da6c41a445c6dd5ad62198c6b281af18c888f2"), looks := false }, kinds := [], alts := [], laidByText := true, laidKinds := [.data], laidTests := true, laidLooks := .later }
def FnInsertDeleteUptoCardSaid : Prop := Claim7.holds Tryd.pinned (.plain (OpenSpec.upto fnInsertDeleteSpec)) fnInsertDeleteUptoCard

/-- THE SECOND FORM's CARD OF 'laws.FnShrink'. -/
def fnShrinkUptoCard : Claim7 := { stood := { row := fnShrinkUptoRow, standIns := [], harness := (true, "8a69a8206e3ac468b711853657da6c41a445c6dd5ad62198c6b281af18c888f2"), looks := false }, kinds := [], alts := [], laidByText := true, laidKinds := [.data], laidTests := true, laidLooks := .later }
def FnShrinkUptoCardSaid : Prop := Claim7.holds Tryd.pinned (.plain (OpenSpec.upto fnShrinkSpec)) fnShrinkUptoCard

/-- THE SECOND FORM's CARD OF 'laws.FnWhole'. -/
def fnWholeUptoCard : Claim7 := { stood := { row := fnWholeUptoRow, standIns := [], harness := (true, "8a69a8206e3ac468b711853657da6c41a445c6dd5ad62198c6b281af18c888f2"), looks := false }, kinds := [], alts := [], laidByText := true, laidKinds := [.data], laidTests := true, laidLooks := .later }
def FnWholeUptoCardSaid : Prop := Claim7.holds Tryd.pinned (.plain (OpenSpec.upto fnWholeSpec)) fnWholeUptoCard
end Rows
end Go.Proofs.YtmlamceblhhhpaaDoor
