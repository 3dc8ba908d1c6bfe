/-
  DERIVED. GIVEN WITH THE SEED: THE CARDS: each row of YtefhjchhfpjciaaDoorRows.lean that lists a variable, with what it lists TIED to the program's text (the seventh form; the later family's looks); each row that meets fmt, with fmt's text TOLD by the authors' own Lean function (tested against real Go, not proved from fmt's source: count such statements apart). THE CARD IS WHAT COUNTS. Prove the row's statement (the work); the ties are given (YtefhjchhfpjciaaDoorTie.lean); close each card by the builder's one call (the guide's Derived/Test/ToyasCard.lean, 'card_holds'). Laid BY PROGRAM, IN A SANDBOX (cutbox-door.mjs). By AI agents, Wed Nov 11 2026. No macro, syntax, notation, axiom, sorry.
-/
import Derived.Test.YtefhjchhfpjciaaDoorRows
import GoSem.ClaimSeven
namespace Go.Proofs.YtefhjchhfpjciaaDoor
namespace Rows

/-- THE TIED CARD OF 'laws.FnPair'. -/
def fnPairCard : Claim7 := { stood := { row := fnPairRow, standIns := [], harness := (true, "6a2bdde181d49371bd7f439c04e34fd1fcb62902e16d27d390fdeb0c393e329b"), looks := false }, kinds := [], alts := [], laidByText := true, laidKinds := [.data], laidTests := true, laidLooks := .later }
def FnPairCardSaid : Prop := Claim7.holds Tryd.pinned (.plain (OpenSpec.ofChange fnPairSpec)) fnPairCard

/-- THE SECOND FORM's CARD OF 'laws.FnPair'. -/
def fnPairUptoCard : Claim7 := { stood := { row := fnPairUptoRow, standIns := [], harness := (true, "6a2bdde181d49371bd7f439c04e34fd1fcb62902e16d27d390fdeb0c393e329b"), looks := false }, kinds := [], alts := [], laidByText := true, laidKinds := [.data], laidTests := true, laidLooks := .later }
def FnPairUptoCardSaid : Prop := Claim7.holds Tryd.pinned (.plain (OpenSpec.upto fnPairSpec)) fnPairUptoCard
end Rows
end Go.Proofs.YtefhjchhfpjciaaDoor
