/-
  DERIVED. GIVEN WITH THE SEED: THE CARDS: each row of YtepmbglaalkbdaaDoorRows.lean that lists a variable, with what it lists TIED to the program's text (the seventh form; the later family's looks); each row that meets fmt, with fmt's text TOLD by the authors' own Lean function (tested against real Go, not proved from fmt's source: count such statements apart). THE CARD IS WHAT COUNTS. Prove the row's statement (the work); the ties are given (YtepmbglaalkbdaaDoorTie.lean); close each card by the builder's one call (the guide's Derived/Test/ToyasCard.lean, 'card_holds'). Laid BY PROGRAM, IN A SANDBOX (cutbox-door.mjs). By AI agents, Wed Nov 11 2026. No macro, syntax, notation, axiom, sorry.
-/
import Derived.Test.YtepmbglaalkbdaaDoorRows
import GoSem.ClaimSeven
namespace Go.Proofs.YtepmbglaalkbdaaDoor
namespace Rows

/-- THE TIED CARD OF 'laws.FnMade'. -/
def fnMadeCard : Claim7 := { stood := { row := fnMadeRow, standIns := [], harness := (true, "0c4aade18f54cff387db81e343b72abed81d6eaa0e42ea0909193e0cebbac186"), looks := false }, kinds := [], alts := [], laidByText := true, laidKinds := [.data], laidTests := true, laidLooks := .later }
def FnMadeCardSaid : Prop := Claim7.holds Tryd.pinned (.plain (OpenSpec.ofChange fnMadeSpec)) fnMadeCard

/-- THE TIED CARD OF 'laws.FnWords'. -/
def fnWordsCard : Claim7 := { stood := { row := fnWordsRow, standIns := [], harness := (true, "0c4aade18f54cff387db81e343b72abed81d6eaa0e42ea0909193e0cebbac186"), looks := false }, kinds := [], alts := [], laidByText := true, laidKinds := [.data], laidTests := true, laidLooks := .later }
def FnWordsCardSaid : Prop := Claim7.holds Tryd.pinned (.plain (OpenSpec.ofChange fnWordsSpec)) fnWordsCard

/-- THE TIED CARD OF 'laws.FnComplement'. -/
def fnComplementCard : Claim7 := { stood := { row := fnComplementRow, standIns := [], harness := (true, "0c4aade18f54cff387db81e343b72abed81d6eaa0e42ea0909193e0cebbac186"), looks := false }, kinds := [], alts := [], laidByText := true, laidKinds := [.data], laidTests := true, laidLooks := .later }
def FnComplementCardSaid : Prop := Claim7.holds Tryd.pinned (.plain (OpenSpec.ofChange fnComplementSpec)) fnComplementCard

/-- THE TIED CARD OF 'laws.FnCopy'. -/
def fnCopyCard : Claim7 := { stood := { row := fnCopyRow, standIns := [], harness := (true, "0c4aade18f54cff387db81e343b72abed81d6eaa0e42ea0909193e0cebbac186"), looks := false }, kinds := [], alts := [], laidByText := true, laidKinds := [.data], laidTests := true, laidLooks := .later }
def FnCopyCardSaid : Prop := Claim7.holds Tryd.pinned (.plain (OpenSpec.ofChange fnCopySpec)) fnCopyCard

/-- THE TIED CARD OF 'laws.FnFlipTwice'. -/
def fnFlipTwiceCard : Claim7 := { stood := { row := fnFlipTwiceRow, standIns := [], harness := (true, "0c4aade18f54cff387db81e343b72abed81d6eaa0e42ea0909193e0cebbac186"), looks := false }, kinds := [], alts := [], laidByText := true, laidKinds := [.data], laidTests := true, laidLooks := .later }
def FnFlipTwiceCardSaid : Prop := Claim7.holds Tryd.pinned (.plain (OpenSpec.ofChange fnFlipTwiceSpec)) fnFlipTwiceCard

/-- THE TIED CARD OF 'laws.FnRanges'. -/
def fnRangesCard : Claim7 := { stood := { row := fnRangesRow, standIns := [], harness := (true, "0c4aade18f54cff387db81e343b72abed81d6eaa0e42ea0909193e0cebbac186"), looks := false }, kinds := [], alts := [], laidByText := true, laidKinds := [.data], laidTests := true, laidLooks := .later }
def FnRangesCardSaid : Prop := Claim7.holds Tryd.pinned (.plain (OpenSpec.ofChange fnRangesSpec)) fnRangesCard

/-- THE SECOND FORM's CARD OF 'laws.FnMade'. -/
def fnMadeUptoCard : Claim7 := { stood := { row := fnMadeUptoRow, standIns := [], harness := (true, "0c4aade18f54cff387db81e343b72abed81d6eaa0e42ea0909193e0cebbac186"), looks := false }, kinds := [], alts := [], laidByText := true, laidKinds := [.data], laidTests := true, laidLooks := .later }
def FnMadeUptoCardSaid : Prop := Claim7.holds Tryd.pinned (.plain (OpenSpec.upto fnMadeSpec)) fnMadeUptoCard

/-- THE SECOND FORM's CARD OF 'laws.FnWords'. -/
def fnWordsUptoCard : Claim7 := { stood := { row := fnWordsUptoRow, standIns := [], harness := (true, "0c4aade18f54cff387db81e343b72abed81d6eaa0e42ea0909193e0cebbac186"), looks := false }, kinds := [], alts := [], laidByText := true, laidKinds := [.data], laidTests := true, laidLooks := .later }
def FnWordsUptoCardSaid : Prop := Claim7.holds Tryd.pinned (.plain (OpenSpec.upto fnWordsSpec)) fnWordsUptoCard

/-- THE SECOND FORM's CARD OF 'laws.FnComplement'. -/
def fnComplementUptoCard : Claim7 := { stood := { row := fnComplementUptoRow, standIns := [], harness := (true, "0c4aade18f54cff387db81e343b72abed81d6eaa0e42ea0909193e0cebbac186"), looks := false }, kinds := [], alts := [], laidByText := true, laidKinds := [.data], laidTests := true, laidLooks := .later }
def FnComplementUptoCardSaid : Prop := Claim7.holds Tryd.pinned (.plain (OpenSpec.upto fnComplementSpec)) fnComplementUptoCard

/-- THE SECOND FORM's CARD OF 'laws.FnCopy'. -/
def fnCopyUptoCard : Claim7 := { stood := { row := fnCopyUptoRow, standIns := [], harness := (true, "0c4aade18f54cff387db81e343b72abed81d6eaa0e42ea0909193e0cebbac186"), looks := false }, kinds := [], alts := [], laidByText := true, laidKinds := [.data], laidTests := true, laidLooks := .later }
def FnCopyUptoCardSaid : Prop := Claim7.holds Tryd.pinned (.plain (OpenSpec.upto fnCopySpec)) fnCopyUptoCard

/-- THE SECOND FORM's CARD OF 'laws.FnFlipTwice'. -/
def fnFlipTwiceUptoCard : Claim7 := { stood := { row := fnFlipTwiceUptoRow, standIns := [], harness := (true, "0c4aade18f54cff387db81e343b72abed81d6eaa0e42ea0909193e0cebbac186"), looks := false }, kinds := [], alts := [], laidByText := true, laidKinds := [.data], laidTests := true, laidLooks := .later }
def FnFlipTwiceUptoCardSaid : Prop := Claim7.holds Tryd.pinned (.plain (OpenSpec.upto fnFlipTwiceSpec)) fnFlipTwiceUptoCard

/-- THE SECOND FORM's CARD OF 'laws.FnRanges'. -/
def fnRangesUptoCard : Claim7 := { stood := { row := fnRangesUptoRow, standIns := [], harness := (true, "0c4aade18f54cff387db81e343b72abed81d6eaa0e42ea0909193e0cebbac186"), looks := false }, kinds := [], alts := [], laidByText := true, laidKinds := [.data], laidTests := true, laidLooks := .later }
def FnRangesUptoCardSaid : Prop := Claim7.holds Tryd.pinned (.plain (OpenSpec.upto fnRangesSpec)) fnRangesUptoCard
end Rows
end Go.Proofs.YtepmbglaalkbdaaDoor
