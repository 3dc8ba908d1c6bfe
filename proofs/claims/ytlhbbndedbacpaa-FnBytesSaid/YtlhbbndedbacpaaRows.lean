/-
  No cell of these rows narrows 'for every input' (looked for: loops, veiled, ifaces, maps, wideKeys, modest, calm, conditions, laid).
  DERIVED. THE GIVEN ROWS OF THIS SEAT. 9 by the template 'for every input the law returns true; each argument reads behind the call as it read before'; 0 by the template 'total and deterministic' (their statements: YtlhbbndedbacpaaTotals.lean).
  GIVEN WITH THE SEED: the statements are not yours to turn. If you find one false, say at which input.
  Laid BY PROGRAM, IN A SANDBOX (cutbox-rows.mjs): the forced cells as the released guide's own fill.sh prints them over the translation f1a73acd732d7557… (all of the seat's roots in one cut). By AI agents, Wed Nov 11 2026. No macro, syntax, notation, axiom, sorry.
-/
import Derived.Test.YtlhbbndedbacpaaChecked
import GoSem.Claim
import GoSem.ClaimJoined
import GoSem.ClaimMapViews
import Derived.JoinedTies
import Derived.KernelRfl
namespace Go.Proofs.Ytlhbbndedbacpaa
/- THE CELL 'sum', in the pinned program and in every row, IS THE sha256 OF THE DUMP (.gsa) THAT YtlhbbndedbacpaaProg.lean LOADS. Nothing in Lean hashes anything: it is a label: what it is worth is what the hold of that sum in a sandbox is worth. -/
noncomputable def Try.pinned : Pinned := { name := "ytlhbbndedbacpaa", sum := "f1a73acd732d7557188eb3ceca8f7d365f3c5e28ebc5eff50d19c3731bcafe82", checked := Try.checked }
namespace Rows
def none {H : Type} : Left H := { results := [], args := [] }

/-- 'laws.FnTest': WHATEVER THE INPUT: true; the input reads as it did. -/
def fnTestSpec : ChangeSpec := { name := "fnTest", fn := fun _ => fun
  | [d1, d2] => { results := [.lit (.bool true)], args := [d1, d2] }
  | _ => none }
def fnTestRow : OpenClaim := { program := "ytlhbbndedbacpaa", sum := "f1a73acd732d7557188eb3ceca8f7d365f3c5e28ebc5eff50d19c3731bcafe82", func := "loop.example/pub-g03257/laws.FnTest", spec := "fnTest", unfollowed := true, recurses := true, apart := false }
def FnTestSaid : Prop := fnTestRow.holds Try.pinned (OpenSpec.ofChange fnTestSpec)

/-- ITS FALSE NEIGHBOUR: 'it returns false'. Refute it at one input. -/
def fnTestWrong : ChangeSpec := { name := "fnTest", fn := fun _ => fun
  | [d1, d2] => { results := [.lit (.bool false)], args := [d1, d2] }
  | _ => none }
def FnTestWrongFalsely : Prop := fnTestRow.holds Try.pinned (OpenSpec.ofChange fnTestWrong)

/-- 'laws.FnWord': WHATEVER THE INPUT: true; the input reads as it did. -/
def fnWordSpec : ChangeSpec := { name := "fnWord", fn := fun _ => fun
  | [d1, d2] => { results := [.lit (.bool true)], args := [d1, d2] }
  | _ => none }
def fnWordRow : OpenClaim := { program := "ytlhbbndedbacpaa", sum := "f1a73acd732d7557188eb3ceca8f7d365f3c5e28ebc5eff50d19c3731bcafe82", func := "loop.example/pub-g03257/laws.FnWord", spec := "fnWord", unfollowed := true, recurses := true, apart := false }
def FnWordSaid : Prop := fnWordRow.holds Try.pinned (OpenSpec.ofChange fnWordSpec)

/-- ITS FALSE NEIGHBOUR: 'it returns false'. Refute it at one input. -/
def fnWordWrong : ChangeSpec := { name := "fnWord", fn := fun _ => fun
  | [d1, d2] => { results := [.lit (.bool false)], args := [d1, d2] }
  | _ => none }
def FnWordWrongFalsely : Prop := fnWordRow.holds Try.pinned (OpenSpec.ofChange fnWordWrong)

/-- 'laws.FnRank': WHATEVER THE INPUT: true; the input reads as it did. -/
def fnRankSpec : ChangeSpec := { name := "fnRank", fn := fun _ => fun
  | [d1, d2] => { results := [.lit (.bool true)], args := [d1, d2] }
  | _ => none }
def fnRankRow : OpenClaim := { program := "ytlhbbndedbacpaa", sum := "f1a73acd732d7557188eb3ceca8f7d365f3c5e28ebc5eff50d19c3731bcafe82", func := "loop.example/pub-g03257/laws.FnRank", spec := "fnRank", unfollowed := true, recurses := true, apart := false }
def FnRankSaid : Prop := fnRankRow.holds Try.pinned (OpenSpec.ofChange fnRankSpec)

/-- ITS FALSE NEIGHBOUR: 'it returns false'. Refute it at one input. -/
def fnRankWrong : ChangeSpec := { name := "fnRank", fn := fun _ => fun
  | [d1, d2] => { results := [.lit (.bool false)], args := [d1, d2] }
  | _ => none }
def FnRankWrongFalsely : Prop := fnRankRow.holds Try.pinned (OpenSpec.ofChange fnRankWrong)

/-- 'laws.FnSelect': WHATEVER THE INPUT: true; the input reads as it did. -/
def fnSelectSpec : ChangeSpec := { name := "fnSelect", fn := fun _ => fun
  | [d1, d2] => { results := [.lit (.bool true)], args := [d1, d2] }
  | _ => none }
def fnSelectRow : OpenClaim := { program := "ytlhbbndedbacpaa", sum := "f1a73acd732d7557188eb3ceca8f7d365f3c5e28ebc5eff50d19c3731bcafe82", func := "loop.example/pub-g03257/laws.FnSelect", spec := "fnSelect", unfollowed := true, recurses := true, apart := false }
def FnSelectSaid : Prop := fnSelectRow.holds Try.pinned (OpenSpec.ofChange fnSelectSpec)

/-- ITS FALSE NEIGHBOUR: 'it returns false'. Refute it at one input. -/
def fnSelectWrong : ChangeSpec := { name := "fnSelect", fn := fun _ => fun
  | [d1, d2] => { results := [.lit (.bool false)], args := [d1, d2] }
  | _ => none }
def FnSelectWrongFalsely : Prop := fnSelectRow.holds Try.pinned (OpenSpec.ofChange fnSelectWrong)

/-- 'laws.FnCount': WHATEVER THE INPUT: true; the input reads as it did. -/
def fnCountSpec : ChangeSpec := { name := "fnCount", fn := fun _ => fun
  | [d] => { results := [.lit (.bool true)], args := [d] }
  | _ => none }
def fnCountRow : OpenClaim := { program := "ytlhbbndedbacpaa", sum := "f1a73acd732d7557188eb3ceca8f7d365f3c5e28ebc5eff50d19c3731bcafe82", func := "loop.example/pub-g03257/laws.FnCount", spec := "fnCount", unfollowed := true, recurses := true, apart := false }
def FnCountSaid : Prop := fnCountRow.holds Try.pinned (OpenSpec.ofChange fnCountSpec)

/-- ITS FALSE NEIGHBOUR: 'it returns false'. Refute it at one input. -/
def fnCountWrong : ChangeSpec := { name := "fnCount", fn := fun _ => fun
  | [d] => { results := [.lit (.bool false)], args := [d] }
  | _ => none }
def FnCountWrongFalsely : Prop := fnCountRow.holds Try.pinned (OpenSpec.ofChange fnCountWrong)

/-- 'laws.FnBytes': WHATEVER THE INPUT: true; the input reads as it did. -/
def fnBytesSpec : ChangeSpec := { name := "fnBytes", fn := fun _ => fun
  | [d] => { results := [.lit (.bool true)], args := [d] }
  | _ => none }
def fnBytesRow : OpenClaim := { program := "ytlhbbndedbacpaa", sum := "f1a73acd732d7557188eb3ceca8f7d365f3c5e28ebc5eff50d19c3731bcafe82", func := "loop.example/pub-g03257/laws.FnBytes", spec := "fnBytes", unfollowed := true, recurses := true, named := ["encoding/binary.BigEndian"], apart := false }
def FnBytesSaid : Prop := fnBytesRow.holds Try.pinned (OpenSpec.ofChange fnBytesSpec)

/-- ITS FALSE NEIGHBOUR: 'it returns false'. Refute it at one input. -/
def fnBytesWrong : ChangeSpec := { name := "fnBytes", fn := fun _ => fun
  | [d] => { results := [.lit (.bool false)], args := [d] }
  | _ => none }
def FnBytesWrongFalsely : Prop := fnBytesRow.holds Try.pinned (OpenSpec.ofChange fnBytesWrong)

/-- 'laws.FnBetween': WHATEVER THE INPUT: true; the input reads as it did. -/
def fnBetweenSpec : ChangeSpec := { name := "fnBetween", fn := fun _ => fun
  | [d1, d2, d3] => { results := [.lit (.bool true)], args := [d1, d2, d3] }
  | _ => none }
def fnBetweenRow : OpenClaim := { program := "ytlhbbndedbacpaa", sum := "f1a73acd732d7557188eb3ceca8f7d365f3c5e28ebc5eff50d19c3731bcafe82", func := "loop.example/pub-g03257/laws.FnBetween", spec := "fnBetween", unfollowed := true, recurses := true, apart := false }
def FnBetweenSaid : Prop := fnBetweenRow.holds Try.pinned (OpenSpec.ofChange fnBetweenSpec)

/-- ITS FALSE NEIGHBOUR: 'it returns false'. Refute it at one input. -/
def fnBetweenWrong : ChangeSpec := { name := "fnBetween", fn := fun _ => fun
  | [d1, d2, d3] => { results := [.lit (.bool false)], args := [d1, d2, d3] }
  | _ => none }
def FnBetweenWrongFalsely : Prop := fnBetweenRow.holds Try.pinned (OpenSpec.ofChange fnBetweenWrong)

/-- 'laws.FnCompare': WHATEVER THE INPUT: true; the input reads as it did. -/
def fnCompareSpec : ChangeSpec := { name := "fnCompare", fn := fun _ => fun
  | [d1, d2] => { results := [.lit (.bool true)], args := [d1, d2] }
  | _ => none }
def fnCompareRow : OpenClaim := { program := "ytlhbbndedbacpaa", sum := "f1a73acd732d7557188eb3ceca8f7d365f3c5e28ebc5eff50d19c3731bcafe82", func := "loop.example/pub-g03257/laws.FnCompare", spec := "fnCompare", unfollowed := true, recurses := true, apart := false }
def FnCompareSaid : Prop := fnCompareRow.holds Try.pinned (OpenSpec.ofChange fnCompareSpec)

/-- ITS FALSE NEIGHBOUR: 'it returns false'. Refute it at one input. -/
def fnCompareWrong : ChangeSpec := { name := "fnCompare", fn := fun _ => fun
  | [d1, d2] => { results := [.lit (.bool false)], args := [d1, d2] }
  | _ => none }
def FnCompareWrongFalsely : Prop := fnCompareRow.holds Try.pinned (OpenSpec.ofChange fnCompareWrong)

/-- 'laws.FnPairCount': WHATEVER THE INPUT: true; the input reads as it did. -/
def fnPairCountSpec : ChangeSpec := { name := "fnPairCount", fn := fun _ => fun
  | [d1, d2, d3] => { results := [.lit (.bool true)], args := [d1, d2, d3] }
  | _ => none }
def fnPairCountRow : OpenClaim := { program := "ytlhbbndedbacpaa", sum := "f1a73acd732d7557188eb3ceca8f7d365f3c5e28ebc5eff50d19c3731bcafe82", func := "loop.example/pub-g03257/laws.FnPairCount", spec := "fnPairCount", unfollowed := true, recurses := true, apart := false }
def FnPairCountSaid : Prop := fnPairCountRow.holds Try.pinned (OpenSpec.ofChange fnPairCountSpec)

/-- ITS FALSE NEIGHBOUR: 'it returns false'. Refute it at one input. -/
def fnPairCountWrong : ChangeSpec := { name := "fnPairCount", fn := fun _ => fun
  | [d1, d2, d3] => { results := [.lit (.bool false)], args := [d1, d2, d3] }
  | _ => none }
def FnPairCountWrongFalsely : Prop := fnPairCountRow.holds Try.pinned (OpenSpec.ofChange fnPairCountWrong)

/- THE SECOND FORM. 'bulk': how many values and letters a reading holds, each counted each time it is reached (what is shared counts as often as it is met; a slice's spare places count too). A statement '..UptoSaid' is the law's where the arguments, and the package variables that the reading takes, are together of bulk at most 1048576: NARROWER than '..Said'. Prove '..Said' where nothing that the law and all that it calls make is longer than what came in: it says more and counts as full. Else prove '..UptoSaid'. A law counts once. -/
mutual
def uptoBulk {H : Type} : DataW H → Nat
  | .lit (.string bytes) => bytes.length + 1
  | .lit _ => 1
  | .nil => 1
  | .ptr d => uptoBulk d + 1
  | .slice elems spare => uptoBulkAll elems + uptoBulkAll spare + 1
  | .agg parts => uptoBulkAll parts + 1
  | .iface _ d => uptoBulk d + 1
  | .map entries => uptoBulkEntries entries + 1
  | .held _ => 1
def uptoBulkAll {H : Type} : List (DataW H) → Nat
  | [] => 0
  | d :: r => uptoBulk d + uptoBulkAll r
def uptoBulkEntries {H : Type} : List (Lit × DataW H) → Nat
  | [] => 0
  | x :: r => uptoBulkEntry x + uptoBulkEntries r
def uptoBulkEntry {H : Type} : Lit × DataW H → Nat
  | (.string bytes, d) => bytes.length + uptoBulk d + 1
  | (_, d) => uptoBulk d + 1
 end
def uptoSmall : (H : Type) → List (DataW H) → Bool := fun _ ds => decide (uptoBulkAll ds ≤ 1048576)
def OpenSpec.upto (s : _root_.Go.ChangeSpec) : _root_.Go.OpenSpec := { _root_.Go.OpenSpec.ofChange s with cond := some uptoSmall }

/-- 'laws.FnTest', WHERE WHAT IT READS IS OF BULK AT MOST 1048576: true; the input reads as it did. -/
def fnTestUptoRow : OpenClaim := { program := "ytlhbbndedbacpaa", sum := "f1a73acd732d7557188eb3ceca8f7d365f3c5e28ebc5eff50d19c3731bcafe82", func := "loop.example/pub-g03257/laws.FnTest", spec := "fnTest", unfollowed := true, recurses := true, apart := false, narrowed := true }
def FnTestUptoSaid : Prop := fnTestUptoRow.holds Try.pinned (OpenSpec.upto fnTestSpec)

/-- 'laws.FnWord', WHERE WHAT IT READS IS OF BULK AT MOST 1048576: true; the input reads as it did. -/
def fnWordUptoRow : OpenClaim := { program := "ytlhbbndedbacpaa", sum := "f1a73acd732d7557188eb3ceca8f7d365f3c5e28ebc5eff50d19c3731bcafe82", func := "loop.example/pub-g03257/laws.FnWord", spec := "fnWord", unfollowed := true, recurses := true, apart := false, narrowed := true }
def FnWordUptoSaid : Prop := fnWordUptoRow.holds Try.pinned (OpenSpec.upto fnWordSpec)

/-- 'laws.FnRank', WHERE WHAT IT READS IS OF BULK AT MOST 1048576: true; the input reads as it did. -/
def fnRankUptoRow : OpenClaim := { program := "ytlhbbndedbacpaa", sum := "f1a73acd732d7557188eb3ceca8f7d365f3c5e28ebc5eff50d19c3731bcafe82", func := "loop.example/pub-g03257/laws.FnRank", spec := "fnRank", unfollowed := true, recurses := true, apart := false, narrowed := true }
def FnRankUptoSaid : Prop := fnRankUptoRow.holds Try.pinned (OpenSpec.upto fnRankSpec)

/-- 'laws.FnSelect', WHERE WHAT IT READS IS OF BULK AT MOST 1048576: true; the input reads as it did. -/
def fnSelectUptoRow : OpenClaim := { program := "ytlhbbndedbacpaa", sum := "f1a73acd732d7557188eb3ceca8f7d365f3c5e28ebc5eff50d19c3731bcafe82", func := "loop.example/pub-g03257/laws.FnSelect", spec := "fnSelect", unfollowed := true, recurses := true, apart := false, narrowed := true }
def FnSelectUptoSaid : Prop := fnSelectUptoRow.holds Try.pinned (OpenSpec.upto fnSelectSpec)

/-- 'laws.FnCount', WHERE WHAT IT READS IS OF BULK AT MOST 1048576: true; the input reads as it did. -/
def fnCountUptoRow : OpenClaim := { program := "ytlhbbndedbacpaa", sum := "f1a73acd732d7557188eb3ceca8f7d365f3c5e28ebc5eff50d19c3731bcafe82", func := "loop.example/pub-g03257/laws.FnCount", spec := "fnCount", unfollowed := true, recurses := true, apart := false, narrowed := true }
def FnCountUptoSaid : Prop := fnCountUptoRow.holds Try.pinned (OpenSpec.upto fnCountSpec)

/-- 'laws.FnBytes', WHERE WHAT IT READS IS OF BULK AT MOST 1048576: true; the input reads as it did. -/
def fnBytesUptoRow : OpenClaim := { program := "ytlhbbndedbacpaa", sum := "f1a73acd732d7557188eb3ceca8f7d365f3c5e28ebc5eff50d19c3731bcafe82", func := "loop.example/pub-g03257/laws.FnBytes", spec := "fnBytes", unfollowed := true, recurses := true, named := ["encoding/binary.BigEndian"], apart := false, narrowed := true }
def FnBytesUptoSaid : Prop := fnBytesUptoRow.holds Try.pinned (OpenSpec.upto fnBytesSpec)

/-- 'laws.FnBetween', WHERE WHAT IT READS IS OF BULK AT MOST 1048576: true; the input reads as it did. -/
def fnBetweenUptoRow : OpenClaim := { program := "ytlhbbndedbacpaa", sum := "f1a73acd732d7557188eb3ceca8f7d365f3c5e28ebc5eff50d19c3731bcafe82", func := "loop.example/pub-g03257/laws.FnBetween", spec := "fnBetween", unfollowed := true, recurses := true, apart := false, narrowed := true }
def FnBetweenUptoSaid : Prop := fnBetweenUptoRow.holds Try.pinned (OpenSpec.upto fnBetweenSpec)

/-- 'laws.FnCompare', WHERE WHAT IT READS IS OF BULK AT MOST 1048576: true; the input reads as it did. -/
def fnCompareUptoRow : OpenClaim := { program := "ytlhbbndedbacpaa", sum := "f1a73acd732d7557188eb3ceca8f7d365f3c5e28ebc5eff50d19c3731bcafe82", func := "loop.example/pub-g03257/laws.FnCompare", spec := "fnCompare", unfollowed := true, recurses := true, apart := false, narrowed := true }
def FnCompareUptoSaid : Prop := fnCompareUptoRow.holds Try.pinned (OpenSpec.upto fnCompareSpec)

/-- 'laws.FnPairCount', WHERE WHAT IT READS IS OF BULK AT MOST 1048576: true; the input reads as it did. -/
def fnPairCountUptoRow : OpenClaim := { program := "ytlhbbndedbacpaa", sum := "f1a73acd732d7557188eb3ceca8f7d365f3c5e28ebc5eff50d19c3731bcafe82", func := "loop.example/pub-g03257/laws.FnPairCount", spec := "fnPairCount", unfollowed := true, recurses := true, apart := false, narrowed := true }
def FnPairCountUptoSaid : Prop := fnPairCountUptoRow.holds Try.pinned (OpenSpec.upto fnPairCountSpec)

end Rows
end Go.Proofs.Ytlhbbndedbacpaa
