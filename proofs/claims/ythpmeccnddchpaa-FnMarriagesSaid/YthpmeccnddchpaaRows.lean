/-
  No cell of these rows narrows 'for every input' (looked for: loops, veiled, ifaces, maps, wideKeys, modest, calm, conditions, laid).
  DERIVED. THE GIVEN ROWS OF THIS SEAT. 8 by the template 'for every input the law returns true; each argument reads behind the call as it read before'; 0 by the template 'total and deterministic' (their statements: YthpmeccnddchpaaTotals.lean).
  GIVEN WITH THE SEED: the statements are not yours to turn. If you find one false, say at which input.
  Laid BY PROGRAM, IN A SANDBOX (cutbox-rows.mjs): the forced cells as the released guide's own fill.sh prints them over the translation 69c22a818c743ede… (all of the seat's roots in one cut). By AI agents, Wed Nov 11 2026. No macro, syntax, notation, axiom, sorry.
-/
import Derived.Test.YthpmeccnddchpaaChecked
import GoSem.Claim
import GoSem.ClaimJoined
import GoSem.ClaimMapViews
import Derived.JoinedTies
import Derived.KernelRfl
namespace Go.Proofs.Ythpmeccnddchpaa
/- THE CELL 'sum', in the pinned program and in every row, IS THE sha256 OF THE DUMP (.gsa) THAT YthpmeccnddchpaaProg.lean LOADS. Nothing in Lean hashes anything: it is a label: what it is worth is what the hold of that sum in a sandbox is worth. -/
noncomputable def Try.pinned : Pinned := { name := "ythpmeccnddchpaa", sum := "69c22a818c743ede285144bd195d242df822a90a4bdbddf5288cbc00747e15f2", checked := Try.checked }
namespace Rows
def none {H : Type} : Left H := { results := [], args := [] }

/-- 'laws.FnHull': WHATEVER THE INPUT: true; the input reads as it did. -/
def fnHullSpec : ChangeSpec := { name := "fnHull", fn := fun _ => fun
  | [d1, d2] => { results := [.lit (.bool true)], args := [d1, d2] }
  | _ => none }
def fnHullRow : OpenClaim := { program := "ythpmeccnddchpaa", sum := "69c22a818c743ede285144bd195d242df822a90a4bdbddf5288cbc00747e15f2", func := "pub-windbreak/laws.FnHull", spec := "fnHull", unfollowed := true, recurses := true, apart := false }
def FnHullSaid : Prop := fnHullRow.holds Try.pinned (OpenSpec.ofChange fnHullSpec)

/-- ITS FALSE NEIGHBOUR: 'it returns false'. Refute it at one input. -/
def fnHullWrong : ChangeSpec := { name := "fnHull", fn := fun _ => fun
  | [d1, d2] => { results := [.lit (.bool false)], args := [d1, d2] }
  | _ => none }
def FnHullWrongFalsely : Prop := fnHullRow.holds Try.pinned (OpenSpec.ofChange fnHullWrong)

/-- 'laws.FnSkyline': WHATEVER THE INPUT: true; the input reads as it did. -/
def fnSkylineSpec : ChangeSpec := { name := "fnSkyline", fn := fun _ => fun
  | [d1, d2, d3] => { results := [.lit (.bool true)], args := [d1, d2, d3] }
  | _ => none }
def fnSkylineRow : OpenClaim := { program := "ythpmeccnddchpaa", sum := "69c22a818c743ede285144bd195d242df822a90a4bdbddf5288cbc00747e15f2", func := "pub-windbreak/laws.FnSkyline", spec := "fnSkyline", unfollowed := true, recurses := true, apart := false }
def FnSkylineSaid : Prop := fnSkylineRow.holds Try.pinned (OpenSpec.ofChange fnSkylineSpec)

/-- ITS FALSE NEIGHBOUR: 'it returns false'. Refute it at one input. -/
def fnSkylineWrong : ChangeSpec := { name := "fnSkyline", fn := fun _ => fun
  | [d1, d2, d3] => { results := [.lit (.bool false)], args := [d1, d2, d3] }
  | _ => none }
def FnSkylineWrongFalsely : Prop := fnSkylineRow.holds Try.pinned (OpenSpec.ofChange fnSkylineWrong)

/-- 'laws.FnMedian': WHATEVER THE INPUT: true; the input reads as it did. -/
def fnMedianSpec : ChangeSpec := { name := "fnMedian", fn := fun _ => fun
  | [d1, d2, d3] => { results := [.lit (.bool true)], args := [d1, d2, d3] }
  | _ => none }
def fnMedianRow : OpenClaim := { program := "ythpmeccnddchpaa", sum := "69c22a818c743ede285144bd195d242df822a90a4bdbddf5288cbc00747e15f2", func := "pub-windbreak/laws.FnMedian", spec := "fnMedian", unfollowed := true, recurses := true, apart := false }
def FnMedianSaid : Prop := fnMedianRow.holds Try.pinned (OpenSpec.ofChange fnMedianSpec)

/-- ITS FALSE NEIGHBOUR: 'it returns false'. Refute it at one input. -/
def fnMedianWrong : ChangeSpec := { name := "fnMedian", fn := fun _ => fun
  | [d1, d2, d3] => { results := [.lit (.bool false)], args := [d1, d2, d3] }
  | _ => none }
def FnMedianWrongFalsely : Prop := fnMedianRow.holds Try.pinned (OpenSpec.ofChange fnMedianWrong)

/-- 'laws.FnHuffman': WHATEVER THE INPUT: true; the input reads as it did. -/
def fnHuffmanSpec : ChangeSpec := { name := "fnHuffman", fn := fun _ => fun
  | [d1, d2] => { results := [.lit (.bool true)], args := [d1, d2] }
  | _ => none }
def fnHuffmanRow : OpenClaim := { program := "ythpmeccnddchpaa", sum := "69c22a818c743ede285144bd195d242df822a90a4bdbddf5288cbc00747e15f2", func := "pub-windbreak/laws.FnHuffman", spec := "fnHuffman", unfollowed := true, recurses := true, apart := false }
def FnHuffmanSaid : Prop := fnHuffmanRow.holds Try.pinned (OpenSpec.ofChange fnHuffmanSpec)

/-- ITS FALSE NEIGHBOUR: 'it returns false'. Refute it at one input. -/
def fnHuffmanWrong : ChangeSpec := { name := "fnHuffman", fn := fun _ => fun
  | [d1, d2] => { results := [.lit (.bool false)], args := [d1, d2] }
  | _ => none }
def FnHuffmanWrongFalsely : Prop := fnHuffmanRow.holds Try.pinned (OpenSpec.ofChange fnHuffmanWrong)

/-- 'laws.FnRooms': WHATEVER THE INPUT: true; the input reads as it did. -/
def fnRoomsSpec : ChangeSpec := { name := "fnRooms", fn := fun _ => fun
  | [d1, d2] => { results := [.lit (.bool true)], args := [d1, d2] }
  | _ => none }
def fnRoomsRow : OpenClaim := { program := "ythpmeccnddchpaa", sum := "69c22a818c743ede285144bd195d242df822a90a4bdbddf5288cbc00747e15f2", func := "pub-windbreak/laws.FnRooms", spec := "fnRooms", unfollowed := true, recurses := true, apart := false }
def FnRoomsSaid : Prop := fnRoomsRow.holds Try.pinned (OpenSpec.ofChange fnRoomsSpec)

/-- ITS FALSE NEIGHBOUR: 'it returns false'. Refute it at one input. -/
def fnRoomsWrong : ChangeSpec := { name := "fnRooms", fn := fun _ => fun
  | [d1, d2] => { results := [.lit (.bool false)], args := [d1, d2] }
  | _ => none }
def FnRoomsWrongFalsely : Prop := fnRoomsRow.holds Try.pinned (OpenSpec.ofChange fnRoomsWrong)

/-- 'laws.FnPiles': WHATEVER THE INPUT: true; the input reads as it did. -/
def fnPilesSpec : ChangeSpec := { name := "fnPiles", fn := fun _ => fun
  | [d1, d2] => { results := [.lit (.bool true)], args := [d1, d2] }
  | _ => none }
def fnPilesRow : OpenClaim := { program := "ythpmeccnddchpaa", sum := "69c22a818c743ede285144bd195d242df822a90a4bdbddf5288cbc00747e15f2", func := "pub-windbreak/laws.FnPiles", spec := "fnPiles", unfollowed := true, recurses := true, apart := false }
def FnPilesSaid : Prop := fnPilesRow.holds Try.pinned (OpenSpec.ofChange fnPilesSpec)

/-- ITS FALSE NEIGHBOUR: 'it returns false'. Refute it at one input. -/
def fnPilesWrong : ChangeSpec := { name := "fnPiles", fn := fun _ => fun
  | [d1, d2] => { results := [.lit (.bool false)], args := [d1, d2] }
  | _ => none }
def FnPilesWrongFalsely : Prop := fnPilesRow.holds Try.pinned (OpenSpec.ofChange fnPilesWrong)

/-- 'laws.FnMarriages': WHATEVER THE INPUT: true; the input reads as it did. -/
def fnMarriagesSpec : ChangeSpec := { name := "fnMarriages", fn := fun _ => fun
  | [d1, d2, d3, d4] => { results := [.lit (.bool true)], args := [d1, d2, d3, d4] }
  | _ => none }
def fnMarriagesRow : OpenClaim := { program := "ythpmeccnddchpaa", sum := "69c22a818c743ede285144bd195d242df822a90a4bdbddf5288cbc00747e15f2", func := "pub-windbreak/laws.FnMarriages", spec := "fnMarriages", unfollowed := true, recurses := true, apart := false }
def FnMarriagesSaid : Prop := fnMarriagesRow.holds Try.pinned (OpenSpec.ofChange fnMarriagesSpec)

/-- ITS FALSE NEIGHBOUR: 'it returns false'. Refute it at one input. -/
def fnMarriagesWrong : ChangeSpec := { name := "fnMarriages", fn := fun _ => fun
  | [d1, d2, d3, d4] => { results := [.lit (.bool false)], args := [d1, d2, d3, d4] }
  | _ => none }
def FnMarriagesWrongFalsely : Prop := fnMarriagesRow.holds Try.pinned (OpenSpec.ofChange fnMarriagesWrong)

/-- 'laws.FnShortestPaths': WHATEVER THE INPUT: true; the input reads as it did. -/
def fnShortestPathsSpec : ChangeSpec := { name := "fnShortestPaths", fn := fun _ => fun
  | [d1, d2, d3] => { results := [.lit (.bool true)], args := [d1, d2, d3] }
  | _ => none }
def fnShortestPathsRow : OpenClaim := { program := "ythpmeccnddchpaa", sum := "69c22a818c743ede285144bd195d242df822a90a4bdbddf5288cbc00747e15f2", func := "pub-windbreak/laws.FnShortestPaths", spec := "fnShortestPaths", unfollowed := true, recurses := true, apart := false }
def FnShortestPathsSaid : Prop := fnShortestPathsRow.holds Try.pinned (OpenSpec.ofChange fnShortestPathsSpec)

/-- ITS FALSE NEIGHBOUR: 'it returns false'. Refute it at one input. -/
def fnShortestPathsWrong : ChangeSpec := { name := "fnShortestPaths", fn := fun _ => fun
  | [d1, d2, d3] => { results := [.lit (.bool false)], args := [d1, d2, d3] }
  | _ => none }
def FnShortestPathsWrongFalsely : Prop := fnShortestPathsRow.holds Try.pinned (OpenSpec.ofChange fnShortestPathsWrong)

/- THE SECOND FORM. 'bulk': how many values and letters a reading holds, each counted each time it is reached (what is shared counts as often as it is met; a slice's spare places count too). A statement '..UptoSaid' is the law's where the arguments, and the package variables that the reading takes, are together of bulk at most 1048576: NARROWER than '..Said'. Prove '..Said' where nothing that the law and all that it calls make is longer than what came in: it says more and counts as full. Else prove '..UptoSaid'. A law counts once. -/
mutual
def uptoBulk {H : Type} : DataW H → Nat
  | .lit (.string bytes) => bytes.length + 1
  | .lit _ => 1
  | .nil => 1
  | .ptr d => uptoBulk d + 1
  | .slice elems spare => uptoBulkAll elems + uptoBulkAll spare + 1
  | .agg parts => uptoBulkAll parts + 1
  | .iface _ d => uptoBulk d + 1
  | .map entries => uptoBulkEntries entries + 1
  | .held _ => 1
def uptoBulkAll {H : Type} : List (DataW H) → Nat
  | [] => 0
  | d :: r => uptoBulk d + uptoBulkAll r
def uptoBulkEntries {H : Type} : List (Lit × DataW H) → Nat
  | [] => 0
  | x :: r => uptoBulkEntry x + uptoBulkEntries r
def uptoBulkEntry {H : Type} : Lit × DataW H → Nat
  | (.string bytes, d) => bytes.length + uptoBulk d + 1
  | (_, d) => uptoBulk d + 1
 end
def uptoSmall : (H : Type) → List (DataW H) → Bool := fun _ ds => decide (uptoBulkAll ds ≤ 1048576)
def OpenSpec.upto (s : _root_.Go.ChangeSpec) : _root_.Go.OpenSpec := { _root_.Go.OpenSpec.ofChange s with cond := some uptoSmall }

/-- 'laws.FnHull', WHERE WHAT IT READS IS OF BULK AT MOST 1048576: true; the input reads as it did. -/
def fnHullUptoRow : OpenClaim := { program := "ythpmeccnddchpaa", sum := "69c22a818c743ede285144bd195d242df822a90a4bdbddf5288cbc00747e15f2", func := "pub-windbreak/laws.FnHull", spec := "fnHull", unfollowed := true, recurses := true, apart := false, narrowed := true }
def FnHullUptoSaid : Prop := fnHullUptoRow.holds Try.pinned (OpenSpec.upto fnHullSpec)

/-- 'laws.FnSkyline', WHERE WHAT IT READS IS OF BULK AT MOST 1048576: true; the input reads as it did. -/
def fnSkylineUptoRow : OpenClaim := { program := "ythpmeccnddchpaa", sum := "69c22a818c743ede285144bd195d242df822a90a4bdbddf5288cbc00747e15f2", func := "pub-windbreak/laws.FnSkyline", spec := "fnSkyline", unfollowed := true, recurses := true, apart := false, narrowed := true }
def FnSkylineUptoSaid : Prop := fnSkylineUptoRow.holds Try.pinned (OpenSpec.upto fnSkylineSpec)

/-- 'laws.FnMedian', WHERE WHAT IT READS IS OF BULK AT MOST 1048576: true; the input reads as it did. -/
def fnMedianUptoRow : OpenClaim := { program := "ythpmeccnddchpaa", sum := "69c22a818c743ede285144bd195d242df822a90a4bdbddf5288cbc00747e15f2", func := "pub-windbreak/laws.FnMedian", spec := "fnMedian", unfollowed := true, recurses := true, apart := false, narrowed := true }
def FnMedianUptoSaid : Prop := fnMedianUptoRow.holds Try.pinned (OpenSpec.upto fnMedianSpec)

/-- 'laws.FnHuffman', WHERE WHAT IT READS IS OF BULK AT MOST 1048576: true; the input reads as it did. -/
def fnHuffmanUptoRow : OpenClaim := { program := "ythpmeccnddchpaa", sum := "69c22a818c743ede285144bd195d242df822a90a4bdbddf5288cbc00747e15f2", func := "pub-windbreak/laws.FnHuffman", spec := "fnHuffman", unfollowed := true, recurses := true, apart := false, narrowed := true }
def FnHuffmanUptoSaid : Prop := fnHuffmanUptoRow.holds Try.pinned (OpenSpec.upto fnHuffmanSpec)

/-- 'laws.FnRooms', WHERE WHAT IT READS IS OF BULK AT MOST 1048576: true; the input reads as it did. -/
def fnRoomsUptoRow : OpenClaim := { program := "ythpmeccnddchpaa", sum := "69c22a818c743ede285144bd195d242df822a90a4bdbddf5288cbc00747e15f2", func := "pub-windbreak/laws.FnRooms", spec := "fnRooms", unfollowed := true, recurses := true, apart := false, narrowed := true }
def FnRoomsUptoSaid : Prop := fnRoomsUptoRow.holds Try.pinned (OpenSpec.upto fnRoomsSpec)

/-- 'laws.FnPiles', WHERE WHAT IT READS IS OF BULK AT MOST 1048576: true; the input reads as it did. -/
def fnPilesUptoRow : OpenClaim := { program := "ythpmeccnddchpaa", sum := "69c22a818c743ede285144bd195d242df822a90a4bdbddf5288cbc00747e15f2", func := "pub-windbreak/laws.FnPiles", spec := "fnPiles", unfollowed := true, recurses := true, apart := false, narrowed := true }
def FnPilesUptoSaid : Prop := fnPilesUptoRow.holds Try.pinned (OpenSpec.upto fnPilesSpec)

/-- 'laws.FnMarriages', WHERE WHAT IT READS IS OF BULK AT MOST 1048576: true; the input reads as it did. -/
def fnMarriagesUptoRow : OpenClaim := { program := "ythpmeccnddchpaa", sum := "69c22a818c743ede285144bd195d242df822a90a4bdbddf5288cbc00747e15f2", func := "pub-windbreak/laws.FnMarriages", spec := "fnMarriages", unfollowed := true, recurses := true, apart := false, narrowed := true }
def FnMarriagesUptoSaid : Prop := fnMarriagesUptoRow.holds Try.pinned (OpenSpec.upto fnMarriagesSpec)

/-- 'laws.FnShortestPaths', WHERE WHAT IT READS IS OF BULK AT MOST 1048576: true; the input reads as it did. -/
def fnShortestPathsUptoRow : OpenClaim := { program := "ythpmeccnddchpaa", sum := "69c22a818c743ede285144bd195d242df822a90a4bdbddf5288cbc00747e15f2", func := "pub-windbreak/laws.FnShortestPaths", spec := "fnShortestPaths", unfollowed := true, recurses := true, apart := false, narrowed := true }
def FnShortestPathsUptoSaid : Prop := fnShortestPathsUptoRow.holds Try.pinned (OpenSpec.upto fnShortestPathsSpec)

end Rows
end Go.Proofs.Ythpmeccnddchpaa
