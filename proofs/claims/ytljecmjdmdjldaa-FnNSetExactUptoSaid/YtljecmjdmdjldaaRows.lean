/-
  NARROWER THAN 'FOR EVERY INPUT', by the rows' own cells (each row's printed sentence says how): FnNItems: loops · FnNGet: loops · FnNLoad: loops · FnNRebalance: loops · FnNDeleteHint: loops · FnNIter: loops · FnNDeleteAt: loops · FnNPop: loops · FnNSetExact: loops.
  DERIVED. THE GIVEN ROWS OF THIS SEAT. 10 by the template 'for every input the law returns true; each argument reads behind the call as it read before'; 0 by the template 'total and deterministic' (their statements: YtljecmjdmdjldaaTotals.lean).
  GIVEN WITH THE SEED: the statements are not yours to turn. If you find one false, say at which input.
  Laid BY PROGRAM, IN A SANDBOX (cutbox-rows.mjs): the forced cells as the released guide's own fill.sh prints them over the translation 7af628a2649b8c18… (all of the seat's roots in one cut). By AI agents, Wed Nov 11 2026. No macro, syntax, notation, axiom, sorry.
-/
import Derived.Test.YtljecmjdmdjldaaChecked
import GoSem.Claim
import GoSem.ClaimJoined
import GoSem.ClaimMapViews
import Derived.JoinedTies
import Derived.KernelRfl
namespace Go.Proofs.Ytljecmjdmdjldaa
/- THE CELL 'sum', in the pinned program and in every row, IS THE sha256 OF THE DUMP (.gsa) THAT YtljecmjdmdjldaaProg.lean LOADS. Nothing in Lean hashes anything: it is a label: what it is worth is what the hold of that sum in a sandbox is worth. -/
noncomputable def Try.pinned : Pinned := { name := "ytljecmjdmdjldaa", sum := "7af628a2649b8c1874d41f09a9fad692236872f508ae42ba657f7bcdd9a43d5f", checked := Try.checked }
namespace Rows
def none {H : Type} : Left H := { results := [], args := [] }

/-- 'laws.FnNSearch': WHATEVER THE INPUT: true; the input reads as it did. -/
def fnNSearchSpec : ChangeSpec := { name := "fnNSearch", fn := fun _ => fun
  | [d1, d2, d3] => { results := [.lit (.bool true)], args := [d1, d2, d3] }
  | _ => none }
def fnNSearchRow : OpenClaim := { program := "ytljecmjdmdjldaa", sum := "7af628a2649b8c1874d41f09a9fad692236872f508ae42ba657f7bcdd9a43d5f", func := "pub-windbreak/laws.FnNSearch", spec := "fnNSearch", unfollowed := true, recurses := true, apart := false }
def FnNSearchSaid : Prop := fnNSearchRow.holds Try.pinned (OpenSpec.ofChange fnNSearchSpec)

/-- ITS FALSE NEIGHBOUR: 'it returns false'. Refute it at one input. -/
def fnNSearchWrong : ChangeSpec := { name := "fnNSearch", fn := fun _ => fun
  | [d1, d2, d3] => { results := [.lit (.bool false)], args := [d1, d2, d3] }
  | _ => none }
def FnNSearchWrongFalsely : Prop := fnNSearchRow.holds Try.pinned (OpenSpec.ofChange fnNSearchWrong)

/-- 'laws.FnNItems': WHATEVER THE INPUT: true; the input reads as it did. -/
def fnNItemsSpec : ChangeSpec := { name := "fnNItems", fn := fun _ => fun
  | [d1, d2] => { results := [.lit (.bool true)], args := [d1, d2] }
  | _ => none }
def fnNItemsRow : OpenClaim := { program := "ytljecmjdmdjldaa", sum := "7af628a2649b8c1874d41f09a9fad692236872f508ae42ba657f7bcdd9a43d5f", func := "pub-windbreak/laws.FnNItems", spec := "fnNItems", unfollowed := true, recurses := true, loops := true, apart := false }
def FnNItemsSaid : Prop := fnNItemsRow.holds Try.pinned (OpenSpec.ofChange fnNItemsSpec)

/-- ITS FALSE NEIGHBOUR: 'it returns false'. Refute it at one input. -/
def fnNItemsWrong : ChangeSpec := { name := "fnNItems", fn := fun _ => fun
  | [d1, d2] => { results := [.lit (.bool false)], args := [d1, d2] }
  | _ => none }
def FnNItemsWrongFalsely : Prop := fnNItemsRow.holds Try.pinned (OpenSpec.ofChange fnNItemsWrong)

/-- 'laws.FnNGet': WHATEVER THE INPUT: true; the input reads as it did. -/
def fnNGetSpec : ChangeSpec := { name := "fnNGet", fn := fun _ => fun
  | [d1, d2, d3] => { results := [.lit (.bool true)], args := [d1, d2, d3] }
  | _ => none }
def fnNGetRow : OpenClaim := { program := "ytljecmjdmdjldaa", sum := "7af628a2649b8c1874d41f09a9fad692236872f508ae42ba657f7bcdd9a43d5f", func := "pub-windbreak/laws.FnNGet", spec := "fnNGet", unfollowed := true, recurses := true, loops := true, apart := false }
def FnNGetSaid : Prop := fnNGetRow.holds Try.pinned (OpenSpec.ofChange fnNGetSpec)

/-- ITS FALSE NEIGHBOUR: 'it returns false'. Refute it at one input. -/
def fnNGetWrong : ChangeSpec := { name := "fnNGet", fn := fun _ => fun
  | [d1, d2, d3] => { results := [.lit (.bool false)], args := [d1, d2, d3] }
  | _ => none }
def FnNGetWrongFalsely : Prop := fnNGetRow.holds Try.pinned (OpenSpec.ofChange fnNGetWrong)

/-- 'laws.FnNLoad': WHATEVER THE INPUT: true; the input reads as it did. -/
def fnNLoadSpec : ChangeSpec := { name := "fnNLoad", fn := fun _ => fun
  | [d1, d2, d3] => { results := [.lit (.bool true)], args := [d1, d2, d3] }
  | _ => none }
def fnNLoadRow : OpenClaim := { program := "ytljecmjdmdjldaa", sum := "7af628a2649b8c1874d41f09a9fad692236872f508ae42ba657f7bcdd9a43d5f", func := "pub-windbreak/laws.FnNLoad", spec := "fnNLoad", unfollowed := true, recurses := true, loops := true, apart := false }
def FnNLoadSaid : Prop := fnNLoadRow.holds Try.pinned (OpenSpec.ofChange fnNLoadSpec)

/-- ITS FALSE NEIGHBOUR: 'it returns false'. Refute it at one input. -/
def fnNLoadWrong : ChangeSpec := { name := "fnNLoad", fn := fun _ => fun
  | [d1, d2, d3] => { results := [.lit (.bool false)], args := [d1, d2, d3] }
  | _ => none }
def FnNLoadWrongFalsely : Prop := fnNLoadRow.holds Try.pinned (OpenSpec.ofChange fnNLoadWrong)

/-- 'laws.FnNRebalance': WHATEVER THE INPUT: true; the input reads as it did. -/
def fnNRebalanceSpec : ChangeSpec := { name := "fnNRebalance", fn := fun _ => fun
  | [d1, d2, d3] => { results := [.lit (.bool true)], args := [d1, d2, d3] }
  | _ => none }
def fnNRebalanceRow : OpenClaim := { program := "ytljecmjdmdjldaa", sum := "7af628a2649b8c1874d41f09a9fad692236872f508ae42ba657f7bcdd9a43d5f", func := "pub-windbreak/laws.FnNRebalance", spec := "fnNRebalance", unfollowed := true, recurses := true, loops := true, apart := false }
def FnNRebalanceSaid : Prop := fnNRebalanceRow.holds Try.pinned (OpenSpec.ofChange fnNRebalanceSpec)

/-- ITS FALSE NEIGHBOUR: 'it returns false'. Refute it at one input. -/
def fnNRebalanceWrong : ChangeSpec := { name := "fnNRebalance", fn := fun _ => fun
  | [d1, d2, d3] => { results := [.lit (.bool false)], args := [d1, d2, d3] }
  | _ => none }
def FnNRebalanceWrongFalsely : Prop := fnNRebalanceRow.holds Try.pinned (OpenSpec.ofChange fnNRebalanceWrong)

/-- 'laws.FnNDeleteHint': WHATEVER THE INPUT: true; the input reads as it did. -/
def fnNDeleteHintSpec : ChangeSpec := { name := "fnNDeleteHint", fn := fun _ => fun
  | [d1, d2, d3, d4] => { results := [.lit (.bool true)], args := [d1, d2, d3, d4] }
  | _ => none }
def fnNDeleteHintRow : OpenClaim := { program := "ytljecmjdmdjldaa", sum := "7af628a2649b8c1874d41f09a9fad692236872f508ae42ba657f7bcdd9a43d5f", func := "pub-windbreak/laws.FnNDeleteHint", spec := "fnNDeleteHint", unfollowed := true, recurses := true, loops := true, apart := false }
def FnNDeleteHintSaid : Prop := fnNDeleteHintRow.holds Try.pinned (OpenSpec.ofChange fnNDeleteHintSpec)

/-- ITS FALSE NEIGHBOUR: 'it returns false'. Refute it at one input. -/
def fnNDeleteHintWrong : ChangeSpec := { name := "fnNDeleteHint", fn := fun _ => fun
  | [d1, d2, d3, d4] => { results := [.lit (.bool false)], args := [d1, d2, d3, d4] }
  | _ => none }
def FnNDeleteHintWrongFalsely : Prop := fnNDeleteHintRow.holds Try.pinned (OpenSpec.ofChange fnNDeleteHintWrong)

/-- 'laws.FnNIter': WHATEVER THE INPUT: true; the input reads as it did. -/
def fnNIterSpec : ChangeSpec := { name := "fnNIter", fn := fun _ => fun
  | [d1, d2, d3] => { results := [.lit (.bool true)], args := [d1, d2, d3] }
  | _ => none }
def fnNIterRow : OpenClaim := { program := "ytljecmjdmdjldaa", sum := "7af628a2649b8c1874d41f09a9fad692236872f508ae42ba657f7bcdd9a43d5f", func := "pub-windbreak/laws.FnNIter", spec := "fnNIter", unfollowed := true, recurses := true, loops := true, apart := false }
def FnNIterSaid : Prop := fnNIterRow.holds Try.pinned (OpenSpec.ofChange fnNIterSpec)

/-- ITS FALSE NEIGHBOUR: 'it returns false'. Refute it at one input. -/
def fnNIterWrong : ChangeSpec := { name := "fnNIter", fn := fun _ => fun
  | [d1, d2, d3] => { results := [.lit (.bool false)], args := [d1, d2, d3] }
  | _ => none }
def FnNIterWrongFalsely : Prop := fnNIterRow.holds Try.pinned (OpenSpec.ofChange fnNIterWrong)

/-- 'laws.FnNDeleteAt': WHATEVER THE INPUT: true; the input reads as it did. -/
def fnNDeleteAtSpec : ChangeSpec := { name := "fnNDeleteAt", fn := fun _ => fun
  | [d1, d2, d3] => { results := [.lit (.bool true)], args := [d1, d2, d3] }
  | _ => none }
def fnNDeleteAtRow : OpenClaim := { program := "ytljecmjdmdjldaa", sum := "7af628a2649b8c1874d41f09a9fad692236872f508ae42ba657f7bcdd9a43d5f", func := "pub-windbreak/laws.FnNDeleteAt", spec := "fnNDeleteAt", unfollowed := true, recurses := true, loops := true, apart := false }
def FnNDeleteAtSaid : Prop := fnNDeleteAtRow.holds Try.pinned (OpenSpec.ofChange fnNDeleteAtSpec)

/-- ITS FALSE NEIGHBOUR: 'it returns false'. Refute it at one input. -/
def fnNDeleteAtWrong : ChangeSpec := { name := "fnNDeleteAt", fn := fun _ => fun
  | [d1, d2, d3] => { results := [.lit (.bool false)], args := [d1, d2, d3] }
  | _ => none }
def FnNDeleteAtWrongFalsely : Prop := fnNDeleteAtRow.holds Try.pinned (OpenSpec.ofChange fnNDeleteAtWrong)

/-- 'laws.FnNPop': WHATEVER THE INPUT: true; the input reads as it did. -/
def fnNPopSpec : ChangeSpec := { name := "fnNPop", fn := fun _ => fun
  | [d1, d2, d3] => { results := [.lit (.bool true)], args := [d1, d2, d3] }
  | _ => none }
def fnNPopRow : OpenClaim := { program := "ytljecmjdmdjldaa", sum := "7af628a2649b8c1874d41f09a9fad692236872f508ae42ba657f7bcdd9a43d5f", func := "pub-windbreak/laws.FnNPop", spec := "fnNPop", unfollowed := true, recurses := true, loops := true, apart := false }
def FnNPopSaid : Prop := fnNPopRow.holds Try.pinned (OpenSpec.ofChange fnNPopSpec)

/-- ITS FALSE NEIGHBOUR: 'it returns false'. Refute it at one input. -/
def fnNPopWrong : ChangeSpec := { name := "fnNPop", fn := fun _ => fun
  | [d1, d2, d3] => { results := [.lit (.bool false)], args := [d1, d2, d3] }
  | _ => none }
def FnNPopWrongFalsely : Prop := fnNPopRow.holds Try.pinned (OpenSpec.ofChange fnNPopWrong)

/-- 'laws.FnNSetExact': WHATEVER THE INPUT: true; the input reads as it did. -/
def fnNSetExactSpec : ChangeSpec := { name := "fnNSetExact", fn := fun _ => fun
  | [d1, d2, d3] => { results := [.lit (.bool true)], args := [d1, d2, d3] }
  | _ => none }
def fnNSetExactRow : OpenClaim := { program := "ytljecmjdmdjldaa", sum := "7af628a2649b8c1874d41f09a9fad692236872f508ae42ba657f7bcdd9a43d5f", func := "pub-windbreak/laws.FnNSetExact", spec := "fnNSetExact", unfollowed := true, recurses := true, loops := true, apart := false }
def FnNSetExactSaid : Prop := fnNSetExactRow.holds Try.pinned (OpenSpec.ofChange fnNSetExactSpec)

/-- ITS FALSE NEIGHBOUR: 'it returns false'. Refute it at one input. -/
def fnNSetExactWrong : ChangeSpec := { name := "fnNSetExact", fn := fun _ => fun
  | [d1, d2, d3] => { results := [.lit (.bool false)], args := [d1, d2, d3] }
  | _ => none }
def FnNSetExactWrongFalsely : Prop := fnNSetExactRow.holds Try.pinned (OpenSpec.ofChange fnNSetExactWrong)

/- THE SECOND FORM. 'bulk': how many values and letters a reading holds, each counted each time it is reached (what is shared counts as often as it is met; a slice's spare places count too). A statement '..UptoSaid' is the law's where the arguments, and the package variables that the reading takes, are together of bulk at most 1048576: NARROWER than '..Said'. Prove '..Said' where nothing that the law and all that it calls make is longer than what came in: it says more and counts as full. Else prove '..UptoSaid'. A law counts once. -/
mutual
def uptoBulk {H : Type} : DataW H → Nat
  | .lit (.string bytes) => bytes.length + 1
  | .lit _ => 1
  | .nil => 1
  | .ptr d => uptoBulk d + 1
  | .slice elems spare => uptoBulkAll elems + uptoBulkAll spare + 1
  | .agg parts => uptoBulkAll parts + 1
  | .iface _ d => uptoBulk d + 1
  | .map entries => uptoBulkEntries entries + 1
  | .held _ => 1
def uptoBulkAll {H : Type} : List (DataW H) → Nat
  | [] => 0
  | d :: r => uptoBulk d + uptoBulkAll r
def uptoBulkEntries {H : Type} : List (Lit × DataW H) → Nat
  | [] => 0
  | x :: r => uptoBulkEntry x + uptoBulkEntries r
def uptoBulkEntry {H : Type} : Lit × DataW H → Nat
  | (.string bytes, d) => bytes.length + uptoBulk d + 1
  | (_, d) => uptoBulk d + 1
 end
def uptoSmall : (H : Type) → List (DataW H) → Bool := fun _ ds => decide (uptoBulkAll ds ≤ 1048576)
def OpenSpec.upto (s : _root_.Go.ChangeSpec) : _root_.Go.OpenSpec := { _root_.Go.OpenSpec.ofChange s with cond := some uptoSmall }

/-- 'laws.FnNSearch', WHERE WHAT IT READS IS OF BULK AT MOST 1048576: true; the input reads as it did. -/
def fnNSearchUptoRow : OpenClaim := { program := "ytljecmjdmdjldaa", sum := "7af628a2649b8c1874d41f09a9fad692236872f508ae42ba657f7bcdd9a43d5f", func := "pub-windbreak/laws.FnNSearch", spec := "fnNSearch", unfollowed := true, recurses := true, apart := false, narrowed := true }
def FnNSearchUptoSaid : Prop := fnNSearchUptoRow.holds Try.pinned (OpenSpec.upto fnNSearchSpec)

/-- 'laws.FnNItems', WHERE WHAT IT READS IS OF BULK AT MOST 1048576: true; the input reads as it did. -/
def fnNItemsUptoRow : OpenClaim := { program := "ytljecmjdmdjldaa", sum := "7af628a2649b8c1874d41f09a9fad692236872f508ae42ba657f7bcdd9a43d5f", func := "pub-windbreak/laws.FnNItems", spec := "fnNItems", unfollowed := true, recurses := true, loops := true, apart := false, narrowed := true }
def FnNItemsUptoSaid : Prop := fnNItemsUptoRow.holds Try.pinned (OpenSpec.upto fnNItemsSpec)

/-- 'laws.FnNGet', WHERE WHAT IT READS IS OF BULK AT MOST 1048576: true; the input reads as it did. -/
def fnNGetUptoRow : OpenClaim := { program := "ytljecmjdmdjldaa", sum := "7af628a2649b8c1874d41f09a9fad692236872f508ae42ba657f7bcdd9a43d5f", func := "pub-windbreak/laws.FnNGet", spec := "fnNGet", unfollowed := true, recurses := true, loops := true, apart := false, narrowed := true }
def FnNGetUptoSaid : Prop := fnNGetUptoRow.holds Try.pinned (OpenSpec.upto fnNGetSpec)

/-- 'laws.FnNLoad', WHERE WHAT IT READS IS OF BULK AT MOST 1048576: true; the input reads as it did. -/
def fnNLoadUptoRow : OpenClaim := { program := "ytljecmjdmdjldaa", sum := "7af628a2649b8c1874d41f09a9fad692236872f508ae42ba657f7bcdd9a43d5f", func := "pub-windbreak/laws.FnNLoad", spec := "fnNLoad", unfollowed := true, recurses := true, loops := true, apart := false, narrowed := true }
def FnNLoadUptoSaid : Prop := fnNLoadUptoRow.holds Try.pinned (OpenSpec.upto fnNLoadSpec)

/-- 'laws.FnNRebalance', WHERE WHAT IT READS IS OF BULK AT MOST 1048576: true; the input reads as it did. -/
def fnNRebalanceUptoRow : OpenClaim := { program := "ytljecmjdmdjldaa", sum := "7af628a2649b8c1874d41f09a9fad692236872f508ae42ba657f7bcdd9a43d5f", func := "pub-windbreak/laws.FnNRebalance", spec := "fnNRebalance", unfollowed := true, recurses := true, loops := true, apart := false, narrowed := true }
def FnNRebalanceUptoSaid : Prop := fnNRebalanceUptoRow.holds Try.pinned (OpenSpec.upto fnNRebalanceSpec)

/-- 'laws.FnNDeleteHint', WHERE WHAT IT READS IS OF BULK AT MOST 1048576: true; the input reads as it did. -/
def fnNDeleteHintUptoRow : OpenClaim := { program := "ytljecmjdmdjldaa", sum := "7af628a2649b8c1874d41f09a9fad692236872f508ae42ba657f7bcdd9a43d5f", func := "pub-windbreak/laws.FnNDeleteHint", spec := "fnNDeleteHint", unfollowed := true, recurses := true, loops := true, apart := false, narrowed := true }
def FnNDeleteHintUptoSaid : Prop := fnNDeleteHintUptoRow.holds Try.pinned (OpenSpec.upto fnNDeleteHintSpec)

/-- 'laws.FnNIter', WHERE WHAT IT READS IS OF BULK AT MOST 1048576: true; the input reads as it did. -/
def fnNIterUptoRow : OpenClaim := { program := "ytljecmjdmdjldaa", sum := "7af628a2649b8c1874d41f09a9fad692236872f508ae42ba657f7bcdd9a43d5f", func := "pub-windbreak/laws.FnNIter", spec := "fnNIter", unfollowed := true, recurses := true, loops := true, apart := false, narrowed := true }
def FnNIterUptoSaid : Prop := fnNIterUptoRow.holds Try.pinned (OpenSpec.upto fnNIterSpec)

/-- 'laws.FnNDeleteAt', WHERE WHAT IT READS IS OF BULK AT MOST 1048576: true; the input reads as it did. -/
def fnNDeleteAtUptoRow : OpenClaim := { program := "ytljecmjdmdjldaa", sum := "7af628a2649b8c1874d41f09a9fad692236872f508ae42ba657f7bcdd9a43d5f", func := "pub-windbreak/laws.FnNDeleteAt", spec := "fnNDeleteAt", unfollowed := true, recurses := true, loops := true, apart := false, narrowed := true }
def FnNDeleteAtUptoSaid : Prop := fnNDeleteAtUptoRow.holds Try.pinned (OpenSpec.upto fnNDeleteAtSpec)

/-- 'laws.FnNPop', WHERE WHAT IT READS IS OF BULK AT MOST 1048576: true; the input reads as it did. -/
def fnNPopUptoRow : OpenClaim := { program := "ytljecmjdmdjldaa", sum := "7af628a2649b8c1874d41f09a9fad692236872f508ae42ba657f7bcdd9a43d5f", func := "pub-windbreak/laws.FnNPop", spec := "fnNPop", unfollowed := true, recurses := true, loops := true, apart := false, narrowed := true }
def FnNPopUptoSaid : Prop := fnNPopUptoRow.holds Try.pinned (OpenSpec.upto fnNPopSpec)

/-- 'laws.FnNSetExact', WHERE WHAT IT READS IS OF BULK AT MOST 1048576: true; the input reads as it did. -/
def fnNSetExactUptoRow : OpenClaim := { program := "ytljecmjdmdjldaa", sum := "7af628a2649b8c1874d41f09a9fad692236872f508ae42ba657f7bcdd9a43d5f", func := "pub-windbreak/laws.FnNSetExact", spec := "fnNSetExact", unfollowed := true, recurses := true, loops := true, apart := false, narrowed := true }
def FnNSetExactUptoSaid : Prop := fnNSetExactUptoRow.holds Try.pinned (OpenSpec.upto fnNSetExactSpec)

end Rows
end Go.Proofs.Ytljecmjdmdjldaa
