/-
  NARROWER THAN 'FOR EVERY INPUT', by the rows' own cells (each row's printed sentence says how): FnNIter: loops · FnNRebalance: loops.
  DERIVED. THE GIVEN ROWS OF THIS SEAT. 4 by the template 'for every input the law returns true; each argument reads behind the call as it read before'; 0 by the template 'total and deterministic' (their statements: YtgnnidefbeoibaaTotals.lean).
  GIVEN WITH THE SEED: the statements are not yours to turn. If you find one false, say at which input.
  Laid BY PROGRAM, IN A SANDBOX (cutbox-rows.mjs): the forced cells as the released guide's own fill.sh prints them over the translation dbbf0644ea39b467… (all of the seat's roots in one cut). By AI agents, Wed Nov 11 2026. No macro, syntax, notation, axiom, sorry.
-/
import Derived.Test.YtgnnidefbeoibaaChecked
import GoSem.Claim
import GoSem.ClaimJoined
import GoSem.ClaimMapViews
import Derived.JoinedTies
import Derived.KernelRfl
namespace Go.Proofs.Ytgnnidefbeoibaa
/- THE CELL 'sum', in the pinned program and in every row, IS THE sha256 OF THE DUMP (.gsa) THAT YtgnnidefbeoibaaProg.lean LOADS. Nothing in Lean hashes anything: it is a label: what it is worth is what the hold of that sum in a sandbox is worth. -/
noncomputable def Try.pinned : Pinned := { name := "ytgnnidefbeoibaa", sum := "dbbf0644ea39b4673e27eac1baf982f13f5d1a745bfafc79eac9e5bb2789aedf", checked := Try.checked }
namespace Rows
def none {H : Type} : Left H := { results := [], args := [] }

/-- 'laws.FnNIter': WHATEVER THE INPUT: true; the input reads as it did. -/
def fnNIterSpec : ChangeSpec := { name := "fnNIter", fn := fun _ => fun
  | [d1, d2, d3] => { results := [.lit (.bool true)], args := [d1, d2, d3] }
  | _ => none }
def fnNIterRow : OpenClaim := { program := "ytgnnidefbeoibaa", sum := "dbbf0644ea39b4673e27eac1baf982f13f5d1a745bfafc79eac9e5bb2789aedf", func := "pub-windbreak/laws.FnNIter", spec := "fnNIter", unfollowed := true, recurses := true, loops := true, apart := false }
def FnNIterSaid : Prop := fnNIterRow.holds Try.pinned (OpenSpec.ofChange fnNIterSpec)

/-- ITS FALSE NEIGHBOUR: 'it returns false'. Refute it at one input. -/
def fnNIterWrong : ChangeSpec := { name := "fnNIter", fn := fun _ => fun
  | [d1, d2, d3] => { results := [.lit (.bool false)], args := [d1, d2, d3] }
  | _ => none }
def FnNIterWrongFalsely : Prop := fnNIterRow.holds Try.pinned (OpenSpec.ofChange fnNIterWrong)

/-- 'laws.FnNRebalance': WHATEVER THE INPUT: true; the input reads as it did. -/
def fnNRebalanceSpec : ChangeSpec := { name := "fnNRebalance", fn := fun _ => fun
  | [d1, d2, d3] => { results := [.lit (.bool true)], args := [d1, d2, d3] }
  | _ => none }
def fnNRebalanceRow : OpenClaim := { program := "ytgnnidefbeoibaa", sum := "dbbf0644ea39b4673e27eac1baf982f13f5d1a745bfafc79eac9e5bb2789aedf", func := "pub-windbreak/laws.FnNRebalance", spec := "fnNRebalance", unfollowed := true, recurses := true, loops := true, apart := false }
def FnNRebalanceSaid : Prop := fnNRebalanceRow.holds Try.pinned (OpenSpec.ofChange fnNRebalanceSpec)

/-- ITS FALSE NEIGHBOUR: 'it returns false'. Refute it at one input. -/
def fnNRebalanceWrong : ChangeSpec := { name := "fnNRebalance", fn := fun _ => fun
  | [d1, d2, d3] => { results := [.lit (.bool false)], args := [d1, d2, d3] }
  | _ => none }
def FnNRebalanceWrongFalsely : Prop := fnNRebalanceRow.holds Try.pinned (OpenSpec.ofChange fnNRebalanceWrong)

/-- 'laws.FnGCursorsApart': WHATEVER THE INPUT: true; the input reads as it did. -/
def fnGCursorsApartSpec : ChangeSpec := { name := "fnGCursorsApart", fn := fun _ => fun
  | [d1, d2, d3, d4] => { results := [.lit (.bool true)], args := [d1, d2, d3, d4] }
  | _ => none }
def fnGCursorsApartRow : OpenClaim := { program := "ytgnnidefbeoibaa", sum := "dbbf0644ea39b4673e27eac1baf982f13f5d1a745bfafc79eac9e5bb2789aedf", func := "pub-windbreak/laws.FnGCursorsApart", spec := "fnGCursorsApart", unfollowed := true, recurses := true, apart := false }
def FnGCursorsApartSaid : Prop := fnGCursorsApartRow.holds Try.pinned (OpenSpec.ofChange fnGCursorsApartSpec)

/-- ITS FALSE NEIGHBOUR: 'it returns false'. Refute it at one input. -/
def fnGCursorsApartWrong : ChangeSpec := { name := "fnGCursorsApart", fn := fun _ => fun
  | [d1, d2, d3, d4] => { results := [.lit (.bool false)], args := [d1, d2, d3, d4] }
  | _ => none }
def FnGCursorsApartWrongFalsely : Prop := fnGCursorsApartRow.holds Try.pinned (OpenSpec.ofChange fnGCursorsApartWrong)

/-- 'laws.FnGMoveCosts': WHATEVER THE INPUT: true; the input reads as it did. -/
def fnGMoveCostsSpec : ChangeSpec := { name := "fnGMoveCosts", fn := fun _ => fun
  | [d1, d2, d3] => { results := [.lit (.bool true)], args := [d1, d2, d3] }
  | _ => none }
def fnGMoveCostsRow : OpenClaim := { program := "ytgnnidefbeoibaa", sum := "dbbf0644ea39b4673e27eac1baf982f13f5d1a745bfafc79eac9e5bb2789aedf", func := "pub-windbreak/laws.FnGMoveCosts", spec := "fnGMoveCosts", unfollowed := true, recurses := true, apart := false }
def FnGMoveCostsSaid : Prop := fnGMoveCostsRow.holds Try.pinned (OpenSpec.ofChange fnGMoveCostsSpec)

/-- ITS FALSE NEIGHBOUR: 'it returns false'. Refute it at one input. -/
def fnGMoveCostsWrong : ChangeSpec := { name := "fnGMoveCosts", fn := fun _ => fun
  | [d1, d2, d3] => { results := [.lit (.bool false)], args := [d1, d2, d3] }
  | _ => none }
def FnGMoveCostsWrongFalsely : Prop := fnGMoveCostsRow.holds Try.pinned (OpenSpec.ofChange fnGMoveCostsWrong)

/- THE SECOND FORM. 'bulk': how many values and letters a reading holds, each counted each time it is reached (what is shared counts as often as it is met; a slice's spare places count too). A statement '..UptoSaid' is the law's where the arguments, and the package variables that the reading takes, are together of bulk at most 1048576: NARROWER than '..Said'. Prove '..Said' where nothing that the law and all that it calls make is longer than what came in: it says more and counts as full. Else prove '..UptoSaid'. A law counts once. -/
mutual
def uptoBulk {H : Type} : DataW H → Nat
  | .lit (.string bytes) => bytes.length + 1
  | .lit _ => 1
  | .nil => 1
  | .ptr d => uptoBulk d + 1
  | .slice elems spare => uptoBulkAll elems + uptoBulkAll spare + 1
  | .agg parts => uptoBulkAll parts + 1
  | .iface _ d => uptoBulk d + 1
  | .map entries => uptoBulkEntries entries + 1
  | .held _ => 1
def uptoBulkAll {H : Type} : List (DataW H) → Nat
  | [] => 0
  | d :: r => uptoBulk d + uptoBulkAll r
def uptoBulkEntries {H : Type} : List (Lit × DataW H) → Nat
  | [] => 0
  | x :: r => uptoBulkEntry x + uptoBulkEntries r
def uptoBulkEntry {H : Type} : Lit × DataW H → Nat
  | (.string bytes, d) => bytes.length + uptoBulk d + 1
  | (_, d) => uptoBulk d + 1
 end
def uptoSmall : (H : Type) → List (DataW H) → Bool := fun _ ds => decide (uptoBulkAll ds ≤ 1048576)
def OpenSpec.upto (s : _root_.Go.ChangeSpec) : _root_.Go.OpenSpec := { _root_.Go.OpenSpec.ofChange s with cond := some uptoSmall }

/-- 'laws.FnNIter', WHERE WHAT IT READS IS OF BULK AT MOST 1048576: true; the input reads as it did. -/
def fnNIterUptoRow : OpenClaim := { program := "ytgnnidefbeoibaa", sum := "dbbf0644ea39b4673e27eac1baf982f13f5d1a745bfafc79eac9e5bb2789aedf", func := "pub-windbreak/laws.FnNIter", spec := "fnNIter", unfollowed := true, recurses := true, loops := true, apart := false, narrowed := true }
def FnNIterUptoSaid : Prop := fnNIterUptoRow.holds Try.pinned (OpenSpec.upto fnNIterSpec)

/-- 'laws.FnNRebalance', WHERE WHAT IT READS IS OF BULK AT MOST 1048576: true; the input reads as it did. -/
def fnNRebalanceUptoRow : OpenClaim := { program := "ytgnnidefbeoibaa", sum := "dbbf0644ea39b4673e27eac1baf982f13f5d1a745bfafc79eac9e5bb2789aedf", func := "pub-windbreak/laws.FnNRebalance", spec := "fnNRebalance", unfollowed := true, recurses := true, loops := true, apart := false, narrowed := true }
def FnNRebalanceUptoSaid : Prop := fnNRebalanceUptoRow.holds Try.pinned (OpenSpec.upto fnNRebalanceSpec)

/-- 'laws.FnGCursorsApart', WHERE WHAT IT READS IS OF BULK AT MOST 1048576: true; the input reads as it did. -/
def fnGCursorsApartUptoRow : OpenClaim := { program := "ytgnnidefbeoibaa", sum := "dbbf0644ea39b4673e27eac1baf982f13f5d1a745bfafc79eac9e5bb2789aedf", func := "pub-windbreak/laws.FnGCursorsApart", spec := "fnGCursorsApart", unfollowed := true, recurses := true, apart := false, narrowed := true }
def FnGCursorsApartUptoSaid : Prop := fnGCursorsApartUptoRow.holds Try.pinned (OpenSpec.upto fnGCursorsApartSpec)

/-- 'laws.FnGMoveCosts', WHERE WHAT IT READS IS OF BULK AT MOST 1048576: true; the input reads as it did. -/
def fnGMoveCostsUptoRow : OpenClaim := { program := "ytgnnidefbeoibaa", sum := "dbbf0644ea39b4673e27eac1baf982f13f5d1a745bfafc79eac9e5bb2789aedf", func := "pub-windbreak/laws.FnGMoveCosts", spec := "fnGMoveCosts", unfollowed := true, recurses := true, apart := false, narrowed := true }
def FnGMoveCostsUptoSaid : Prop := fnGMoveCostsUptoRow.holds Try.pinned (OpenSpec.upto fnGMoveCostsSpec)

end Rows
end Go.Proofs.Ytgnnidefbeoibaa
