/-
  No cell of these rows narrows 'for every input' (looked for: loops, veiled, ifaces, maps, wideKeys, modest, calm, conditions, laid).
  DERIVED. THE GIVEN ROWS OF THIS SEAT. 6 by the template 'for every input the law returns true; each argument reads behind the call as it read before'; 0 by the template 'total and deterministic' (their statements: YtfojeibloilneaaTotals.lean).
  GIVEN WITH THE SEED: the statements are not yours to turn. If you find one false, say at which input.
  Laid BY PROGRAM, IN A SANDBOX (cutbox-rows.mjs): the forced cells as the released guide's own fill.sh prints them over the translation 3b869df923a6bb8b… (all of the seat's roots in one cut). By AI agents, Wed Nov 11 2026. No macro, syntax, notation, axiom, sorry.
-/
import Derived.Test.YtfojeibloilneaaChecked
import GoSem.Claim
import GoSem.ClaimJoined
import GoSem.ClaimMapViews
import Derived.JoinedTies
import Derived.KernelRfl
namespace Go.Proofs.Ytfojeibloilneaa
/- THE CELL 'sum', in the pinned program and in every row, IS THE sha256 OF THE DUMP (.gsa) THAT YtfojeibloilneaaProg.lean LOADS. Nothing in Lean hashes anything: it is a label: what it is worth is what the hold of that sum in a sandbox is worth. -/
noncomputable def Try.pinned : Pinned := { name := "ytfojeibloilneaa", sum := "3b869df923a6bb8bde5f9356cc4cfa6536edd3f65bd4598bfc7d2f78e84ac679", checked := Try.checked }
namespace Rows
def none {H : Type} : Left H := { results := [], args := [] }

/-- 'laws.FnTCopies': WHATEVER THE INPUT: true; the input reads as it did. -/
def fnTCopiesSpec : ChangeSpec := { name := "fnTCopies", fn := fun _ => fun
  | [d1, d2, d3, d4] => { results := [.lit (.bool true)], args := [d1, d2, d3, d4] }
  | _ => none }
def fnTCopiesRow : OpenClaim := { program := "ytfojeibloilneaa", sum := "3b869df923a6bb8bde5f9356cc4cfa6536edd3f65bd4598bfc7d2f78e84ac679", func := "pub-windbreak/laws.FnTCopies", spec := "fnTCopies", unfollowed := true, recurses := true, apart := false }
def FnTCopiesSaid : Prop := fnTCopiesRow.holds Try.pinned (OpenSpec.ofChange fnTCopiesSpec)

/-- ITS FALSE NEIGHBOUR: 'it returns false'. Refute it at one input. -/
def fnTCopiesWrong : ChangeSpec := { name := "fnTCopies", fn := fun _ => fun
  | [d1, d2, d3, d4] => { results := [.lit (.bool false)], args := [d1, d2, d3, d4] }
  | _ => none }
def FnTCopiesWrongFalsely : Prop := fnTCopiesRow.holds Try.pinned (OpenSpec.ofChange fnTCopiesWrong)

/-- 'laws.FnExactTCopy': WHATEVER THE INPUT: true; the input reads as it did. -/
def fnExactTCopySpec : ChangeSpec := { name := "fnExactTCopy", fn := fun _ => fun
  | [d1, d2, d3, d4] => { results := [.lit (.bool true)], args := [d1, d2, d3, d4] }
  | _ => none }
def fnExactTCopyRow : OpenClaim := { program := "ytfojeibloilneaa", sum := "3b869df923a6bb8bde5f9356cc4cfa6536edd3f65bd4598bfc7d2f78e84ac679", func := "pub-windbreak/laws.FnExactTCopy", spec := "fnExactTCopy", unfollowed := true, recurses := true, apart := false }
def FnExactTCopySaid : Prop := fnExactTCopyRow.holds Try.pinned (OpenSpec.ofChange fnExactTCopySpec)

/-- ITS FALSE NEIGHBOUR: 'it returns false'. Refute it at one input. -/
def fnExactTCopyWrong : ChangeSpec := { name := "fnExactTCopy", fn := fun _ => fun
  | [d1, d2, d3, d4] => { results := [.lit (.bool false)], args := [d1, d2, d3, d4] }
  | _ => none }
def FnExactTCopyWrongFalsely : Prop := fnExactTCopyRow.holds Try.pinned (OpenSpec.ofChange fnExactTCopyWrong)

/-- 'laws.FnExactTLoad': WHATEVER THE INPUT: true; the input reads as it did. -/
def fnExactTLoadSpec : ChangeSpec := { name := "fnExactTLoad", fn := fun _ => fun
  | [d] => { results := [.lit (.bool true)], args := [d] }
  | _ => none }
def fnExactTLoadRow : OpenClaim := { program := "ytfojeibloilneaa", sum := "3b869df923a6bb8bde5f9356cc4cfa6536edd3f65bd4598bfc7d2f78e84ac679", func := "pub-windbreak/laws.FnExactTLoad", spec := "fnExactTLoad", unfollowed := true, recurses := true, apart := false }
def FnExactTLoadSaid : Prop := fnExactTLoadRow.holds Try.pinned (OpenSpec.ofChange fnExactTLoadSpec)

/-- ITS FALSE NEIGHBOUR: 'it returns false'. Refute it at one input. -/
def fnExactTLoadWrong : ChangeSpec := { name := "fnExactTLoad", fn := fun _ => fun
  | [d] => { results := [.lit (.bool false)], args := [d] }
  | _ => none }
def FnExactTLoadWrongFalsely : Prop := fnExactTLoadRow.holds Try.pinned (OpenSpec.ofChange fnExactTLoadWrong)

/-- 'laws.FnExactTAscend': WHATEVER THE INPUT: true; the input reads as it did. -/
def fnExactTAscendSpec : ChangeSpec := { name := "fnExactTAscend", fn := fun _ => fun
  | [d1, d2, d3] => { results := [.lit (.bool true)], args := [d1, d2, d3] }
  | _ => none }
def fnExactTAscendRow : OpenClaim := { program := "ytfojeibloilneaa", sum := "3b869df923a6bb8bde5f9356cc4cfa6536edd3f65bd4598bfc7d2f78e84ac679", func := "pub-windbreak/laws.FnExactTAscend", spec := "fnExactTAscend", unfollowed := true, recurses := true, apart := false }
def FnExactTAscendSaid : Prop := fnExactTAscendRow.holds Try.pinned (OpenSpec.ofChange fnExactTAscendSpec)

/-- ITS FALSE NEIGHBOUR: 'it returns false'. Refute it at one input. -/
def fnExactTAscendWrong : ChangeSpec := { name := "fnExactTAscend", fn := fun _ => fun
  | [d1, d2, d3] => { results := [.lit (.bool false)], args := [d1, d2, d3] }
  | _ => none }
def FnExactTAscendWrongFalsely : Prop := fnExactTAscendRow.holds Try.pinned (OpenSpec.ofChange fnExactTAscendWrong)

/-- 'laws.FnTNext': WHATEVER THE INPUT: true; the input reads as it did. -/
def fnTNextSpec : ChangeSpec := { name := "fnTNext", fn := fun _ => fun
  | [d1, d2] => { results := [.lit (.bool true)], args := [d1, d2] }
  | _ => none }
def fnTNextRow : OpenClaim := { program := "ytfojeibloilneaa", sum := "3b869df923a6bb8bde5f9356cc4cfa6536edd3f65bd4598bfc7d2f78e84ac679", func := "pub-windbreak/laws.FnTNext", spec := "fnTNext", unfollowed := true, recurses := true, apart := false }
def FnTNextSaid : Prop := fnTNextRow.holds Try.pinned (OpenSpec.ofChange fnTNextSpec)

/-- ITS FALSE NEIGHBOUR: 'it returns false'. Refute it at one input. -/
def fnTNextWrong : ChangeSpec := { name := "fnTNext", fn := fun _ => fun
  | [d1, d2] => { results := [.lit (.bool false)], args := [d1, d2] }
  | _ => none }
def FnTNextWrongFalsely : Prop := fnTNextRow.holds Try.pinned (OpenSpec.ofChange fnTNextWrong)

/-- 'laws.FnTSplits': WHATEVER THE INPUT: true; the input reads as it did. -/
def fnTSplitsSpec : ChangeSpec := { name := "fnTSplits", fn := fun _ => fun
  | [d1, d2] => { results := [.lit (.bool true)], args := [d1, d2] }
  | _ => none }
def fnTSplitsRow : OpenClaim := { program := "ytfojeibloilneaa", sum := "3b869df923a6bb8bde5f9356cc4cfa6536edd3f65bd4598bfc7d2f78e84ac679", func := "pub-windbreak/laws.FnTSplits", spec := "fnTSplits", unfollowed := true, recurses := true, apart := false }
def FnTSplitsSaid : Prop := fnTSplitsRow.holds Try.pinned (OpenSpec.ofChange fnTSplitsSpec)

/-- ITS FALSE NEIGHBOUR: 'it returns false'. Refute it at one input. -/
def fnTSplitsWrong : ChangeSpec := { name := "fnTSplits", fn := fun _ => fun
  | [d1, d2] => { results := [.lit (.bool false)], args := [d1, d2] }
  | _ => none }
def FnTSplitsWrongFalsely : Prop := fnTSplitsRow.holds Try.pinned (OpenSpec.ofChange fnTSplitsWrong)

/- THE SECOND FORM. 'bulk': how many values and letters a reading holds, each counted each time it is reached (what is shared counts as often as it is met; a slice's spare places count too). A statement '..UptoSaid' is the law's where the arguments, and the package variables that the reading takes, are together of bulk at most 1048576: NARROWER than '..Said'. Prove '..Said' where nothing that the law and all that it calls make is longer than what came in: it says more and counts as full. Else prove '..UptoSaid'. A law counts once. -/
mutual
def uptoBulk {H : Type} : DataW H → Nat
  | .lit (.string bytes) => bytes.length + 1
  | .lit _ => 1
  | .nil => 1
  | .ptr d => uptoBulk d + 1
  | .slice elems spare => uptoBulkAll elems + uptoBulkAll spare + 1
  | .agg parts => uptoBulkAll parts + 1
  | .iface _ d => uptoBulk d + 1
  | .map entries => uptoBulkEntries entries + 1
  | .held _ => 1
def uptoBulkAll {H : Type} : List (DataW H) → Nat
  | [] => 0
  | d :: r => uptoBulk d + uptoBulkAll r
def uptoBulkEntries {H : Type} : List (Lit × DataW H) → Nat
  | [] => 0
  | x :: r => uptoBulkEntry x + uptoBulkEntries r
def uptoBulkEntry {H : Type} : Lit × DataW H → Nat
  | (.string bytes, d) => bytes.length + uptoBulk d + 1
  | (_, d) => uptoBulk d + 1
 end
def uptoSmall : (H : Type) → List (DataW H) → Bool := fun _ ds => decide (uptoBulkAll ds ≤ 1048576)
def OpenSpec.upto (s : _root_.Go.ChangeSpec) : _root_.Go.OpenSpec := { _root_.Go.OpenSpec.ofChange s with cond := some uptoSmall }

/-- 'laws.FnTCopies', WHERE WHAT IT READS IS OF BULK AT MOST 1048576: true; the input reads as it did. -/
def fnTCopiesUptoRow : OpenClaim := { program := "ytfojeibloilneaa", sum := "3b869df923a6bb8bde5f9356cc4cfa6536edd3f65bd4598bfc7d2f78e84ac679", func := "pub-windbreak/laws.FnTCopies", spec := "fnTCopies", unfollowed := true, recurses := true, apart := false, narrowed := true }
def FnTCopiesUptoSaid : Prop := fnTCopiesUptoRow.holds Try.pinned (OpenSpec.upto fnTCopiesSpec)

/-- 'laws.FnExactTCopy', WHERE WHAT IT READS IS OF BULK AT MOST 1048576: true; the input reads as it did. -/
def fnExactTCopyUptoRow : OpenClaim := { program := "ytfojeibloilneaa", sum := "3b869df923a6bb8bde5f9356cc4cfa6536edd3f65bd4598bfc7d2f78e84ac679", func := "pub-windbreak/laws.FnExactTCopy", spec := "fnExactTCopy", unfollowed := true, recurses := true, apart := false, narrowed := true }
def FnExactTCopyUptoSaid : Prop := fnExactTCopyUptoRow.holds Try.pinned (OpenSpec.upto fnExactTCopySpec)

/-- 'laws.FnExactTLoad', WHERE WHAT IT READS IS OF BULK AT MOST 1048576: true; the input reads as it did. -/
def fnExactTLoadUptoRow : OpenClaim := { program := "ytfojeibloilneaa", sum := "3b869df923a6bb8bde5f9356cc4cfa6536edd3f65bd4598bfc7d2f78e84ac679", func := "pub-windbreak/laws.FnExactTLoad", spec := "fnExactTLoad", unfollowed := true, recurses := true, apart := false, narrowed := true }
def FnExactTLoadUptoSaid : Prop := fnExactTLoadUptoRow.holds Try.pinned (OpenSpec.upto fnExactTLoadSpec)

/-- 'laws.FnExactTAscend', WHERE WHAT IT READS IS OF BULK AT MOST 1048576: true; the input reads as it did. -/
def fnExactTAscendUptoRow : OpenClaim := { program := "ytfojeibloilneaa", sum := "3b869df923a6bb8bde5f9356cc4cfa6536edd3f65bd4598bfc7d2f78e84ac679", func := "pub-windbreak/laws.FnExactTAscend", spec := "fnExactTAscend", unfollowed := true, recurses := true, apart := false, narrowed := true }
def FnExactTAscendUptoSaid : Prop := fnExactTAscendUptoRow.holds Try.pinned (OpenSpec.upto fnExactTAscendSpec)

/-- 'laws.FnTNext', WHERE WHAT IT READS IS OF BULK AT MOST 1048576: true; the input reads as it did. -/
def fnTNextUptoRow : OpenClaim := { program := "ytfojeibloilneaa", sum := "3b869df923a6bb8bde5f9356cc4cfa6536edd3f65bd4598bfc7d2f78e84ac679", func := "pub-windbreak/laws.FnTNext", spec := "fnTNext", unfollowed := true, recurses := true, apart := false, narrowed := true }
def FnTNextUptoSaid : Prop := fnTNextUptoRow.holds Try.pinned (OpenSpec.upto fnTNextSpec)

/-- 'laws.FnTSplits', WHERE WHAT IT READS IS OF BULK AT MOST 1048576: true; the input reads as it did. -/
def fnTSplitsUptoRow : OpenClaim := { program := "ytfojeibloilneaa", sum := "3b869df923a6bb8bde5f9356cc4cfa6536edd3f65bd4598bfc7d2f78e84ac679", func := "pub-windbreak/laws.FnTSplits", spec := "fnTSplits", unfollowed := true, recurses := true, apart := false, narrowed := true }
def FnTSplitsUptoSaid : Prop := fnTSplitsUptoRow.holds Try.pinned (OpenSpec.upto fnTSplitsSpec)

end Rows
end Go.Proofs.Ytfojeibloilneaa
