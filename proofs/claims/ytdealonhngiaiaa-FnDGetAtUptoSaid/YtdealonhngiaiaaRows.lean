/-
  NARROWER THAN 'FOR EVERY INPUT', by the rows' own cells (each row's printed sentence says how): FnDGetAt: loops · FnDSetExact: loops · FnDLoad: loops · FnDDelete: loops.
  DERIVED. THE GIVEN ROWS OF THIS SEAT. 5 by the template 'for every input the law returns true; each argument reads behind the call as it read before'; 0 by the template 'total and deterministic' (their statements: YtdealonhngiaiaaTotals.lean).
  GIVEN WITH THE SEED: the statements are not yours to turn. If you find one false, say at which input.
  Laid BY PROGRAM, IN A SANDBOX (cutbox-rows.mjs): the forced cells as the released guide's own fill.sh prints them over the translation e2a5c1456716c879… (all of the seat's roots in one cut). By AI agents, Wed Nov 11 2026. No macro, syntax, notation, axiom, sorry.
-/
import Derived.Test.YtdealonhngiaiaaChecked
import GoSem.Claim
import GoSem.ClaimJoined
import GoSem.ClaimMapViews
import Derived.JoinedTies
import Derived.KernelRfl
namespace Go.Proofs.Ytdealonhngiaiaa
/- THE CELL 'sum', in the pinned program and in every row, IS THE sha256 OF THE DUMP (.gsa) THAT YtdealonhngiaiaaProg.lean LOADS. Nothing in Lean hashes anything: it is a label: what it is worth is what the hold of that sum in a sandbox is worth. -/
noncomputable def Try.pinned : Pinned := { name := "ytdealonhngiaiaa", sum := "e2a5c1456716c87973970143ae937af29f896d3ca648961a6d130148de83feea", checked := Try.checked }
namespace Rows
def none {H : Type} : Left H := { results := [], args := [] }

/-- 'laws.FnDSearch': WHATEVER THE INPUT: true; the input reads as it did. -/
def fnDSearchSpec : ChangeSpec := { name := "fnDSearch", fn := fun _ => fun
  | [d1, d2, d3] => { results := [.lit (.bool true)], args := [d1, d2, d3] }
  | _ => none }
def fnDSearchRow : OpenClaim := { program := "ytdealonhngiaiaa", sum := "e2a5c1456716c87973970143ae937af29f896d3ca648961a6d130148de83feea", func := "pub-windbreak/laws.FnDSearch", spec := "fnDSearch", unfollowed := true, recurses := true, apart := false }
def FnDSearchSaid : Prop := fnDSearchRow.holds Try.pinned (OpenSpec.ofChange fnDSearchSpec)

/-- ITS FALSE NEIGHBOUR: 'it returns false'. Refute it at one input. -/
def fnDSearchWrong : ChangeSpec := { name := "fnDSearch", fn := fun _ => fun
  | [d1, d2, d3] => { results := [.lit (.bool false)], args := [d1, d2, d3] }
  | _ => none }
def FnDSearchWrongFalsely : Prop := fnDSearchRow.holds Try.pinned (OpenSpec.ofChange fnDSearchWrong)

/-- 'laws.FnDGetAt': WHATEVER THE INPUT: true; the input reads as it did. -/
def fnDGetAtSpec : ChangeSpec := { name := "fnDGetAt", fn := fun _ => fun
  | [d1, d2, d3] => { results := [.lit (.bool true)], args := [d1, d2, d3] }
  | _ => none }
def fnDGetAtRow : OpenClaim := { program := "ytdealonhngiaiaa", sum := "e2a5c1456716c87973970143ae937af29f896d3ca648961a6d130148de83feea", func := "pub-windbreak/laws.FnDGetAt", spec := "fnDGetAt", unfollowed := true, recurses := true, loops := true, apart := false }
def FnDGetAtSaid : Prop := fnDGetAtRow.holds Try.pinned (OpenSpec.ofChange fnDGetAtSpec)

/-- ITS FALSE NEIGHBOUR: 'it returns false'. Refute it at one input. -/
def fnDGetAtWrong : ChangeSpec := { name := "fnDGetAt", fn := fun _ => fun
  | [d1, d2, d3] => { results := [.lit (.bool false)], args := [d1, d2, d3] }
  | _ => none }
def FnDGetAtWrongFalsely : Prop := fnDGetAtRow.holds Try.pinned (OpenSpec.ofChange fnDGetAtWrong)

/-- 'laws.FnDSetExact': WHATEVER THE INPUT: true; the input reads as it did. -/
def fnDSetExactSpec : ChangeSpec := { name := "fnDSetExact", fn := fun _ => fun
  | [d1, d2, d3] => { results := [.lit (.bool true)], args := [d1, d2, d3] }
  | _ => none }
def fnDSetExactRow : OpenClaim := { program := "ytdealonhngiaiaa", sum := "e2a5c1456716c87973970143ae937af29f896d3ca648961a6d130148de83feea", func := "pub-windbreak/laws.FnDSetExact", spec := "fnDSetExact", unfollowed := true, recurses := true, loops := true, apart := false }
def FnDSetExactSaid : Prop := fnDSetExactRow.holds Try.pinned (OpenSpec.ofChange fnDSetExactSpec)

/-- ITS FALSE NEIGHBOUR: 'it returns false'. Refute it at one input. -/
def fnDSetExactWrong : ChangeSpec := { name := "fnDSetExact", fn := fun _ => fun
  | [d1, d2, d3] => { results := [.lit (.bool false)], args := [d1, d2, d3] }
  | _ => none }
def FnDSetExactWrongFalsely : Prop := fnDSetExactRow.holds Try.pinned (OpenSpec.ofChange fnDSetExactWrong)

/-- 'laws.FnDLoad': WHATEVER THE INPUT: true; the input reads as it did. -/
def fnDLoadSpec : ChangeSpec := { name := "fnDLoad", fn := fun _ => fun
  | [d1, d2, d3] => { results := [.lit (.bool true)], args := [d1, d2, d3] }
  | _ => none }
def fnDLoadRow : OpenClaim := { program := "ytdealonhngiaiaa", sum := "e2a5c1456716c87973970143ae937af29f896d3ca648961a6d130148de83feea", func := "pub-windbreak/laws.FnDLoad", spec := "fnDLoad", unfollowed := true, recurses := true, loops := true, apart := false }
def FnDLoadSaid : Prop := fnDLoadRow.holds Try.pinned (OpenSpec.ofChange fnDLoadSpec)

/-- ITS FALSE NEIGHBOUR: 'it returns false'. Refute it at one input. -/
def fnDLoadWrong : ChangeSpec := { name := "fnDLoad", fn := fun _ => fun
  | [d1, d2, d3] => { results := [.lit (.bool false)], args := [d1, d2, d3] }
  | _ => none }
def FnDLoadWrongFalsely : Prop := fnDLoadRow.holds Try.pinned (OpenSpec.ofChange fnDLoadWrong)

/-- 'laws.FnDDelete': WHATEVER THE INPUT: true; the input reads as it did. -/
def fnDDeleteSpec : ChangeSpec := { name := "fnDDelete", fn := fun _ => fun
  | [d1, d2, d3] => { results := [.lit (.bool true)], args := [d1, d2, d3] }
  | _ => none }
def fnDDeleteRow : OpenClaim := { program := "ytdealonhngiaiaa", sum := "e2a5c1456716c87973970143ae937af29f896d3ca648961a6d130148de83feea", func := "pub-windbreak/laws.FnDDelete", spec := "fnDDelete", unfollowed := true, recurses := true, loops := true, apart := false }
def FnDDeleteSaid : Prop := fnDDeleteRow.holds Try.pinned (OpenSpec.ofChange fnDDeleteSpec)

/-- ITS FALSE NEIGHBOUR: 'it returns false'. Refute it at one input. -/
def fnDDeleteWrong : ChangeSpec := { name := "fnDDelete", fn := fun _ => fun
  | [d1, d2, d3] => { results := [.lit (.bool false)], args := [d1, d2, d3] }
  | _ => none }
def FnDDeleteWrongFalsely : Prop := fnDDeleteRow.holds Try.pinned (OpenSpec.ofChange fnDDeleteWrong)

/- THE SECOND FORM. 'bulk': how many values and letters a reading holds, each counted each time it is reached (what is shared counts as often as it is met; a slice's spare places count too). A statement '..UptoSaid' is the law's where the arguments, and the package variables that the reading takes, are together of bulk at most 1048576: NARROWER than '..Said'. Prove '..Said' where nothing that the law and all that it calls make is longer than what came in: it says more and counts as full. Else prove '..UptoSaid'. A law counts once. -/
mutual
def uptoBulk {H : Type} : DataW H → Nat
  | .lit (.string bytes) => bytes.length + 1
  | .lit _ => 1
  | .nil => 1
  | .ptr d => uptoBulk d + 1
  | .slice elems spare => uptoBulkAll elems + uptoBulkAll spare + 1
  | .agg parts => uptoBulkAll parts + 1
  | .iface _ d => uptoBulk d + 1
  | .map entries => uptoBulkEntries entries + 1
  | .held _ => 1
def uptoBulkAll {H : Type} : List (DataW H) → Nat
  | [] => 0
  | d :: r => uptoBulk d + uptoBulkAll r
def uptoBulkEntries {H : Type} : List (Lit × DataW H) → Nat
  | [] => 0
  | x :: r => uptoBulkEntry x + uptoBulkEntries r
def uptoBulkEntry {H : Type} : Lit × DataW H → Nat
  | (.string bytes, d) => bytes.length + uptoBulk d + 1
  | (_, d) => uptoBulk d + 1
 end
def uptoSmall : (H : Type) → List (DataW H) → Bool := fun _ ds => decide (uptoBulkAll ds ≤ 1048576)
def OpenSpec.upto (s : _root_.Go.ChangeSpec) : _root_.Go.OpenSpec := { _root_.Go.OpenSpec.ofChange s with cond := some uptoSmall }

/-- 'laws.FnDSearch', WHERE WHAT IT READS IS OF BULK AT MOST 1048576: true; the input reads as it did. -/
def fnDSearchUptoRow : OpenClaim := { program := "ytdealonhngiaiaa", sum := "e2a5c1456716c87973970143ae937af29f896d3ca648961a6d130148de83feea", func := "pub-windbreak/laws.FnDSearch", spec := "fnDSearch", unfollowed := true, recurses := true, apart := false, narrowed := true }
def FnDSearchUptoSaid : Prop := fnDSearchUptoRow.holds Try.pinned (OpenSpec.upto fnDSearchSpec)

/-- 'laws.FnDGetAt', WHERE WHAT IT READS IS OF BULK AT MOST 1048576: true; the input reads as it did. -/
def fnDGetAtUptoRow : OpenClaim := { program := "ytdealonhngiaiaa", sum := "e2a5c1456716c87973970143ae937af29f896d3ca648961a6d130148de83feea", func := "pub-windbreak/laws.FnDGetAt", spec := "fnDGetAt", unfollowed := true, recurses := true, loops := true, apart := false, narrowed := true }
def FnDGetAtUptoSaid : Prop := fnDGetAtUptoRow.holds Try.pinned (OpenSpec.upto fnDGetAtSpec)

/-- 'laws.FnDSetExact', WHERE WHAT IT READS IS OF BULK AT MOST 1048576: true; the input reads as it did. -/
def fnDSetExactUptoRow : OpenClaim := { program := "ytdealonhngiaiaa", sum := "e2a5c1456716c87973970143ae937af29f896d3ca648961a6d130148de83feea", func := "pub-windbreak/laws.FnDSetExact", spec := "fnDSetExact", unfollowed := true, recurses := true, loops := true, apart := false, narrowed := true }
def FnDSetExactUptoSaid : Prop := fnDSetExactUptoRow.holds Try.pinned (OpenSpec.upto fnDSetExactSpec)

/-- 'laws.FnDLoad', WHERE WHAT IT READS IS OF BULK AT MOST 1048576: true; the input reads as it did. -/
def fnDLoadUptoRow : OpenClaim := { program := "ytdealonhngiaiaa", sum := "e2a5c1456716c87973970143ae937af29f896d3ca648961a6d130148de83feea", func := "pub-windbreak/laws.FnDLoad", spec := "fnDLoad", unfollowed := true, recurses := true, loops := true, apart := false, narrowed := true }
def FnDLoadUptoSaid : Prop := fnDLoadUptoRow.holds Try.pinned (OpenSpec.upto fnDLoadSpec)

/-- 'laws.FnDDelete', WHERE WHAT IT READS IS OF BULK AT MOST 1048576: true; the input reads as it did. -/
def fnDDeleteUptoRow : OpenClaim := { program := "ytdealonhngiaiaa", sum := "e2a5c1456716c87973970143ae937af29f896d3ca648961a6d130148de83feea", func := "pub-windbreak/laws.FnDDelete", spec := "fnDDelete", unfollowed := true, recurses := true, loops := true, apart := false, narrowed := true }
def FnDDeleteUptoSaid : Prop := fnDDeleteUptoRow.holds Try.pinned (OpenSpec.upto fnDDeleteSpec)

end Rows
end Go.Proofs.Ytdealonhngiaiaa
