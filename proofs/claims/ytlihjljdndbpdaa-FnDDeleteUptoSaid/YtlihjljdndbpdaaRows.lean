/-
  NARROWER THAN 'FOR EVERY INPUT', by the rows' own cells (each row's printed sentence says how): FnDSetExact: loops · FnDLoad: loops · FnDDelete: loops.
  DERIVED. THE GIVEN ROWS OF THIS SEAT. 9 by the template 'for every input the law returns true; each argument reads behind the call as it read before'; 0 by the template 'total and deterministic' (their statements: YtlihjljdndbpdaaTotals.lean).
  GIVEN WITH THE SEED: the statements are not yours to turn. If you find one false, say at which input.
  Laid BY PROGRAM, IN A SANDBOX (cutbox-rows.mjs): the forced cells as the released guide's own fill.sh prints them over the translation c3ac5f86bf77d90e… (all of the seat's roots in one cut). By AI agents, Wed Nov 11 2026. No macro, syntax, notation, axiom, sorry.
-/
import Derived.Test.YtlihjljdndbpdaaChecked
import GoSem.Claim
import GoSem.ClaimJoined
import GoSem.ClaimMapViews
import Derived.JoinedTies
import Derived.KernelRfl
namespace Go.Proofs.Ytlihjljdndbpdaa
/- THE CELL 'sum', in the pinned program and in every row, IS THE sha256 OF THE DUMP (.gsa) THAT YtlihjljdndbpdaaProg.lean LOADS. Nothing in Lean hashes anything: it is a label: what it is worth is what the hold of that sum in a sandbox is worth. -/
noncomputable def Try.pinned : Pinned := { name := "ytlihjljdndbpdaa", sum := "c3ac5f86bf77d90e38d9a6b339e1865dc49477e41c1af7e30e836c51abbfe302", checked := Try.checked }
namespace Rows
def none {H : Type} : Left H := { results := [], args := [] }

/-- 'laws.FnDSetExact': WHATEVER THE INPUT: true; the input reads as it did. -/
def fnDSetExactSpec : ChangeSpec := { name := "fnDSetExact", fn := fun _ => fun
  | [d1, d2, d3] => { results := [.lit (.bool true)], args := [d1, d2, d3] }
  | _ => none }
def fnDSetExactRow : OpenClaim := { program := "ytlihjljdndbpdaa", sum := "c3ac5f86bf77d90e38d9a6b339e1865dc49477e41c1af7e30e836c51abbfe302", func := "pub-windbreak/laws.FnDSetExact", spec := "fnDSetExact", unfollowed := true, recurses := true, loops := true, apart := false }
def FnDSetExactSaid : Prop := fnDSetExactRow.holds Try.pinned (OpenSpec.ofChange fnDSetExactSpec)

/-- ITS FALSE NEIGHBOUR: 'it returns false'. Refute it at one input. -/
def fnDSetExactWrong : ChangeSpec := { name := "fnDSetExact", fn := fun _ => fun
  | [d1, d2, d3] => { results := [.lit (.bool false)], args := [d1, d2, d3] }
  | _ => none }
def FnDSetExactWrongFalsely : Prop := fnDSetExactRow.holds Try.pinned (OpenSpec.ofChange fnDSetExactWrong)

/-- 'laws.FnDLoad': WHATEVER THE INPUT: true; the input reads as it did. -/
def fnDLoadSpec : ChangeSpec := { name := "fnDLoad", fn := fun _ => fun
  | [d1, d2, d3] => { results := [.lit (.bool true)], args := [d1, d2, d3] }
  | _ => none }
def fnDLoadRow : OpenClaim := { program := "ytlihjljdndbpdaa", sum := "c3ac5f86bf77d90e38d9a6b339e1865dc49477e41c1af7e30e836c51abbfe302", func := "pub-windbreak/laws.FnDLoad", spec := "fnDLoad", unfollowed := true, recurses := true, loops := true, apart := false }
def FnDLoadSaid : Prop := fnDLoadRow.holds Try.pinned (OpenSpec.ofChange fnDLoadSpec)

/-- ITS FALSE NEIGHBOUR: 'it returns false'. Refute it at one input. -/
def fnDLoadWrong : ChangeSpec := { name := "fnDLoad", fn := fun _ => fun
  | [d1, d2, d3] => { results := [.lit (.bool false)], args := [d1, d2, d3] }
  | _ => none }
def FnDLoadWrongFalsely : Prop := fnDLoadRow.holds Try.pinned (OpenSpec.ofChange fnDLoadWrong)

/-- 'laws.FnDDelete': WHATEVER THE INPUT: true; the input reads as it did. -/
def fnDDeleteSpec : ChangeSpec := { name := "fnDDelete", fn := fun _ => fun
  | [d1, d2, d3] => { results := [.lit (.bool true)], args := [d1, d2, d3] }
  | _ => none }
def fnDDeleteRow : OpenClaim := { program := "ytlihjljdndbpdaa", sum := "c3ac5f86bf77d90e38d9a6b339e1865dc49477e41c1af7e30e836c51abbfe302", func := "pub-windbreak/laws.FnDDelete", spec := "fnDDelete", unfollowed := true, recurses := true, loops := true, apart := false }
def FnDDeleteSaid : Prop := fnDDeleteRow.holds Try.pinned (OpenSpec.ofChange fnDDeleteSpec)

/-- ITS FALSE NEIGHBOUR: 'it returns false'. Refute it at one input. -/
def fnDDeleteWrong : ChangeSpec := { name := "fnDDelete", fn := fun _ => fun
  | [d1, d2, d3] => { results := [.lit (.bool false)], args := [d1, d2, d3] }
  | _ => none }
def FnDDeleteWrongFalsely : Prop := fnDDeleteRow.holds Try.pinned (OpenSpec.ofChange fnDDeleteWrong)

/-- 'laws.FnMRing': WHATEVER THE INPUT: true; the input reads as it did. -/
def fnMRingSpec : ChangeSpec := { name := "fnMRing", fn := fun _ => fun
  | [d1, d2, d3, d4] => { results := [.lit (.bool true)], args := [d1, d2, d3, d4] }
  | _ => none }
def fnMRingRow : OpenClaim := { program := "ytlihjljdndbpdaa", sum := "c3ac5f86bf77d90e38d9a6b339e1865dc49477e41c1af7e30e836c51abbfe302", func := "pub-windbreak/laws.FnMRing", spec := "fnMRing", unfollowed := true, recurses := true, apart := false }
def FnMRingSaid : Prop := fnMRingRow.holds Try.pinned (OpenSpec.ofChange fnMRingSpec)

/-- ITS FALSE NEIGHBOUR: 'it returns false'. Refute it at one input. -/
def fnMRingWrong : ChangeSpec := { name := "fnMRing", fn := fun _ => fun
  | [d1, d2, d3, d4] => { results := [.lit (.bool false)], args := [d1, d2, d3, d4] }
  | _ => none }
def FnMRingWrongFalsely : Prop := fnMRingRow.holds Try.pinned (OpenSpec.ofChange fnMRingWrong)

/-- 'laws.FnMMeeting': WHATEVER THE INPUT: true; the input reads as it did. -/
def fnMMeetingSpec : ChangeSpec := { name := "fnMMeeting", fn := fun _ => fun
  | [d1, d2, d3, d4] => { results := [.lit (.bool true)], args := [d1, d2, d3, d4] }
  | _ => none }
def fnMMeetingRow : OpenClaim := { program := "ytlihjljdndbpdaa", sum := "c3ac5f86bf77d90e38d9a6b339e1865dc49477e41c1af7e30e836c51abbfe302", func := "pub-windbreak/laws.FnMMeeting", spec := "fnMMeeting", unfollowed := true, recurses := true, apart := false }
def FnMMeetingSaid : Prop := fnMMeetingRow.holds Try.pinned (OpenSpec.ofChange fnMMeetingSpec)

/-- ITS FALSE NEIGHBOUR: 'it returns false'. Refute it at one input. -/
def fnMMeetingWrong : ChangeSpec := { name := "fnMMeeting", fn := fun _ => fun
  | [d1, d2, d3, d4] => { results := [.lit (.bool false)], args := [d1, d2, d3, d4] }
  | _ => none }
def FnMMeetingWrongFalsely : Prop := fnMMeetingRow.holds Try.pinned (OpenSpec.ofChange fnMMeetingWrong)

/-- 'laws.FnThreeWay': WHATEVER THE INPUT: true; the input reads as it did. -/
def fnThreeWaySpec : ChangeSpec := { name := "fnThreeWay", fn := fun _ => fun
  | [d1, d2, d3, d4] => { results := [.lit (.bool true)], args := [d1, d2, d3, d4] }
  | _ => none }
def fnThreeWayRow : OpenClaim := { program := "ytlihjljdndbpdaa", sum := "c3ac5f86bf77d90e38d9a6b339e1865dc49477e41c1af7e30e836c51abbfe302", func := "pub-windbreak/laws.FnThreeWay", spec := "fnThreeWay", unfollowed := true, recurses := true, apart := false }
def FnThreeWaySaid : Prop := fnThreeWayRow.holds Try.pinned (OpenSpec.ofChange fnThreeWaySpec)

/-- ITS FALSE NEIGHBOUR: 'it returns false'. Refute it at one input. -/
def fnThreeWayWrong : ChangeSpec := { name := "fnThreeWay", fn := fun _ => fun
  | [d1, d2, d3, d4] => { results := [.lit (.bool false)], args := [d1, d2, d3, d4] }
  | _ => none }
def FnThreeWayWrongFalsely : Prop := fnThreeWayRow.holds Try.pinned (OpenSpec.ofChange fnThreeWayWrong)

/-- 'laws.FnCache': WHATEVER THE INPUT: true; the input reads as it did. -/
def fnCacheSpec : ChangeSpec := { name := "fnCache", fn := fun _ => fun
  | [d1, d2, d3] => { results := [.lit (.bool true)], args := [d1, d2, d3] }
  | _ => none }
def fnCacheRow : OpenClaim := { program := "ytlihjljdndbpdaa", sum := "c3ac5f86bf77d90e38d9a6b339e1865dc49477e41c1af7e30e836c51abbfe302", func := "pub-windbreak/laws.FnCache", spec := "fnCache", unfollowed := true, recurses := true, apart := false }
def FnCacheSaid : Prop := fnCacheRow.holds Try.pinned (OpenSpec.ofChange fnCacheSpec)

/-- ITS FALSE NEIGHBOUR: 'it returns false'. Refute it at one input. -/
def fnCacheWrong : ChangeSpec := { name := "fnCache", fn := fun _ => fun
  | [d1, d2, d3] => { results := [.lit (.bool false)], args := [d1, d2, d3] }
  | _ => none }
def FnCacheWrongFalsely : Prop := fnCacheRow.holds Try.pinned (OpenSpec.ofChange fnCacheWrong)

/-- 'laws.FnMRising': WHATEVER THE INPUT: true; the input reads as it did. -/
def fnMRisingSpec : ChangeSpec := { name := "fnMRising", fn := fun _ => fun
  | [d1, d2, d3] => { results := [.lit (.bool true)], args := [d1, d2, d3] }
  | _ => none }
def fnMRisingRow : OpenClaim := { program := "ytlihjljdndbpdaa", sum := "c3ac5f86bf77d90e38d9a6b339e1865dc49477e41c1af7e30e836c51abbfe302", func := "pub-windbreak/laws.FnMRising", spec := "fnMRising", unfollowed := true, recurses := true, apart := false }
def FnMRisingSaid : Prop := fnMRisingRow.holds Try.pinned (OpenSpec.ofChange fnMRisingSpec)

/-- ITS FALSE NEIGHBOUR: 'it returns false'. Refute it at one input. -/
def fnMRisingWrong : ChangeSpec := { name := "fnMRising", fn := fun _ => fun
  | [d1, d2, d3] => { results := [.lit (.bool false)], args := [d1, d2, d3] }
  | _ => none }
def FnMRisingWrongFalsely : Prop := fnMRisingRow.holds Try.pinned (OpenSpec.ofChange fnMRisingWrong)

/-- 'laws.FnMMaximal': WHATEVER THE INPUT: true; the input reads as it did. -/
def fnMMaximalSpec : ChangeSpec := { name := "fnMMaximal", fn := fun _ => fun
  | [d1, d2] => { results := [.lit (.bool true)], args := [d1, d2] }
  | _ => none }
def fnMMaximalRow : OpenClaim := { program := "ytlihjljdndbpdaa", sum := "c3ac5f86bf77d90e38d9a6b339e1865dc49477e41c1af7e30e836c51abbfe302", func := "pub-windbreak/laws.FnMMaximal", spec := "fnMMaximal", unfollowed := true, recurses := true, apart := false }
def FnMMaximalSaid : Prop := fnMMaximalRow.holds Try.pinned (OpenSpec.ofChange fnMMaximalSpec)

/-- ITS FALSE NEIGHBOUR: 'it returns false'. Refute it at one input. -/
def fnMMaximalWrong : ChangeSpec := { name := "fnMMaximal", fn := fun _ => fun
  | [d1, d2] => { results := [.lit (.bool false)], args := [d1, d2] }
  | _ => none }
def FnMMaximalWrongFalsely : Prop := fnMMaximalRow.holds Try.pinned (OpenSpec.ofChange fnMMaximalWrong)

/- THE SECOND FORM. 'bulk': how many values and letters a reading holds, each counted each time it is reached (what is shared counts as often as it is met; a slice's spare places count too). A statement '..UptoSaid' is the law's where the arguments, and the package variables that the reading takes, are together of bulk at most 1048576: NARROWER than '..Said'. Prove '..Said' where nothing that the law and all that it calls make is longer than what came in: it says more and counts as full. Else prove '..UptoSaid'. A law counts once. -/
mutual
def uptoBulk {H : Type} : DataW H → Nat
  | .lit (.string bytes) => bytes.length + 1
  | .lit _ => 1
  | .nil => 1
  | .ptr d => uptoBulk d + 1
  | .slice elems spare => uptoBulkAll elems + uptoBulkAll spare + 1
  | .agg parts => uptoBulkAll parts + 1
  | .iface _ d => uptoBulk d + 1
  | .map entries => uptoBulkEntries entries + 1
  | .held _ => 1
def uptoBulkAll {H : Type} : List (DataW H) → Nat
  | [] => 0
  | d :: r => uptoBulk d + uptoBulkAll r
def uptoBulkEntries {H : Type} : List (Lit × DataW H) → Nat
  | [] => 0
  | x :: r => uptoBulkEntry x + uptoBulkEntries r
def uptoBulkEntry {H : Type} : Lit × DataW H → Nat
  | (.string bytes, d) => bytes.length + uptoBulk d + 1
  | (_, d) => uptoBulk d + 1
 end
def uptoSmall : (H : Type) → List (DataW H) → Bool := fun _ ds => decide (uptoBulkAll ds ≤ 1048576)
def OpenSpec.upto (s : _root_.Go.ChangeSpec) : _root_.Go.OpenSpec := { _root_.Go.OpenSpec.ofChange s with cond := some uptoSmall }

/-- 'laws.FnDSetExact', WHERE WHAT IT READS IS OF BULK AT MOST 1048576: true; the input reads as it did. -/
def fnDSetExactUptoRow : OpenClaim := { program := "ytlihjljdndbpdaa", sum := "c3ac5f86bf77d90e38d9a6b339e1865dc49477e41c1af7e30e836c51abbfe302", func := "pub-windbreak/laws.FnDSetExact", spec := "fnDSetExact", unfollowed := true, recurses := true, loops := true, apart := false, narrowed := true }
def FnDSetExactUptoSaid : Prop := fnDSetExactUptoRow.holds Try.pinned (OpenSpec.upto fnDSetExactSpec)

/-- 'laws.FnDLoad', WHERE WHAT IT READS IS OF BULK AT MOST 1048576: true; the input reads as it did. -/
def fnDLoadUptoRow : OpenClaim := { program := "ytlihjljdndbpdaa", sum := "c3ac5f86bf77d90e38d9a6b339e1865dc49477e41c1af7e30e836c51abbfe302", func := "pub-windbreak/laws.FnDLoad", spec := "fnDLoad", unfollowed := true, recurses := true, loops := true, apart := false, narrowed := true }
def FnDLoadUptoSaid : Prop := fnDLoadUptoRow.holds Try.pinned (OpenSpec.upto fnDLoadSpec)

/-- 'laws.FnDDelete', WHERE WHAT IT READS IS OF BULK AT MOST 1048576: true; the input reads as it did. -/
def fnDDeleteUptoRow : OpenClaim := { program := "ytlihjljdndbpdaa", sum := "c3ac5f86bf77d90e38d9a6b339e1865dc49477e41c1af7e30e836c51abbfe302", func := "pub-windbreak/laws.FnDDelete", spec := "fnDDelete", unfollowed := true, recurses := true, loops := true, apart := false, narrowed := true }
def FnDDeleteUptoSaid : Prop := fnDDeleteUptoRow.holds Try.pinned (OpenSpec.upto fnDDeleteSpec)

/-- 'laws.FnMRing', WHERE WHAT IT READS IS OF BULK AT MOST 1048576: true; the input reads as it did. -/
def fnMRingUptoRow : OpenClaim := { program := "ytlihjljdndbpdaa", sum := "c3ac5f86bf77d90e38d9a6b339e1865dc49477e41c1af7e30e836c51abbfe302", func := "pub-windbreak/laws.FnMRing", spec := "fnMRing", unfollowed := true, recurses := true, apart := false, narrowed := true }
def FnMRingUptoSaid : Prop := fnMRingUptoRow.holds Try.pinned (OpenSpec.upto fnMRingSpec)

/-- 'laws.FnMMeeting', WHERE WHAT IT READS IS OF BULK AT MOST 1048576: true; the input reads as it did. -/
def fnMMeetingUptoRow : OpenClaim := { program := "ytlihjljdndbpdaa", sum := "c3ac5f86bf77d90e38d9a6b339e1865dc49477e41c1af7e30e836c51abbfe302", func := "pub-windbreak/laws.FnMMeeting", spec := "fnMMeeting", unfollowed := true, recurses := true, apart := false, narrowed := true }
def FnMMeetingUptoSaid : Prop := fnMMeetingUptoRow.holds Try.pinned (OpenSpec.upto fnMMeetingSpec)

/-- 'laws.FnThreeWay', WHERE WHAT IT READS IS OF BULK AT MOST 1048576: true; the input reads as it did. -/
def fnThreeWayUptoRow : OpenClaim := { program := "ytlihjljdndbpdaa", sum := "c3ac5f86bf77d90e38d9a6b339e1865dc49477e41c1af7e30e836c51abbfe302", func := "pub-windbreak/laws.FnThreeWay", spec := "fnThreeWay", unfollowed := true, recurses := true, apart := false, narrowed := true }
def FnThreeWayUptoSaid : Prop := fnThreeWayUptoRow.holds Try.pinned (OpenSpec.upto fnThreeWaySpec)

/-- 'laws.FnCache', WHERE WHAT IT READS IS OF BULK AT MOST 1048576: true; the input reads as it did. -/
def fnCacheUptoRow : OpenClaim := { program := "ytlihjljdndbpdaa", sum := "c3ac5f86bf77d90e38d9a6b339e1865dc49477e41c1af7e30e836c51abbfe302", func := "pub-windbreak/laws.FnCache", spec := "fnCache", unfollowed := true, recurses := true, apart := false, narrowed := true }
def FnCacheUptoSaid : Prop := fnCacheUptoRow.holds Try.pinned (OpenSpec.upto fnCacheSpec)

/-- 'laws.FnMRising', WHERE WHAT IT READS IS OF BULK AT MOST 1048576: true; the input reads as it did. -/
def fnMRisingUptoRow : OpenClaim := { program := "ytlihjljdndbpdaa", sum := "c3ac5f86bf77d90e38d9a6b339e1865dc49477e41c1af7e30e836c51abbfe302", func := "pub-windbreak/laws.FnMRising", spec := "fnMRising", unfollowed := true, recurses := true, apart := false, narrowed := true }
def FnMRisingUptoSaid : Prop := fnMRisingUptoRow.holds Try.pinned (OpenSpec.upto fnMRisingSpec)

/-- 'laws.FnMMaximal', WHERE WHAT IT READS IS OF BULK AT MOST 1048576: true; the input reads as it did. -/
def fnMMaximalUptoRow : OpenClaim := { program := "ytlihjljdndbpdaa", sum := "c3ac5f86bf77d90e38d9a6b339e1865dc49477e41c1af7e30e836c51abbfe302", func := "pub-windbreak/laws.FnMMaximal", spec := "fnMMaximal", unfollowed := true, recurses := true, apart := false, narrowed := true }
def FnMMaximalUptoSaid : Prop := fnMMaximalUptoRow.holds Try.pinned (OpenSpec.upto fnMMaximalSpec)

end Rows
end Go.Proofs.Ytlihjljdndbpdaa
