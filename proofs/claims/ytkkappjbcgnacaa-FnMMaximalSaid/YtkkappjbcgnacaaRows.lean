/-
  NARROWER THAN 'FOR EVERY INPUT', by the rows' own cells (each row's printed sentence says how): FnDSetExact: loops.
  DERIVED. THE GIVEN ROWS OF THIS SEAT. 8 by the template 'for every input the law returns true; each argument reads behind the call as it read before'; 0 by the template 'total and deterministic' (their statements: YtkkappjbcgnacaaTotals.lean).
  GIVEN WITH THE SEED: the statements are not yours to turn. If you find one false, say at which input.
  Laid BY PROGRAM, IN A SANDBOX (cutbox-rows.mjs): the forced cells as the released guide's own fill.sh prints them over the translation 3c043ad3559b9d12… (all of the seat's roots in one cut). By AI agents, Wed Nov 11 2026. No macro, syntax, notation, axiom, sorry.
-/
import Derived.Test.YtkkappjbcgnacaaChecked
import GoSem.Claim
import GoSem.ClaimJoined
import GoSem.ClaimMapViews
import Derived.JoinedTies
import Derived.KernelRfl
namespace Go.Proofs.Ytkkappjbcgnacaa
/- THE CELL 'sum', in the pinned program and in every row, IS THE sha256 OF THE DUMP (.gsa) THAT YtkkappjbcgnacaaProg.lean LOADS. Nothing in Lean hashes anything: it is a label: what it is worth is what the hold of that sum in a sandbox is worth. -/
noncomputable def Try.pinned : Pinned := { name := "ytkkappjbcgnacaa", sum := "3c043ad3559b9d121dc8641b6d2ce19deb6f354168693c7c97fece53419d6fe0", checked := Try.checked }
namespace Rows
def none {H : Type} : Left H := { results := [], args := [] }

/-- 'laws.FnDSetExact': WHATEVER THE INPUT: true; the input reads as it did. -/
def fnDSetExactSpec : ChangeSpec := { name := "fnDSetExact", fn := fun _ => fun
  | [d1, d2, d3] => { results := [.lit (.bool true)], args := [d1, d2, d3] }
  | _ => none }
def fnDSetExactRow : OpenClaim := { program := "ytkkappjbcgnacaa", sum := "3c043ad3559b9d121dc8641b6d2ce19deb6f354168693c7c97fece53419d6fe0", func := "pub-windbreak/laws.FnDSetExact", spec := "fnDSetExact", unfollowed := true, recurses := true, loops := true, apart := false }
def FnDSetExactSaid : Prop := fnDSetExactRow.holds Try.pinned (OpenSpec.ofChange fnDSetExactSpec)

/-- ITS FALSE NEIGHBOUR: 'it returns false'. Refute it at one input. -/
def fnDSetExactWrong : ChangeSpec := { name := "fnDSetExact", fn := fun _ => fun
  | [d1, d2, d3] => { results := [.lit (.bool false)], args := [d1, d2, d3] }
  | _ => none }
def FnDSetExactWrongFalsely : Prop := fnDSetExactRow.holds Try.pinned (OpenSpec.ofChange fnDSetExactWrong)

/-- 'laws.FnCache': WHATEVER THE INPUT: true; the input reads as it did. -/
def fnCacheSpec : ChangeSpec := { name := "fnCache", fn := fun _ => fun
  | [d1, d2, d3] => { results := [.lit (.bool true)], args := [d1, d2, d3] }
  | _ => none }
def fnCacheRow : OpenClaim := { program := "ytkkappjbcgnacaa", sum := "3c043ad3559b9d121dc8641b6d2ce19deb6f354168693c7c97fece53419d6fe0", func := "pub-windbreak/laws.FnCache", spec := "fnCache", unfollowed := true, recurses := true, apart := false }
def FnCacheSaid : Prop := fnCacheRow.holds Try.pinned (OpenSpec.ofChange fnCacheSpec)

/-- ITS FALSE NEIGHBOUR: 'it returns false'. Refute it at one input. -/
def fnCacheWrong : ChangeSpec := { name := "fnCache", fn := fun _ => fun
  | [d1, d2, d3] => { results := [.lit (.bool false)], args := [d1, d2, d3] }
  | _ => none }
def FnCacheWrongFalsely : Prop := fnCacheRow.holds Try.pinned (OpenSpec.ofChange fnCacheWrong)

/-- 'laws.FnMRising': WHATEVER THE INPUT: true; the input reads as it did. -/
def fnMRisingSpec : ChangeSpec := { name := "fnMRising", fn := fun _ => fun
  | [d1, d2, d3] => { results := [.lit (.bool true)], args := [d1, d2, d3] }
  | _ => none }
def fnMRisingRow : OpenClaim := { program := "ytkkappjbcgnacaa", sum := "3c043ad3559b9d121dc8641b6d2ce19deb6f354168693c7c97fece53419d6fe0", func := "pub-windbreak/laws.FnMRising", spec := "fnMRising", unfollowed := true, recurses := true, apart := false }
def FnMRisingSaid : Prop := fnMRisingRow.holds Try.pinned (OpenSpec.ofChange fnMRisingSpec)

/-- ITS FALSE NEIGHBOUR: 'it returns false'. Refute it at one input. -/
def fnMRisingWrong : ChangeSpec := { name := "fnMRising", fn := fun _ => fun
  | [d1, d2, d3] => { results := [.lit (.bool false)], args := [d1, d2, d3] }
  | _ => none }
def FnMRisingWrongFalsely : Prop := fnMRisingRow.holds Try.pinned (OpenSpec.ofChange fnMRisingWrong)

/-- 'laws.FnMMaximal': WHATEVER THE INPUT: true; the input reads as it did. -/
def fnMMaximalSpec : ChangeSpec := { name := "fnMMaximal", fn := fun _ => fun
  | [d1, d2] => { results := [.lit (.bool true)], args := [d1, d2] }
  | _ => none }
def fnMMaximalRow : OpenClaim := { program := "ytkkappjbcgnacaa", sum := "3c043ad3559b9d121dc8641b6d2ce19deb6f354168693c7c97fece53419d6fe0", func := "pub-windbreak/laws.FnMMaximal", spec := "fnMMaximal", unfollowed := true, recurses := true, apart := false }
def FnMMaximalSaid : Prop := fnMMaximalRow.holds Try.pinned (OpenSpec.ofChange fnMMaximalSpec)

/-- ITS FALSE NEIGHBOUR: 'it returns false'. Refute it at one input. -/
def fnMMaximalWrong : ChangeSpec := { name := "fnMMaximal", fn := fun _ => fun
  | [d1, d2] => { results := [.lit (.bool false)], args := [d1, d2] }
  | _ => none }
def FnMMaximalWrongFalsely : Prop := fnMMaximalRow.holds Try.pinned (OpenSpec.ofChange fnMMaximalWrong)

/-- 'laws.FnMMeeting': WHATEVER THE INPUT: true; the input reads as it did. -/
def fnMMeetingSpec : ChangeSpec := { name := "fnMMeeting", fn := fun _ => fun
  | [d1, d2, d3, d4] => { results := [.lit (.bool true)], args := [d1, d2, d3, d4] }
  | _ => none }
def fnMMeetingRow : OpenClaim := { program := "ytkkappjbcgnacaa", sum := "3c043ad3559b9d121dc8641b6d2ce19deb6f354168693c7c97fece53419d6fe0", func := "pub-windbreak/laws.FnMMeeting", spec := "fnMMeeting", unfollowed := true, recurses := true, apart := false }
def FnMMeetingSaid : Prop := fnMMeetingRow.holds Try.pinned (OpenSpec.ofChange fnMMeetingSpec)

/-- ITS FALSE NEIGHBOUR: 'it returns false'. Refute it at one input. -/
def fnMMeetingWrong : ChangeSpec := { name := "fnMMeeting", fn := fun _ => fun
  | [d1, d2, d3, d4] => { results := [.lit (.bool false)], args := [d1, d2, d3, d4] }
  | _ => none }
def FnMMeetingWrongFalsely : Prop := fnMMeetingRow.holds Try.pinned (OpenSpec.ofChange fnMMeetingWrong)

/-- 'laws.FnWPlaces': WHATEVER THE INPUT: true; the input reads as it did. -/
def fnWPlacesSpec : ChangeSpec := { name := "fnWPlaces", fn := fun _ => fun
  | [d1, d2] => { results := [.lit (.bool true)], args := [d1, d2] }
  | _ => none }
def fnWPlacesRow : OpenClaim := { program := "ytkkappjbcgnacaa", sum := "3c043ad3559b9d121dc8641b6d2ce19deb6f354168693c7c97fece53419d6fe0", func := "pub-windbreak/laws.FnWPlaces", spec := "fnWPlaces", unfollowed := true, recurses := true, apart := false }
def FnWPlacesSaid : Prop := fnWPlacesRow.holds Try.pinned (OpenSpec.ofChange fnWPlacesSpec)

/-- ITS FALSE NEIGHBOUR: 'it returns false'. Refute it at one input. -/
def fnWPlacesWrong : ChangeSpec := { name := "fnWPlaces", fn := fun _ => fun
  | [d1, d2] => { results := [.lit (.bool false)], args := [d1, d2] }
  | _ => none }
def FnWPlacesWrongFalsely : Prop := fnWPlacesRow.holds Try.pinned (OpenSpec.ofChange fnWPlacesWrong)

/-- 'laws.FnWRoutes': WHATEVER THE INPUT: true; the input reads as it did. -/
def fnWRoutesSpec : ChangeSpec := { name := "fnWRoutes", fn := fun _ => fun
  | [d1, d2, d3] => { results := [.lit (.bool true)], args := [d1, d2, d3] }
  | _ => none }
def fnWRoutesRow : OpenClaim := { program := "ytkkappjbcgnacaa", sum := "3c043ad3559b9d121dc8641b6d2ce19deb6f354168693c7c97fece53419d6fe0", func := "pub-windbreak/laws.FnWRoutes", spec := "fnWRoutes", unfollowed := true, recurses := true, apart := false }
def FnWRoutesSaid : Prop := fnWRoutesRow.holds Try.pinned (OpenSpec.ofChange fnWRoutesSpec)

/-- ITS FALSE NEIGHBOUR: 'it returns false'. Refute it at one input. -/
def fnWRoutesWrong : ChangeSpec := { name := "fnWRoutes", fn := fun _ => fun
  | [d1, d2, d3] => { results := [.lit (.bool false)], args := [d1, d2, d3] }
  | _ => none }
def FnWRoutesWrongFalsely : Prop := fnWRoutesRow.holds Try.pinned (OpenSpec.ofChange fnWRoutesWrong)

/-- 'laws.FnWPages': WHATEVER THE INPUT: true; the input reads as it did. -/
def fnWPagesSpec : ChangeSpec := { name := "fnWPages", fn := fun _ => fun
  | [d1, d2, d3, d4] => { results := [.lit (.bool true)], args := [d1, d2, d3, d4] }
  | _ => none }
def fnWPagesRow : OpenClaim := { program := "ytkkappjbcgnacaa", sum := "3c043ad3559b9d121dc8641b6d2ce19deb6f354168693c7c97fece53419d6fe0", func := "pub-windbreak/laws.FnWPages", spec := "fnWPages", unfollowed := true, recurses := true, apart := false }
def FnWPagesSaid : Prop := fnWPagesRow.holds Try.pinned (OpenSpec.ofChange fnWPagesSpec)

/-- ITS FALSE NEIGHBOUR: 'it returns false'. Refute it at one input. -/
def fnWPagesWrong : ChangeSpec := { name := "fnWPages", fn := fun _ => fun
  | [d1, d2, d3, d4] => { results := [.lit (.bool false)], args := [d1, d2, d3, d4] }
  | _ => none }
def FnWPagesWrongFalsely : Prop := fnWPagesRow.holds Try.pinned (OpenSpec.ofChange fnWPagesWrong)

/- THE SECOND FORM. 'bulk': how many values and letters a reading holds, each counted each time it is reached (what is shared counts as often as it is met; a slice's spare places count too). A statement '..UptoSaid' is the law's where the arguments, and the package variables that the reading takes, are together of bulk at most 1048576: NARROWER than '..Said'. Prove '..Said' where nothing that the law and all that it calls make is longer than what came in: it says more and counts as full. Else prove '..UptoSaid'. A law counts once. -/
mutual
def uptoBulk {H : Type} : DataW H → Nat
  | .lit (.string bytes) => bytes.length + 1
  | .lit _ => 1
  | .nil => 1
  | .ptr d => uptoBulk d + 1
  | .slice elems spare => uptoBulkAll elems + uptoBulkAll spare + 1
  | .agg parts => uptoBulkAll parts + 1
  | .iface _ d => uptoBulk d + 1
  | .map entries => uptoBulkEntries entries + 1
  | .held _ => 1
def uptoBulkAll {H : Type} : List (DataW H) → Nat
  | [] => 0
  | d :: r => uptoBulk d + uptoBulkAll r
def uptoBulkEntries {H : Type} : List (Lit × DataW H) → Nat
  | [] => 0
  | x :: r => uptoBulkEntry x + uptoBulkEntries r
def uptoBulkEntry {H : Type} : Lit × DataW H → Nat
  | (.string bytes, d) => bytes.length + uptoBulk d + 1
  | (_, d) => uptoBulk d + 1
 end
def uptoSmall : (H : Type) → List (DataW H) → Bool := fun _ ds => decide (uptoBulkAll ds ≤ 1048576)
def OpenSpec.upto (s : _root_.Go.ChangeSpec) : _root_.Go.OpenSpec := { _root_.Go.OpenSpec.ofChange s with cond := some uptoSmall }

/-- 'laws.FnDSetExact', WHERE WHAT IT READS IS OF BULK AT MOST 1048576: true; the input reads as it did. -/
def fnDSetExactUptoRow : OpenClaim := { program := "ytkkappjbcgnacaa", sum := "3c043ad3559b9d121dc8641b6d2ce19deb6f354168693c7c97fece53419d6fe0", func := "pub-windbreak/laws.FnDSetExact", spec := "fnDSetExact", unfollowed := true, recurses := true, loops := true, apart := false, narrowed := true }
def FnDSetExactUptoSaid : Prop := fnDSetExactUptoRow.holds Try.pinned (OpenSpec.upto fnDSetExactSpec)

/-- 'laws.FnCache', WHERE WHAT IT READS IS OF BULK AT MOST 1048576: true; the input reads as it did. -/
def fnCacheUptoRow : OpenClaim := { program := "ytkkappjbcgnacaa", sum := "3c043ad3559b9d121dc8641b6d2ce19deb6f354168693c7c97fece53419d6fe0", func := "pub-windbreak/laws.FnCache", spec := "fnCache", unfollowed := true, recurses := true, apart := false, narrowed := true }
def FnCacheUptoSaid : Prop := fnCacheUptoRow.holds Try.pinned (OpenSpec.upto fnCacheSpec)

/-- 'laws.FnMRising', WHERE WHAT IT READS IS OF BULK AT MOST 1048576: true; the input reads as it did. -/
def fnMRisingUptoRow : OpenClaim := { program := "ytkkappjbcgnacaa", sum := "3c043ad3559b9d121dc8641b6d2ce19deb6f354168693c7c97fece53419d6fe0", func := "pub-windbreak/laws.FnMRising", spec := "fnMRising", unfollowed := true, recurses := true, apart := false, narrowed := true }
def FnMRisingUptoSaid : Prop := fnMRisingUptoRow.holds Try.pinned (OpenSpec.upto fnMRisingSpec)

/-- 'laws.FnMMaximal', WHERE WHAT IT READS IS OF BULK AT MOST 1048576: true; the input reads as it did. -/
def fnMMaximalUptoRow : OpenClaim := { program := "ytkkappjbcgnacaa", sum := "3c043ad3559b9d121dc8641b6d2ce19deb6f354168693c7c97fece53419d6fe0", func := "pub-windbreak/laws.FnMMaximal", spec := "fnMMaximal", unfollowed := true, recurses := true, apart := false, narrowed := true }
def FnMMaximalUptoSaid : Prop := fnMMaximalUptoRow.holds Try.pinned (OpenSpec.upto fnMMaximalSpec)

/-- 'laws.FnMMeeting', WHERE WHAT IT READS IS OF BULK AT MOST 1048576: true; the input reads as it did. -/
def fnMMeetingUptoRow : OpenClaim := { program := "ytkkappjbcgnacaa", sum := "3c043ad3559b9d121dc8641b6d2ce19deb6f354168693c7c97fece53419d6fe0", func := "pub-windbreak/laws.FnMMeeting", spec := "fnMMeeting", unfollowed := true, recurses := true, apart := false, narrowed := true }
def FnMMeetingUptoSaid : Prop := fnMMeetingUptoRow.holds Try.pinned (OpenSpec.upto fnMMeetingSpec)

/-- 'laws.FnWPlaces', WHERE WHAT IT READS IS OF BULK AT MOST 1048576: true; the input reads as it did. -/
def fnWPlacesUptoRow : OpenClaim := { program := "ytkkappjbcgnacaa", sum := "3c043ad3559b9d121dc8641b6d2ce19deb6f354168693c7c97fece53419d6fe0", func := "pub-windbreak/laws.FnWPlaces", spec := "fnWPlaces", unfollowed := true, recurses := true, apart := false, narrowed := true }
def FnWPlacesUptoSaid : Prop := fnWPlacesUptoRow.holds Try.pinned (OpenSpec.upto fnWPlacesSpec)

/-- 'laws.FnWRoutes', WHERE WHAT IT READS IS OF BULK AT MOST 1048576: true; the input reads as it did. -/
def fnWRoutesUptoRow : OpenClaim := { program := "ytkkappjbcgnacaa", sum := "3c043ad3559b9d121dc8641b6d2ce19deb6f354168693c7c97fece53419d6fe0", func := "pub-windbreak/laws.FnWRoutes", spec := "fnWRoutes", unfollowed := true, recurses := true, apart := false, narrowed := true }
def FnWRoutesUptoSaid : Prop := fnWRoutesUptoRow.holds Try.pinned (OpenSpec.upto fnWRoutesSpec)

/-- 'laws.FnWPages', WHERE WHAT IT READS IS OF BULK AT MOST 1048576: true; the input reads as it did. -/
def fnWPagesUptoRow : OpenClaim := { program := "ytkkappjbcgnacaa", sum := "3c043ad3559b9d121dc8641b6d2ce19deb6f354168693c7c97fece53419d6fe0", func := "pub-windbreak/laws.FnWPages", spec := "fnWPages", unfollowed := true, recurses := true, apart := false, narrowed := true }
def FnWPagesUptoSaid : Prop := fnWPagesUptoRow.holds Try.pinned (OpenSpec.upto fnWPagesSpec)

end Rows
end Go.Proofs.Ytkkappjbcgnacaa
