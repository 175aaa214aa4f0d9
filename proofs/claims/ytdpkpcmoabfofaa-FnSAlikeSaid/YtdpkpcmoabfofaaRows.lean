/-
  No cell of these rows narrows 'for every input' (looked for: loops, veiled, ifaces, maps, wideKeys, modest, calm, conditions, laid).
  DERIVED. THE GIVEN ROWS OF THIS SEAT. 4 by the template 'for every input the law returns true; each argument reads behind the call as it read before'; 0 by the template 'total and deterministic' (their statements: YtdpkpcmoabfofaaTotals.lean).
  GIVEN WITH THE SEED: the statements are not yours to turn. If you find one false, say at which input.
  Laid BY PROGRAM, IN A SANDBOX (cutbox-rows.mjs): the forced cells as the released guide's own fill.sh prints them over the translation 9e9c12ade43d1dc6… (all of the seat's roots in one cut). By AI agents, Wed Nov 11 2026. No macro, syntax, notation, axiom, sorry.
-/
import Derived.Test.YtdpkpcmoabfofaaChecked
import GoSem.Claim
import GoSem.ClaimJoined
import GoSem.ClaimMapViews
import Derived.JoinedTies
import Derived.KernelRfl
namespace Go.Proofs.Ytdpkpcmoabfofaa
/- THE CELL 'sum', in the pinned program and in every row, IS THE sha256 OF THE DUMP (.gsa) THAT YtdpkpcmoabfofaaProg.lean LOADS. Nothing in Lean hashes anything: it is a label: what it is worth is what the hold of that sum in a sandbox is worth. -/
noncomputable def Try.pinned : Pinned := { name := "ytdpkpcmoabfofaa", sum := "9e9c12ade43d1dc6556ca4ec5c44493d2bf313fbe8a638eaba2a37c984a3e293", checked := Try.checked }
namespace Rows
def none {H : Type} : Left H := { results := [], args := [] }

/-- 'laws.FnMMeeting': WHATEVER THE INPUT: true; the input reads as it did. -/
def fnMMeetingSpec : ChangeSpec := { name := "fnMMeeting", fn := fun _ => fun
  | [d1, d2, d3, d4] => { results := [.lit (.bool true)], args := [d1, d2, d3, d4] }
  | _ => none }
def fnMMeetingRow : OpenClaim := { program := "ytdpkpcmoabfofaa", sum := "9e9c12ade43d1dc6556ca4ec5c44493d2bf313fbe8a638eaba2a37c984a3e293", func := "pub-windbreak/laws.FnMMeeting", spec := "fnMMeeting", unfollowed := true, recurses := true, apart := false }
def FnMMeetingSaid : Prop := fnMMeetingRow.holds Try.pinned (OpenSpec.ofChange fnMMeetingSpec)

/-- ITS FALSE NEIGHBOUR: 'it returns false'. Refute it at one input. -/
def fnMMeetingWrong : ChangeSpec := { name := "fnMMeeting", fn := fun _ => fun
  | [d1, d2, d3, d4] => { results := [.lit (.bool false)], args := [d1, d2, d3, d4] }
  | _ => none }
def FnMMeetingWrongFalsely : Prop := fnMMeetingRow.holds Try.pinned (OpenSpec.ofChange fnMMeetingWrong)

/-- 'laws.FnWRoutes': WHATEVER THE INPUT: true; the input reads as it did. -/
def fnWRoutesSpec : ChangeSpec := { name := "fnWRoutes", fn := fun _ => fun
  | [d1, d2, d3] => { results := [.lit (.bool true)], args := [d1, d2, d3] }
  | _ => none }
def fnWRoutesRow : OpenClaim := { program := "ytdpkpcmoabfofaa", sum := "9e9c12ade43d1dc6556ca4ec5c44493d2bf313fbe8a638eaba2a37c984a3e293", func := "pub-windbreak/laws.FnWRoutes", spec := "fnWRoutes", unfollowed := true, recurses := true, apart := false }
def FnWRoutesSaid : Prop := fnWRoutesRow.holds Try.pinned (OpenSpec.ofChange fnWRoutesSpec)

/-- ITS FALSE NEIGHBOUR: 'it returns false'. Refute it at one input. -/
def fnWRoutesWrong : ChangeSpec := { name := "fnWRoutes", fn := fun _ => fun
  | [d1, d2, d3] => { results := [.lit (.bool false)], args := [d1, d2, d3] }
  | _ => none }
def FnWRoutesWrongFalsely : Prop := fnWRoutesRow.holds Try.pinned (OpenSpec.ofChange fnWRoutesWrong)

/-- 'laws.FnWPages': WHATEVER THE INPUT: true; the input reads as it did. -/
def fnWPagesSpec : ChangeSpec := { name := "fnWPages", fn := fun _ => fun
  | [d1, d2, d3, d4] => { results := [.lit (.bool true)], args := [d1, d2, d3, d4] }
  | _ => none }
def fnWPagesRow : OpenClaim := { program := "ytdpkpcmoabfofaa", sum := "9e9c12ade43d1dc6556ca4ec5c44493d2bf313fbe8a638eaba2a37c984a3e293", func := "pub-windbreak/laws.FnWPages", spec := "fnWPages", unfollowed := true, recurses := true, apart := false }
def FnWPagesSaid : Prop := fnWPagesRow.holds Try.pinned (OpenSpec.ofChange fnWPagesSpec)

/-- ITS FALSE NEIGHBOUR: 'it returns false'. Refute it at one input. -/
def fnWPagesWrong : ChangeSpec := { name := "fnWPages", fn := fun _ => fun
  | [d1, d2, d3, d4] => { results := [.lit (.bool false)], args := [d1, d2, d3, d4] }
  | _ => none }
def FnWPagesWrongFalsely : Prop := fnWPagesRow.holds Try.pinned (OpenSpec.ofChange fnWPagesWrong)

/-- 'laws.FnSAlike': WHATEVER THE INPUT: true; the input reads as it did. -/
def fnSAlikeSpec : ChangeSpec := { name := "fnSAlike", fn := fun _ => fun
  | [d] => { results := [.lit (.bool true)], args := [d] }
  | _ => none }
def fnSAlikeRow : OpenClaim := { program := "ytdpkpcmoabfofaa", sum := "9e9c12ade43d1dc6556ca4ec5c44493d2bf313fbe8a638eaba2a37c984a3e293", func := "pub-windbreak/laws.FnSAlike", spec := "fnSAlike", unfollowed := true, recurses := true, apart := false }
def FnSAlikeSaid : Prop := fnSAlikeRow.holds Try.pinned (OpenSpec.ofChange fnSAlikeSpec)

/-- ITS FALSE NEIGHBOUR: 'it returns false'. Refute it at one input. -/
def fnSAlikeWrong : ChangeSpec := { name := "fnSAlike", fn := fun _ => fun
  | [d] => { results := [.lit (.bool false)], args := [d] }
  | _ => none }
def FnSAlikeWrongFalsely : Prop := fnSAlikeRow.holds Try.pinned (OpenSpec.ofChange fnSAlikeWrong)

/- THE SECOND FORM. 'bulk': how many values and letters a reading holds, each counted each time it is reached (what is shared counts as often as it is met; a slice's spare places count too). A statement '..UptoSaid' is the law's where the arguments, and the package variables that the reading takes, are together of bulk at most 1048576: NARROWER than '..Said'. Prove '..Said' where nothing that the law and all that it calls make is longer than what came in: it says more and counts as full. Else prove '..UptoSaid'. A law counts once. -/
mutual
def uptoBulk {H : Type} : DataW H → Nat
  | .lit (.string bytes) => bytes.length + 1
  | .lit _ => 1
  | .nil => 1
  | .ptr d => uptoBulk d + 1
  | .slice elems spare => uptoBulkAll elems + uptoBulkAll spare + 1
  | .agg parts => uptoBulkAll parts + 1
  | .iface _ d => uptoBulk d + 1
  | .map entries => uptoBulkEntries entries + 1
  | .held _ => 1
def uptoBulkAll {H : Type} : List (DataW H) → Nat
  | [] => 0
  | d :: r => uptoBulk d + uptoBulkAll r
def uptoBulkEntries {H : Type} : List (Lit × DataW H) → Nat
  | [] => 0
  | x :: r => uptoBulkEntry x + uptoBulkEntries r
def uptoBulkEntry {H : Type} : Lit × DataW H → Nat
  | (.string bytes, d) => bytes.length + uptoBulk d + 1
  | (_, d) => uptoBulk d + 1
 end
def uptoSmall : (H : Type) → List (DataW H) → Bool := fun _ ds => decide (uptoBulkAll ds ≤ 1048576)
def OpenSpec.upto (s : _root_.Go.ChangeSpec) : _root_.Go.OpenSpec := { _root_.Go.OpenSpec.ofChange s with cond := some uptoSmall }

/-- 'laws.FnMMeeting', WHERE WHAT IT READS IS OF BULK AT MOST 1048576: true; the input reads as it did. -/
def fnMMeetingUptoRow : OpenClaim := { program := "ytdpkpcmoabfofaa", sum := "9e9c12ade43d1dc6556ca4ec5c44493d2bf313fbe8a638eaba2a37c984a3e293", func := "pub-windbreak/laws.FnMMeeting", spec := "fnMMeeting", unfollowed := true, recurses := true, apart := false, narrowed := true }
def FnMMeetingUptoSaid : Prop := fnMMeetingUptoRow.holds Try.pinned (OpenSpec.upto fnMMeetingSpec)

/-- 'laws.FnWRoutes', WHERE WHAT IT READS IS OF BULK AT MOST 1048576: true; the input reads as it did. -/
def fnWRoutesUptoRow : OpenClaim := { program := "ytdpkpcmoabfofaa", sum := "9e9c12ade43d1dc6556ca4ec5c44493d2bf313fbe8a638eaba2a37c984a3e293", func := "pub-windbreak/laws.FnWRoutes", spec := "fnWRoutes", unfollowed := true, recurses := true, apart := false, narrowed := true }
def FnWRoutesUptoSaid : Prop := fnWRoutesUptoRow.holds Try.pinned (OpenSpec.upto fnWRoutesSpec)

/-- 'laws.FnWPages', WHERE WHAT IT READS IS OF BULK AT MOST 1048576: true; the input reads as it did. -/
def fnWPagesUptoRow : OpenClaim := { program := "ytdpkpcmoabfofaa", sum := "9e9c12ade43d1dc6556ca4ec5c44493d2bf313fbe8a638eaba2a37c984a3e293", func := "pub-windbreak/laws.FnWPages", spec := "fnWPages", unfollowed := true, recurses := true, apart := false, narrowed := true }
def FnWPagesUptoSaid : Prop := fnWPagesUptoRow.holds Try.pinned (OpenSpec.upto fnWPagesSpec)

/-- 'laws.FnSAlike', WHERE WHAT IT READS IS OF BULK AT MOST 1048576: true; the input reads as it did. -/
def fnSAlikeUptoRow : OpenClaim := { program := "ytdpkpcmoabfofaa", sum := "9e9c12ade43d1dc6556ca4ec5c44493d2bf313fbe8a638eaba2a37c984a3e293", func := "pub-windbreak/laws.FnSAlike", spec := "fnSAlike", unfollowed := true, recurses := true, apart := false, narrowed := true }
def FnSAlikeUptoSaid : Prop := fnSAlikeUptoRow.holds Try.pinned (OpenSpec.upto fnSAlikeSpec)

end Rows
end Go.Proofs.Ytdpkpcmoabfofaa
