/-
  No cell of these rows narrows 'for every input' (looked for: loops, veiled, ifaces, maps, wideKeys, modest, calm, conditions, laid).
  DERIVED. THE GIVEN ROWS OF THIS SEAT. 3 by the template 'for every input the law returns true; each argument reads behind the call as it read before'; 0 by the template 'total and deterministic' (their statements: YtgnnidefbeoibaaGreatTotals.lean).
  GIVEN WITH THE SEED: the statements are not yours to turn. If you find one false, say at which input.
  Laid BY PROGRAM, IN A SANDBOX (cutbox-rows.mjs): the forced cells as the released guide's own fill.sh prints them over the translation 5d2dc9408c4f1a3f… (all of the seat's roots in one cut). By AI agents, Wed Nov 11 2026. No macro, syntax, notation, axiom, sorry.
-/
import Derived.Test.YtgnnidefbeoibaaGreatChecked
import GoSem.Claim
import GoSem.ClaimJoined
import GoSem.ClaimMapViews
import Derived.JoinedTies
import Derived.KernelRfl
namespace Go.Proofs.YtgnnidefbeoibaaGreat
/- THE CELL 'sum', in the pinned program and in every row, IS THE sha256 OF THE DUMP (.gsa) THAT YtgnnidefbeoibaaGreatProg.lean LOADS. Nothing in Lean hashes anything: it is a label: what it is worth is what the hold of that sum in a sandbox is worth. -/
noncomputable def Tryz.pinned : Pinned := { name := "ytgnnidefbeoibaagreat", sum := "5d2dc9408c4f1a3f0dce65660a00aeaddd17bcfc872f7320fe439fd4c2f79aa2", checked := Tryz.checked }
namespace Rows
def none {H : Type} : Left H := { results := [], args := [] }

/-- 'laws.FnGAlike': WHATEVER THE INPUT: true; the input reads as it did. -/
def fnGAlikeSpec : ChangeSpec := { name := "fnGAlike", fn := fun _ => fun
  | [d1, d2] => { results := [.lit (.bool true)], args := [d1, d2] }
  | _ => none }
def fnGAlikeRow : OpenClaim := { program := "ytgnnidefbeoibaagreat", sum := "5d2dc9408c4f1a3f0dce65660a00aeaddd17bcfc872f7320fe439fd4c2f79aa2", func := "pub-windbreak/laws.FnGAlike", spec := "fnGAlike", unfollowed := true, recurses := true, apart := false }
def FnGAlikeSaid : Prop := fnGAlikeRow.holds Tryz.pinned (OpenSpec.ofChange fnGAlikeSpec)

/-- ITS FALSE NEIGHBOUR: 'it returns false'. Refute it at one input. -/
def fnGAlikeWrong : ChangeSpec := { name := "fnGAlike", fn := fun _ => fun
  | [d1, d2] => { results := [.lit (.bool false)], args := [d1, d2] }
  | _ => none }
def FnGAlikeWrongFalsely : Prop := fnGAlikeRow.holds Tryz.pinned (OpenSpec.ofChange fnGAlikeWrong)

/-- 'laws.FnGJoined': WHATEVER THE INPUT: true; the input reads as it did. -/
def fnGJoinedSpec : ChangeSpec := { name := "fnGJoined", fn := fun _ => fun
  | [d1, d2, d3, d4] => { results := [.lit (.bool true)], args := [d1, d2, d3, d4] }
  | _ => none }
def fnGJoinedRow : OpenClaim := { program := "ytgnnidefbeoibaagreat", sum := "5d2dc9408c4f1a3f0dce65660a00aeaddd17bcfc872f7320fe439fd4c2f79aa2", func := "pub-windbreak/laws.FnGJoined", spec := "fnGJoined", unfollowed := true, recurses := true, apart := false }
def FnGJoinedSaid : Prop := fnGJoinedRow.holds Tryz.pinned (OpenSpec.ofChange fnGJoinedSpec)

/-- ITS FALSE NEIGHBOUR: 'it returns false'. Refute it at one input. -/
def fnGJoinedWrong : ChangeSpec := { name := "fnGJoined", fn := fun _ => fun
  | [d1, d2, d3, d4] => { results := [.lit (.bool false)], args := [d1, d2, d3, d4] }
  | _ => none }
def FnGJoinedWrongFalsely : Prop := fnGJoinedRow.holds Tryz.pinned (OpenSpec.ofChange fnGJoinedWrong)

/-- 'laws.FnGCounted': WHATEVER THE INPUT: true; the input reads as it did. -/
def fnGCountedSpec : ChangeSpec := { name := "fnGCounted", fn := fun _ => fun
  | [d1, d2, d3] => { results := [.lit (.bool true)], args := [d1, d2, d3] }
  | _ => none }
def fnGCountedRow : OpenClaim := { program := "ytgnnidefbeoibaagreat", sum := "5d2dc9408c4f1a3f0dce65660a00aeaddd17bcfc872f7320fe439fd4c2f79aa2", func := "pub-windbreak/laws.FnGCounted", spec := "fnGCounted", unfollowed := true, recurses := true, apart := false }
def FnGCountedSaid : Prop := fnGCountedRow.holds Tryz.pinned (OpenSpec.ofChange fnGCountedSpec)

/-- ITS FALSE NEIGHBOUR: 'it returns false'. Refute it at one input. -/
def fnGCountedWrong : ChangeSpec := { name := "fnGCounted", fn := fun _ => fun
  | [d1, d2, d3] => { results := [.lit (.bool false)], args := [d1, d2, d3] }
  | _ => none }
def FnGCountedWrongFalsely : Prop := fnGCountedRow.holds Tryz.pinned (OpenSpec.ofChange fnGCountedWrong)

/- THE SECOND FORM. 'bulk': how many values and letters a reading holds, each counted each time it is reached (what is shared counts as often as it is met; a slice's spare places count too). A statement '..UptoSaid' is the law's where the arguments, and the package variables that the reading takes, are together of bulk at most 1048576: NARROWER than '..Said'. Prove '..Said' where nothing that the law and all that it calls make is longer than what came in: it says more and counts as full. Else prove '..UptoSaid'. A law counts once. -/
mutual
def uptoBulk {H : Type} : DataW H → Nat
  | .lit (.string bytes) => bytes.length + 1
  | .lit _ => 1
  | .nil => 1
  | .ptr d => uptoBulk d + 1
  | .slice elems spare => uptoBulkAll elems + uptoBulkAll spare + 1
  | .agg parts => uptoBulkAll parts + 1
  | .iface _ d => uptoBulk d + 1
  | .map entries => uptoBulkEntries entries + 1
  | .held _ => 1
def uptoBulkAll {H : Type} : List (DataW H) → Nat
  | [] => 0
  | d :: r => uptoBulk d + uptoBulkAll r
def uptoBulkEntries {H : Type} : List (Lit × DataW H) → Nat
  | [] => 0
  | x :: r => uptoBulkEntry x + uptoBulkEntries r
def uptoBulkEntry {H : Type} : Lit × DataW H → Nat
  | (.string bytes, d) => bytes.length + uptoBulk d + 1
  | (_, d) => uptoBulk d + 1
 end
def uptoSmall : (H : Type) → List (DataW H) → Bool := fun _ ds => decide (uptoBulkAll ds ≤ 1048576)
def OpenSpec.upto (s : _root_.Go.ChangeSpec) : _root_.Go.OpenSpec := { _root_.Go.OpenSpec.ofChange s with cond := some uptoSmall }

/-- 'laws.FnGAlike', WHERE WHAT IT READS IS OF BULK AT MOST 1048576: true; the input reads as it did. -/
def fnGAlikeUptoRow : OpenClaim := { program := "ytgnnidefbeoibaagreat", sum := "5d2dc9408c4f1a3f0dce65660a00aeaddd17bcfc872f7320fe439fd4c2f79aa2", func := "pub-windbreak/laws.FnGAlike", spec := "fnGAlike", unfollowed := true, recurses := true, apart := false, narrowed := true }
def FnGAlikeUptoSaid : Prop := fnGAlikeUptoRow.holds Tryz.pinned (OpenSpec.upto fnGAlikeSpec)

/-- 'laws.FnGJoined', WHERE WHAT IT READS IS OF BULK AT MOST 1048576: true; the input reads as it did. -/
def fnGJoinedUptoRow : OpenClaim := { program := "ytgnnidefbeoibaagreat", sum := "5d2dc9408c4f1a3f0dce65660a00aeaddd17bcfc872f7320fe439fd4c2f79aa2", func := "pub-windbreak/laws.FnGJoined", spec := "fnGJoined", unfollowed := true, recurses := true, apart := false, narrowed := true }
def FnGJoinedUptoSaid : Prop := fnGJoinedUptoRow.holds Tryz.pinned (OpenSpec.upto fnGJoinedSpec)

/-- 'laws.FnGCounted', WHERE WHAT IT READS IS OF BULK AT MOST 1048576: true; the input reads as it did. -/
def fnGCountedUptoRow : OpenClaim := { program := "ytgnnidefbeoibaagreat", sum := "5d2dc9408c4f1a3f0dce65660a00aeaddd17bcfc872f7320fe439fd4c2f79aa2", func := "pub-windbreak/laws.FnGCounted", spec := "fnGCounted", unfollowed := true, recurses := true, apart := false, narrowed := true }
def FnGCountedUptoSaid : Prop := fnGCountedUptoRow.holds Tryz.pinned (OpenSpec.upto fnGCountedSpec)

end Rows
end Go.Proofs.YtgnnidefbeoibaaGreat
