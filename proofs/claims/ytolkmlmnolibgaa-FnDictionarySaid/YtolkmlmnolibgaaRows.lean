/-
  No cell of these rows narrows 'for every input' (looked for: loops, veiled, ifaces, maps, wideKeys, modest, calm, conditions, laid).
  DERIVED. THE GIVEN ROWS OF THIS SEAT. 5 by the template 'for every input the law returns true; each argument reads behind the call as it read before'; 0 by the template 'total and deterministic' (their statements: YtolkmlmnolibgaaTotals.lean).
  GIVEN WITH THE SEED: the statements are not yours to turn. If you find one false, say at which input.
  Laid BY PROGRAM, IN A SANDBOX (cutbox-rows.mjs): the forced cells as the released guide's own fill.sh prints them over the translation c49cd58ef28b6d4d… (all of the seat's roots in one cut). By AI agents, Wed Nov 11 2026. No macro, syntax, notation, axiom, sorry.
-/
import Derived.Test.YtolkmlmnolibgaaChecked
import GoSem.Claim
import GoSem.ClaimJoined
import GoSem.ClaimMapViews
import Derived.JoinedTies
import Derived.KernelRfl
namespace Go.Proofs.Ytolkmlmnolibgaa
/- THE CELL 'sum', in the pinned program and in every row, IS THE sha256 OF THE DUMP (.gsa) THAT YtolkmlmnolibgaaProg.lean LOADS. Nothing in Lean hashes anything: it is a label: what it is worth is what the hold of that sum in a sandbox is worth. -/
noncomputable def Try.pinned : Pinned := { name := "ytolkmlmnolibgaa", sum := "c49cd58ef28b6d4daae8ab2676e7628677bcaf2ac4e0d4b904c78ca5227c290a", checked := Try.checked }
namespace Rows
def none {H : Type} : Left H := { results := [], args := [] }

/-- 'laws.FnDictionary': WHATEVER THE INPUT: true; the input reads as it did. -/
def fnDictionarySpec : ChangeSpec := { name := "fnDictionary", fn := fun _ => fun
  | [d1, d2] => { results := [.lit (.bool true)], args := [d1, d2] }
  | _ => none }
def fnDictionaryRow : OpenClaim := { program := "ytolkmlmnolibgaa", sum := "c49cd58ef28b6d4daae8ab2676e7628677bcaf2ac4e0d4b904c78ca5227c290a", func := "pub-windbreak/laws.FnDictionary", spec := "fnDictionary", unfollowed := true, recurses := true, apart := false }
def FnDictionarySaid : Prop := fnDictionaryRow.holds Try.pinned (OpenSpec.ofChange fnDictionarySpec)

/-- ITS FALSE NEIGHBOUR: 'it returns false'. Refute it at one input. -/
def fnDictionaryWrong : ChangeSpec := { name := "fnDictionary", fn := fun _ => fun
  | [d1, d2] => { results := [.lit (.bool false)], args := [d1, d2] }
  | _ => none }
def FnDictionaryWrongFalsely : Prop := fnDictionaryRow.holds Try.pinned (OpenSpec.ofChange fnDictionaryWrong)

/-- 'laws.FnWLast': WHATEVER THE INPUT: true; the input reads as it did. -/
def fnWLastSpec : ChangeSpec := { name := "fnWLast", fn := fun _ => fun
  | [d1, d2] => { results := [.lit (.bool true)], args := [d1, d2] }
  | _ => none }
def fnWLastRow : OpenClaim := { program := "ytolkmlmnolibgaa", sum := "c49cd58ef28b6d4daae8ab2676e7628677bcaf2ac4e0d4b904c78ca5227c290a", func := "pub-windbreak/laws.FnWLast", spec := "fnWLast", unfollowed := true, recurses := true, apart := false }
def FnWLastSaid : Prop := fnWLastRow.holds Try.pinned (OpenSpec.ofChange fnWLastSpec)

/-- ITS FALSE NEIGHBOUR: 'it returns false'. Refute it at one input. -/
def fnWLastWrong : ChangeSpec := { name := "fnWLast", fn := fun _ => fun
  | [d1, d2] => { results := [.lit (.bool false)], args := [d1, d2] }
  | _ => none }
def FnWLastWrongFalsely : Prop := fnWLastRow.holds Try.pinned (OpenSpec.ofChange fnWLastWrong)

/-- 'laws.FnWPlaces': WHATEVER THE INPUT: true; the input reads as it did. -/
def fnWPlacesSpec : ChangeSpec := { name := "fnWPlaces", fn := fun _ => fun
  | [d1, d2] => { results := [.lit (.bool true)], args := [d1, d2] }
  | _ => none }
def fnWPlacesRow : OpenClaim := { program := "ytolkmlmnolibgaa", sum := "c49cd58ef28b6d4daae8ab2676e7628677bcaf2ac4e0d4b904c78ca5227c290a", func := "pub-windbreak/laws.FnWPlaces", spec := "fnWPlaces", unfollowed := true, recurses := true, apart := false }
def FnWPlacesSaid : Prop := fnWPlacesRow.holds Try.pinned (OpenSpec.ofChange fnWPlacesSpec)

/-- ITS FALSE NEIGHBOUR: 'it returns false'. Refute it at one input. -/
def fnWPlacesWrong : ChangeSpec := { name := "fnWPlaces", fn := fun _ => fun
  | [d1, d2] => { results := [.lit (.bool false)], args := [d1, d2] }
  | _ => none }
def FnWPlacesWrongFalsely : Prop := fnWPlacesRow.holds Try.pinned (OpenSpec.ofChange fnWPlacesWrong)

/-- 'laws.FnWRoutes': WHATEVER THE INPUT: true; the input reads as it did. -/
def fnWRoutesSpec : ChangeSpec := { name := "fnWRoutes", fn := fun _ => fun
  | [d1, d2, d3] => { results := [.lit (.bool true)], args := [d1, d2, d3] }
  | _ => none }
def fnWRoutesRow : OpenClaim := { program := "ytolkmlmnolibgaa", sum := "c49cd58ef28b6d4daae8ab2676e7628677bcaf2ac4e0d4b904c78ca5227c290a", func := "pub-windbreak/laws.FnWRoutes", spec := "fnWRoutes", unfollowed := true, recurses := true, apart := false }
def FnWRoutesSaid : Prop := fnWRoutesRow.holds Try.pinned (OpenSpec.ofChange fnWRoutesSpec)

/-- ITS FALSE NEIGHBOUR: 'it returns false'. Refute it at one input. -/
def fnWRoutesWrong : ChangeSpec := { name := "fnWRoutes", fn := fun _ => fun
  | [d1, d2, d3] => { results := [.lit (.bool false)], args := [d1, d2, d3] }
  | _ => none }
def FnWRoutesWrongFalsely : Prop := fnWRoutesRow.holds Try.pinned (OpenSpec.ofChange fnWRoutesWrong)

/-- 'laws.FnWPages': WHATEVER THE INPUT: true; the input reads as it did. -/
def fnWPagesSpec : ChangeSpec := { name := "fnWPages", fn := fun _ => fun
  | [d1, d2, d3, d4] => { results := [.lit (.bool true)], args := [d1, d2, d3, d4] }
  | _ => none }
def fnWPagesRow : OpenClaim := { program := "ytolkmlmnolibgaa", sum := "c49cd58ef28b6d4daae8ab2676e7628677bcaf2ac4e0d4b904c78ca5227c290a", func := "pub-windbreak/laws.FnWPages", spec := "fnWPages", unfollowed := true, recurses := true, apart := false }
def FnWPagesSaid : Prop := fnWPagesRow.holds Try.pinned (OpenSpec.ofChange fnWPagesSpec)

/-- ITS FALSE NEIGHBOUR: 'it returns false'. Refute it at one input. -/
def fnWPagesWrong : ChangeSpec := { name := "fnWPages", fn := fun _ => fun
  | [d1, d2, d3, d4] => { results := [.lit (.bool false)], args := [d1, d2, d3, d4] }
  | _ => none }
def FnWPagesWrongFalsely : Prop := fnWPagesRow.holds Try.pinned (OpenSpec.ofChange fnWPagesWrong)

/- THE SECOND FORM. 'bulk': how many values and letters a reading holds, each counted each time it is reached (what is shared counts as often as it is met; a slice's spare places count too). A statement '..UptoSaid' is the law's where the arguments, and the package variables that the reading takes, are together of bulk at most 1048576: NARROWER than '..Said'. Prove '..Said' where nothing that the law and all that it calls make is longer than what came in: it says more and counts as full. Else prove '..UptoSaid'. A law counts once. -/
mutual
def uptoBulk {H : Type} : DataW H → Nat
  | .lit (.string bytes) => bytes.length + 1
  | .lit _ => 1
  | .nil => 1
  | .ptr d => uptoBulk d + 1
  | .slice elems spare => uptoBulkAll elems + uptoBulkAll spare + 1
  | .agg parts => uptoBulkAll parts + 1
  | .iface _ d => uptoBulk d + 1
  | .map entries => uptoBulkEntries entries + 1
  | .held _ => 1
def uptoBulkAll {H : Type} : List (DataW H) → Nat
  | [] => 0
  | d :: r => uptoBulk d + uptoBulkAll r
def uptoBulkEntries {H : Type} : List (Lit × DataW H) → Nat
  | [] => 0
  | x :: r => uptoBulkEntry x + uptoBulkEntries r
def uptoBulkEntry {H : Type} : Lit × DataW H → Nat
  | (.string bytes, d) => bytes.length + uptoBulk d + 1
  | (_, d) => uptoBulk d + 1
 end
def uptoSmall : (H : Type) → List (DataW H) → Bool := fun _ ds => decide (uptoBulkAll ds ≤ 1048576)
def OpenSpec.upto (s : _root_.Go.ChangeSpec) : _root_.Go.OpenSpec := { _root_.Go.OpenSpec.ofChange s with cond := some uptoSmall }

/-- 'laws.FnDictionary', WHERE WHAT IT READS IS OF BULK AT MOST 1048576: true; the input reads as it did. -/
def fnDictionaryUptoRow : OpenClaim := { program := "ytolkmlmnolibgaa", sum := "c49cd58ef28b6d4daae8ab2676e7628677bcaf2ac4e0d4b904c78ca5227c290a", func := "pub-windbreak/laws.FnDictionary", spec := "fnDictionary", unfollowed := true, recurses := true, apart := false, narrowed := true }
def FnDictionaryUptoSaid : Prop := fnDictionaryUptoRow.holds Try.pinned (OpenSpec.upto fnDictionarySpec)

/-- 'laws.FnWLast', WHERE WHAT IT READS IS OF BULK AT MOST 1048576: true; the input reads as it did. -/
def fnWLastUptoRow : OpenClaim := { program := "ytolkmlmnolibgaa", sum := "c49cd58ef28b6d4daae8ab2676e7628677bcaf2ac4e0d4b904c78ca5227c290a", func := "pub-windbreak/laws.FnWLast", spec := "fnWLast", unfollowed := true, recurses := true, apart := false, narrowed := true }
def FnWLastUptoSaid : Prop := fnWLastUptoRow.holds Try.pinned (OpenSpec.upto fnWLastSpec)

/-- 'laws.FnWPlaces', WHERE WHAT IT READS IS OF BULK AT MOST 1048576: true; the input reads as it did. -/
def fnWPlacesUptoRow : OpenClaim := { program := "ytolkmlmnolibgaa", sum := "c49cd58ef28b6d4daae8ab2676e7628677bcaf2ac4e0d4b904c78ca5227c290a", func := "pub-windbreak/laws.FnWPlaces", spec := "fnWPlaces", unfollowed := true, recurses := true, apart := false, narrowed := true }
def FnWPlacesUptoSaid : Prop := fnWPlacesUptoRow.holds Try.pinned (OpenSpec.upto fnWPlacesSpec)

/-- 'laws.FnWRoutes', WHERE WHAT IT READS IS OF BULK AT MOST 1048576: true; the input reads as it did. -/
def fnWRoutesUptoRow : OpenClaim := { program := "ytolkmlmnolibgaa", sum := "c49cd58ef28b6d4daae8ab2676e7628677bcaf2ac4e0d4b904c78ca5227c290a", func := "pub-windbreak/laws.FnWRoutes", spec := "fnWRoutes", unfollowed := true, recurses := true, apart := false, narrowed := true }
def FnWRoutesUptoSaid : Prop := fnWRoutesUptoRow.holds Try.pinned (OpenSpec.upto fnWRoutesSpec)

/-- 'laws.FnWPages', WHERE WHAT IT READS IS OF BULK AT MOST 1048576: true; the input reads as it did. -/
def fnWPagesUptoRow : OpenClaim := { program := "ytolkmlmnolibgaa", sum := "c49cd58ef28b6d4daae8ab2676e7628677bcaf2ac4e0d4b904c78ca5227c290a", func := "pub-windbreak/laws.FnWPages", spec := "fnWPages", unfollowed := true, recurses := true, apart := false, narrowed := true }
def FnWPagesUptoSaid : Prop := fnWPagesUptoRow.holds Try.pinned (OpenSpec.upto fnWPagesSpec)

end Rows
end Go.Proofs.Ytolkmlmnolibgaa
