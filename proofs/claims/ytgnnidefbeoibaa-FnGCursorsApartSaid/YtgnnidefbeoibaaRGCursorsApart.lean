/-
  FnGCursorsApart: two iterators over one tree, moved in turn, give what each of them gives alone.
  Conditions: none but the statement's own.
-/
import Derived.Test.YtgnnidefbeoibaaRows
import Derived.ChangeMaps5
import Derived.Test.YtgnnidefbeoibaaRGCursorsApartB5
namespace Go.Proofs.Ytgnnidefbeoibaa
open Go.Hp Go.ChangeShapes Go.WideShapes Go.ChangeAt Go.RowKit
set_option linter.unusedVariables false

theorem own : ownKnob Try.prog.godebug = none := by kernel_rfl
theorem laidOut : laidOutB Try.prog = true := by kernel_rfl

set_option maxRecDepth 100000 in
theorem law_contract (H : Type) (en : TypeId × Value → H) (W : World) (base : Nat) (args : Array Value) (ds gs : List (DataW H)) (before : List MemPlace)
    (hval : ∀ (j : Nat) t v, Try.f5.params[j]? = some t → args[j]? = some v → Value.okWide Try.prog W .any base t v)
    (hW : DataW.Whole en Try.prog Try.f5.params.toList Rows.fnGCursorsApartSpec.vars false W args.toList ds gs before) :
    Calls Try.prog 5 args W fun e W' => ∃ v, e = .returned v ∧ Rows.fnGCursorsApartSpec.post en Try.prog Try.f5 false true false false W args v W' := by
  have hW' := hW
  obtain ⟨p, q, hA0, hV, rfl, hfz, hnd⟩ := hW
  have hA : DataW.TrodAll en Try.prog W 0 (fun _ => true) true [24, 25, 29, 29] args.toList ds p := hA0
  obtain ⟨v0, vs0, d0, ds0, p0, q0, hargs, rfl, rfl, h0, r0⟩ := trodAll_cons hA
  obtain ⟨v1, vs1, d1, ds1, p1, q1, rfl, rfl, rfl, h1, r1⟩ := trodAll_cons r0
  obtain ⟨v2, vs2, d2, ds2, p2, q2, rfl, rfl, rfl, h2, r2⟩ := trodAll_cons r1
  obtain ⟨v3, vs3, d3, ds3, p3, q3, rfl, rfl, rfl, h3, r3⟩ := trodAll_cons r2
  obtain ⟨rfl, rfl, rfl⟩ := trodAll_nil r3
  obtain rfl : args = #[v0, v1, v2, v3] := by cases args; simp_all
  obtain ⟨rfl, rfl⟩ := trodVars_none hV
  refine law_post laidOut rfl Try.underlying4 (fun _ => trivial) rfl (fun t ht => ?_) rfl hW' ?_ rfl
  · have ht : t ∈ ([24, 25, 29, 29] : List TypeId) := ht
    have ht : t = 24 ∨ t = 25 ∨ t = 29 ∨ t = 29 := by simpa using ht
    rcases ht with rfl | rfl | rfl | rfl
    · exact ⟨by kernel_rfl, of_decide_eq_true (by kernel_rfl)⟩
    · exact ⟨by kernel_rfl, of_decide_eq_true (by kernel_rfl)⟩
    · exact ⟨by kernel_rfl, of_decide_eq_true (by kernel_rfl)⟩
    · exact ⟨by kernel_rfl, of_decide_eq_true (by kernel_rfl)⟩
  obtain ⟨ow0, ov0, dg0, nl0, rfl, ho0, gd0, gd0'⟩ := open_make Try.underlying24 (by kernel_rfl) ⟨rfl, rfl, rfl⟩ ⟨by kernel_rfl, by kernel_rfl, by kernel_rfl⟩ Try.underlying22 (by kernel_rfl) Try.underlying3 Try.underlying3 Try.underlying4 (hval 0 24 v0 rfl rfl) h0
  obtain ⟨l1, hl1, hb1⟩ := open_pairs Try.underlying25 Try.underlying52 (by kernel_rfl) rfl rfl (by kernel_rfl) (by kernel_rfl) Try.underlying3 Try.underlying3 (hval 1 25 v1 rfl rfl) h1
  obtain ⟨l2, hl2, _⟩ := open_moves Try.underlying29 Try.underlying55 (by kernel_rfl) rfl rfl (by kernel_rfl) (by kernel_rfl) Try.underlying3 Try.underlying52 rfl rfl (by kernel_rfl) (by kernel_rfl) Try.underlying3 Try.underlying3 (hval 2 29 v2 rfl rfl) h2
  obtain ⟨l3, hl3, _⟩ := open_moves Try.underlying29 Try.underlying55 (by kernel_rfl) rfl rfl (by kernel_rfl) (by kernel_rfl) Try.underlying3 Try.underlying52 rfl rfl (by kernel_rfl) (by kernel_rfl) Try.underlying3 Try.underlying3 (hval 3 29 v3 rfl rfl) h3
  exact Gi.l_FnGCursorsApart_ok ho0 hl1 hl2 hl3 fun E' h' s => ⟨rfl, s.fr⟩

set_option maxRecDepth 100000 in
theorem law_lifted (os : Os) (started : os.Started) (H : Type) (en : TypeId × Value → H) :
    ReturnsInHanded {} Try.checked os 5 .any (Rows.fnGCursorsApartSpec.pre6 en Try.prog Try.f5 Rows.fnGCursorsApartRow.domain false) (Rows.fnGCursorsApartSpec.post en Try.prog Try.f5 false true false false) := by
  refine returnsInHanded_of_change (C := Try.checked) own started (by kernel_rfl) Try.func5
    (ChangeSpec.witness6 (C := Try.checked) false ⟨#[], #[.agg #[.slice none 0 0, .int .i64 0, .bool false], .slice none 0 0, .slice none 0 0, .slice none 0 0], []⟩ 8 (by kernel_rfl) (by kernel_rfl) (by kernel_rfl) (by kernel_rfl)) ?_
  intro W base args ds gs before hval hW _ _
  exact law_contract H en W base args ds gs before hval hW

theorem FnGCursorsApart_holds : Rows.FnGCursorsApartSaid :=
  OpenClaim.holds_of_wide 5 Try.f5 rfl rfl rfl rfl rfl rfl rfl ⟨rfl, rfl, rfl, rfl, rfl⟩ rfl rfl rfl rfl rfl (by kernel_rfl) Try.func5 (by kernel_rfl)
    (of_decide_eq_true (by kernel_rfl)) (by unfold Func.isWrapper; first | (rw [if_pos (by decide +kernel)]; kernel_rfl) | (rw [if_neg (by decide +kernel)]; exact ⟨rfl, rfl⟩))
    (fun os started H enc _ => law_lifted os started H enc)
end Go.Proofs.Ytgnnidefbeoibaa
