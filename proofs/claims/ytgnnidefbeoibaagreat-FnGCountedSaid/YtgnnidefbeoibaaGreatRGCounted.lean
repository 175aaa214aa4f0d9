/-
  FnGCounted: how many keys lie in a range is the difference of the indexes of its ends, found by halving with GetAt
  Conditions: none but the statement's own.
-/
import Derived.Test.YtgnnidefbeoibaaGreatRows
import Derived.ChangeMaps5
import Derived.Test.YtgnnidefbeoibaaGreatRGCountedB4
namespace Go.Proofs.YtgnnidefbeoibaaGreat
open Go.Hp Go.ChangeShapes Go.WideShapes Go.ChangeAt Go.RowKit
set_option linter.unusedVariables false

theorem own : ownKnob Tryz.prog.godebug = none := by kernel_rfl
theorem laidOut : laidOutB Tryz.prog = true := by kernel_rfl

set_option maxRecDepth 100000 in
theorem law_contract (H : Type) (en : TypeId × Value → H) (W : World) (base : Nat) (args : Array Value) (ds gs : List (DataW H)) (before : List MemPlace)
    (hval : ∀ (j : Nat) t v, Tryz.f5.params[j]? = some t → args[j]? = some v → Value.okWide Tryz.prog W .any base t v)
    (hW : DataW.Whole en Tryz.prog Tryz.f5.params.toList Rows.fnGCountedSpec.vars false W args.toList ds gs before) :
    Calls Tryz.prog 5 args W fun e W' => ∃ v, e = .returned v ∧ Rows.fnGCountedSpec.post en Tryz.prog Tryz.f5 false true false false W args v W' := by
  have hW' := hW
  obtain ⟨p, q, hA0, hV, rfl, hfz, hnd⟩ := hW
  have hA : DataW.TrodAll en Tryz.prog W 0 (fun _ => true) true [3, 25, 64] args.toList ds p := hA0
  obtain ⟨v0, vs0, d0, ds0, p0, q0, hargs, rfl, rfl, h0, r0⟩ := trodAll_cons hA
  obtain ⟨v1, vs1, d1, ds1, p1, q1, rfl, rfl, rfl, h1, r1⟩ := trodAll_cons r0
  obtain ⟨v2, vs2, d2, ds2, p2, q2, rfl, rfl, rfl, h2, r2⟩ := trodAll_cons r1
  obtain ⟨rfl, rfl, rfl⟩ := trodAll_nil r2
  obtain rfl : args = #[v0, v1, v2] := by cases args; simp_all
  obtain ⟨rfl, rfl⟩ := trodVars_none hV
  refine law_post laidOut rfl Tryz.underlying4 (fun _ => trivial) rfl (fun t ht => ?_) rfl hW' ?_ rfl
  · have ht : t ∈ ([3, 25, 64] : List TypeId) := ht
    have ht : t = 3 ∨ t = 25 ∨ t = 64 := by simpa using ht
    rcases ht with rfl | rfl | rfl
    · exact ⟨by kernel_rfl, of_decide_eq_true (by kernel_rfl)⟩
    · exact ⟨by kernel_rfl, of_decide_eq_true (by kernel_rfl)⟩
    · exact ⟨by kernel_rfl, of_decide_eq_true (by kernel_rfl)⟩
  obtain ⟨a0, rfl, rfl, rfl, w0⟩ := open_int Tryz.underlying3 (hval 0 3 v0 rfl rfl) h0
  obtain ⟨l1, hl1, hb1⟩ := open_pairs Tryz.underlying25 Tryz.underlying45 (by kernel_rfl) rfl rfl (by kernel_rfl) (by kernel_rfl) Tryz.underlying3 Tryz.underlying3 (hval 1 25 v1 rfl rfl) h1
  obtain ⟨l2, hl2, hb2⟩ := open_a2s Tryz.underlying64 Tryz.underlying138 (by kernel_rfl) (by kernel_rfl) Tryz.underlying5 (hval 2 64 v2 rfl rfl) h2
  exact Gi.l_FnGCounted_ok (d := a0) (l := l1) (P := l2) hl1 hl2 hb2 fun E' h' s => ⟨rfl, s.fr⟩

set_option maxRecDepth 100000 in
theorem law_lifted (os : Os) (started : os.Started) (H : Type) (en : TypeId × Value → H) :
    ReturnsInHanded {} Tryz.checked os 5 .any (Rows.fnGCountedSpec.pre6 en Tryz.prog Tryz.f5 Rows.fnGCountedRow.domain false) (Rows.fnGCountedSpec.post en Tryz.prog Tryz.f5 false true false false) := by
  refine returnsInHanded_of_change (C := Tryz.checked) own started (by kernel_rfl) Tryz.func5
    (ChangeSpec.witness6 (C := Tryz.checked) false ⟨#[], #[.int .i64 0, .slice none 0 0, .slice none 0 0], []⟩ 8 (by kernel_rfl) (by kernel_rfl) (by kernel_rfl) (by kernel_rfl)) ?_
  intro W base args ds gs before hval hW _ _
  exact law_contract H en W base args ds gs before hval hW

theorem FnGCounted_holds : Rows.FnGCountedSaid :=
  OpenClaim.holds_of_wide 5 Tryz.f5 rfl rfl rfl rfl rfl rfl rfl ⟨rfl, rfl, rfl, rfl, rfl⟩ rfl rfl rfl rfl rfl (by kernel_rfl) Tryz.func5 (by kernel_rfl)
    (of_decide_eq_true (by kernel_rfl)) (by unfold Func.isWrapper; first | (rw [if_pos (by decide +kernel)]; kernel_rfl) | (rw [if_neg (by decide +kernel)]; exact ⟨rfl, rfl⟩))
    (fun os started H enc _ => law_lifted os started H enc)
end Go.Proofs.YtgnnidefbeoibaaGreat
