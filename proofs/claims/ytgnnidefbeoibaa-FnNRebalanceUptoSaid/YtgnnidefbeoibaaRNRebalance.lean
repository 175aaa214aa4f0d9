/-
  FnNRebalance: a node whose child has one item less than it may have is valid again below the root behind DoorNodeRebalance.
  Conditions: the bound of the statement's second form.
-/
import Derived.Test.YtgnnidefbeoibaaRows
import Derived.ChangeMaps5
import Derived.Test.YtgnnidefbeoibaaRNRebalanceB4
namespace Go.Proofs.Ytgnnidefbeoibaa
open Go.Hp Go.ChangeShapes Go.WideShapes Go.ChangeAt Go.RowKit
set_option linter.unusedVariables false

theorem own : ownKnob Try.prog.godebug = none := by kernel_rfl
theorem laidOut : laidOutB Try.prog = true := by kernel_rfl

set_option maxRecDepth 100000 in
theorem law_contract (H : Type) (en : TypeId × Value → H) (W : World) (base : Nat) (args : Array Value) (ds gs : List (DataW H)) (before : List MemPlace)
    (hval : ∀ (j : Nat) t v, Try.f4.params[j]? = some t → args[j]? = some v → Value.okWide Try.prog W .any base t v)
    (hW : DataW.Whole en Try.prog Try.f4.params.toList Rows.fnNRebalanceSpec.vars false W args.toList ds gs before) (hk : Rows.uptoSmall H (ds ++ gs) = true) :
    Calls Try.prog 4 args W fun e W' => ∃ v, e = .returned v ∧ Rows.fnNRebalanceSpec.post en Try.prog Try.f4 false true false false W args v W' := by
  have hW' := hW
  obtain ⟨p, q, hA0, hV, rfl, hfz, hnd⟩ := hW
  have hA : DataW.TrodAll en Try.prog W 0 (fun _ => true) true [24, 28, 3] args.toList ds p := hA0
  obtain ⟨v0, vs0, d0, ds0, p0, q0, hargs, rfl, rfl, h0, r0⟩ := trodAll_cons hA
  obtain ⟨v1, vs1, d1, ds1, p1, q1, rfl, rfl, rfl, h1, r1⟩ := trodAll_cons r0
  obtain ⟨v2, vs2, d2, ds2, p2, q2, rfl, rfl, rfl, h2, r2⟩ := trodAll_cons r1
  obtain ⟨rfl, rfl, rfl⟩ := trodAll_nil r2
  obtain rfl : args = #[v0, v1, v2] := by cases args; simp_all
  obtain ⟨rfl, rfl⟩ := trodVars_none hV
  refine law_post laidOut rfl Try.underlying4 (fun _ => trivial) rfl (fun t ht => ?_) rfl hW' ?_ rfl
  · have ht : t ∈ ([24, 28, 3] : List TypeId) := ht
    have ht : t = 24 ∨ t = 28 ∨ t = 3 := by simpa using ht
    rcases ht with rfl | rfl | rfl
    · exact ⟨by kernel_rfl, of_decide_eq_true (by kernel_rfl)⟩
    · exact ⟨by kernel_rfl, of_decide_eq_true (by kernel_rfl)⟩
    · exact ⟨by kernel_rfl, of_decide_eq_true (by kernel_rfl)⟩
  obtain ⟨a2, rfl, rfl, rfl, w2⟩ := open_int Try.underlying3 (hval 2 3 v2 rfl rfl) h2
  obtain ⟨ow0, ov0, dg0, nl0, rfl, ho0, gd0, gd0'⟩ := open_make Try.underlying24 (by kernel_rfl) ⟨rfl, rfl, rfl⟩ ⟨by kernel_rfl, by kernel_rfl, by kernel_rfl⟩ Try.underlying22 (by kernel_rfl) Try.underlying3 Try.underlying3 Try.underlying4 (hval 0 24 v0 rfl rfl) h0
  obtain ⟨k1, t1, vi1, vk1, c1, hk1, rfl, ha1, hb1⟩ := open_arg (hval 1 28 v1 rfl rfl) h1 (bulk_of hk (d := d1) (by simp))
  exact Gi.l_FnNRebalance_ok t1 ho0 ha1 hb1 hk1 fun E' h' s => ⟨rfl, s.fr⟩

set_option maxRecDepth 100000 in
theorem law_lifted (os : Os) (started : os.Started) (H : Type) (en : TypeId × Value → H) (F : Stop.Interp) :
    ReturnsInHanded {} Try.checked os 4 .any ((Rows.OpenSpec.upto Rows.fnNRebalanceSpec).pre6 en Try.prog Try.f4 Rows.fnNRebalanceUptoRow.domain false) (((Rows.OpenSpec.upto Rows.fnNRebalanceSpec).at F).post en Try.prog Try.f4 false true false false) := by
  refine returnsInHanded_of_cond (C := Try.checked) (s := Rows.OpenSpec.upto Rows.fnNRebalanceSpec) (k := Rows.uptoSmall) rfl own started (by kernel_rfl) Try.func4
    (OpenSpec.witness (enc := en) (C := Try.checked) (s := Rows.OpenSpec.upto Rows.fnNRebalanceSpec) (k := Rows.uptoSmall) rfl false ⟨#[], #[.agg #[.slice none 0 0, .int .i64 0, .bool false], .agg #[.slice none 0 0, .slice none 0 0, .int .i64 0], .int .i64 0], []⟩ 8 (by kernel_rfl) (by kernel_rfl) (by kernel_rfl)
      (x := ([.agg [.nil, .lit (.int .i64 0), .lit (.bool false)], .agg [.nil, .nil, .lit (.int .i64 0)], .lit (.int .i64 0)], [], [])) (by kernel_rfl) rfl (by kernel_rfl)) ?_
  intro W base args ds gs before hval hW _ hk _
  exact law_contract H en W base args ds gs before hval hW hk

theorem FnNRebalance_holds : Rows.FnNRebalanceUptoSaid :=
  OpenClaim.holds_of_cond 4 Try.f4 rfl rfl rfl rfl rfl rfl rfl ⟨rfl, rfl, rfl, rfl, rfl⟩ rfl rfl rfl rfl rfl (by kernel_rfl) Try.func4 (by kernel_rfl)
    (of_decide_eq_true (by kernel_rfl)) (by unfold Func.isWrapper; first | (rw [if_pos (by decide +kernel)]; kernel_rfl) | (rw [if_neg (by decide +kernel)]; exact ⟨rfl, rfl⟩))
    (fun os started H enc _ F => law_lifted os started H enc F)
end Go.Proofs.Ytgnnidefbeoibaa
