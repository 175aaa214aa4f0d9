/-
  FnDSetExact: the tree that Set leaves of any valid tree of a map is, node for node, that of its plain definition.
  Conditions: the bound of the statement's second form.
-/
import Derived.Test.YtkkappjbcgnacaaRows
import Derived.Test.YtkkappjbcgnacaaRDSetExactB3
namespace Go.Proofs.Ytkkappjbcgnacaa
open Go.Hp Go.ChangeShapes Go.WideShapes Go.ChangeAt Go.RowKit
set_option linter.unusedVariables false
set_option linter.unusedSimpArgs false

theorem own : ownKnob Try.prog.godebug = none := by kernel_rfl
theorem laidOut : laidOutB Try.prog = true := by kernel_rfl

set_option maxRecDepth 100000 in
theorem setx_contract (H : Type) (en : TypeId × Value → H) (W : World) (base : Nat) (args : Array Value) (ds gs : List (DataW H)) (before : List MemPlace)
    (hval : ∀ (j : Nat) t v, Try.f3.params[j]? = some t → args[j]? = some v → Value.okWide Try.prog W .any base t v)
    (hW : DataW.Whole en Try.prog Try.f3.params.toList Rows.fnDSetExactSpec.vars false W args.toList ds gs before) (hk : Rows.uptoSmall H (ds ++ gs) = true) :
    Calls Try.prog 3 args W fun e W' => ∃ v, e = .returned v ∧ Rows.fnDSetExactSpec.post en Try.prog Try.f3 false true false false W args v W' := by
  have hW' := hW
  obtain ⟨p, q, hA0, hV, rfl, hfz, hnd⟩ := hW
  have hA : DataW.TrodAll en Try.prog W 0 (fun _ => true) true [3, 25, 27] args.toList ds p := hA0
  obtain ⟨v0, vs0, d0, ds0, p0, q0, hargs, rfl, rfl, h0, r0⟩ := trodAll_cons hA
  obtain ⟨v1, vs1, d1, ds1, p1, q1, rfl, rfl, rfl, h1, r1⟩ := trodAll_cons r0
  obtain ⟨v2, vs2, d2, ds2, p2, q2, rfl, rfl, rfl, h2, r2⟩ := trodAll_cons r1
  obtain ⟨rfl, rfl, rfl⟩ := trodAll_nil r2
  obtain rfl : args = #[v0, v1, v2] := by cases args; simp_all
  obtain ⟨rfl, rfl⟩ := trodVars_none hV
  refine law_post laidOut rfl Try.underlying4 (fun _ => trivial) rfl (fun t ht => ?_) rfl hW' ?_ rfl
  · have ht : t ∈ ([3, 25, 27] : List TypeId) := ht
    have ht : t = 3 ∨ t = 25 ∨ t = 27 := by simpa using ht
    rcases ht with rfl | rfl | rfl
    · exact ⟨by kernel_rfl, of_decide_eq_true (by kernel_rfl)⟩
    · exact ⟨by kernel_rfl, of_decide_eq_true (by kernel_rfl)⟩
    · exact ⟨by kernel_rfl, of_decide_eq_true (by kernel_rfl)⟩
  obtain ⟨a0, rfl, rfl, rfl, w0⟩ := open_int Try.underlying3 (hval 0 3 v0 rfl rfl) h0
  obtain ⟨p2', rfl⟩ := open_pair2 Try.underlying27 (by kernel_rfl) rfl rfl (by kernel_rfl) (by kernel_rfl) Try.underlying3 Try.underlying3 (hval 2 27 v2 rfl rfl) h2
  obtain ⟨k, t, vi, vk, c, hk1, rfl, ha, hb⟩ := open_arg (hval 1 25 v1 rfl rfl) h1 (bulk_of hk (d := d1) (by simp))
  exact Gd.l_FnDSetExact_ok t ha hb hk1 fun E' h' s => ⟨rfl, s.fr⟩

set_option maxRecDepth 100000 in
theorem setx_lifted (os : Os) (started : os.Started) (H : Type) (en : TypeId × Value → H) (F : Stop.Interp) :
    ReturnsInHanded {} Try.checked os 3 .any ((Rows.OpenSpec.upto Rows.fnDSetExactSpec).pre6 en Try.prog Try.f3 Rows.fnDSetExactUptoRow.domain false) (((Rows.OpenSpec.upto Rows.fnDSetExactSpec).at F).post en Try.prog Try.f3 false true false false) := by
  refine returnsInHanded_of_cond (C := Try.checked) (s := Rows.OpenSpec.upto Rows.fnDSetExactSpec) (k := Rows.uptoSmall) rfl own started (by kernel_rfl) Try.func3
    (OpenSpec.witness (enc := en) (C := Try.checked) (s := Rows.OpenSpec.upto Rows.fnDSetExactSpec) (k := Rows.uptoSmall) rfl false ⟨#[], #[.int .i64 0, .agg #[.slice none 0 0, .slice none 0 0, .int .i64 0], .agg #[.int .i64 0, .int .i64 0]], []⟩ 8 (by kernel_rfl) (by kernel_rfl) (by kernel_rfl)
      (x := ([.lit (.int .i64 0), .agg [.nil, .nil, .lit (.int .i64 0)], .agg [.lit (.int .i64 0), .lit (.int .i64 0)]], [], [])) (by kernel_rfl) rfl (by kernel_rfl)) ?_
  intro W base args ds gs before hval hW _ hk _
  exact setx_contract H en W base args ds gs before hval hW hk

theorem FnDSetExact_holds : Rows.FnDSetExactUptoSaid :=
  OpenClaim.holds_of_cond 3 Try.f3 rfl rfl rfl rfl rfl rfl rfl ⟨rfl, rfl, rfl, rfl, rfl⟩ rfl rfl rfl rfl rfl (by kernel_rfl) Try.func3 (by kernel_rfl)
    (of_decide_eq_true (by kernel_rfl)) (by unfold Func.isWrapper; first | (rw [if_pos (by decide +kernel)]; kernel_rfl) | (rw [if_neg (by decide +kernel)]; exact ⟨rfl, rfl⟩))
    (fun os started H enc _ F => setx_lifted os started H enc F)
end Go.Proofs.Ytkkappjbcgnacaa
