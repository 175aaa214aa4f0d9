/-
  FnWRoutes: the longest prefix of a number of 16 bits among up to 300 routes is found by a few searches downward.
  Conditions: none but the statement's own.
-/
import Derived.Test.YtdpkpcmoabfofaaRows
import Derived.ChangeMaps5
import Derived.Test.YtdpkpcmoabfofaaRWRoutesB5
namespace Go.Proofs.Ytdpkpcmoabfofaa
open Go.Hp Go.ChangeShapes Go.WideShapes Go.ChangeAt Go.RowKit
set_option linter.unusedVariables false

theorem own : ownKnob Try.prog.godebug = none := by kernel_rfl
theorem laidOut : laidOutB Try.prog = true := by kernel_rfl

set_option maxRecDepth 100000 in
theorem law_contract (H : Type) (en : TypeId × Value → H) (W : World) (base : Nat) (args : Array Value) (ds gs : List (DataW H)) (before : List MemPlace)
    (hval : ∀ (j : Nat) t v, Try.f4.params[j]? = some t → args[j]? = some v → Value.okWide Try.prog W .any base t v)
    (hW : DataW.Whole en Try.prog Try.f4.params.toList Rows.fnWRoutesSpec.vars false W args.toList ds gs before) :
    Calls Try.prog 4 args W fun e W' => ∃ v, e = .returned v ∧ Rows.fnWRoutesSpec.post en Try.prog Try.f4 false true false false W args v W' := by
  have hW' := hW
  obtain ⟨p, q, hA0, hV, rfl, hfz, hnd⟩ := hW
  have hA : DataW.TrodAll en Try.prog W 0 (fun _ => true) true [3, 35, 36] args.toList ds p := hA0
  obtain ⟨v0, vs0, d0, ds0, p0, q0, hargs, rfl, rfl, h0, r0⟩ := trodAll_cons hA
  obtain ⟨v1, vs1, d1, ds1, p1, q1, rfl, rfl, rfl, h1, r1⟩ := trodAll_cons r0
  obtain ⟨v2, vs2, d2, ds2, p2, q2, rfl, rfl, rfl, h2, r2⟩ := trodAll_cons r1
  obtain ⟨rfl, rfl, rfl⟩ := trodAll_nil r2
  obtain rfl : args = #[v0, v1, v2] := by cases args; simp_all
  obtain ⟨rfl, rfl⟩ := trodVars_none hV
  refine law_post laidOut rfl Try.underlying4 (fun _ => trivial) rfl (fun t ht => ?_) rfl hW' ?_ rfl
  · have ht : t ∈ ([3, 35, 36] : List TypeId) := ht
    have ht : t = 3 ∨ t = 35 ∨ t = 36 := by simpa using ht
    rcases ht with rfl | rfl | rfl
    · exact ⟨by kernel_rfl, of_decide_eq_true (by kernel_rfl)⟩
    · exact ⟨by kernel_rfl, of_decide_eq_true (by kernel_rfl)⟩
    · exact ⟨by kernel_rfl, of_decide_eq_true (by kernel_rfl)⟩
  obtain ⟨a0, rfl, rfl, rfl, w0⟩ := open_int Try.underlying3 (hval 0 3 v0 rfl rfl) h0
  obtain ⟨l1, hl1, hb1⟩ := open_u16u8 Try.underlying35 Try.underlying42 (by kernel_rfl) rfl rfl (by kernel_rfl) (by kernel_rfl) Try.underlying40 Try.underlying5 (hval 1 35 v1 rfl rfl) h1
  obtain ⟨l2, hl2, hb2⟩ := open_u16s Try.underlying36 (by kernel_rfl) Try.underlying40 (hval 2 36 v2 rfl rfl) h2
  exact Si.l_FnWRoutes_ok hb1 hb2 hl1 hl2 fun E' h' s => ⟨rfl, s.fr⟩

set_option maxRecDepth 100000 in
theorem law_lifted (os : Os) (started : os.Started) (H : Type) (en : TypeId × Value → H) :
    ReturnsInHanded {} Try.checked os 4 .any (Rows.fnWRoutesSpec.pre6 en Try.prog Try.f4 Rows.fnWRoutesRow.domain false) (Rows.fnWRoutesSpec.post en Try.prog Try.f4 false true false false) := by
  refine returnsInHanded_of_change (C := Try.checked) own started (by kernel_rfl) Try.func4
    (ChangeSpec.witness6 (C := Try.checked) false ⟨#[], #[.int .i64 0, .slice none 0 0, .slice none 0 0], []⟩ 8 (by kernel_rfl) (by kernel_rfl) (by kernel_rfl) (by kernel_rfl)) ?_
  intro W base args ds gs before hval hW _ _
  exact law_contract H en W base args ds gs before hval hW

theorem FnWRoutes_holds : Rows.FnWRoutesSaid :=
  OpenClaim.holds_of_wide 4 Try.f4 rfl rfl rfl rfl rfl rfl rfl ⟨rfl, rfl, rfl, rfl, rfl⟩ rfl rfl rfl rfl rfl (by kernel_rfl) Try.func4 (by kernel_rfl)
    (of_decide_eq_true (by kernel_rfl)) (by unfold Func.isWrapper; first | (rw [if_pos (by decide +kernel)]; kernel_rfl) | (rw [if_neg (by decide +kernel)]; exact ⟨rfl, rfl⟩))
    (fun os started H enc _ => law_lifted os started H enc)
end Go.Proofs.Ytdpkpcmoabfofaa
