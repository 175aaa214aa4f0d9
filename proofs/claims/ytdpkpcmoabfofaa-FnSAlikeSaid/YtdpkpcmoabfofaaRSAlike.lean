/-
  FnSAlike: whichever way the keys of a set are read, they are the same.
  Conditions: none but the statement's own.
-/
import Derived.Test.YtdpkpcmoabfofaaRows
import Derived.ChangeMaps5
import Derived.Test.YtdpkpcmoabfofaaRSAlikeB6
namespace Go.Proofs.Ytdpkpcmoabfofaa
open Go.Hp Go.ChangeShapes Go.WideShapes Go.ChangeAt Go.RowKit
set_option linter.unusedVariables false

theorem own : ownKnob Try.prog.godebug = none := by kernel_rfl
theorem laidOut : laidOutB Try.prog = true := by kernel_rfl

set_option maxRecDepth 100000 in
theorem law_contract (H : Type) (en : TypeId × Value → H) (W : World) (base : Nat) (args : Array Value) (ds gs : List (DataW H)) (before : List MemPlace)
    (hval : ∀ (j : Nat) t v, Try.f6.params[j]? = some t → args[j]? = some v → Value.okWide Try.prog W .any base t v)
    (hW : DataW.Whole en Try.prog Try.f6.params.toList Rows.fnSAlikeSpec.vars false W args.toList ds gs before) :
    Calls Try.prog 6 args W fun e W' => ∃ v, e = .returned v ∧ Rows.fnSAlikeSpec.post en Try.prog Try.f6 false true false false W args v W' := by
  have hW' := hW
  obtain ⟨p, q, hA0, hV, rfl, hfz, hnd⟩ := hW
  have hA : DataW.TrodAll en Try.prog W 0 (fun _ => true) true [30] args.toList ds p := hA0
  obtain ⟨v0, vs0, d0, ds0, p0, q0, hargs, rfl, rfl, h0, r0⟩ := trodAll_cons hA
  obtain ⟨rfl, rfl, rfl⟩ := trodAll_nil r0
  obtain rfl : args = #[v0] := by cases args; simp_all
  obtain ⟨rfl, rfl⟩ := trodVars_none hV
  refine law_post laidOut rfl Try.underlying4 (fun _ => trivial) rfl (fun t ht => ?_) rfl hW' ?_ rfl
  · have ht : t ∈ ([30] : List TypeId) := ht
    have ht : t = 30 := by simpa using ht
    subst ht
    exact ⟨by kernel_rfl, of_decide_eq_true (by kernel_rfl)⟩
  obtain ⟨l0, hl0, _⟩ := open_one (α := Int) Try.underlying30 (by kernel_rfl) (fun n => .int .i64 n) (fun _ => True) (fun h => by
    obtain ⟨n, h1, _, _⟩ := DataW.trod_int Try.underlying3 h
    simp at h1
    exact ⟨n, h1, trivial⟩) (hval 0 30 v0 rfl rfl) h0
  exact Iu.l_FnSAlike_ok hl0 fun E' h' s => ⟨rfl, s.fr⟩

set_option maxRecDepth 100000 in
theorem law_lifted (os : Os) (started : os.Started) (H : Type) (en : TypeId × Value → H) :
    ReturnsInHanded {} Try.checked os 6 .any (Rows.fnSAlikeSpec.pre6 en Try.prog Try.f6 Rows.fnSAlikeRow.domain false) (Rows.fnSAlikeSpec.post en Try.prog Try.f6 false true false false) := by
  refine returnsInHanded_of_change (C := Try.checked) own started (by kernel_rfl) Try.func6
    (ChangeSpec.witness6 (C := Try.checked) false ⟨#[], #[.slice none 0 0], []⟩ 8 (by kernel_rfl) (by kernel_rfl) (by kernel_rfl) (by kernel_rfl)) ?_
  intro W base args ds gs before hval hW _ _
  exact law_contract H en W base args ds gs before hval hW

theorem FnSAlike_holds : Rows.FnSAlikeSaid :=
  OpenClaim.holds_of_wide 6 Try.f6 rfl rfl rfl rfl rfl rfl rfl ⟨rfl, rfl, rfl, rfl, rfl⟩ rfl rfl rfl rfl rfl (by kernel_rfl) Try.func6 (by kernel_rfl)
    (of_decide_eq_true (by kernel_rfl)) (by unfold Func.isWrapper; first | (rw [if_pos (by decide +kernel)]; kernel_rfl) | (rw [if_neg (by decide +kernel)]; exact ⟨rfl, rfl⟩))
    (fun os started H enc _ => law_lifted os started H enc)
end Go.Proofs.Ytdpkpcmoabfofaa
