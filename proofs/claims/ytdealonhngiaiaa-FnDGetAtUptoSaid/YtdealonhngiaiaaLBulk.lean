/-
  What the bound of the statements' second form gives of a node among the arguments.
  Conditions: none but the bound.
-/
import Derived.Test.YtdealonhngiaiaaRows
import Derived.Test.YtdealonhngiaiaaHl
import Derived.JoinedCond
namespace Go.Proofs.Ytdealonhngiaiaa
open Go.Hp Go.ChangeShapes Go.WideShapes Go.ChangeAt Go.RowKit
set_option linter.unusedVariables false
set_option linter.unusedSimpArgs false

section
variable {H : Type}
theorem bulk_all : ∀ l : List (DataW H), Rows.uptoBulkAll l = (l.map Rows.uptoBulk).sum
  | [] => rfl
  | d :: r => by simp only [Rows.uptoBulkAll, List.map_cons, List.sum_cons, bulk_all r]
theorem bulk_agg (l : List (DataW H)) : Rows.uptoBulk (.agg l) = (l.map Rows.uptoBulk).sum + 1 := by simp only [Rows.uptoBulk, bulk_all]
theorem bulk_slice (e s : List (DataW H)) : Rows.uptoBulk (.slice e s) = (e.map Rows.uptoBulk).sum + (s.map Rows.uptoBulk).sum + 1 := by simp only [Rows.uptoBulk, bulk_all]
theorem bulk_one : ∀ d : DataW H, 1 ≤ Rows.uptoBulk d
  | .lit l => by cases l <;> simp only [Rows.uptoBulk] <;> omega
  | .nil => by simp only [Rows.uptoBulk]; omega
  | .ptr d => by simp only [Rows.uptoBulk]; omega
  | .slice e s => by simp only [Rows.uptoBulk]; omega
  | .agg l => by simp only [Rows.uptoBulk]; omega
  | .iface _ d => by simp only [Rows.uptoBulk]; omega
  | .map l => by simp only [Rows.uptoBulk]; omega
  | .held _ => by simp only [Rows.uptoBulk]; omega
theorem bulk_of {ds : List (DataW H)} (hk : Rows.uptoSmall H ds = true) {d : DataW H} (hd : d ∈ ds) : Rows.uptoBulk d ≤ 1048576 := by
  have h : Rows.uptoBulkAll ds ≤ 1048576 := of_decide_eq_true hk
  rw [bulk_all] at h
  exact Nat.le_trans (mem_le_sum (List.mem_map.2 ⟨d, hd, rfl⟩)) h
end

set_option maxRecDepth 100000 in
theorem nodeTy : ∃ f0 f1 f2 g0 g1, NodeTy Try.prog 34 22 32 30 3 f0 f1 f2 g0 g1 := ⟨_, _, _, _, _, Try.underlying34, ⟨rfl, rfl, rfl⟩, ⟨rfl, rfl, rfl⟩, by kernel_rfl, ⟨by kernel_rfl, by kernel_rfl, by kernel_rfl⟩, Try.underlying22, Try.underlying32, Try.underlying3, Try.underlying30, by kernel_rfl, ⟨rfl, rfl⟩, ⟨by kernel_rfl, by kernel_rfl⟩, ⟨Try.underlying3, Try.underlying3⟩⟩

set_option maxRecDepth 100000 in
/-- A node among the arguments. -/
theorem open_arg {H : Type} {en : TypeId × Value → H} {W : World} {base : Nat} {v : Value} {d : DataW H} {ps : List MemPlace} (hval : Value.okWide Try.prog W .any base 34 v) (hd : DataW.Trod en Try.prog W 0 (fun _ => true) true 34 v d ps) (hb : Rows.uptoBulk d ≤ 1048576) :
    ∃ (k : Nat) (t : DT (k + 1)) (vi vk : Value) (c : Int), k ≤ 1048576 ∧ v = .agg #[vi, vk, .int .i64 c] ∧ ArgD W.heap t vi vk ∧ t.bulk ≤ 1048576 := by
  obtain ⟨cs, hv, hsz⟩ := okWide_struct Try.underlying34 hval
  subst hv
  obtain ⟨fuel, hf⟩ := hd
  obtain ⟨_, _, _, _, _, hty⟩ := nodeTy
  obtain ⟨k, hk⟩ : ∃ k, Rows.uptoBulk d = k + 1 := ⟨Rows.uptoBulk d - 1, by have := bulk_one d; omega⟩
  obtain ⟨t, vi, vk, c, hc, ha, hbk⟩ := open_node hty bulk_one bulk_agg bulk_slice (k + 1) fuel _ _ hf (Nat.le_of_eq hk)
  refine ⟨k, t, vi, vk, c, by omega, ?_, ha, Nat.le_trans hbk hb⟩
  have : cs.toList = [vi, vk, .int .i64 c] := hc
  rw [← Array.toArray_toList (xs := cs), this]
end Go.Proofs.Ytdealonhngiaiaa
