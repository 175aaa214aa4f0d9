/-
  From a call seen from the heap to the row's own form: a law that says true and leaves all that was there.
  Conditions: none.
-/
import Derived.Test.YtlihjljdndbpdaaHj
import Derived.WalkKit
import Derived.ProofKit
import Derived.OpenShut
import Derived.WideKeyArgs
import Derived.Deep.SlicePairs
import Derived.ChangeSame
namespace Go.Hp
open Go.RowKit Go.ChangeShapes Go.WideShapes
set_option linter.unusedVariables false
set_option linter.unusedSimpArgs false

section
variable {H : Type} {enc : TypeId × Value → H} {P : Program}

theorem trodAll_stays (hl : laidOutB P = true) {W W' : World} {sp' : Nat → Bool} : ∀ {ts : List TypeId} {vs : List Value} {ds : List (DataW H)} {ps : List MemPlace}, (∀ t, t ∈ ts → P.readableRec t = true ∧ t < P.types.size) →
    DataW.TrodAll enc P W 0 (fun _ => true) true ts vs ds ps → (∀ p ∈ ps, W.sameAt W' p) → (∀ p ∈ ps, sp' p.block = true) → DataW.TrodAll enc P W' 0 sp' true ts vs ds ps
  | [], [], [], ps, _, h, _, _ => h
  | t :: ts, v :: vs, d :: ds, ps, hr, h, hs, hp => by
    obtain ⟨p, q, h1, h2, e⟩ := h
    subst e
    have ht := hr t (List.mem_cons_self ..)
    exact ⟨p, q, Go.WideElems.Trod_stays hl ht.1 ht.2 h1 (fun x hx => hs x (List.mem_append.2 (.inl hx))) (fun x hx => hp x (List.mem_append.2 (.inl hx))),
      trodAll_stays hl (fun t ht => hr t (List.mem_cons_of_mem _ ht)) h2 (fun x hx => hs x (List.mem_append.2 (.inr hx))) (fun x hx => hp x (List.mem_append.2 (.inr hx))), rfl⟩
  | [], [], _ :: _, _, _, h, _, _ => h.elim
  | [], _ :: _, _, _, _, h, _, _ => h.elim
  | _ :: _, [], _, _, _, h, _, _ => h.elim
  | _ :: _, _ :: _, [], _, _, h, _, _ => h.elim

theorem law_post {f : FuncId} {fn : Func} {s : ChangeSpec} {tb : TypeId} {W : World} {args : Array Value} {ds gs : List (DataW H)} {before : List MemPlace} (hl : laidOutB P = true) (hres : fn.resultTypes = #[tb]) (htb : P.underlying tb = some .bool)
    (hok : Value.okWide P W .any 0 tb (.bool true) → True) (hvars : s.vars = []) (hrec : ∀ t, t ∈ fn.params.toList → P.readableRec t = true ∧ t < P.types.size)
    (hfn : s.fn H (ds ++ gs) = { results := [.lit (.bool true)], args := ds }) (hW : DataW.Whole enc P fn.params.toList s.vars false W args.toList ds gs before)
    (hc : CallsH P f args W.heap fun v h' => v = .bool true ∧ Fr (fun _ _ => False) W.heap h') (hres1 : Func.resultTypes fn = #[tb]) :
    Calls P f args W fun e W' => ∃ v, e = .returned v ∧ s.post enc P fn false true false false W args v W' := by
  have hW' := hW
  obtain ⟨p, q, hA, hV, rfl, hfz, hnd⟩ := hW
  rw [hvars] at hV
  obtain ⟨rfl, rfl⟩ := trodVars_none hV
  refine (hc W rfl).mono fun e W' ⟨v, he, hio, hv, hf⟩ => ?_
  subst hv
  have hsame : ∀ x ∈ p, W.sameAt W' x := fun x hx => by
    have hlt : x.block < W.heap.size := hW'.lt x (by simpa using hx)
    have hb := hf.blk x.block hlt (fun _ e => e)
    cases x with
    | cell b o =>
      show W'.cell? _ = W.cell? _
      unfold World.cell?
      have hb : W'.heap[b]? = W.heap[b]? := hb
      simp only [hb]
    | map b => exact hb
  simp only [List.append_nil] at hW' hfn
  refine ⟨_, he, post_of_same (pa := p) (pv := []) (by simpa using hW') (fun b sp hd => ?_) (fun sp hsp => ?_) (fun sp _ => ?_) rfl ?_ ?_ ?_⟩
  · rw [hres]
    simp only [List.append_nil, hfn]
    exact trodAll_cons_mk (shut_bool htb _) trodAll_mk0
  · simp only [List.append_nil, hfn]
    exact trodAll_stays hl hrec hA hsame (fun x hx => hsp x (by simpa using hx))
  · simp only [List.append_nil, hfn, hvars]; rfl
  · refine ⟨hio.os, hio.output, fun i hi => ?_⟩
    rw [hf.blk i hi (fun _ e => e)]
    cases hb : W.heap[i]? with
    | none => rfl
    | some ob => cases ob <;> simp
  · intro a
    have := hf.fz a.block a.off
    exact this
  · exact ok_one hres rfl (okWide_bool_mk htb _)

/-- A slice of structs of two integers, as the walk wants it. -/
theorem open_pairsC {W : World} {t e : TypeId} {f0 f1 : Field} {base fuel : Nat} {sp : Nat → Bool} {cs : List Value} {x : DataW H × List MemPlace} (ht : P.underlying t = some (.slice e)) (he : P.underlying e = some (.struct #[f0, f1]))
    (ce : P.cellsOf e = 2) (o0 : f0.offset = 0) (o1 : f1.offset = 1) (c0 : P.cellsOf f0.type = 1) (c1 : P.cellsOf f1.type = 1) (t0 : P.underlying f0.type = some (.int .i64)) (t1 : P.underlying f1.type = some (.int .i64))
    (hf : DataW.trod enc P W base sp true fuel t cs = some x) :
    ∃ (l : List (Int × Int)) (v : Value), cs = [v] ∧ Rdl 2 W.heap v l.length (l.flatMap fun p => [.int .i64 p.1, .int .i64 p.2]) ∧ (∀ p, p ∈ l → (-9223372036854775808 ≤ p.1 ∧ p.1 ≤ 9223372036854775807) ∧ (-9223372036854775808 ≤ p.2 ∧ p.2 ≤ 9223372036854775807)) ∧
      ((l = [] ∧ x.1 = .nil) ∨ ∃ es ss, x.1 = .slice es ss ∧ es.length = l.length) := by
  rcases Go.Deep.open_slice_pairs ht he ce o0 o1 c0 c1 hf with ⟨hc, hx⟩ | ⟨a', len, m', m, k, V0, V1, D0, D1, P0, P1, hc, _, hl, hm, hmm, hx, hall⟩
  · exact ⟨[], _, hc, Rdl.nil 2 _, fun p hp => absurd hp List.not_mem_nil, .inl ⟨rfl, by rw [hx]⟩⟩
  · have hlm : len ≤ m := by rw [hmm]; split <;> omega
    have hint : ∀ i, i < len → ∃ x y : Int, V0 i = .int .i64 x ∧ V1 i = .int .i64 y ∧ (Lit.int .i64 x).wf = true ∧ (Lit.int .i64 y).wf = true := fun i hi => by
      obtain ⟨_, _, g0, g1⟩ := hall i (by omega)
      obtain ⟨x, hx, _, hw⟩ := DataW.trod_int t0 g0
      obtain ⟨y, hy, _, hw2⟩ := DataW.trod_int t1 g1
      simp at hx hy
      exact ⟨x, y, hx, hy, hw, hw2⟩
    have hiv : ∀ i, i < len → V0 i = .int .i64 (iv (V0 i)) ∧ V1 i = .int .i64 (iv (V1 i)) ∧ (Lit.int .i64 (iv (V0 i))).wf = true ∧ (Lit.int .i64 (iv (V1 i))).wf = true := fun i hi => by
      obtain ⟨x, y, h1, h2, h3, h4⟩ := hint i hi
      rw [h1, h2]; exact ⟨rfl, rfl, h3, h4⟩
    refine ⟨(List.range len).map fun i => (iv (V0 i), iv (V1 i)), _, hc, ⟨_, _, by rw [List.length_map, List.length_range], flat_len (sz := 2) (fun _ => rfl) _, fun hn => ?_, by rw [List.length_map, List.length_range]; exact hl⟩, fun p hp => ?_, .inr ⟨_, _, by rw [hx], by simp⟩⟩
    · simp only [List.length_map, List.length_range] at hn
      have h0 := (hall 0 (by omega)).1
      obtain ⟨b, o, sp⟩ := a'
      cases sp with
      | some s =>
        have h1 : W.cell? ⟨b, o, some s⟩ = some (V0 0) := h0
        unfold World.cell? at h1
        split at h1
        · simp only [Option.isSome_some, if_true] at h1; cases h1
        · cases h1
      | none =>
        refine ⟨b, o, rfl, fun j hj => ?_⟩
        rw [flat_len (sz := 2) (fun _ => rfl)] at hj
        simp only [List.length_map, List.length_range] at hj
        have hi : j / 2 < len := by omega
        have hi' : j / 2 < ((List.range len).map fun i => (iv (V0 i), iv (V1 i))).length := by simpa using hi
        obtain ⟨g0, g1, _, _⟩ := hall (j / 2) (by omega)
        obtain ⟨e0, e1, _, _⟩ := hiv (j / 2) hi
        simp only [add_mk] at g0 g1
        rcases Nat.mod_two_eq_zero_or_one j with hr | hr
        · have hj2 : j = j / 2 * 2 + 0 := by omega
          rw [hj2, flat_get (sz := 2) (fun _ => rfl) _ (j / 2) hi' 0 (by omega)]
          simp only [List.getElem_map, List.getElem_range, List.getElem?_cons_zero, Nat.add_zero]
          rw [← e0]; exact g0
        · have hj2 : j = j / 2 * 2 + 1 := by omega
          rw [hj2, flat_get (sz := 2) (fun _ => rfl) _ (j / 2) hi' 1 (by omega)]
          simp only [List.getElem_map, List.getElem_range, List.getElem?_cons_succ, List.getElem?_cons_zero]
          rw [← e1]; exact g1
    · obtain ⟨i, hi, rfl⟩ := List.mem_map.1 hp
      obtain ⟨_, _, h3, h4⟩ := hiv i (List.mem_range.1 hi)
      exact ⟨bounds_i64 h3, bounds_i64 h4⟩

theorem open_pairs {W : World} {t e : TypeId} {f0 f1 : Field} {base : Nat} {v : Value} {d : DataW H} {ps : List MemPlace} (ht : P.underlying t = some (.slice e)) (he : P.underlying e = some (.struct #[f0, f1]))
    (ce : P.cellsOf e = 2) (o0 : f0.offset = 0) (o1 : f1.offset = 1) (c0 : P.cellsOf f0.type = 1) (c1 : P.cellsOf f1.type = 1) (t0 : P.underlying f0.type = some (.int .i64)) (t1 : P.underlying f1.type = some (.int .i64))
    (hval : Value.okWide P W .any base t v) (hd : DataW.Trod enc P W 0 (fun _ => true) true t v d ps) :
    ∃ l : List (Int × Int), Rdl 2 W.heap v l.length (l.flatMap fun p => [.int .i64 p.1, .int .i64 p.2]) ∧ ∀ p, p ∈ l → (-9223372036854775808 ≤ p.1 ∧ p.1 ≤ 9223372036854775807) ∧ (-9223372036854775808 ≤ p.2 ∧ p.2 ≤ 9223372036854775807) := by
  obtain ⟨a, len, cap, rfl⟩ := okWide_slice ht hval
  obtain ⟨fuel, hf⟩ := hd
  obtain ⟨l, v, hc, hr, hb, _⟩ := open_pairsC ht he ce o0 o1 c0 c1 t0 t1 hf
  simp [Value.cells] at hc
  subst hc
  exact ⟨l, hr, hb⟩
end
end Go.Hp
