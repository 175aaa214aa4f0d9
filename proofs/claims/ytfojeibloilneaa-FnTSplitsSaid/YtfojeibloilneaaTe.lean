/-
  What turned comes to.
  Conditions: not too many strings.
-/
import Derived.Test.YtfojeibloilneaaTd
import Derived.Test.YtfojeibloilneaaS7
namespace Go.Proofs.Ytfojeibloilneaa.Su
open Go.Hp Go.Proofs.Ytfojeibloilneaa
set_option linter.unusedVariables false
set_option linter.unusedSimpArgs false
variable {h0 h : Heap} {Z E : List Rg} {Q : Value → Heap → Prop}

theorem flat_kv (l : List KT) : l.flatMap fk = l.map kv := List.map_eq_flatMap.symm
theorem set_kv {l : List KT} {sp : List Value} {i : Nat} {x : KT} (hi : i < l.length) : (l.flatMap fk ++ sp).set (i * 1) (kv x) = (l.set i x).flatMap fk ++ sp := by
  rw [flat_kv, flat_kv, Nat.mul_one, List.set_append_left _ _ (by rw [List.length_map]; exact hi), List.map_set]
theorem Own.ren {v : Value} {n b o : Nat} {xs ys sp : List Value} (w : Own 1 v n b o xs sp) (e : ys.length = xs.length) : Own 1 v n b o ys sp := by
  obtain ⟨a, cap, h0, h1, h2, h3, h4⟩ := w.ex
  exact ⟨a, cap, h0, by rw [e]; exact h1, by simpa [e] using h2, h3, h4⟩
/-- A list whose ends have been exchanged up to j. -/
def Turn (l M : List KT) (j : Nat) : Prop := M.length = l.length ∧ ∀ i, i < l.length → M[i]? = if i < j ∨ l.length ≤ i + j then l[l.length - 1 - i]? else l[i]?
theorem Turn.start (l : List KT) : Turn l l 0 := ⟨rfl, fun i hi => by rw [if_neg (by omega)]⟩
theorem Turn.stop {l M : List KT} {j : Nat} (t : Turn l M j) (h : l.length ≤ 2 * j + 1) : M = l.reverse := by
  refine List.ext_getElem? fun i => ?_
  by_cases hi : i < l.length
  · rw [t.2 i hi, List.getElem?_reverse hi]
    split
    · rfl
    · have : i = l.length - 1 - i := by omega
      rw [← this]
  · rw [List.getElem?_eq_none (by rw [t.1]; omega), List.getElem?_eq_none (by rw [List.length_reverse]; omega)]
theorem Turn.step {l M : List KT} {j k : Nat} (t : Turn l M j) (hk : k + j + 1 = l.length) (hjk : j < k) {x y : KT} (hx : M[k]? = some x) (hy : M[j]? = some y) : Turn l ((M.set j x).set k y) (j + 1) := by
  have hl := t.1
  refine ⟨by simp [hl], fun i hi => ?_⟩
  have e1 := t.2 k (by omega)
  have e2 := t.2 j (by omega)
  rw [if_neg (by omega)] at e1 e2
  rw [List.getElem?_set, List.getElem?_set]
  by_cases hik : k = i
  · subst hik
    rw [if_pos rfl, if_pos (by simp; omega), if_pos (by omega), show l.length - 1 - k = j by omega, ← e2, hy]
  · rw [if_neg hik]
    by_cases hij : j = i
    · subst hij
      rw [if_pos rfl, if_pos (by omega), if_pos (by omega), show l.length - 1 - j = k by omega, ← e1, hx]
    · rw [if_neg hij, t.2 i hi]
      by_cases hc : i < j ∨ l.length ≤ i + j
      · rw [if_pos hc, if_pos (by omega)]
      · rw [if_neg hc, if_neg (by omega)]

theorem Reverse_ok {l : List KT} {v : Value} {b o : Nat} {sp : List Value} (w : Own 1 v l.length b o (l.flatMap fk) sp) (s : St h0 Z ((b, o, l.flatMap fk ++ sp) :: E) h) (hl : l.length ≤ 4294967295)
    (H : ∀ h', Own 1 v l.reverse.length b o (l.reverse.flatMap fk) sp → St h0 Z ((b, o, l.reverse.flatMap fk ++ sp) :: E) h' → Q (.tuple #[]) h') : sl_Reverse_ss.call #[v] h Q := by
  refine sl_Reverse_ss.body _ _ _ ?_
  unfold sl_Reverse_ss.sh
  refine w.lenV ?_
  refine r_sub (z := (l.length : Int) - 1 - (0 : Nat)) (by rw [i64w (by omega) (by omega)]; omega) ?_
  refine loop_up (n := l.length) (fun j => [.int .i64 (j : Nat), .int .i64 ((l.length : Int) - 1 - (j : Nat))]) (fun j h => ∃ M, Turn l M j ∧ Own 1 v l.length b o (M.flatMap fk) sp ∧ St h0 Z ((b, o, M.flatMap fk ++ sp) :: E) h) ⟨l, Turn.start l, w, s⟩ ?_
  clear w s
  rintro j h hj ⟨M, t, w, s⟩ K HK
  unfold sl_Reverse_ss.l1.b
  refine r_cmpI ?_
  have hml := t.1
  refine r_if (fun hlt => ?_) (fun hge => ?_)
  · have hlt : (j : Int) < (l.length : Int) - 1 - (j : Nat) := by simpa using hlt
    obtain ⟨k, hk⟩ : ∃ k, k + j + 1 = l.length := ⟨l.length - 1 - j, by omega⟩
    have ek : (l.length : Int) - 1 - (j : Nat) = ((k : Nat) : Int) := by omega
    rw [ek]
    have hx : M[k]? = some M[k] := List.getElem?_eq_getElem (by omega)
    have hy : M[j]? = some M[j] := List.getElem?_eq_getElem (by omega)
    unfold sl_Reverse_ss.j2
    refine (w.rdl s 0 rfl).at (n := k) rfl fkl rfl hml.symm (by omega) fun b1 o1 hb => ?_
    refine hb.load0 rfl ?_
    refine (w.rdl s 0 rfl).at (n := j) rfl fkl rfl hml.symm (by omega) fun b2 o2 hb2 => ?_
    refine hb2.load0 rfl ?_
    refine w.idx (n := j) rfl (by omega) ?_
    refine s.r_store1 0 rfl (by rw [List.length_append, flat_len fkl]; omega) rfl fun h s => ?_
    have s : St h0 Z ((b, o, (M.flatMap fk ++ sp).set (j * 1) (kv M[k])) :: E) h := s
    rw [set_kv (by omega)] at s
    have w : Own 1 v l.length b o ((M.set j M[k]).flatMap fk) sp := Own.ren w (by rw [flat_len fkl, flat_len fkl, List.length_set])
    refine w.idx (n := k) rfl (by omega) ?_
    refine s.r_store1 0 rfl (by rw [List.length_append, flat_len fkl, List.length_set]; omega) rfl fun h s => ?_
    have s : St h0 Z ((b, o, ((M.set j M[k]).flatMap fk ++ sp).set (k * 1) (kv M[j])) :: E) h := s
    rw [set_kv (by rw [List.length_set]; omega)] at s
    have w : Own 1 v l.length b o (((M.set j M[k]).set k M[j]).flatMap fk) sp := Own.ren w (by rw [flat_len fkl, flat_len fkl, List.length_set])
    unfold sl_Reverse_ss.j3
    refine r_add (z := ((j + 1 : Nat) : Int)) (by rw [i64w (by omega) (by omega)]; omega) ?_
    refine r_sub (z := (l.length : Int) - 1 - (j + 1 : Nat)) (by rw [i64w (by omega) (by omega)]; omega) ?_
    exact HK h (by omega) ⟨_, t.step hk (by omega) hx hy, w, s⟩
  · have hge : ¬ (j : Int) < (l.length : Int) - 1 - (j : Nat) := by simpa using hge
    have e := t.stop (by omega)
    subst e
    exact H h (by rw [List.length_reverse]; exact w) s

theorem turned_ok {hA : Heap} {l : List KT} {v : Value} (hr : Rdl 1 hA v l.length (l.flatMap fk)) (hl : l.length ≤ 4294967295)
    (H : ∀ v b o sp E' h', Own 1 v l.reverse.length b o (l.reverse.flatMap fk) sp → St hA [] ((b, o, l.reverse.flatMap fk ++ sp) :: E') h' → Q v h') : l_turned_s.call #[v] hA Q := by
  refine l_turned_s.body _ _ _ ?_
  unfold l_turned_s.sh
  refine sl_Clone_ss.body _ _ _ ?_
  unfold sl_Clone_ss.sh
  have s := St.start hA
  obtain ⟨a, cap, e, h1, h2, h3⟩ := id hr
  refine ⟨a, l.length, cap, e, ?_⟩
  refine r_if (fun hn => ?_) (fun hn => ?_)
  · have hz : l = [] := by
      cases l with
      | nil => rfl
      | cons x l =>
        obtain ⟨b, o, ha, _⟩ := h2 (by simp)
        rw [ha] at hn; simp at hn
    subst hz
    exact Reverse_ok (l := []) (Own.nil 1 0 0) (s.empty 0 0) (by simp) fun h' w s => H _ 0 0 [] _ h' w s
  · unfold sl_Clone_ss.j1
    refine St.r_mkSl (sz := 1) (cs := []) s (by ((simp only [fillV, fill1, Value.cells, zeros_succ, zeros_zero, List.size_toArray, List.length_cons, List.length_nil, List.length_append, List.take_succ_cons, List.take_zero, List.take_nil, List.drop_succ_cons, List.drop_zero, List.drop_nil, List.cons_append, List.nil_append, List.append_nil, Nat.reduceAdd, Nat.reduceMul, Nat.reduceLeDiff, Nat.reduceEqDiff, and_self, and_true, true_and, if_true, Nat.le_refl, Nat.zero_add, Nat.add_zero, Nat.zero_mul, reduceIte, if_false] <;> rfl))) rfl fun q h s w1 => ?_
    refine St.r_app s 0 (sz := 1) (n := l.length) (new := l.flatMap fk) rfl w1 rfl (hr.st s) (by rw [flat_kv]; intro y hy; obtain ⟨x, _, rfl⟩ := List.mem_map.1 hy; rfl) (by omega) (by omega) fun v' b' o' sp' h s w' => ?_
    rw [Nat.zero_add] at w'
    exact Reverse_ok (l := l) (E := []) w' s (by omega) fun h' w s => H _ b' o' sp' _ h' w s
end Go.Proofs.Ytfojeibloilneaa.Su
