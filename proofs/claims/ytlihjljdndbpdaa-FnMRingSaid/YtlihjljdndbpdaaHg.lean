/-
  The state of a walk as a list of owned ranges of cells (E), a list of ranges that nobody writes any more (Z), and the first heap, which stays as it was.
  Conditions: none.
-/
import Derived.Test.YtlihjljdndbpdaaHh
namespace Go.Hp
open Go.RowKit
set_option linter.unusedVariables false
set_option linter.unusedSimpArgs false

/-- A range: its block, where it begins, its cells. -/
abbrev Rg := Nat × Nat × List Value
def Rg.Ok (h : Heap) (r : Rg) : Prop := ∀ j, j < r.2.2.length → cl h r.1 (r.2.1 + j) = r.2.2[j]? ∧ fz h r.1 (r.2.1 + j) = false
def Disj (r s : Rg) : Prop := ∀ i j, i < r.2.2.length → j < s.2.2.length → r.1 = s.1 → r.2.1 + i ≠ s.2.1 + j
theorem Disj.symm {r s : Rg} (h : Disj r s) : Disj s r := fun i j hi hj e e' => h j i hj hi e.symm e'.symm
/-- The number of the program's types. -/
abbrev TN : Nat := 290
structure St (h0 : Heap) (Z E : List Rg) (h : Heap) : Prop where
  fr : Fr (fun _ _ => False) h0 h
  z : ∀ r, r ∈ Z → r.Ok h
  e : ∀ r, r ∈ E → r.Ok h ∧ (r.2.2 ≠ [] → h0.size ≤ r.1)
  ze : ∀ r s, r ∈ Z → s ∈ E → Disj r s
  nd : E.Pairwise Disj
  tw : ∀ b t n, h0.size ≤ b → shp h b = some (t, n) → t < TN
theorem shp_lt {h : Heap} {b n : Nat} {t : TypeId} (hs : shp h b = some (t, n)) : b < h.size := by
  rcases Nat.lt_or_ge b h.size with h1 | h1
  · exact h1
  · unfold shp at hs; rw [Array.getElem?_eq_none h1] at hs; cases hs

variable {h0 h : Heap} {Z E : List Rg}
theorem St.start (h : Heap) : St h [] [] h := ⟨Fr.refl _ _, fun _ e => (List.not_mem_nil e).elim, fun _ e => (List.not_mem_nil e).elim, fun _ _ e => (List.not_mem_nil e).elim, List.Pairwise.nil, fun b t n hb hs => absurd (shp_lt hs) (Nat.not_lt.2 hb)⟩

theorem Rg.Ok.lt {r : Rg} (k : r.Ok h) {j : Nat} (hj : j < r.2.2.length) : r.1 < h.size := by
  have := (k j hj).1
  rw [List.getElem?_eq_getElem hj] at this
  exact lt_of_cell this
theorem Rg.Ok.fr {W : Nat → Nat → Prop} {h' : Heap} {r : Rg} (k : r.Ok h) (f : Fr W h h') (hw : ∀ j, j < r.2.2.length → ¬ W r.1 (r.2.1 + j)) : r.Ok h' := fun j hj =>
  ⟨(f.cells _ _ (k.lt hj) (hw j hj)).trans (k j hj).1, (f.fz _ _).trans (k j hj).2⟩

/-- What has not been written stays. -/
theorem St.still (s : St h0 Z E h) {h' : Heap} (k : Fr (fun _ _ => False) h h') (hn : ∀ b t n, h.size ≤ b → shp h' b = some (t, n) → t < TN) : St h0 Z E h' :=
  ⟨s.fr.trans k (fun _ _ _ e => e), fun r hr => (s.z r hr).fr k (fun _ _ e => e), fun r hr => ⟨(s.e r hr).1.fr k (fun _ _ e => e), (s.e r hr).2⟩, s.ze, s.nd, fun b t n hb hs => (Nat.lt_or_ge b h.size).elim (fun hl => s.tw b t n hb ((k.shp b hl).symm.trans hs)) (fun hl => hn b t n hl hs)⟩
theorem St.sub (s : St h0 Z E h) {E' : List Rg} (k : E'.Sublist E) : St h0 Z E' h :=
  ⟨s.fr, s.z, fun r hr => s.e r (k.subset hr), fun r q hr hq => s.ze r q hr (k.subset hq), s.nd.sublist k, s.tw⟩
theorem St.perm (s : St h0 Z E h) {E' : List Rg} (k : E'.Perm E) : St h0 Z E' h :=
  ⟨s.fr, s.z, fun r hr => s.e r (k.mem_iff.1 hr), fun r q hr hq => s.ze r q hr (k.mem_iff.1 hq), (k.pairwise_iff (fun h => h.symm)).2 s.nd, s.tw⟩
theorem St.front (s : St h0 Z E h) (k : Nat) {r : Rg} (hk : E[k]? = some r) : St h0 Z (r :: E.eraseIdx k) h := by
  refine s.perm ?_
  obtain ⟨h1, h2⟩ := List.getElem?_eq_some_iff.1 hk
  rw [List.eraseIdx_eq_take_drop_succ, ← h2]
  refine List.perm_middle.symm.trans ?_
  rw [← List.drop_eq_getElem_cons h1, List.take_append_drop]
theorem St.tail (s : St h0 Z E h) {r : Rg} {E' : List Rg} (e : E = r :: E') : St h0 Z E' h := s.sub (by rw [e]; exact List.sublist_cons_self _ _)
theorem St.drop (s : St h0 Z E h) (n : Nat) : St h0 Z (E.drop n) h := s.sub (List.drop_sublist _ _)
theorem St.empty (s : St h0 Z E h) (b o : Nat) : St h0 Z ((b, o, []) :: E) h :=
  ⟨s.fr, s.z, fun r hr => (List.mem_cons.1 hr).elim (fun e => by subst e; exact ⟨fun j hj => absurd hj (Nat.not_lt_zero _), fun hh => absurd rfl hh⟩) (s.e r),
   fun r q hr hq => (List.mem_cons.1 hq).elim (fun e => by subst e; exact fun i j _ hj => absurd hj (Nat.not_lt_zero _)) (s.ze r q hr),
   List.pairwise_cons.2 ⟨fun q _ i j hi => absurd hi (Nat.not_lt_zero _), s.nd⟩, s.tw⟩
/-- What is not written any more. -/
theorem St.freeze (s : St h0 Z E h) {A E' : List Rg} (e : E.Perm (A ++ E')) : St h0 (A ++ Z) E' h := by
  have s := s.perm e.symm
  refine ⟨s.fr, fun r hr => ?_, fun r hr => s.e r (List.mem_append.2 (.inr hr)), fun r q hr hq => ?_, s.nd.sublist (List.sublist_append_right _ _), s.tw⟩
  · rcases List.mem_append.1 hr with h | h
    · exact (s.e r (List.mem_append.2 (.inl h))).1
    · exact s.z r h
  · rcases List.mem_append.1 hr with h | h
    · exact (List.pairwise_append.1 s.nd).2.2 r h q hq
    · exact s.ze r q h (List.mem_append.2 (.inr hq))

theorem St.push (s : St h0 Z E h) (cs : List Value) (t : TypeId) (ht : t < TN) : St h0 Z ((h.size, 0, cs) :: E) (h.push (.cells cs.toArray t)) := by
  have s' := s.still ((Fr.refl _ h).push cs.toArray t) (fun b t' n hb hs => by
    have hl := shp_lt hs
    rw [Array.size_push] at hl
    have : b = h.size := by omega
    subst this
    unfold shp at hs
    rw [Array.getElem?_push_size] at hs
    simp only [Option.some.injEq, Prod.mk.injEq] at hs
    exact hs.1 ▸ ht)
  have lt : ∀ q : Rg, q.Ok h → Disj q (h.size, 0, cs) := fun q hq i j hi hj e => by
    have := hq.lt hi; simp only at e; omega
  refine ⟨s'.fr, s'.z, fun r hr => ?_, fun r q hr hq => ?_, List.pairwise_cons.2 ⟨fun q hq => (lt q (s.e q hq).1).symm, s.nd⟩, s'.tw⟩
  · rcases List.mem_cons.1 hr with e | e
    · subst e
      refine ⟨fun j hj => ⟨?_, ?_⟩, fun _ => s.fr.size⟩
      · simp only [Nat.zero_add]; rw [cl_push_eq]; simp
      · exact fz_blk get_push_eq
    · exact s'.e r e
  · rcases List.mem_cons.1 hq with e | e
    · subst e; exact lt r (s.z r hr)
    · exact s.ze r q hr e

theorem St.get (s : St h0 Z E h) {k b o : Nat} {xs : List Value} (hk : E[k]? = some (b, o, xs)) {j : Nat} (hj : j < xs.length) : cl h b (o + j) = xs[j]? := ((s.e _ (List.mem_of_getElem? hk)).1 j hj).1
theorem St.wrs (s : St h0 Z E h) {k b o : Nat} {xs : List Value} (hk : E[k]? = some (b, o, xs)) {j : Nat} (hj : j < xs.length) : wr h ⟨b, o + j, none⟩ := by
  have h1 := ((s.e _ (List.mem_of_getElem? hk)).1 j hj)
  refine wr_of (x := xs[j]) ?_ h1.2
  rw [h1.1, List.getElem?_eq_getElem hj]
theorem St.getZ (s : St h0 Z E h) {b o : Nat} {xs : List Value} (hk : (b, o, xs) ∈ Z) {j : Nat} (hj : j < xs.length) : cl h b (o + j) = xs[j]? := ((s.z _ hk) j hj).1

theorem St.upd (s : St h0 Z E h) {k b o : Nat} {xs : List Value} (hk : E[k]? = some (b, o, xs)) {j : Nat} (hj : j < xs.length) (v : Value) : St h0 Z (E.set k (b, o, xs.set j v)) (put h ⟨b, o + j, none⟩ v) := by
  have hm := List.mem_of_getElem? hk
  have hkl : k < E.length := (List.getElem?_eq_some_iff.1 hk).1
  have hkg : E[k] = (b, o, xs) := (List.getElem?_eq_some_iff.1 hk).2
  obtain ⟨hok, hs⟩ := s.e _ hm
  have hsz : h0.size ≤ b := hs (fun e => by simp only at e; subst e; simp at hj)
  have hfr := Fr.put1 (h := h) b (o + j) v
  have len : ∀ q : Rg, Disj q (b, o, xs) → Disj q (b, o, xs.set j v) := fun q hq i i' hi hi' => by
    simp only [List.length_set] at hi'; exact hq i i' hi hi'
  have other : ∀ q : Rg, Disj q (b, o, xs) → q.Ok h → q.Ok (put h ⟨b, o + j, none⟩ v) := fun q hd hq => hq.fr hfr fun i hi ⟨e1, e2⟩ => hd i j hi hj e1 e2
  have hp := List.pairwise_iff_getElem.1 s.nd
  have dis : ∀ i (hi : i < E.length), i ≠ k → Disj E[i] (b, o, xs) := fun i hi hne => by
    rcases Nat.lt_or_ge i k with hl | hl
    · have := hp i k hi hkl hl; rwa [hkg] at this
    · have := hp k i hkl hi (by omega); rw [hkg] at this; exact this.symm
  refine ⟨s.fr.trans hfr fun x i hx ⟨e1, _⟩ => by subst e1; omega, fun r hr => other r (s.ze r _ hr hm) (s.z r hr), fun r hr => ?_, fun r q hr hq => ?_, ?_, fun b' t' n' hb' hs' => s.tw b' t' n' hb' (by
    rcases Nat.lt_or_ge b' h.size with hl | hl
    · rw [← hfr.shp b' hl]; exact hs'
    · exact absurd (shp_lt hs') (by rw [show (put h ⟨b, o + j, none⟩ v).size = h.size from Array.size_modify ..]; omega))⟩
  · obtain ⟨i, hi, rfl⟩ := List.getElem_of_mem hr
    simp only [List.length_set] at hi
    rw [List.getElem_set]
    split
    · refine ⟨fun i' hi' => ?_, fun _ => hsz⟩
      simp only [List.length_set] at hi'
      refine ⟨?_, by rw [fz, fz_put]; exact (hok i' hi').2⟩
      obtain ⟨c, hc⟩ : ∃ c, cl h b (o + j) = some c := ⟨xs[j], by rw [(hok j hj).1]; exact List.getElem?_eq_getElem hj⟩
      simp only
      rw [cl_put hc, List.getElem?_set]
      by_cases e : j = i'
      · subst e; simp [hj]
      · rw [if_neg (by omega), if_neg e]; exact (hok i' hi').1
    · rename_i hne
      exact ⟨other _ (dis i hi (Ne.symm hne)) (s.e _ (List.getElem_mem hi)).1, (s.e _ (List.getElem_mem hi)).2⟩
  · obtain ⟨i, hi, rfl⟩ := List.getElem_of_mem hq
    simp only [List.length_set] at hi
    rw [List.getElem_set]
    split
    · exact len r (s.ze r _ hr hm)
    · exact s.ze r _ hr (List.getElem_mem hi)
  · refine List.pairwise_iff_getElem.2 fun i1 i2 h1 h2 h12 => ?_
    have h1' : i1 < E.length := by simpa using h1
    have h2' : i2 < E.length := by simpa using h2
    rw [List.getElem_set, List.getElem_set]
    by_cases e1 : k = i1
    · rw [if_pos e1, if_neg (by omega)]
      exact (len _ (dis i2 h2' (by omega))).symm
    · rw [if_neg e1]
      by_cases e2 : k = i2
      · rw [if_pos e2]; exact len _ (dis i1 h1' (by omega))
      · rw [if_neg e2]; exact hp i1 i2 h1' h2' h12

/-- Writing cells of a range. -/
theorem St.puts {k b o : Nat} : ∀ (ys : List Value) (j i : Nat) {xs : List Value} {E : List Rg} {h : Heap} {K : Heap → Prop}, St h0 Z E h → E[k]? = some (b, o, xs) → (∀ y ∈ ys, one1 y = true) → j + i + ys.length ≤ xs.length →
    (∀ h', St h0 Z (E.set k (b, o, xs.take (j + i) ++ ys ++ xs.drop (j + i + ys.length))) h' → K h') → putsAt ⟨b, o + j, none⟩ ys i h K
  | [], j, i, xs, E, h, K, s, hk, hy, hl, H => by
    refine H h ?_
    have hkg : E[k]? = some (b, o, xs) := hk
    have : E.set k (b, o, xs.take (j + i) ++ [] ++ xs.drop (j + i + 0)) = E := by
      simp only [List.append_nil, Nat.add_zero, List.take_append_drop]
      obtain ⟨h1, h2⟩ := List.getElem?_eq_some_iff.1 hk
      rw [← h2, List.set_getElem_self]
    rw [show ([] : List Value).length = 0 from rfl, this]; exact s
  | y :: r, j, i, xs, E, h, K, s, hk, hy, hl, H => by
    simp only [List.length_cons] at hl
    have hkl : k < E.length := (List.getElem?_eq_some_iff.1 hk).1
    have hji : j + i < xs.length := by omega
    have s1 := s.upd hk hji y
    rw [← Nat.add_assoc] at s1
    refine ⟨hy y (List.mem_cons_self ..), ?_, ?_⟩
    · rw [add_mk]; have := s.wrs hk hji; rwa [← Nat.add_assoc] at this
    · rw [add_mk]
      refine St.puts r j (i + 1) s1 (List.getElem?_set_self hkl) (fun y' hy' => hy y' (List.mem_cons_of_mem _ hy')) (by simp; omega) fun h' s' => ?_
      refine H h' ?_
      rw [List.set_set] at s'
      have : (xs.set (j + i) y).take (j + (i + 1)) ++ r ++ (xs.set (j + i) y).drop (j + (i + 1) + r.length) = xs.take (j + i) ++ y :: r ++ xs.drop (j + i + (r.length + 1)) := by
        rw [List.drop_set_of_lt (by omega), ← Nat.add_assoc j i 1, show j + i + 1 + r.length = j + i + (r.length + 1) by omega]
        congr 1
        rw [List.take_add_one, List.take_set_of_le (Nat.le_refl _), List.getElem?_set_self hji]
        simp
      rw [this] at s'
      exact s'
end Go.Hp
