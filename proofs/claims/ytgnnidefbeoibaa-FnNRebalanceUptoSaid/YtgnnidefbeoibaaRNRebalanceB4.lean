/-
  Texts of this claim, laid together: Na Nh Ni Nb Nc Nd Ne Nf Nj Nk Nl Nq Nv Nr Ua Ub Uc Ud Ue Uf Ug Uh.
  Conditions: as each of them tells.
-/
import Derived.Test.YtgnnidefbeoibaaRNRebalanceB3
section
namespace Go.Proofs.Ytgnnidefbeoibaa.Gi
open Go.Hp Go.Proofs.Ytgnnidefbeoibaa
set_option linter.unusedVariables false
set_option linter.unusedSimpArgs false
variable {h0 h : Heap} {Z E : List Rg} {Q : Value → Heap → Prop} {ow : List Int} {ov : Value}
theorem s_Rank_ok {k : Int} (ho : OwAt h ow ov) (H : Q (.int .i64 (rnk ow k)) h) : s_Rank.call #[ov, .int .i64 k] h Q := by
  have hr := ho.rd
  have hl := ho.le
  refine s_Rank.body _ _ _ _ ?_
  unfold s_Rank.sh
  refine hr.lenV ?_
  refine r_cmpI ?_
  refine r_if (fun e => ?_) (fun e => ?_)
  · have : ow = [] := by have : ow.length = 0 := by simpa using e
                         exact List.length_eq_zero_iff.1 this
    unfold rnk at H; rw [if_pos this] at H; exact H
  · have hne : ow ≠ [] := fun e2 => by subst e2; simp at e
    have hpos : 1 ≤ ow.length := by have := List.length_pos_iff.2 hne; omega
    unfold s_Rank.j1
    have hn0 : (ow.length : Int) ≠ 0 := by omega
    have hb1 : k.tmod ow.length < ow.length := Int.tmod_lt_of_pos k (by omega)
    have hb2 : -(ow.length : Int) < k.tmod ow.length := by
      have := Int.lt_tmod_of_pos k (show (0 : Int) < ow.length by omega)
      omega
    refine ⟨.i64, _, _, rfl, rfl, hn0, ?_⟩
    refine r_add (z := k.tmod ow.length + ow.length) (i64w (by omega) (by omega)) ?_
    refine ⟨.i64, _, _, rfl, rfl, hn0, ?_⟩
    have e3 : (k.tmod ow.length + ow.length).tmod ow.length = k % ow.length := by
      rw [Int.tmod_eq_emod_of_nonneg (by omega), Int.add_emod_right]
      have e1 := Int.mul_tdiv_add_tmod k ow.length
      conv => rhs; rw [← e1, Int.add_comm, Int.add_mul_emod_self_left]
    rw [e3]
    have hm0 : 0 ≤ k % (ow.length : Int) := Int.emod_nonneg _ (by omega)
    have hm1 : k % (ow.length : Int) < ow.length := Int.emod_lt_of_pos _ (by omega)
    have hlt : (k % (ow.length : Int)).toNat < ow.length := by generalize k % (ow.length : Int) = z at *; omega
    refine hr.at (n := (k % (ow.length : Int)).toNat) (f := fi) rfl fil (Int.toNat_of_nonneg hm0).symm rfl hlt fun b o hb => ?_
    refine hb.load0 rfl ?_
    unfold rnk at H
    rw [if_neg hne, List.getElem?_eq_getElem hlt] at H
    exact H
theorem s_Before_ok {p q : It} (ho : OwAt h ow ov) (H : ∀ E' h', St h [] E' h' → Q (.bool (ltO ow p q)) h') : s_Before.call #[ov, av p, av q] h Q := by
  refine s_Before.body _ _ _ _ _ ?_
  unfold s_Before.sh
  have s := St.start h
  refine St.r_box (cs := enc p) s fun t4 h s => ?_
  refine St.r_box (cs := enc q) s fun t5 h s => ?_
  refine r_fld ?_
  refine St.r_load0 s 1 rfl rfl ?_
  refine r_fld ?_
  refine St.r_load0 s 0 rfl rfl ?_
  refine s_Rank_ok (ho.st s) ?_
  refine ⟨St.r_still0 s 0 rfl rfl, ?_⟩
  refine s_Rank_ok (ho.st s) ?_
  refine r_cmpI ?_
  exact H _ _ s
theorem s_Rising_ok {l : List It} {v : Value} (ho : OwAt h ow ov) (hr : Rdl 2 h v l.length (l.flatMap enc)) (hl : l.length ≤ 4611686018427387903) (H : ∀ (b : Bool) E' h', (b = true ↔ Asc (ltO ow) l) → St h [] E' h' → Q (.bool b) h') : s_Rising.call #[ov, v] h Q := by
  have key : Asc (ltO ow) l ↔ ∀ i (h1 : i + 1 < l.length), ltO ow l[i] l[i + 1] = true := by
    unfold Go.Hp.Asc
    rw [List.pairwise_iff_getElem]
    constructor
    · intro k i h1; exact k i (i + 1) (by omega) h1 (by omega)
    · intro k i j h1 h2 h3
      induction j with
      | zero => omega
      | succ j ih =>
        rcases Nat.lt_or_ge i j with h4 | h4
        · exact (swoO ow).tr _ _ _ (ih (by omega) h4) (k j h2)
        · have : i = j := by omega
          subst this; exact k i h2
  refine s_Rising.body _ _ _ _ ?_
  unfold s_Rising.sh
  have s := St.start h
  refine loop_intro (fun t h' => ∃ (j : Nat) (E' : List Rg), t = [.int .i64 ((j + 1 : Nat) : Int)] ∧ (j ≤ l.length) ∧ (∀ i (h1 : i + 1 < l.length), i < j → ltO ow l[i] l[i + 1] = true) ∧ St h [] E' h') (fun t _ => l.length + 1 - (Hp.iv (t.getD 0 undef)).toNat) ⟨0, [], rfl, by omega, fun i h1 h2 => by omega, s⟩ ?_
  rintro t h' ⟨j, E', rfl, hj, hlt, s⟩
  unfold s_Rising.l2.b
  refine (hr.st s).lenV ?_
  refine r_cmpI ?_
  refine r_if (fun e => ?_) (fun e => ?_)
  · have e : j + 1 < l.length := by have := of_decide_eq_true e; simp at this; omega
    unfold s_Rising.j3
    refine r_sub (z := (j : Int)) (by rw [i64w (by omega) (by omega)]; omega) ?_
    refine (hr.st s).at rfl (fun _ => rfl) rfl rfl (show j < l.length by omega) fun b o hb => ?_
    refine hb.loadN rfl ?_
    refine (hr.st s).at rfl (fun _ => rfl) rfl rfl e fun b o hb => ?_
    refine hb.loadN rfl ?_
    refine s_Before_ok (p := l[j]) (q := l[j + 1]) (ho.st s) fun E2 h s2 => ?_
    have s := s.join s2
    refine r_not ?_
    refine r_if (fun e2 => ?_) (fun e2 => ?_)
    · refine H false _ _ ⟨fun e => (by cases e), fun ha => ?_⟩ s
      have h1 := key.1 ha j e
      rw [h1] at e2; cases e2
    · unfold s_Rising.j4
      refine r_add (z := ((j + 1 + 1 : Nat) : Int)) (by rw [i64w (by omega) (by omega)]; omega) ?_
      refine ⟨⟨j + 1, _, rfl, by omega, fun i h1 h2 => ?_, s⟩, by simp; omega⟩
      rcases Nat.lt_or_ge i j with h3 | h3
      · exact hlt i h1 h3
      · have : i = j := by omega
        subst this; simpa using e2
  · have e : ¬ j + 1 < l.length := by have := of_decide_eq_false e; simp at this; omega
    unfold s_Rising.j1
    exact H true _ _ ⟨fun _ => key.2 fun i h1 => hlt i h1 (by omega), fun _ => rfl⟩ s
end Go.Proofs.Ytgnnidefbeoibaa.Gi
end
section
namespace Go.Proofs.Ytgnnidefbeoibaa.Gi
open Go.Hp Go.Proofs.Ytgnnidefbeoibaa
set_option linter.unusedVariables false
set_option linter.unusedSimpArgs false
variable {h0 h : Heap} {Z E : List Rg} {Q : Value → Heap → Prop}

theorem one_encA : ∀ (l : List It) (y : Value), y ∈ l.flatMap enc → one1 y = true := fun l y hy => by
  obtain ⟨p, _, hp⟩ := List.mem_flatMap.1 hy
  simp only [List.mem_cons, List.not_mem_nil, or_false] at hp
  rcases hp with rfl | rfl <;> rfl

theorem s_NodeItems_own : ∀ {k : Nat} (t : DT k) {h : Heap} {vi vk vc : Value} {Q : Value → Heap → Prop}, ArgD h t vi vk → t.bulk ≤ 1073741824 → one1 vc = true →
    (∀ v b o sp E' h', St h [] ((b, o, t.items.flatMap enc ++ sp) :: E') h' → Own 2 v t.items.length b o (t.items.flatMap enc) sp → Q v h') → s_NodeItems.call #[.agg #[vi, vk, vc]] h Q
  | 0, e, _, _, _, _, _, _, _, _, _ => e.elim
  | k + 1, t, h, vi, vk, vc, Q, ⟨hr, cs, hcl, hrk, hks⟩, hb, hvc, H => by
    have hbulk : 1 + t.1.length + (t.2.map DT.bulk).sum ≤ 1073741824 := hb
    have hkl : t.2.length ≤ (t.2.map DT.bulk).sum := sum_ge_length DT.bulk (fun a => by
      cases k with
      | zero => exact a.elim
      | succ k => show 1 ≤ 1 + _ + _; omega) t.2
    have hit : t.items = inter t.1 (t.2.map DT.items) := rfl
    have hin := inter_pre2 t.1 (t.2.map DT.items)
    have hil := DT.items_le t
    rw [List.length_map] at hin
    refine s_NodeItems.body _ _ _ ?_
    unfold s_NodeItems.sh
    have s := St.start h
    refine St.r_box (cs := [vi, vk, vc]) s fun b h s => ?_
    refine r_fld ?_
    refine St.r_load0 s 0 rfl rfl ?_
    refine (hrk.st s).lenV ?_
    refine r_fld ?_
    refine St.r_load0 s 0 rfl rfl ?_
    refine (hr.st s).lenV ?_
    have hmax : (if (t.1.length : Int) > (cs.length : Int) then (t.1.length : Int) else (cs.length : Int)) = ((max t.2.length t.1.length : Nat) : Int) := by split <;> omega
    refine ⟨_, _, _, rfl, rfl, ?_⟩
    rw [hmax]
    refine loop_intro (fun l h' => ∃ (j : Nat) (v : Value) (rb ro : Nat) (sp : List Value) (E' : List Rg), j ≤ max t.2.length t.1.length ∧ l = [v, .int .i64 j] ∧ St _ [] ((b, 0, [vi, vk, vc]) :: (rb, ro, (pre2 t.1 (t.2.map DT.items) j).flatMap enc ++ sp) :: E') h' ∧
        Own 2 v (pre2 t.1 (t.2.map DT.items) j).length rb ro ((pre2 t.1 (t.2.map DT.items) j).flatMap enc) sp) (fun l _ => max t.2.length t.1.length - (Hp.iv (l.getD 1 undef)).toNat)
      ⟨0, _, 0, 0, [], [], by omega, rfl, (s.empty 0 0).perm (by simp only [pre2]; ((apply perm_rg; intro f; simp only [List.set_cons_zero, List.set_cons_succ, List.eraseIdx_cons_zero, List.eraseIdx_cons_succ, List.cons_append, List.nil_append, List.map_append, List.map_cons, List.map_nil, List.sum_append, List.sum_cons, List.sum_nil, List.map_flatMap, Nat.add_zero, Nat.zero_add]; ac_rfl))), Own.nil 2 0 0⟩ ?_
    rintro l h ⟨j, v, rb, ro, sp, E', hj, rfl, s, w⟩
    unfold s_NodeItems.l2.b
    refine r_cmpI ?_
    refine r_if (fun hlt => ?_) (fun hge => ?_)
    · have hlt : j < max t.2.length t.1.length := by have := of_decide_eq_true hlt; simp at this; omega
      have hps := pre2_succ t.1 (t.2.map DT.items) j
      have hpl := pre2_le (its := t.1) (ks := t.2.map DT.items) (show j + 1 ≤ max t.2.length t.1.length from hlt)
      rw [← hin, ← hit] at hpl
      have hpl' := congrArg List.length hps
      simp only [List.length_append] at hpl'
      -- behind the kid's items
      have step : ∀ (A : List It), A = pre2 t.1 (t.2.map DT.items) j ++ (t.2.map DT.items)[j]?.getD [] → ∀ (v : Value) (rb ro : Nat) (sp : List Value) (E' : List Rg) (h : Heap), St _ [] ((b, 0, [vi, vk, vc]) :: (rb, ro, A.flatMap enc ++ sp) :: E') h →
          Own 2 v A.length rb ro (A.flatMap enc) sp →
          s_NodeItems.j5 (ptr b 0) v (.int .i64 j) (.int .i64 ((max t.2.length t.1.length : Nat) : Int)) (.int .i64 j) h (fun l' h' => (∃ (j : Nat) (v : Value) (rb ro : Nat) (sp : List Value) (E' : List Rg), j ≤ max t.2.length t.1.length ∧ l' = [v, .int .i64 j] ∧ St _ [] ((b, 0, [vi, vk, vc]) :: (rb, ro, (pre2 t.1 (t.2.map DT.items) j).flatMap enc ++ sp) :: E') h' ∧
            Own 2 v (pre2 t.1 (t.2.map DT.items) j).length rb ro ((pre2 t.1 (t.2.map DT.items) j).flatMap enc) sp) ∧ max t.2.length t.1.length - (Hp.iv (l'.getD 1 undef)).toNat < max t.2.length t.1.length - j) Q := fun A hA v rb ro sp E' h s w => by
        have hAl := congrArg List.length hA
        rw [List.length_append] at hAl
        unfold s_NodeItems.j5
        refine r_fld ?_
        refine St.r_load0 s 0 rfl rfl ?_
        refine (hr.st s).lenV ?_
        refine r_cmpI ?_
        refine r_if (fun e => ?_) (fun e => ?_)
        · have e : j < t.1.length := by simpa using e
          refine r_fld ?_
          refine St.r_load0 s 0 rfl rfl ?_
          refine (hr.st s).at rfl (fun _ => rfl) rfl rfl e fun b' o' hb' => ?_
          refine hb'.loadN rfl ?_
          refine s.r_mkSl (sz := 2) (cs := enc t.1[j]) (by ((simp only [fillV, fill1, Value.cells, zeros_succ, zeros_zero, List.size_toArray, List.length_cons, List.length_nil, List.length_append, List.take_succ_cons, List.take_zero, List.take_nil, List.drop_succ_cons, List.drop_zero, List.drop_nil, List.cons_append, List.nil_append, List.append_nil, Nat.reduceAdd, Nat.reduceMul, Nat.reduceLeDiff, Nat.reduceEqDiff, and_self, and_true, true_and, if_true, Nat.le_refl, Nat.zero_add, Nat.add_zero, Nat.zero_mul, reduceIte, if_false] <;> rfl))) rfl fun q h s wq => ?_
          refine s.r_app 2 (sz := 2) (n := 1) (new := enc t.1[j]) rfl w rfl (wq.rdl s 0 rfl) (by simp [one1]) (by omega) (by omega) fun v' b' o' sp' h s w' => ?_
          unfold s_NodeItems.j4
          refine r_add (z := ((j + 1 : Nat) : Int)) (by rw [i64w (by omega) (by omega)]; omega) ?_
          have hx : pre2 t.1 (t.2.map DT.items) (j + 1) = A ++ [t.1[j]] := by rw [hps, hA, List.getElem?_eq_getElem e, List.append_assoc]; rfl
          refine ⟨⟨j + 1, v', b', o', sp', E', hlt, rfl, ?_, ?_⟩, by simp; omega⟩
          · rw [hx, List.flatMap_append]
            have hsing : [t.1[j]].flatMap enc = enc t.1[j] := by simp
            rw [hsing]
            exact s.drop 1
          · rw [hx, List.flatMap_append, List.length_append]
            have hsing : [t.1[j]].flatMap enc = enc t.1[j] := by simp
            rw [hsing]
            exact w'
        · have e : ¬ j < t.1.length := by simpa using e
          unfold s_NodeItems.j4
          refine r_add (z := ((j + 1 : Nat) : Int)) (by rw [i64w (by omega) (by omega)]; omega) ?_
          have hx : pre2 t.1 (t.2.map DT.items) (j + 1) = A := by rw [hps, hA, List.getElem?_eq_none (by omega : t.1.length ≤ j)]; simp
          refine ⟨⟨j + 1, v, rb, ro, sp, E', hlt, rfl, ?_, ?_⟩, by simp; omega⟩
          · rw [hx]; exact s
          · rw [hx]; exact w
      unfold s_NodeItems.j3
      refine r_fld ?_
      refine St.r_load0 s 0 rfl rfl ?_
      refine (hrk.st s).lenV ?_
      refine r_cmpI ?_
      refine r_if (fun e => ?_) (fun e => ?_)
      · have e : j < t.2.length := by have := of_decide_eq_true e; omega
        refine r_fld ?_
        refine St.r_load0 s 0 rfl rfl ?_
        refine (hrk.st s).at (n := j) rfl (fun _ => rfl) rfl rfl (by omega) fun b' o' hb' => ?_
        refine hb'.loadN rfl ?_
        have hkb : t.2[j].bulk ≤ (t.2.map DT.bulk).sum := mem_le_sum (List.mem_map.2 ⟨_, List.getElem_mem e, rfl⟩)
        refine s_NodeItems_own t.2[j] ((hks j e (by omega)).fr s.fr) (by omega) rfl fun v' bb ob spb E2 h s2 wb => ?_
        have hv := wb.rdl s2 0 rfl
        have s := (s.join s2).perm List.perm_append_comm
        have hg : (t.2.map DT.items)[j]?.getD [] = t.2[j].items := by simp [e]
        refine s.r_app 1 (sz := 2) (n := t.2[j].items.length) (new := t.2[j].items.flatMap enc) rfl w rfl hv (one_encA _) (by rw [hg] at hpl'; omega) (by rw [hg] at hpl'; omega) fun v' b' o' sp' h s w' => ?_
        refine step _ rfl v' b' o' sp' (E' ++ (bb, ob, t.2[j].items.flatMap enc ++ spb) :: E2) h ?_ ?_
        · rw [hg, List.flatMap_append]; exact s
        · rw [hg, List.flatMap_append, List.length_append]; exact w'
      · have e : ¬ j < t.2.length := by have := of_decide_eq_false e; omega
        have hg : (t.2.map DT.items)[j]?.getD [] = [] := by simp [List.getElem?_eq_none (show t.2.length ≤ j by omega)]
        refine step _ rfl v rb ro sp E' h ?_ ?_
        · rw [hg, List.append_nil]; exact s
        · rw [hg, List.append_nil]; exact w
    · have hge : j = max t.2.length t.1.length := by have := of_decide_eq_false hge; simp at this; omega
      subst hge
      unfold s_NodeItems.j1
      rw [← hin, ← hit] at s w
      exact H v rb ro sp _ h (s.drop 1) w
theorem s_NodeItems_ok {k : Nat} (t : DT k) {h : Heap} {vi vk vc : Value} {Q : Value → Heap → Prop} (ha : ArgD h t vi vk) (hb : t.bulk ≤ 1073741824) (hvc : one1 vc = true)
    (H : ∀ v E' h', St h [] E' h' → Rdl 2 h' v t.items.length (t.items.flatMap enc) → Q v h') : s_NodeItems.call #[.agg #[vi, vk, vc]] h Q :=
  s_NodeItems_own t ha hb hvc fun v b o sp E' h' s w => H v _ h' s (w.rdl s 0 rfl)
end Go.Proofs.Ytgnnidefbeoibaa.Gi
end
section
namespace Go.Proofs.Ytgnnidefbeoibaa.Gi
open Go.Hp Go.Proofs.Ytgnnidefbeoibaa
set_option linter.unusedVariables false
set_option linter.unusedSimpArgs false
variable {h0 h : Heap} {Z E : List Rg} {Q : Value → Heap → Prop}

abbrev encN (c : Value × Value × Int) : List Value := [c.1, c.2.1, .int .i64 c.2.2]
theorem s_Levels_ok : ∀ {k : Nat} (t : DT k) {g : Heap} {vi vk vc : Value} {Q : Value → Heap → Prop}, ArgD g t vi vk → t.bulk ≤ 1073741824 → k ≤ 1099511627776 → one1 vc = true →
    (∀ E' h', St g [] E' h' → Q (.tuple #[.int .i64 t.lv.1, .bool t.lv.2]) h') → s_Levels.call #[.agg #[vi, vk, vc]] g Q
  | 0, e, _, _, _, _, _, _, _, _, _, _ => e.elim
  | k + 1, t, g, vi, vk, vc, Q, ⟨hr, cs, hcl, hrk, hks⟩, hb, hkb, hvc, H => by
    have hbulk := t.kids_le
    refine s_Levels.body _ _ _ ?_
    unfold s_Levels.sh
    have s := St.start g
    refine St.r_box (cs := [vi, vk, vc]) s fun b h s => ?_
    refine r_fld ?_
    refine St.r_load0 s 0 rfl rfl ?_
    refine (hrk.st s).lenV ?_
    refine r_cmpI ?_
    have hkb2 : ∀ j (hj : j < t.2.length), t.2[j].bulk ≤ 1073741824 := fun j hj => by
      have := t.kid_le (List.getElem_mem hj)
      omega
    match ht : t.2 with
    | [] =>
      have hlv : t.lv = (1, true) := by unfold DT.lv; rw [ht]
      rw [ht] at hcl
      refine r_if (fun _ => ?_) (fun e => absurd e (by simp at hcl; simp [hcl]))
      have := H _ _ s
      rw [hlv] at this
      exact this
    | q :: qs =>
      have htl : t.2.length = qs.length + 1 := by rw [ht]; rfl
      refine r_if (fun e => absurd (eq_of_beq e) (by omega)) (fun _ => ?_)
      unfold s_Levels.j1
      refine r_fld ?_
      refine St.r_load0 s 0 rfl rfl ?_
      refine (hrk.st s).lenV ?_
      refine r_fld ?_
      refine St.r_load0 s 0 rfl rfl ?_
      refine (hr.st s).lenV ?_
      refine r_add (z := ((t.1.length + 1 : Nat) : Int)) (by rw [i64w (by omega) (by omega)]; omega) ?_
      refine r_cmpI ?_
      refine r_if (fun e => ?_) (fun e => ?_)
      · have e : qs.length ≠ t.1.length := by simp at e; omega
        have hlv : t.lv = (0, false) := by unfold DT.lv; rw [ht]; simp only [if_neg e]
        have := H _ _ s
        rw [hlv] at this
        exact this
      · have e : qs.length = t.1.length := by simp at e; omega
        have hlv : t.lv = (q.lv.1 + 1, q.lv.2 && qs.all fun x => x.lv.2 && x.lv.1 == q.lv.1) := by
          conv => lhs; unfold DT.lv
          rw [ht]; simp only [if_pos e]
        unfold s_Levels.j2
        refine r_fld ?_
        refine St.r_load0 s 0 rfl rfl ?_
        refine (hrk.st s).at (n := 0) rfl (fun _ => rfl) rfl rfl (by omega) fun b' o' hb' => ?_
        refine hb'.loadN rfl ?_
        have hgg : ∀ j (hj : j < t.2.length), t.2[j] = (q :: qs)[j]'(by rw [← ht]; exact hj) := fun j hj => List.getElem_of_eq ht hj
        have hkq : ArgD g q cs[0].1 cs[0].2.1 := by have := hks 0 (by rw [ht]; simp) (by omega); rw [hgg] at this; exact this
        have hqb : q.bulk ≤ 1073741824 := by have := hkb2 0 (by rw [ht]; simp); rw [hgg] at this; exact this
        have hql := q.lv_le
        refine s_Levels_ok q (hkq.fr s.fr) hqb (by omega) rfl fun E2 h s2 => ?_
        have s := (s.join s2).perm List.perm_append_comm
        refine r_ext rfl ?_
        refine r_ext rfl ?_
        refine r_fld ?_
        refine St.r_load0 s 0 rfl rfl ?_
        refine hrk.slc (l := 1) (m := cs.length) ⟨_, _, rfl, by omega, by omega, rfl⟩ rfl (by omega) (Nat.le_refl _) fun vt hvt => ?_
        rw [show 1 * 3 = 1 * 3 from rfl, flat_drop (f := encN) (sz := 3) (fun _ => rfl), List.take_of_length_le (by rw [flat_len (f := encN) (sz := 3) (fun _ => rfl)]; simp)] at hvt
        refine (hvt.st s).lenV ?_
        refine loop_intro (fun l h' => ∃ (j : Nat) (bb : Bool) (E' : List Rg), j ≤ qs.length ∧ l = [.bool bb, .int .i64 j] ∧ bb = (q.lv.2 && (qs.take j).all fun x => x.lv.2 && x.lv.1 == q.lv.1) ∧ St g [] E' h') (fun l _ => qs.length - (Hp.iv (l.getD 1 undef)).toNat)
          ⟨0, _, _, by omega, rfl, by simp, s⟩ ?_
        rintro l h2 ⟨j, bb, E', hj, rfl, hbb, s⟩
        unfold s_Levels.l4.b
        refine r_cmpI ?_
        refine r_if (fun hlt => ?_) (fun hge => ?_)
        · have hlt : j < qs.length := by have := of_decide_eq_true hlt; simp at this; omega
          unfold s_Levels.j5
          have hdl : j < (cs.drop 1).length := by simp; omega
          have hvt2 : Rdl 3 h2 vt (cs.drop 1).length ((cs.drop 1).flatMap encN) := by rw [List.length_drop]; exact hvt.st s
          refine hvt2.at (n := j) rfl (fun _ => rfl) rfl rfl hdl fun b' o' hb' => ?_
          refine hb'.loadN rfl ?_
          refine s.r_alloc fun t7 h s => ?_
          have hkj : ArgD g qs[j] (cs.drop 1)[j].1 (cs.drop 1)[j].2.1 := by
            have := hks (j + 1) (by rw [ht]; simp; omega) (by omega)
            rw [hgg] at this
            simpa [Nat.add_comm] using this
          have hjb : qs[j].bulk ≤ 1073741824 := by have := hkb2 (j + 1) (by rw [ht]; simp; omega); rw [hgg] at this; exact this
          refine St.r_storeN0 s 0 rfl rfl (by simp) (by simp only [List.mem_cons, List.not_mem_nil, or_false]; intro y hy; rcases hy with rfl | rfl | rfl; exact hkj.one.1; exact hkj.one.2; rfl) ?_; intro h s
          refine St.r_loadN0 s 0 rfl (by simp) ?_
          have hjl := qs[j].lv_le
          refine s_Levels_ok qs[j] (hkj.fr s.fr) hjb (by omega) rfl fun E3 h s3 => ?_
          have s := s.join s3
          refine r_ext rfl ?_
          refine r_ext rfl ?_
          have fin : ∀ (b2 : Bool), b2 = (bb && (qs[j].lv.2 && qs[j].lv.1 == q.lv.1)) → s_Levels.j6 (.int .i64 q.lv.1) (.bool b2) vt (.int .i64 ((cs.length - 1 : Nat) : Int)) (.int .i64 j) h (fun l' h' => (∃ (j : Nat) (bb : Bool) (E' : List Rg), j ≤ qs.length ∧ l' = [.bool bb, .int .i64 j] ∧ bb = (q.lv.2 && (qs.take j).all fun x => x.lv.2 && x.lv.1 == q.lv.1) ∧ St g [] E' h') ∧
              qs.length - (Hp.iv (l'.getD 1 undef)).toNat < qs.length - j) Q := fun b2 hb2 => by
            unfold s_Levels.j6
            refine r_add (z := ((j + 1 : Nat) : Int)) (by rw [i64w (by omega) (by omega)]; omega) ?_
            refine ⟨⟨j + 1, b2, _, hlt, rfl, ?_, s⟩, by simp; omega⟩
            rw [hb2, hbb, List.take_succ_eq_append_getElem hlt, List.all_append]
            simp [Bool.and_assoc]
          refine r_br (fun e1 => ?_) (fun e1 => fin _ (by simp at e1; simp [e1]))
          refine r_br (fun e2 => ?_) (fun e2 => fin _ (by simp at e2; simp [e2]))
          refine r_cmpI ?_
          exact fin _ (by simp [e1, e2]; rw [Bool.eq_iff_iff]; simp; omega)
        · have hge : j = qs.length := by have := of_decide_eq_false hge; simp at this; omega
          subst hge
          unfold s_Levels.j3
          refine r_add (z := ((q.lv.1 + 1 : Nat) : Int)) (by rw [i64w (by omega) (by omega)]; omega) ?_
          have := H _ _ s
          rw [hlv] at this
          rw [hbb, List.take_length]
          exact this

theorem s_Filled_ok : ∀ {k : Nat} (t : DT k) {g : Heap} {vi vk vc : Value} {d least : Int} {Q : Value → Heap → Prop}, ArgD g t vi vk → t.bulk ≤ 1073741824 → 0 ≤ d → d ≤ 1073741824 → one1 vc = true →
    (∀ E' h', St g [] E' h' → Q (.bool (t.fl d least)) h') → s_Filled.call #[.int .i64 d, .int .i64 least, .agg #[vi, vk, vc]] g Q
  | 0, e, _, _, _, _, _, _, _, _, _, _, _, _, _ => e.elim
  | k + 1, t, g, vi, vk, vc, d, least, Q, ⟨hr, cs, hcl, hrk, hks⟩, hb, hd0, hd, hvc, H => by
    have hbulk := t.kids_le
    have hfl : t.fl d least = (decide (least ≤ t.1.length) && decide ((t.1.length : Int) ≤ 2 * d - 1) && t.2.all fun q => q.fl d (d - 1)) := rfl
    have no : ∀ {E' h'}, St g [] E' h' → t.fl d least = false → Q (.bool false) h' := fun s e => by have := H _ _ s; rwa [e] at this
    refine s_Filled.body _ _ _ _ _ ?_
    unfold s_Filled.sh
    have s := St.start g
    refine St.r_box (cs := [vi, vk, vc]) s fun b h s => ?_
    refine r_fld ?_
    refine St.r_load0 s 0 rfl rfl ?_
    refine (hr.st s).lenV ?_
    refine r_cmpI ?_
    refine r_br (fun e1 => ?_) (fun e1 => no s (by have := of_decide_eq_true (show decide ((t.1.length : Int) < least) = true from e1); rw [hfl]; simp; omega))
    have e1 := of_decide_eq_false (show decide ((t.1.length : Int) < least) = false from e1)
    refine r_fld ?_
    refine St.r_load0 s 0 rfl rfl ?_
    refine (hr.st s).lenV ?_
    refine ⟨_, _, _, rfl, rfl, ?_⟩
    rw [i64w (n := 2 * d) (by omega) (by omega)]
    refine r_sub (z := 2 * d - 1) (by rw [i64w (by omega) (by omega)]) ?_
    refine r_cmpI ?_
    refine r_if (fun e2 => no s (by have := of_decide_eq_true e2; rw [hfl]; simp; omega)) (fun e2 => ?_)
    have e2 := of_decide_eq_false e2
    unfold s_Filled.j1
    refine r_fld ?_
    refine St.r_load0 s 0 rfl rfl ?_
    refine (hrk.st s).lenV ?_
    refine loop_intro (fun l h' => ∃ (j : Nat) (E' : List Rg), j ≤ t.2.length ∧ l = [.int .i64 j] ∧ ((t.2.take j).all fun x => x.fl d (d - 1)) = true ∧ St g [] E' h') (fun l _ => t.2.length - (Hp.iv (l.getD 0 undef)).toNat)
      ⟨0, _, by omega, rfl, by simp, s⟩ ?_
    rintro l h2 ⟨j, E', hj, rfl, hall, s⟩
    unfold s_Filled.l3.b
    refine r_cmpI ?_
    refine r_if (fun hlt => ?_) (fun hge => ?_)
    · have hlt : j < t.2.length := by have := of_decide_eq_true hlt; simp at this; omega
      unfold s_Filled.j4
      refine (hrk.st s).at (n := j) rfl (fun _ => rfl) rfl rfl (by omega) fun b' o' hb' => ?_
      refine hb'.loadN rfl ?_
      refine s.r_alloc fun t8 h s => ?_
      have hkj := hks j hlt (by omega)
      have hjb : t.2[j].bulk ≤ 1073741824 := by have := t.kid_le (List.getElem_mem hlt); omega
      refine St.r_storeN0 s 0 rfl rfl (by simp) (by simp only [List.mem_cons, List.not_mem_nil, or_false]; intro y hy; rcases hy with rfl | rfl | rfl; exact hkj.one.1; exact hkj.one.2; rfl) ?_; intro h s
      refine r_sub (z := d - 1) (by rw [i64w (by omega) (by omega)]) ?_
      refine St.r_loadN0 s 0 rfl (by simp) ?_
      refine s_Filled_ok t.2[j] (hkj.fr s.fr) hjb hd0 hd rfl fun E3 h s3 => ?_
      have s := s.join s3
      refine r_not ?_
      refine r_if (fun e3 => no s ?_) (fun e3 => ?_)
      · have e3 : t.2[j].fl d (d - 1) = false := by simpa using e3
        have : (t.2.all fun q => q.fl d (d - 1)) = false := by
          rw [List.all_eq_false]
          exact ⟨_, List.getElem_mem hlt, by rw [e3]; decide⟩
        rw [hfl, this]; simp
      · unfold s_Filled.j5
        refine r_add (z := ((j + 1 : Nat) : Int)) (by rw [i64w (by omega) (by omega)]; omega) ?_
        refine ⟨⟨j + 1, _, hlt, rfl, ?_, s⟩, by simp; omega⟩
        have e3 : t.2[j].fl d (d - 1) = true := by simpa using e3
        rw [List.take_succ_eq_append_getElem hlt, List.all_append, hall]
        simp [e3]
    · have hge : j = t.2.length := by have := of_decide_eq_false hge; simp at this; omega
      subst hge
      rw [List.take_length] at hall
      unfold s_Filled.j2
      have := H _ _ s
      rw [hfl, hall] at this
      have h1 : least ≤ (t.1.length : Int) := by omega
      have h2 : (t.1.length : Int) ≤ 2 * d - 1 := by omega
      simpa [h1, h2] using this

end Go.Proofs.Ytgnnidefbeoibaa.Gi
end
section
namespace Go.Proofs.Ytgnnidefbeoibaa.Gi
open Go.Hp Go.Proofs.Ytgnnidefbeoibaa
set_option linter.unusedVariables false
set_option linter.unusedSimpArgs false
variable {h0 h : Heap} {Z E : List Rg} {Q : Value → Heap → Prop} {lt : It → It → Bool} {lf : Value}

/-- A node as data in memory, as high everywhere: its items and its kids. -/
def ArgT (h : Heap) : {k : Nat} → PT It k → Value → Value → Prop
  | 0, its, vi, vk => Rdl 2 h vi (its : List It).length ((its : List It).flatMap enc) ∧ ∃ a cap, vk = .slice a 0 cap
  | k + 1, t, vi, vk => Rdl 2 h vi t.1.length (t.1.flatMap enc) ∧ t.2 ≠ [] ∧ ∃ cs : List (Value × Value × Int), cs.length = t.2.length ∧ Rdl 3 h vk cs.length (cs.flatMap encN) ∧
      ∀ j (h1 : j < t.2.length) (h2 : j < cs.length), ArgT h t.2[j] cs[j].1 cs[j].2.1
theorem ArgT.fr {h h' : Heap} (f : Fr (fun _ _ => False) h h') : ∀ {k : Nat} {x : PT It k} {vi vk : Value}, ArgT h x vi vk → ArgT h' x vi vk
  | 0, _, _, _, ⟨h1, h2⟩ => ⟨h1.fr f (fun _ _ e => e), h2⟩
  | k + 1, _, _, _, ⟨h1, h2, cs, h3, h4, h5⟩ => ⟨h1.fr f (fun _ _ e => e), h2, cs, h3, h4.fr f (fun _ _ e => e), fun j j1 j2 => ArgT.fr f (h5 j j1 j2)⟩
theorem ArgT.one {h : Heap} : ∀ {k : Nat} {x : PT It k} {vi vk : Value}, ArgT h x vi vk → one1 vi = true ∧ one1 vk = true
  | 0, _, _, _, ⟨h1, _, _, h2⟩ => ⟨h1.one, by rw [h2]; rfl⟩
  | k + 1, _, _, _, ⟨h1, h2, cs, h3, h4, h5⟩ => ⟨h1.one, h4.one⟩
theorem ArgT.its {h : Heap} : ∀ {k : Nat} {x : PT It k} {vi vk : Value}, ArgT h x vi vk → Rdl 2 h vi x.its.length (x.its.flatMap enc)
  | 0, _, _, _, r => r.1
  | _ + 1, _, _, _, r => r.1
theorem DoorLeaf_ok {tb : Nat} {iso : Int} {v : Value} (hi : cl h tb 0 = some (.int .u64 iso)) (hv : one1 v = true) (H : ∀ n h', St h [] [(n, 0, [.int .u64 iso, .int .i64 0, v, .pointer none])] h' → Q (.agg #[ptr n 0]) h') : BTreeG_I_DoorLeaf.call #[ptr tb 0, v] h Q := by
  refine BTreeG_I_DoorLeaf.body _ _ _ _ ?_
  unfold BTreeG_I_DoorLeaf.sh
  have s := St.start h
  refine s.r_alloc fun t4 h s => ?_
  refine newNode_leaf (s.base hi) fun n h s1 => ?_
  have s := s.join s1
  refine r_nil ?_
  refine r_fld ?_
  refine St.r_store0 s 0 rfl (by simp) hv ?_; intro h s
  ((apply r_build; ((simp only [fillV, fill1, Value.cells, zeros_succ, zeros_zero, List.size_toArray, List.length_cons, List.length_nil, List.length_append, List.take_succ_cons, List.take_zero, List.take_nil, List.drop_succ_cons, List.drop_zero, List.drop_nil, List.cons_append, List.nil_append, List.append_nil, Nat.reduceAdd, Nat.reduceMul, Nat.reduceLeDiff, Nat.reduceEqDiff, and_self, and_true, true_and, if_true, Nat.le_refl, Nat.zero_add, Nat.add_zero, Nat.zero_mul, reduceIte, if_false] <;> rfl))))
  refine St.r_storeN0 s 1 (ys := [ptr n 0]) rfl rfl (by simp) (by simp [one1]) ?_; intro h s
  refine St.r_loadN0 s 1 rfl (by simp) ?_
  exact H n h (s.sub (List.Sublist.cons_cons _ (List.nil_sublist _)))
theorem DoorInner_ok {tb : Nat} {iso : Int} {v : Value} (hi : cl h tb 0 = some (.int .u64 iso)) (hv : one1 v = true) (H : ∀ n kb h', St h [] [(n, 0, [.int .u64 iso, .int .i64 0, v, ptr kb 0]), (kb, 0, [.slice none 0 0])] h' → Q (.agg #[ptr n 0]) h') : BTreeG_I_DoorInner.call #[ptr tb 0, v] h Q := by
  refine BTreeG_I_DoorInner.body _ _ _ _ ?_
  unfold BTreeG_I_DoorInner.sh
  have s := St.start h
  refine s.r_alloc fun t4 h s => ?_
  refine newNode_inner (s.base hi) fun n kb h s1 => ?_
  have s := s.join s1
  refine r_nil ?_
  refine r_fld ?_
  refine St.r_store0 s 0 rfl (by simp) hv ?_; intro h s
  ((apply r_build; ((simp only [fillV, fill1, Value.cells, zeros_succ, zeros_zero, List.size_toArray, List.length_cons, List.length_nil, List.length_append, List.take_succ_cons, List.take_zero, List.take_nil, List.drop_succ_cons, List.drop_zero, List.drop_nil, List.cons_append, List.nil_append, List.append_nil, Nat.reduceAdd, Nat.reduceMul, Nat.reduceLeDiff, Nat.reduceEqDiff, and_self, and_true, true_and, if_true, Nat.le_refl, Nat.zero_add, Nat.add_zero, Nat.zero_mul, reduceIte, if_false] <;> rfl))))
  refine St.r_storeN0 s 2 (ys := [ptr n 0]) rfl rfl (by simp) (by simp [one1]) ?_; intro h s
  refine St.r_loadN0 s 2 rfl (by simp) ?_
  exact H n kb h (s.sub (List.Sublist.cons_cons _ (List.Sublist.cons_cons _ (List.nil_sublist _))))
theorem DoorAppend_ok {n kb b o len m : Nat} {c1 c2 iv kv : Value} {xs sp : List Value} (s : St h0 Z ((n, 0, [c1, c2, iv, ptr kb 0]) :: (kb, 0, [kv]) :: (b, o, xs ++ sp) :: E) h) (w : Own 1 kv len b o xs sp) (hl : len ≤ 2147483647)
    (H : ∀ kv' b' o' sp' h', St h0 Z ((n, 0, [c1, c2, iv, ptr kb 0]) :: (kb, 0, [kv']) :: (b', o', (xs ++ [ptr m 0]) ++ sp') :: E) h' → Own 1 kv' (len + 1) b' o' (xs ++ [ptr m 0]) sp' → Q (.tuple #[]) h') :
    DoorNode_I_DoorAppend.call #[.agg #[ptr n 0], .agg #[ptr m 0]] h Q := by
  refine DoorNode_I_DoorAppend.body _ _ _ _ ?_
  unfold DoorNode_I_DoorAppend.sh
  refine St.r_box (cs := [ptr n 0]) s fun t h s => ?_
  refine St.r_box (cs := [ptr m 0]) s fun t2 h s => ?_
  refine r_fld ?_
  refine St.r_load0 s 1 rfl rfl ?_
  refine r_nil ?_
  refine r_fld ?_
  refine St.r_load0 s 2 rfl rfl ?_
  refine r_fld ?_
  refine St.r_load0 s 1 rfl rfl ?_
  refine r_nil ?_
  refine r_fld ?_
  refine St.r_load0 s 2 rfl rfl ?_
  refine r_nil ?_
  refine St.r_load0 s 3 rfl rfl ?_
  refine r_fld ?_
  refine St.r_load0 s 0 rfl rfl ?_
  refine St.r_mkSl (sz := 1) (cs := [ptr m 0]) s (by ((simp only [fillV, fill1, Value.cells, zeros_succ, zeros_zero, List.size_toArray, List.length_cons, List.length_nil, List.length_append, List.take_succ_cons, List.take_zero, List.take_nil, List.drop_succ_cons, List.drop_zero, List.drop_nil, List.cons_append, List.nil_append, List.append_nil, Nat.reduceAdd, Nat.reduceMul, Nat.reduceLeDiff, Nat.reduceEqDiff, and_self, and_true, true_and, if_true, Nat.le_refl, Nat.zero_add, Nat.add_zero, Nat.zero_mul, reduceIte, if_false] <;> rfl))) rfl fun q h s w1 => ?_
  refine And.intro (by exact St.r_still0 s 2 rfl rfl) ?_
  refine And.intro (by exact St.r_still0 s 3 rfl rfl) ?_
  refine And.intro (by exact St.r_still0 s 2 rfl rfl) ?_
  refine And.intro (by exact St.r_still0 s 3 rfl rfl) ?_
  refine And.intro (by exact St.r_still0 s 4 rfl rfl) ?_
  refine St.r_app s 5 (sz := 1) (n := 1) (new := [ptr m 0]) rfl w rfl (w1.rdl s 0 rfl) (by simp [one1]) (by omega) (by omega) fun v' b' o' sp' h s w' => ?_
  refine And.intro (by exact St.r_still0 s 2 rfl rfl) ?_
  refine And.intro (by exact St.r_still0 s 3 rfl rfl) ?_
  refine r_nil ?_
  refine St.r_store0 s 4 rfl (by simp) w'.one ?_; intro h s
  exact H v' b' o' sp' h (s.drop 3) w'
theorem DoorUpdateCount_leaf {n b o len : Nat} {c1 c2 iv : Value} {xs sp : List Value} (s : St h0 Z ((n, 0, [c1, c2, iv, .pointer none]) :: E) h) (w : Own 2 iv len b o xs sp)
    (H : ∀ h', St h0 Z ((n, 0, [c1, .int .i64 len, iv, .pointer none]) :: E) h' → Q (.tuple #[]) h') : DoorNode_I_DoorUpdateCount.call #[.agg #[ptr n 0]] h Q := by
  refine DoorNode_I_DoorUpdateCount.body _ _ _ ?_
  unfold DoorNode_I_DoorUpdateCount.sh
  refine St.r_box (cs := [ptr n 0]) s fun t h s => ?_
  refine r_fld ?_
  refine St.r_load0 s 0 rfl rfl ?_
  refine updateCount_leaf (s.front 1 rfl) w fun h s => ?_
  exact H h ((s.front 1 rfl).drop 1)
/-- The items of a node as a new slice. -/
theorem items_new {vi : Value} {its : List It} {K : Value → Heap → Prop} (s : St h0 Z E h) (hr : Rdl 2 h vi its.length (its.flatMap enc)) (hl : its.length ≤ 2147483647)
    (H : ∀ iv ib io isp h', St h0 Z ((ib, io, its.flatMap enc ++ isp) :: E) h' → Own 2 iv its.length ib io (its.flatMap enc) isp → K iv h') : app 52 2 16 [.int .i64 0, .int .i64 0] (.slice none 0 0) vi h K := by
  refine (s.empty 0 0).r_appL (f := enc) (L := []) (M := its) 0 rfl (Own.nil 2 0 0) rfl hr (fun _ _ => enc1 _) (by simp; omega) (by simp; omega) fun v' b' o' sp' h s w' => ?_
  exact H v' b' o' sp' h s w'
theorem planted_ok : ∀ {k : Nat} (x : PT It k) {h : Heap} {tb : Nat} {iso : Int} {vi vk vc : Value} {Q : Value → Heap → Prop}, cl h tb 0 = some (.int .u64 iso) → ArgT h x vi vk → x.Sh 2147483647 → x.items.length ≤ 4611686018427387903 → one1 vc = true →
    (∀ (t : GT It k) h', t.pt = x → Gd iso t → St h [] (t.all enc) h' → Q (.agg #[ptr t.id 0]) h') → i_planted.call #[ptr tb 0, .agg #[vi, vk, vc]] h Q
  | 0, its, h, tb, iso, vi, vk, vc, Q, hi, ⟨hr, ⟨a, cap, hvk⟩⟩, hsh, hsz, hvc, H => by
    subst hvk
    refine i_planted.body _ _ _ _ ?_
    unfold i_planted.sh
    have s := St.start h
    refine St.r_box (cs := [vi, .slice a 0 cap, vc]) s fun t3 h s => ?_
    refine s.r_alloc fun t4 h s => ?_
    refine r_fld ?_
    refine St.r_load0 s 1 rfl rfl ?_
    refine items_new s (hr.st s) hsh fun iv ib io isp h s w => ?_
    refine r_fld ?_
    refine St.r_load0 s 2 rfl rfl ?_
    refine r_len ?_
    refine r_cmpI ?_
    refine r_if (fun _ => ?_) (fun e => absurd e (by decide))
    refine DoorLeaf_ok (s.base hi) w.one fun n h s1 => ?_
    have s := s.join s1
    refine s.r_alloc fun t6 h s => ?_
    refine St.r_storeN0 s 0 (ys := [ptr n 0]) rfl rfl (by simp) (by simp [one1]) ?_; intro h s
    refine St.r_loadN0 s 0 rfl (by simp) ?_
    refine DoorUpdateCount_leaf (s.front 1 rfl) w fun h s => ?_
    refine St.r_loadN0 s 1 rfl (by simp) ?_
    refine St.r_storeN0 s 3 (ys := [ptr n 0]) rfl rfl (by simp) (by simp [one1]) ?_; intro h s
    refine St.r_loadN0 s 3 rfl (by simp) ?_
    refine H (⟨true, n, iso, (its : List It).length, its, iv, ib, io, isp, 0, .slice none 0 0, 0, 0, []⟩ : Nd It) h rfl (Gd.leaf w rfl rfl rfl) ?_
    exact (s.perm (E' := (t6, 0, [ptr n 0]) :: (t3, 0, [vi, .slice a 0 cap, vc]) :: (t4, 0, [ptr n 0]) :: (n, 0, [.int .u64 iso, .int .i64 (its : List It).length, iv, .pointer none]) :: (ib, io, (its : List It).flatMap enc ++ isp) :: []) (by ((apply perm_rg; intro f; simp only [List.set_cons_zero, List.set_cons_succ, List.eraseIdx_cons_zero, List.eraseIdx_cons_succ, List.cons_append, List.nil_append, List.map_append, List.map_cons, List.map_nil, List.sum_append, List.sum_cons, List.sum_nil, List.map_flatMap, Nat.add_zero, Nat.zero_add]; ac_rfl)))).drop 3
  | k + 1, x, h, tb, iso, vi, vk, vc, Q, hi, ⟨hr, hne, cs, hcl, hrk, hks⟩, hsh, hsz, hvc, H => by
    have hkl : x.2.length ≠ 0 := fun e => hne (List.length_eq_zero_iff.1 e)
    refine i_planted.body _ _ _ _ ?_
    unfold i_planted.sh
    have s := St.start h
    refine St.r_box (cs := [vi, vk, vc]) s fun t3 h s => ?_
    refine s.r_alloc fun t4 h s => ?_
    refine r_fld ?_
    refine St.r_load0 s 1 rfl rfl ?_
    refine items_new s (hr.st s) hsh.1 fun iv ib io isp h s w => ?_
    refine r_fld ?_
    refine St.r_load0 s 2 rfl rfl ?_
    refine (hrk.st s).lenV ?_
    refine r_cmpI ?_
    refine r_if (fun e => absurd (show (cs.length : Int) = 0 by simpa using e) (by omega)) (fun _ => ?_)
    unfold i_planted.j1
    refine DoorInner_ok (s.base hi) w.one fun n kb h s1 => ?_
    have s := s.join s1
    refine s.r_alloc fun t7 h s => ?_
    refine St.r_storeN0 s 0 (ys := [ptr n 0]) rfl rfl (by simp) (by simp [one1]) ?_; intro h s
    have s : St _ [] ((t7, 0, [ptr n 0]) :: (t3, 0, [vi, vk, vc]) :: (t4, 0, [.pointer none]) :: (n, 0, [.int .u64 iso, .int .i64 0, iv, ptr kb 0]) :: (ib, io, x.1.flatMap enc ++ isp) :: (kb, 0, [.slice none 0 0]) :: []) h := s.perm (by ((apply perm_rg; intro f; simp only [List.set_cons_zero, List.set_cons_succ, List.eraseIdx_cons_zero, List.eraseIdx_cons_succ, List.cons_append, List.nil_append, List.map_append, List.map_cons, List.map_nil, List.sum_append, List.sum_cons, List.sum_nil, List.map_flatMap, Nat.add_zero, Nat.zero_add]; ac_rfl)))
    refine r_fld ?_
    refine St.r_load0 s 1 rfl rfl ?_
    refine (hrk.st s).lenV ?_
    refine loop_intro (fun t h' => ∃ j : Nat, t = [.int .i64 j] ∧ j ≤ x.2.length ∧ ∃ (ts : List (GT It k)) (kv : Value) (rb ro : Nat) (ksp : List Value), ts.map GT.pt = x.2.take j ∧ (∀ t, t ∈ ts → Gd iso t) ∧ Own 1 kv j rb ro ((ts.map GT.id).flatMap fp) ksp ∧
        St _ [] ((t7, 0, [ptr n 0]) :: (t3, 0, [vi, vk, vc]) :: (t4, 0, [.pointer none]) :: (n, 0, [.int .u64 iso, .int .i64 0, iv, ptr kb 0]) :: (ib, io, x.1.flatMap enc ++ isp) :: (kb, 0, [kv]) :: (rb, ro, (ts.map GT.id).flatMap fp ++ ksp) :: ts.flatMap (GT.all enc)) h')
      (fun t _ => x.2.length - (Hp.iv (t.getD 0 undef)).toNat) ⟨0, rfl, by omega, [], .slice none 0 0, 0, 0, [], rfl, (fun t ht => absurd ht List.not_mem_nil), Own.nil 1 0 0, (s.empty 0 0).perm (by ((apply perm_rg; intro f; simp only [List.set_cons_zero, List.set_cons_succ, List.eraseIdx_cons_zero, List.eraseIdx_cons_succ, List.cons_append, List.nil_append, List.map_append, List.map_cons, List.map_nil, List.sum_append, List.sum_cons, List.sum_nil, List.map_flatMap, Nat.add_zero, Nat.zero_add]; ac_rfl)))⟩ ?_
    rintro t h ⟨j, rfl, hj, ts, kv, rb, ro, ksp, hts, hw, wkk, s⟩
    have htl : ts.length = j := by have := congrArg List.length hts; simp at this; omega
    unfold i_planted.l3.b
    refine r_cmpI ?_
    refine r_if (fun hlt => ?_) (fun hge => ?_)
    · have hlt : j < x.2.length := by simp at hlt; omega
      unfold i_planted.j4
      refine (hrk.st s).at (n := j) (f := encN) rfl (fun _ => rfl) rfl rfl (by omega) fun b o hb => ?_
      refine hb.loadN rfl ?_
      refine s.r_alloc fun t9 h s => ?_
      have hak := hks j hlt (by omega)
      refine St.r_storeN0 s 0 (ys := [cs[j].1, cs[j].2.1, .int .i64 cs[j].2.2]) rfl rfl (by simp) (one3 hak.one.1 hak.one.2 rfl) ?_; intro h s
      refine St.r_loadN0 s 1 rfl (by simp) ?_
      refine St.r_loadN0 s 0 rfl (by simp) ?_
      refine planted_ok x.2[j] (s.base hi) (hak.fr s.fr) (hsh.2.2 _ (List.getElem_mem hlt)) ?_ rfl fun t h ht1 gt s1 => ?_
      · have h1 : x.items.length = x.1.length + ((x.2.map PT.items).map List.length).sum := inter_length _ _
        have h2 : (x.2[j].items).length ≤ ((x.2.map PT.items).map List.length).sum := mem_le_sum (by
          rw [List.map_map]; exact List.mem_map.2 ⟨x.2[j], List.getElem_mem hlt, rfl⟩)
        omega
      have s := (s.join s1).perm List.perm_append_comm
      refine ⟨St.r_stillN0 s 1 (j := 0) rfl (by simp) rfl, ?_⟩
      have s : St _ [] ((t9, 0, [cs[j].1, cs[j].2.1, .int .i64 cs[j].2.2]) :: (t7, 0, [ptr n 0]) :: (t3, 0, [vi, vk, vc]) :: (t4, 0, [.pointer none]) :: (n, 0, [.int .u64 iso, .int .i64 0, iv, ptr kb 0]) :: (ib, io, x.1.flatMap enc ++ isp) :: (kb, 0, [kv]) :: (rb, ro, (ts.map GT.id).flatMap fp ++ ksp) :: (ts.flatMap (GT.all enc) ++ t.all enc)) h := s
      refine DoorAppend_ok (m := t.id) (n := n) (kb := kb) (c1 := .int .u64 iso) (c2 := .int .i64 0) (iv := iv) (E := (t9, 0, [cs[j].1, cs[j].2.1, .int .i64 cs[j].2.2]) :: (t7, 0, [ptr n 0]) :: (t3, 0, [vi, vk, vc]) :: (t4, 0, [.pointer none]) :: (ib, io, x.1.flatMap enc ++ isp) :: (ts.flatMap (GT.all enc) ++ t.all enc)) (s.perm (by ((apply perm_rg; intro f; simp only [List.set_cons_zero, List.set_cons_succ, List.eraseIdx_cons_zero, List.eraseIdx_cons_succ, List.cons_append, List.nil_append, List.map_append, List.map_cons, List.map_nil, List.sum_append, List.sum_cons, List.sum_nil, List.map_flatMap, Nat.add_zero, Nat.zero_add]; ac_rfl)))) wkk (by have := hsh.1; have := hsh.2.1; omega) fun kv' b' o' sp' h s w' => ?_
      unfold i_planted.j5
      refine r_add (z := ((j + 1 : Nat) : Int)) (by have := hsh.1; have := hsh.2.1; rw [i64w (by omega) (by omega)]; omega) ?_
      have eids : (ts.map GT.id).flatMap fp ++ [ptr t.id 0] = ((ts ++ [t]).map GT.id).flatMap fp := by rw [List.map_append, List.flatMap_append]; simp
      rw [eids] at s w'
      refine ⟨⟨j + 1, rfl, hlt, ts ++ [t], kv', b', o', sp', ?_, fun t' ht' => ?_, w', ?_⟩, by simp; omega⟩
      · rw [List.map_append, hts, List.take_succ_eq_append_getElem hlt, List.map_cons, ht1]; rfl
      · rcases List.mem_append.1 ht' with e | e
        · exact hw t' e
        · rw [List.mem_singleton.1 e]; exact gt
      · refine (s.perm (E' := (t9, 0, [cs[j].1, cs[j].2.1, .int .i64 cs[j].2.2]) :: _) ?_).drop 1
        rw [List.flatMap_append (xs := ts), List.flatMap_singleton]
        ((apply perm_rg; intro f; simp only [List.set_cons_zero, List.set_cons_succ, List.eraseIdx_cons_zero, List.eraseIdx_cons_succ, List.cons_append, List.nil_append, List.map_append, List.map_cons, List.map_nil, List.sum_append, List.sum_cons, List.sum_nil, List.map_flatMap, Nat.add_zero, Nat.zero_add]; ac_rfl))
    · have hge : j = x.2.length := by simp at hge; omega
      subst hge
      rw [List.take_length] at hts
      unfold i_planted.j2
      refine St.r_loadN0 s 0 rfl (by simp) ?_
      have hit : x.items.length = x.1.length + (ts.map fun t => t.pt.items.length).sum := by
        have h1 : x.items.length = x.1.length + ((x.2.map PT.items).map List.length).sum := inter_length _ _
        rw [h1, ← hts, List.map_map, List.map_map]; rfl
      refine DoorNode_I_DoorUpdateCount.body _ _ _ ?_
      unfold DoorNode_I_DoorUpdateCount.sh
      refine St.r_box (cs := [ptr n 0]) s fun t1 h s => ?_
      refine r_fld ?_
      refine St.r_load0 s 0 rfl rfl ?_
      refine updateCount_kids (ts := ts) (n := n) (kb := kb) (c1 := .int .u64 iso) (c2 := .int .i64 0) (iv := iv) (rb := rb) (ro := ro) (ksp := ksp) (kv := kv) (E := (t1, 0, [ptr n 0]) :: (t7, 0, [ptr n 0]) :: (t3, 0, [vi, vk, vc]) :: (t4, 0, [.pointer none]) :: (ib, io, x.1.flatMap enc ++ isp) :: ts.flatMap (GT.all enc)) (s.perm (by ((apply perm_rg; intro f; simp only [List.set_cons_zero, List.set_cons_succ, List.eraseIdx_cons_zero, List.eraseIdx_cons_succ, List.cons_append, List.nil_append, List.map_append, List.map_cons, List.map_nil, List.sum_append, List.sum_cons, List.sum_nil, List.map_flatMap, Nat.add_zero, Nat.zero_add]; ac_rfl)))) w (by rw [List.length_map, htl]; exact wkk) (fun t ht => (hw t ht).cn)
        (fun t ht r hr => by
          refine List.mem_cons_of_mem _ (List.mem_cons_of_mem _ (List.mem_cons_of_mem _ (List.mem_cons_of_mem _ (List.mem_cons_of_mem _ ?_))))
          exact List.mem_flatMap.2 ⟨t, ht, hr⟩) (by have := hsh.1; have := hsh.2.1; omega) (by omega) fun h s => ?_
      rw [← hit] at s
      refine St.r_loadN0 s 4 rfl (by simp) ?_
      refine St.r_storeN0 s 6 (ys := [ptr n 0]) rfl rfl (by simp) (by simp [one1]) ?_; intro h s
      refine St.r_loadN0 s 6 rfl (by simp) ?_
      have hpt : GT.pt (h := k + 1) ((⟨true, n, iso, (x.items.length : Nat), x.1, iv, ib, io, isp, kb, kv, rb, ro, ksp⟩ : Nd It), ts) = x := by
        show (x.1, ts.map GT.pt) = x
        rw [hts]; rfl
      refine H ((⟨true, n, iso, (x.items.length : Nat), x.1, iv, ib, io, isp, kb, kv, rb, ro, ksp⟩ : Nd It), ts) h hpt (Gd.inner w rfl rfl (by rw [htl]; exact wkk) (by rw [htl]; exact hsh.2.1) hw (by rw [hpt])) ?_
      have s : St _ [] ((t1, 0, [ptr n 0]) :: (t7, 0, [ptr n 0]) :: (t3, 0, [vi, vk, vc]) :: (t4, 0, [ptr n 0]) :: (n, 0, [.int .u64 iso, .int .i64 x.items.length, iv, ptr kb 0]) :: (ib, io, x.1.flatMap enc ++ isp) :: (kb, 0, [kv]) :: (rb, ro, (ts.map GT.id).flatMap fp ++ ksp) :: ts.flatMap (GT.all enc)) h := s.perm (by ((apply perm_rg; intro f; simp only [List.set_cons_zero, List.set_cons_succ, List.eraseIdx_cons_zero, List.eraseIdx_cons_succ, List.cons_append, List.nil_append, List.map_append, List.map_cons, List.map_nil, List.sum_append, List.sum_cons, List.sum_nil, List.map_flatMap, Nat.add_zero, Nat.zero_add]; ac_rfl)))
      rw [← mfp] at s
      exact s.drop 4
theorem DoorPlant_ok {tb n : Nat} {iso cnt c0 mn mx : Int} {ctr root : Option Addr} {a1 a2 a3 : Value} (s : St h0 Z ((tb, 0, hdr iso ctr root c0 lf mn mx) :: E) h) (hn : (n, 0, [a1, .int .i64 cnt, a2, a3]) ∈ E ++ Z)
    (H : ∀ h', St h0 Z ((tb, 0, hdr iso ctr (some ⟨n, 0, none⟩) cnt lf mn mx) :: E) h' → Q (.tuple #[]) h') : BTreeG_I_DoorPlant.call #[ptr tb 0, .agg #[ptr n 0]] h Q := by
  refine BTreeG_I_DoorPlant.body _ _ _ _ ?_
  unfold BTreeG_I_DoorPlant.sh
  refine St.r_box (cs := [ptr n 0]) s fun t h s => ?_
  refine r_fld ?_
  refine St.r_load0 s 0 rfl rfl ?_
  refine r_fld ?_
  refine St.r_load0 s 0 rfl rfl ?_
  refine r_nil ?_
  refine r_fld ?_
  refine s.r_loadM (xs := [a1, .int .i64 cnt, a2, a3]) (List.mem_cons_of_mem _ (List.mem_cons_of_mem _ hn)) rfl ?_
  refine r_nil ?_
  refine r_fld ?_
  refine St.r_store0 s 1 rfl (by simp) rfl ?_
  intro h s
  try simp only [List.set_cons_zero, List.set_cons_succ] at s
  refine r_nil ?_
  refine r_fld ?_
  refine St.r_store0 s 1 rfl (by simp) rfl ?_
  intro h s
  try simp only [List.set_cons_zero, List.set_cons_succ] at s
  exact H h (s.drop 1)
end Go.Proofs.Ytgnnidefbeoibaa.Gi
end
section
namespace Go.Proofs.Ytgnnidefbeoibaa.Gi
open Go.Hp Go.Proofs.Ytgnnidefbeoibaa
set_option linter.unusedVariables false
set_option linter.unusedSimpArgs false
variable {h0 h : Heap} {Z E : List Rg} {Q : Value → Heap → Prop} {lt : It → It → Bool} {lf : Value}

theorem l_zzFits1_ok {ow : List Int} {ov : Value} {d : Int} {nl : Bool} (hr : Rdl 1 h ov ow.length (ow.flatMap fi)) (H : ∀ E' h', St h [] E' h' → Q (.bool (decide (ow.length ≤ 2147483647))) h') : l_zzFits1.call #[.agg #[ov, .int .i64 d, .bool nl]] h Q := by
  refine l_zzFits1.body _ _ _ ?_
  unfold l_zzFits1.sh
  have s := St.start h
  refine St.r_box (cs := [ov, .int .i64 d, .bool nl]) s fun t1 h1 s => ?_
  refine r_fld ?_
  refine St.r_load0 s 0 rfl rfl ?_
  refine (hr.st s).lenV ?_
  refine r_cmpI ?_
  refine r_if (fun e => ?_) (fun e => ?_)
  · have e : ¬ ow.length ≤ 2147483647 := by have := of_decide_eq_true e; omega
    have := H _ _ s
    simpa [e] using this
  · have e : ow.length ≤ 2147483647 := by have := of_decide_eq_false e; omega
    have := H _ _ s
    unfold l_zzFits1.j1
    simpa [e] using this
end Go.Proofs.Ytgnnidefbeoibaa.Gi
end
section
namespace Go.Proofs.Ytgnnidefbeoibaa.Gi
open Go.Hp Go.Proofs.Ytgnnidefbeoibaa
set_option linter.unusedVariables false
set_option linter.unusedSimpArgs false
variable {h0 h : Heap} {Z E : List Rg} {Q : Value → Heap → Prop} {lt : It → It → Bool} {lf : Value}

/-- Whether a node is the root of a valid tree of a degree. -/
def validN (ow : List Int) (d : Int) {k : Nat} (t : DT k) : Prop := match k, t with
  | 0, e => e.elim
  | _ + 1, t => (t.1 = [] ∧ t.2 = []) ∨ (t.lv.2 = true ∧ t.fl (if d = 0 then 32 else d) 1 = true ∧ Asc (ltO ow) t.items)

theorem l_zzFits3_ok {m n : Nat} {vi vk vc : Value} {xs ys : List Value} (hi : Rdl 2 h vi m xs) (hk : Rdl 3 h vk n ys) (h1 : m ≤ 2147483647) (h2 : n ≤ 2147483647) (hvc : one1 vc = true) (H : ∀ E' h', St h [] E' h' → Q (.bool true) h') : l_zzFits3.call #[.agg #[vi, vk, vc]] h Q := by
  refine l_zzFits3.body _ _ _ ?_
  unfold l_zzFits3.sh
  have s := St.start h
  refine St.r_box (cs := [vi, vk, vc]) s fun b h s => ?_
  refine r_fld ?_
  refine St.r_load0 s 0 rfl rfl ?_
  refine (hi.st s).lenV ?_
  refine r_cmpI ?_
  refine r_if (fun e => absurd (of_decide_eq_true e) (by omega)) (fun _ => ?_)
  unfold l_zzFits3.j1
  refine r_fld ?_
  refine St.r_load0 s 0 rfl rfl ?_
  refine (hk.st s).lenV ?_
  refine r_cmpI ?_
  refine r_if (fun e => absurd (of_decide_eq_true e) (by omega)) (fun _ => ?_)
  exact H _ _ s
theorem exists_list {α β : Type} {R : α → β → Prop} : ∀ (l : List α), (∀ a, a ∈ l → ∃ b, R a b) → ∃ l' : List β, l'.length = l.length ∧ ∀ i (h1 : i < l.length) (h2 : i < l'.length), R l[i] l'[i]
  | [], _ => ⟨[], rfl, fun i h1 => absurd h1 (Nat.not_lt_zero _)⟩
  | a :: r, h => by
    obtain ⟨b, hb⟩ := h a (List.mem_cons_self ..)
    obtain ⟨l', h1, h2⟩ := exists_list r fun x hx => h x (List.mem_cons_of_mem _ hx)
    refine ⟨b :: l', by simp [h1], fun i i1 i2 => ?_⟩
    cases i with
    | zero => exact hb
    | succ i => exact h2 i (by simpa using i1) (by simpa using i2)

theorem lv_pos : ∀ {k : Nat} (t : DT k), t.lv.2 = true → 1 ≤ t.lv.1
  | 0, e => e.elim
  | k + 1, t => by
    unfold DT.lv
    split
    · intro _; exact Nat.le_refl _
    · split
      · intro _; exact Nat.succ_le_succ (Nat.zero_le _)
      · intro h; cases h

/-- What a tree takes from a node as data. -/
structure Uni {k n : Nat} (t : DT k) (x : PT It n) : Prop where
  its : x.its = t.its
  items : x.items = t.items
  sh : ∀ m, t.bulk ≤ m → x.Sh m
  arg : ∀ h vi vk, ArgD h t vi vk → ArgT h x vi vk
  fl : ∀ d lo : Nat, 1 ≤ d → t.fl d lo = true → x.Fl (2 * d - 1) lo

theorem uni_of : ∀ {k : Nat} (t : DT k) (n : Nat), t.lv = (n + 1, true) → ∃ x : PT It n, Uni t x
  | 0, e, _, _ => e.elim
  | k + 1, t, n, h => by
    match ht : t.2 with
    | [] =>
      have hl : t.lv = (1, true) := by unfold DT.lv; rw [ht]
      rw [hl] at h
      have hn : n = 0 := by have := congrArg Prod.fst h; simp at this; omega
      subst hn
      refine ⟨t.1, rfl, ?_, fun m hm => ?_, fun h vi vk ⟨hr, cs, hcl, hrk, _⟩ => ⟨hr, ?_⟩, fun d lo h1 hf => ?_⟩
      · show t.1 = inter t.1 (t.2.map DT.items); rw [ht]; rfl
      · have := t.kids_le; show t.1.length ≤ m; omega
      · rw [ht] at hcl
        have hc0 : cs.length = 0 := hcl
        obtain ⟨a, cap, e, _⟩ := hrk
        rw [hc0] at e
        exact ⟨a, cap, e⟩
      · have : t.fl d lo = (decide ((lo : Int) ≤ t.1.length) && decide ((t.1.length : Int) ≤ 2 * d - 1) && t.2.all fun q => DT.fl d (d - 1) q) := rfl
        rw [this] at hf
        simp only [Bool.and_eq_true, decide_eq_true_eq] at hf
        show lo ≤ t.1.length ∧ t.1.length ≤ 2 * d - 1
        omega
    | q :: qs =>
      by_cases e : qs.length = t.1.length
      · have hl : t.lv = (q.lv.1 + 1, q.lv.2 && qs.all fun x => x.lv.2 && x.lv.1 == q.lv.1) := by
          conv => lhs; unfold DT.lv
          rw [ht]; simp only [if_pos e]
        rw [hl] at h
        have hn := congrArg Prod.fst h
        have hb := congrArg Prod.snd h
        simp only at hn hb
        have hq : q.lv.2 = true := by cases hh : q.lv.2 <;> simp_all
        have hp := lv_pos q hq
        obtain ⟨n, rfl⟩ : ∃ m, n = m + 1 := ⟨n - 1, by omega⟩
        have hall : ∀ x, x ∈ t.2 → x.lv = (n + 1, true) := fun x hx => by
          rw [ht] at hx
          rcases List.mem_cons.1 hx with rfl | hx
          · exact Prod.ext (by simp only; omega) hq
          · rw [hq, Bool.true_and, List.all_eq_true] at hb
            have := hb x hx
            simp only [Bool.and_eq_true, beq_iff_eq] at this
            exact Prod.ext (by simp only; omega) this.1
        obtain ⟨xs, hxl, hxs⟩ := exists_list t.2 fun x hx => uni_of x n (hall x hx)
        refine ⟨(t.1, xs), rfl, ?_, fun m hm => ?_, fun h vi vk ⟨hr, cs, hcl, hrk, hks⟩ => ⟨hr, ?_, cs, ?_, hrk, fun j h1 h2 => ?_⟩, fun d lo h1 hf => ?_⟩
        · show inter t.1 (xs.map PT.items) = inter t.1 (t.2.map DT.items)
          congr 1
          refine List.ext_getElem (by simp [hxl]) fun i h1 h2 => ?_
          simp only [List.getElem_map]
          exact (hxs i (by simpa using h2) (by simpa using h1)).items
        · have hk := t.kids_le
          refine ⟨by show t.1.length ≤ m; omega, by show xs.length = t.1.length + 1; rw [hxl, ht, List.length_cons, e], fun x hx => ?_⟩
          obtain ⟨i, hi, rfl⟩ := List.getElem_of_mem (show x ∈ xs from hx)
          have := t.kid_le (List.getElem_mem (show i < t.2.length by omega))
          exact (hxs i (by omega) hi).sh m (by omega)
        · show xs ≠ []
          intro hh
          rw [hh, ht] at hxl
          simp at hxl
        · show cs.length = xs.length
          rw [hxl]; exact hcl
        · have h1' : j < xs.length := h1
          exact (hxs j (by omega) h1').arg h _ _ (hks j (by omega) h2)
        · have : t.fl d lo = (decide ((lo : Int) ≤ t.1.length) && decide ((t.1.length : Int) ≤ 2 * d - 1) && t.2.all fun q => DT.fl d (d - 1) q) := rfl
          rw [this] at hf
          simp only [Bool.and_eq_true, decide_eq_true_eq, List.all_eq_true] at hf
          refine ⟨by show lo ≤ t.1.length; omega, by show t.1.length ≤ _; omega, by show xs.length = t.1.length + 1; rw [hxl, ht, List.length_cons, e], fun x hx => ?_⟩
          obtain ⟨i, hi, rfl⟩ := List.getElem_of_mem (show x ∈ xs from hx)
          have h3 := hf.2 _ (List.getElem_mem (show i < t.2.length by omega))
          have e4 : (2 * d - 1) / 2 = d - 1 := by omega
          rw [e4]
          refine (hxs i (by omega) hi).fl d (d - 1) h1 ?_
          rw [show ((d - 1 : Nat) : Int) = (d : Int) - 1 by omega]; exact h3
      · have hl : t.lv = (0, false) := by unfold DT.lv; rw [ht]; simp only [if_neg e]
        rw [hl] at h
        cases h


end Go.Proofs.Ytgnnidefbeoibaa.Gi
end
section
namespace Go.Proofs.Ytgnnidefbeoibaa.Gi
open Go.Hp Go.Proofs.Ytgnnidefbeoibaa
set_option linter.unusedVariables false
set_option linter.unusedSimpArgs false
variable {h0 h : Heap} {Z E : List Rg} {Q : Value → Heap → Prop} {lt : It → It → Bool} {lf : Value}

theorem eqItem (a i : Int) (d : Nat) : EqV Try.prog (d + 2) 52 (.agg #[.int .i64 a, .int .i64 i]) (.agg #[.int .i64 a, .int .i64 i]) true := by
  refine .inr (.inr (.inr ⟨_, _, _, Try.underlying52, by kernel_rfl, rfl, rfl, ?_⟩))
  refine ⟨by decide, .int .i64 a, .int .i64 a, true, ⟨_, Try.underlying3, .inr ⟨by kernel_rfl, rfl⟩⟩, ⟨_, Try.underlying3, .inr ⟨by kernel_rfl, rfl⟩⟩, .inl ⟨_, _, a, a, Try.underlying3, rfl, rfl, by simp⟩, .inr ⟨rfl, ?_⟩⟩
  exact ⟨by decide, .int .i64 i, .int .i64 i, true, ⟨_, Try.underlying3, .inr ⟨by kernel_rfl, rfl⟩⟩, ⟨_, Try.underlying3, .inr ⟨by kernel_rfl, rfl⟩⟩, .inl ⟨_, _, i, i, Try.underlying3, rfl, rfl, by simp⟩, .inr ⟨rfl, rfl⟩⟩
theorem EqualI_ok {l : List It} {v1 v2 : Value} (h1 : Rdl 2 h v1 l.length (l.flatMap enc)) (h2 : Rdl 2 h v2 l.length (l.flatMap enc)) (hl : l.length ≤ 4611686018427387903) (H : Q (.bool true) h) : sl_Equal_implItemI.call #[v1, v2] h Q := by
  refine sl_Equal_implItemI.body _ _ _ _ ?_
  unfold sl_Equal_implItemI.sh
  refine h1.lenV ?_
  refine h2.lenV ?_
  refine r_cmpI ?_
  refine r_if (fun e => absurd e (by simp)) (fun _ => ?_)
  unfold sl_Equal_implItemI.j1
  refine h1.lenV ?_
  refine loop_up (n := l.length) (fun j => [.int .i64 j]) (fun j h' => h' = h) rfl ?_
  rintro j _ hj rfl K HK
  unfold sl_Equal_implItemI.l3.b
  refine r_cmpI ?_
  refine r_if (fun hlt => ?_) (fun hge => ?_)
  · have hlt : j < l.length := by simpa using hlt
    unfold sl_Equal_implItemI.j4
    refine h1.at (n := j) rfl encl rfl rfl hlt fun b o hb => ?_
    refine hb.loadN rfl ?_
    refine h2.at (n := j) rfl encl rfl rfl hlt fun b2 o2 hb2 => ?_
    refine hb2.loadN rfl ?_
    refine ⟨_, _, true, rfl, rfl, eqItem _ _ 9998, ?_⟩
    refine r_if (fun e => absurd e (by simp)) (fun _ => ?_)
    unfold sl_Equal_implItemI.j5
    refine r_add1 (by omega) ?_
    exact HK _ hlt rfl
  · unfold sl_Equal_implItemI.j2
    exact H
def mh : MT It → Nat
  | none => 0
  | some t => t.1 + 1
theorem Sh_mono {m m' : Nat} (h : m ≤ m') : ∀ {k : Nat} {x : PT It k}, x.Sh m → x.Sh m'
  | 0, _, s => Nat.le_trans s h
  | _ + 1, _, s => ⟨Nat.le_trans s.1 h, s.2.1, fun c hc => Sh_mono h (s.2.2 c hc)⟩

theorem head_mem {iso : Int} : ∀ {k : Nat} {t : GT It k}, Gd iso t → ∃ a1 a2 a3, (t.id, 0, [a1, Value.int .i64 t.pt.items.length, a2, a3]) ∈ t.all enc
  | 0, d, g => by
    have e : (Nd.cnt d : Int) = ((Nd.its d).length : Nat) := g.cn
    refine ⟨.int .u64 (Nd.iso d), Nd.iv d, .pointer none, ?_⟩
    show (Nd.n d, 0, [_, Value.int .i64 ((Nd.its d).length : Nat), _, _]) ∈ Nd.leaf enc d
    rw [← e]; exact List.mem_cons_self ..
  | k + 1, t, g => by
    have e : t.1.cnt = (GT.pt (h := k + 1) t).items.length := g.cn.1
    refine ⟨.int .u64 t.1.iso, t.1.iv, ptr t.1.kb 0, ?_⟩
    rw [← e]
    exact List.mem_append_left _ (List.mem_cons_self ..)
/-- What standing a tree gives. -/
def Stands (ow : List Int) (ov : Value) (nl : Bool) (d : Nat) (m0 : MT It) (h : Heap) (vi vk vc : Value) : Prop := ∀ {Q : Value → Heap → Prop}, (∀ (g : Rt) tb lf cb A E' h', rPt g = m0 → Tr h [] ow d tb g A E' lf cb h' → Q (ptr tb 0) h') → i_stand.call #[.agg #[ov, .int .i64 d, .bool nl], .agg #[vi, vk, vc]] h Q
theorem stands_of2 {ow : List Int} {ov : Value} {nl : Bool} {d k : Nat} {t : DT (k + 1)} {g : Heap} {vi vk vc : Value} (ho : OwAt g ow ov) (ha : ArgD g t vi vk) (hb : t.bulk ≤ 268435456) (hvc : one1 vc = true) (hd : d = 0 ∨ 2 ≤ d) (hd2 : d ≤ 512) (hv : validN ow d t) :
    ∃ m0 : MT It, m0.items = t.items ∧ mh m0 = (if t.1 = [] then 0 else t.lv.1) ∧ m0.Fl (dmax d) ∧ Asc (ltO ow) m0.items ∧ ((t.1 = [] ∧ t.2 = [] ∧ m0 = none) ∨ ∃ (n : Nat) (x : PT It n), m0 = some ⟨n, x⟩ ∧ Uni t x) ∧ ∀ h, Fr (fun _ _ => False) g h → Stands ow ov nl d m0 h vi vk vc := by
  have ha' := ha
  obtain ⟨hr, cs, hcl, hrk, hks⟩ := ha
  obtain ⟨m3, m1, mo, _, mn0⟩ := dmax_ok hd hd2
  rcases hv with ⟨he1, he2⟩ | ⟨hlv, hfl, hasc⟩
  · have hnil : t.items = [] := by show inter t.1 (t.2.map DT.items) = []; rw [he1, he2]; rfl
    refine ⟨none, hnil.symm, by rw [if_pos he1]; rfl, trivial, List.Pairwise.nil, .inl ⟨he1, he2, rfl⟩, fun h f Q H => ?_⟩
    have ho := ho.fr f
    have hr := hr.fr f (fun _ _ e => e)
    have hrk := hrk.fr f (fun _ _ e => e)
    refine i_stand.body _ _ _ _ ?_
    unfold i_stand.sh
    have s := St.start h
    refine St.r_box (cs := [ov, .int .i64 d, .bool nl]) s fun b2 h s => ?_
    refine St.r_box (cs := [vi, vk, vc]) s fun b3 h s => ?_
    refine St.r_loadN0 s 1 rfl (by simp) ?_
    refine grow_nil (ho.st s) hd hd2 fun tb lf cb A E1 h T => ?_
    have s1 := T.st
    have s := (s.join s1).perm List.perm_append_comm
    refine r_fld ?_
    refine St.r_load0 s 0 rfl rfl ?_
    refine (hr.st s).lenV ?_
    refine r_cmpI ?_
    refine r_br (fun _ => ?_) (fun e => absurd e (by rw [he1]; simp))
    refine r_fld ?_
    refine St.r_load0 s 0 rfl rfl ?_
    refine (hrk.st s).lenV ?_
    refine r_cmpI ?_
    refine r_if (fun e => absurd e (by rw [hcl, he2]; simp)) (fun _ => ?_)
    unfold i_stand.j1
    refine H none tb lf cb A ((b3, 0, [vi, vk, vc]) :: (b2, 0, [ov, .int .i64 d, .bool nl]) :: E1) _ rfl ⟨T.ord, T.ok, s.perm ?_⟩
    simp only [rAll]; ((apply perm_rg; intro f; simp only [List.set_cons_zero, List.set_cons_succ, List.eraseIdx_cons_zero, List.eraseIdx_cons_succ, List.cons_append, List.nil_append, List.map_append, List.map_cons, List.map_nil, List.sum_append, List.sum_cons, List.sum_nil, List.map_flatMap, Nat.add_zero, Nat.zero_add]; ac_rfl))
  · have hne0 : t.1 ≠ [] := by
      have h1 : (1 : Int) ≤ t.1.length := by
        have : t.fl (if (d : Int) = 0 then 32 else d) 1 = (decide ((1 : Int) ≤ t.1.length) && decide ((t.1.length : Int) ≤ 2 * (if (d : Int) = 0 then 32 else (d : Int)) - 1) && t.2.all fun q => q.fl (if (d : Int) = 0 then 32 else (d : Int)) ((if (d : Int) = 0 then 32 else (d : Int)) - 1)) := rfl
        rw [this] at hfl
        simp only [Bool.and_eq_true, decide_eq_true_eq] at hfl
        exact hfl.1.1
      intro hh
      rw [hh] at h1
      simp at h1
    have hp := lv_pos t hlv
    obtain ⟨x, hx⟩ := uni_of t (t.lv.1 - 1) (Prod.ext (by simp only; omega) hlv)
    have hil := t.items_le
    have hF : x.Fl (dmax d) 1 := by
      by_cases e : d = 0
      · subst e
        have := hx.fl 32 1 (by omega) (by simpa using hfl)
        exact this
      · rw [if_neg (by omega)] at hfl
        have := hx.fl d 1 (by omega) hfl
        unfold dmax
        rw [if_neg e]; exact this
    have hA : Asc (ltO ow) x.items := by rw [hx.items]; exact hasc
    refine ⟨some ⟨_, x⟩, hx.items, by rw [if_neg hne0]; show t.lv.1 - 1 + 1 = _; omega, hF, hA, .inr ⟨_, x, rfl, hx⟩, fun h f Q H => ?_⟩
    have ho := ho.fr f
    have hr := hr.fr f (fun _ _ e => e)
    have hax := (hx.arg _ _ _ (ha'.fr f))
    refine i_stand.body _ _ _ _ ?_
    unfold i_stand.sh
    have s := St.start h
    refine St.r_box (cs := [ov, .int .i64 d, .bool nl]) s fun b2 h s => ?_
    refine St.r_box (cs := [vi, vk, vc]) s fun b3 h s => ?_
    refine St.r_loadN0 s 1 rfl (by simp) ?_
    refine grow_nil (ho.st s) hd hd2 fun tb lf cb A E1 h T => ?_
    have s1 := T.st
    have s := (s.join s1).perm List.perm_append_comm
    refine r_fld ?_
    refine St.r_load0 s 0 rfl rfl ?_
    refine (hr.st s).lenV ?_
    refine r_cmpI ?_
    refine r_br (fun e => ?_) (fun _ => ?_)
    · have : t.1.length = 0 := by have := of_decide_eq_false e; omega
      exact absurd (List.length_eq_zero_iff.1 this) hne0
    have s : St _ [] ((tb, 0, hdr 1 (some ⟨cb, 0, none⟩) none 0 lf (dmin d : Nat) (dmax d : Nat)) :: ((b3, 0, [vi, vk, vc]) :: (b2, 0, [ov, .int .i64 d, .bool nl]) :: (A ++ E1))) h := s.perm (by simp only [rAll]; ((apply perm_rg; intro f; simp only [List.set_cons_zero, List.set_cons_succ, List.eraseIdx_cons_zero, List.eraseIdx_cons_succ, List.cons_append, List.nil_append, List.map_append, List.map_cons, List.map_nil, List.sum_append, List.sum_cons, List.sum_nil, List.map_flatMap, Nat.add_zero, Nat.zero_add]; ac_rfl)))
    refine St.r_loadN0 s 1 rfl (by simp) ?_
    refine planted_ok x (s.get (k := 0) (j := 0) rfl (by simp)) (hax.fr s.fr) (hx.sh _ (by omega)) (by rw [hx.items]; omega) hvc fun t' h ht1 gt s2 => ?_
    have s := (s.join s2).perm List.perm_append_comm
    obtain ⟨a1, a2, a3, hm⟩ := head_mem gt
    have s : St _ [] ((tb, 0, hdr 1 (some ⟨cb, 0, none⟩) none 0 lf (dmin d : Nat) (dmax d : Nat)) :: (((b3, 0, [vi, vk, vc]) :: (b2, 0, [ov, .int .i64 d, .bool nl]) :: (A ++ E1)) ++ t'.all enc)) h := s
    refine DoorPlant_ok s (List.mem_append_left _ (List.mem_append_right _ hm)) fun h s => ?_
    unfold i_stand.j1
    have er : rPt (some ⟨_, t'⟩) = some ⟨_, x⟩ := by show some (⟨_, t'.pt⟩ : (k : Nat) × PT It k) = _; rw [ht1]
    refine H (some ⟨_, t'⟩) tb lf cb A ((b3, 0, [vi, vk, vc]) :: (b2, 0, [ov, .int .i64 d, .bool nl]) :: E1) h er ⟨T.ord, ⟨gt, by rw [er]; exact hF, by rw [er]; exact hA, m3, m1, mo⟩, s.perm ?_⟩
    simp only [rAll, rA, rPt]
    ((apply perm_rg; intro f; simp only [List.set_cons_zero, List.set_cons_succ, List.eraseIdx_cons_zero, List.eraseIdx_cons_succ, List.cons_append, List.nil_append, List.map_append, List.map_cons, List.map_nil, List.sum_append, List.sum_cons, List.sum_nil, List.map_flatMap, Nat.add_zero, Nat.zero_add]; ac_rfl))
theorem stands_of {ow : List Int} {ov : Value} {nl : Bool} {d k : Nat} {t : DT (k + 1)} {g : Heap} {vi vk vc : Value} (ho : OwAt g ow ov) (ha : ArgD g t vi vk) (hb : t.bulk ≤ 268435456) (hvc : one1 vc = true) (hd : d = 0 ∨ 2 ≤ d) (hd2 : d ≤ 512) (hv : validN ow d t) :
    ∃ m0 : MT It, m0.items = t.items ∧ mh m0 = (if t.1 = [] then 0 else t.lv.1) ∧ m0.Fl (dmax d) ∧ Asc (ltO ow) m0.items ∧ ∀ h, Fr (fun _ _ => False) g h → Stands ow ov nl d m0 h vi vk vc := by
  obtain ⟨m0, e1, e2, e3, e4, _, e5⟩ := stands_of2 (nl := nl) ho ha hb hvc hd hd2 hv
  exact ⟨m0, e1, e2, e3, e4, e5⟩
theorem rH_mh (g : Rt) : rH g = mh (rPt g) := by cases g <;> rfl
theorem i_NItems_ok {ow : List Int} {ov : Value} {nl : Bool} {d : Nat} {m0 : MT It} {vi vk vc : Value} (hov : one1 ov = true) (h1 : one1 vi = true) (h2 : one1 vk = true) (h3 : one1 vc = true) (hs : ∀ h', Fr (fun _ _ => False) h h' → Stands ow ov nl d m0 h' vi vk vc) (hl : m0.items.length ≤ 268435456) (hh : mh m0 ≤ 1000000000)
    (H : ∀ v E' h', St h [] E' h' → Rdl 2 h' v m0.items.length (m0.items.flatMap enc) → Q (.tuple #[v, .int .i64 m0.items.length, .int .i64 (mh m0)]) h') : i_NItems.call #[.agg #[ov, .int .i64 d, .bool nl], .agg #[vi, vk, vc]] h Q := by
  refine i_NItems.body _ _ _ _ ?_
  unfold i_NItems.sh
  have s := St.start h
  refine St.r_box (cs := [ov, .int .i64 d, .bool nl]) s fun b2 h s => ?_
  refine St.r_box (cs := [vi, vk, vc]) s fun b3 h s => ?_
  refine St.r_loadN0 s 1 rfl (by simp) ?_
  refine St.r_loadN0 s 0 rfl (by simp) ?_
  refine hs h s.fr fun g tb lf cb A E1 h e T => ?_
  subst e
  have s1 := T.st
  have s := (s.join s1).perm List.perm_append_comm
  have s : St _ [] (((tb, 0, hdr 1 (some ⟨cb, 0, none⟩) (rA g) (rPt g).items.length lf (dmin d : Nat) (dmax d : Nat)) :: rAll g) ++ (A ++ ((b3, 0, [vi, vk, vc]) :: (b2, 0, [ov, .int .i64 d, .bool nl]) :: E1))) h := s.perm (by ((apply perm_rg; intro f; simp only [List.set_cons_zero, List.set_cons_succ, List.eraseIdx_cons_zero, List.eraseIdx_cons_succ, List.cons_append, List.nil_append, List.map_append, List.map_cons, List.map_nil, List.sum_append, List.sum_cons, List.sum_nil, List.map_flatMap, Nat.add_zero, Nat.zero_add]; ac_rfl)))
  refine Items_ok T.ok (by omega) s fun v b o sp h w s => ?_
  refine Len_ok (s.get (k := 1) (j := 3) rfl (by simp)) ?_
  have s : St _ [] ((tb, 0, hdr 1 (some ⟨cb, 0, none⟩) (rA g) (rPt g).items.length lf (dmin d : Nat) (dmax d : Nat)) :: (rAll g ++ ((b, o, (rPt g).items.flatMap enc ++ sp) :: (A ++ ((b3, 0, [vi, vk, vc]) :: (b2, 0, [ov, .int .i64 d, .bool nl]) :: E1))))) h := s.perm (by ((apply perm_rg; intro f; simp only [List.set_cons_zero, List.set_cons_succ, List.eraseIdx_cons_zero, List.eraseIdx_cons_succ, List.cons_append, List.nil_append, List.map_append, List.map_cons, List.map_nil, List.sum_append, List.sum_cons, List.sum_nil, List.map_flatMap, Nat.add_zero, Nat.zero_add]; ac_rfl)))
  refine Height_ok T.ok s (by rw [rH_mh]; exact hh) ?_
  rw [rH_mh]
  refine H v _ h s (w.rdlO (s.ok (List.mem_append_left _ (List.mem_cons_of_mem _ (List.mem_append_right _ (List.mem_cons_self ..))))))
def exDT : DT 2 := ([(4, 1)], [([(2, 2)], []), ([(6, 3)], [])])
theorem l_exNode_ok (H : ∀ vi vk E' h', St h [] E' h' → ArgD h' exDT vi vk → Q (.agg #[vi, vk, .int .i64 0]) h') : l_exNode.call #[] h Q := by
  refine l_exNode.body _ _ ?_
  unfold l_exNode.sh
  have s := St.start h
  refine s.r_alloc fun t0 h s => ?_
  ((apply r_build; ((simp only [fillV, fill1, Value.cells, zeros_succ, zeros_zero, List.size_toArray, List.length_cons, List.length_nil, List.length_append, List.take_succ_cons, List.take_zero, List.take_nil, List.drop_succ_cons, List.drop_zero, List.drop_nil, List.cons_append, List.nil_append, List.append_nil, Nat.reduceAdd, Nat.reduceMul, Nat.reduceLeDiff, Nat.reduceEqDiff, and_self, and_true, true_and, if_true, Nat.le_refl, Nat.zero_add, Nat.add_zero, Nat.zero_mul, reduceIte, if_false] <;> rfl))))
  refine s.r_mkSl (sz := 2) (cs := [.int .i64 4, .int .i64 1]) (by ((simp only [fillV, fill1, Value.cells, zeros_succ, zeros_zero, List.size_toArray, List.length_cons, List.length_nil, List.length_append, List.take_succ_cons, List.take_zero, List.take_nil, List.drop_succ_cons, List.drop_zero, List.drop_nil, List.cons_append, List.nil_append, List.append_nil, Nat.reduceAdd, Nat.reduceMul, Nat.reduceLeDiff, Nat.reduceEqDiff, and_self, and_true, true_and, if_true, Nat.le_refl, Nat.zero_add, Nat.add_zero, Nat.zero_mul, reduceIte, if_false] <;> rfl))) rfl fun t2 h s w2 => ?_
  ((apply r_build; ((simp only [fillV, fill1, Value.cells, zeros_succ, zeros_zero, List.size_toArray, List.length_cons, List.length_nil, List.length_append, List.take_succ_cons, List.take_zero, List.take_nil, List.drop_succ_cons, List.drop_zero, List.drop_nil, List.cons_append, List.nil_append, List.append_nil, Nat.reduceAdd, Nat.reduceMul, Nat.reduceLeDiff, Nat.reduceEqDiff, and_self, and_true, true_and, if_true, Nat.le_refl, Nat.zero_add, Nat.add_zero, Nat.zero_mul, reduceIte, if_false] <;> rfl))))
  refine s.r_mkSl (sz := 2) (cs := [.int .i64 2, .int .i64 2]) (by ((simp only [fillV, fill1, Value.cells, zeros_succ, zeros_zero, List.size_toArray, List.length_cons, List.length_nil, List.length_append, List.take_succ_cons, List.take_zero, List.take_nil, List.drop_succ_cons, List.drop_zero, List.drop_nil, List.cons_append, List.nil_append, List.append_nil, Nat.reduceAdd, Nat.reduceMul, Nat.reduceLeDiff, Nat.reduceEqDiff, and_self, and_true, true_and, if_true, Nat.le_refl, Nat.zero_add, Nat.add_zero, Nat.zero_mul, reduceIte, if_false] <;> rfl))) rfl fun t4 h s w4 => ?_
  ((apply r_build; ((simp only [fillV, fill1, Value.cells, zeros_succ, zeros_zero, List.size_toArray, List.length_cons, List.length_nil, List.length_append, List.take_succ_cons, List.take_zero, List.take_nil, List.drop_succ_cons, List.drop_zero, List.drop_nil, List.cons_append, List.nil_append, List.append_nil, Nat.reduceAdd, Nat.reduceMul, Nat.reduceLeDiff, Nat.reduceEqDiff, and_self, and_true, true_and, if_true, Nat.le_refl, Nat.zero_add, Nat.add_zero, Nat.zero_mul, reduceIte, if_false] <;> rfl))))
  ((apply r_build; ((simp only [fillV, fill1, Value.cells, zeros_succ, zeros_zero, List.size_toArray, List.length_cons, List.length_nil, List.length_append, List.take_succ_cons, List.take_zero, List.take_nil, List.drop_succ_cons, List.drop_zero, List.drop_nil, List.cons_append, List.nil_append, List.append_nil, Nat.reduceAdd, Nat.reduceMul, Nat.reduceLeDiff, Nat.reduceEqDiff, and_self, and_true, true_and, if_true, Nat.le_refl, Nat.zero_add, Nat.add_zero, Nat.zero_mul, reduceIte, if_false] <;> rfl))))
  refine s.r_mkSl (sz := 2) (cs := [.int .i64 6, .int .i64 3]) (by ((simp only [fillV, fill1, Value.cells, zeros_succ, zeros_zero, List.size_toArray, List.length_cons, List.length_nil, List.length_append, List.take_succ_cons, List.take_zero, List.take_nil, List.drop_succ_cons, List.drop_zero, List.drop_nil, List.cons_append, List.nil_append, List.append_nil, Nat.reduceAdd, Nat.reduceMul, Nat.reduceLeDiff, Nat.reduceEqDiff, and_self, and_true, true_and, if_true, Nat.le_refl, Nat.zero_add, Nat.add_zero, Nat.zero_mul, reduceIte, if_false] <;> rfl))) rfl fun t7 h s w7 => ?_
  ((apply r_build; ((simp only [fillV, fill1, Value.cells, zeros_succ, zeros_zero, List.size_toArray, List.length_cons, List.length_nil, List.length_append, List.take_succ_cons, List.take_zero, List.take_nil, List.drop_succ_cons, List.drop_zero, List.drop_nil, List.cons_append, List.nil_append, List.append_nil, Nat.reduceAdd, Nat.reduceMul, Nat.reduceLeDiff, Nat.reduceEqDiff, and_self, and_true, true_and, if_true, Nat.le_refl, Nat.zero_add, Nat.add_zero, Nat.zero_mul, reduceIte, if_false] <;> rfl))))
  refine s.r_mkSl (sz := 3) (cs := [.slice (some ⟨t4, 0, none⟩) 1 1, .slice none 0 0, .int .i64 0, .slice (some ⟨t7, 0, none⟩) 1 1, .slice none 0 0, .int .i64 0]) (by ((simp only [fillV, fill1, Value.cells, zeros_succ, zeros_zero, List.size_toArray, List.length_cons, List.length_nil, List.length_append, List.take_succ_cons, List.take_zero, List.take_nil, List.drop_succ_cons, List.drop_zero, List.drop_nil, List.cons_append, List.nil_append, List.append_nil, Nat.reduceAdd, Nat.reduceMul, Nat.reduceLeDiff, Nat.reduceEqDiff, and_self, and_true, true_and, if_true, Nat.le_refl, Nat.zero_add, Nat.add_zero, Nat.zero_mul, reduceIte, if_false] <;> rfl))) rfl fun t9 h s w9 => ?_
  ((apply r_build; ((simp only [fillV, fill1, Value.cells, zeros_succ, zeros_zero, List.size_toArray, List.length_cons, List.length_nil, List.length_append, List.take_succ_cons, List.take_zero, List.take_nil, List.drop_succ_cons, List.drop_zero, List.drop_nil, List.cons_append, List.nil_append, List.append_nil, Nat.reduceAdd, Nat.reduceMul, Nat.reduceLeDiff, Nat.reduceEqDiff, and_self, and_true, true_and, if_true, Nat.le_refl, Nat.zero_add, Nat.add_zero, Nat.zero_mul, reduceIte, if_false] <;> rfl))))
  refine St.r_storeN0 s 4 rfl rfl (by simp) (by simp [one1]) ?_; intro h s
  refine St.r_loadN0 s 4 rfl (by simp) ?_
  refine H _ _ _ h s ⟨w2.rdl s 3 rfl, [(.slice (some ⟨t4, 0, none⟩) 1 1, .slice none 0 0, 0), (.slice (some ⟨t7, 0, none⟩) 1 1, .slice none 0 0, 0)], rfl, w9.rdl s 0 rfl, fun j h1 h2 => ?_⟩
  match j, h1, h2 with
  | 0, h1, h2 => exact ⟨w4.rdl s 2 rfl, [], rfl, Rdl.nil 3 _, fun j h => absurd h (Nat.not_lt_zero _)⟩
  | 1, h1, h2 => exact ⟨w7.rdl s 1 rfl, [], rfl, Rdl.nil 3 _, fun j h => absurd h (Nat.not_lt_zero _)⟩

end Go.Proofs.Ytgnnidefbeoibaa.Gi
end
section
namespace Go.Proofs.Ytgnnidefbeoibaa.Gi
open Go.Hp Go.Proofs.Ytgnnidefbeoibaa
set_option linter.unusedVariables false
set_option linter.unusedSimpArgs false
variable {h0 h : Heap} {Z E : List Rg} {Q : Value → Heap → Prop} {lt : It → It → Bool} {lf : Value}

theorem exValid : validN [] 2 exDT := by
  refine .inr ⟨by decide, by decide, ?_⟩
  show Asc (ltO []) [(2, 2), (4, 1), (6, 3)]
  simp [Asc, ltO, rnk]
theorem l_aliveN_ok (H : ∀ E' h', St h [] E' h' → Q (.bool true) h') : l_aliveN.call #[] h Q := by
  refine l_aliveN.body _ _ ?_
  unfold l_aliveN.sh
  have s := St.start h
  refine exMake_ok fun E1 h s1 => ?_
  have s := s.join s1
  refine l_exNode_ok fun vi vk E2 h s2 ha => ?_
  have s := s.join s2
  obtain ⟨m0, e1, e2, _, _, hst⟩ := stands_of (d := 2) (nl := false) (vc := .int .i64 0) (OwAt.nil _) ha (by decide) rfl (by decide) (by decide) exValid
  refine i_NItems_ok (d := 2) rfl ha.one.1 ha.one.2 rfl hst (by rw [e1]; decide) (by rw [e2]; decide) fun v E3 h s3 hv => ?_
  have s := s.join s3
  refine r_ext rfl ?_
  refine r_ext rfl ?_
  refine r_ext rfl ?_
  refine hv.lenV ?_
  rw [e1, e2]
  refine r_cmpI ?_
  refine r_br (fun _ => ?_) (fun e => absurd e (by decide))
  refine r_cmpI ?_
  refine r_br (fun _ => ?_) (fun e => absurd e (by decide))
  refine r_cmpI ?_
  exact H _ _ s
end Go.Proofs.Ytgnnidefbeoibaa.Gi
end
section
namespace Go.Proofs.Ytgnnidefbeoibaa.Gi
open Go.Hp Go.Proofs.Ytgnnidefbeoibaa
set_option linter.unusedVariables false
set_option linter.unusedSimpArgs false
variable {h0 h : Heap} {Z E : List Rg} {Q : Value → Heap → Prop} {lt : It → It → Bool} {lf : Value}

/-- A node as data in memory, whose kids' counts are right. -/
def ArgC (h : Heap) : {k : Nat} → PT It k → Value → Value → Prop
  | 0, its, vi, vk => Rdl 2 h vi (its : List It).length ((its : List It).flatMap enc) ∧ Rdl 3 h vk 0 []
  | k + 1, t, vi, vk => Rdl 2 h vi t.1.length (t.1.flatMap enc) ∧ ∃ cs : List (Value × Value × Int), cs.length = t.2.length ∧ Rdl 3 h vk cs.length (cs.flatMap encN) ∧
      ∀ j (h1 : j < t.2.length) (h2 : j < cs.length), ArgC h t.2[j] cs[j].1 cs[j].2.1 ∧ cs[j].2.2 = t.2[j].items.length
theorem ArgC.fr {h h' : Heap} (f : Fr (fun _ _ => False) h h') : ∀ {k : Nat} {x : PT It k} {vi vk : Value}, ArgC h x vi vk → ArgC h' x vi vk
  | 0, _, _, _, ⟨h1, h2⟩ => ⟨h1.fr f (fun _ _ e => e), h2.fr f (fun _ _ e => e)⟩
  | k + 1, _, _, _, ⟨h1, cs, h3, h4, h5⟩ => ⟨h1.fr f (fun _ _ e => e), cs, h3, h4.fr f (fun _ _ e => e), fun j j1 j2 => ⟨ArgC.fr f (h5 j j1 j2).1, (h5 j j1 j2).2⟩⟩
theorem ArgC.one {h : Heap} : ∀ {k : Nat} {x : PT It k} {vi vk : Value}, ArgC h x vi vk → one1 vi = true ∧ one1 vk = true
  | 0, _, _, _, ⟨h1, h2⟩ => ⟨h1.one, h2.one⟩
  | k + 1, _, _, _, ⟨h1, cs, h3, h4, h5⟩ => ⟨h1.one, h4.one⟩
theorem ArgC.its {h : Heap} : ∀ {k : Nat} {x : PT It k} {vi vk : Value}, ArgC h x vi vk → Rdl 2 h vi x.its.length (x.its.flatMap enc)
  | 0, _, _, _, r => r.1
  | _ + 1, _, _, _, r => r.1
/-- The tree as data of any shape. -/
def toD : {k : Nat} → PT It k → DT (k + 1)
  | 0, its => ((its : List It), [])
  | _ + 1, t => (t.1, t.2.map toD)
theorem ArgC.toD {h : Heap} : ∀ {k : Nat} {x : PT It k} {vi vk : Value}, ArgC h x vi vk → ArgD h (toD x) vi vk
  | 0, _, _, _, ⟨h1, h2⟩ => ⟨h1, [], rfl, h2, fun j j1 => absurd j1 (Nat.not_lt_zero _)⟩
  | k + 1, x, _, _, ⟨h1, cs, h3, h4, h5⟩ => ⟨h1, cs, by show cs.length = (x.2.map _).length; rw [List.length_map]; exact h3, h4, fun j j1 j2 => by
      have j1' : j < x.2.length := by have : j < (x.2.map Gi.toD).length := j1; rwa [List.length_map] at this
      have := ArgC.toD (h5 j j1' j2).1
      have e : (x.2.map Gi.toD)[j]'j1 = Gi.toD (x.2[j]'j1') := List.getElem_map ..
      show ArgD h ((x.2.map Gi.toD)[j]'j1) _ _
      rw [e]; exact this⟩
theorem DoorCount_ok {n : Nat} {v : Value} (hc : cl h n 1 = some v) (H : ∀ E' h', St h [] E' h' → Q v h') : DoorNode_I_DoorCount.call #[.agg #[ptr n 0]] h Q := by
  refine DoorNode_I_DoorCount.body _ _ _ ?_
  unfold DoorNode_I_DoorCount.sh
  have s := St.start h
  refine St.r_box (cs := [ptr n 0]) s fun t1 h s => ?_
  refine r_fld ?_
  refine St.r_load0 s 0 rfl rfl ?_
  refine r_nil ?_
  refine r_fld ?_
  refine s.r_loadB hc ?_
  exact H _ _ s
theorem DoorIsLeaf_ok {n : Nat} {a : Option Addr} (hc : cl h n 3 = some (.pointer a)) (H : ∀ E' h', St h [] E' h' → Q (.bool a.isNone) h') : DoorNode_I_DoorIsLeaf.call #[.agg #[ptr n 0]] h Q := by
  refine DoorNode_I_DoorIsLeaf.body _ _ _ ?_
  unfold DoorNode_I_DoorIsLeaf.sh
  have s := St.start h
  refine St.r_box (cs := [ptr n 0]) s fun t1 h s => ?_
  refine r_fld ?_
  refine St.r_load0 s 0 rfl rfl ?_
  refine node_leaf_ok (s.base hc) ?_
  exact H _ _ s
theorem DoorKids_ok {n kb len : Nat} {v : Value} {xs : List Value} (hc : cl h n 3 = some (ptr kb 0)) (hk : cl h kb 0 = some v) (hr : Rdl 1 h v len xs) (H : ∀ E' h', St h [] E' h' → Q (.int .i64 len) h') : DoorNode_I_DoorKids.call #[.agg #[ptr n 0]] h Q := by
  refine DoorNode_I_DoorKids.body _ _ _ ?_
  unfold DoorNode_I_DoorKids.sh
  have s := St.start h
  refine St.r_box (cs := [ptr n 0]) s fun t1 h s => ?_
  refine r_fld ?_
  refine St.r_load0 s 0 rfl rfl ?_
  refine r_nil ?_
  refine r_fld ?_
  refine s.r_loadB hc ?_
  refine r_nil ?_
  refine s.r_loadB hk ?_
  refine hr.lenV ?_
  exact H _ _ s
theorem DoorKid_ok {n kb i : Nat} {v : Value} {l : List Nat} (hc : cl h n 3 = some (ptr kb 0)) (hk : cl h kb 0 = some v) (hr : Rdl 1 h v l.length (l.map fun m => ptr m 0)) (hi : i < l.length) (H : ∀ E' h', St h [] E' h' → Q (.agg #[ptr l[i] 0]) h') : DoorNode_I_DoorKid.call #[.agg #[ptr n 0], .int .i64 i] h Q := by
  refine DoorNode_I_DoorKid.body _ _ _ _ ?_
  unfold DoorNode_I_DoorKid.sh
  have s := St.start h
  refine St.r_box (cs := [ptr n 0]) s fun t2 h s => ?_
  refine s.r_alloc fun t4 h s => ?_
  refine r_fld ?_
  refine St.r_load0 s 1 rfl rfl ?_
  refine r_nil ?_
  refine r_fld ?_
  refine s.r_loadB hc ?_
  refine r_nil ?_
  refine s.r_loadB hk ?_
  refine hr.at1 (n := i) rfl hi fun b o hb => ?_
  refine (hb.st s).load0 rfl ?_
  ((apply r_build; ((simp only [fillV, fill1, Value.cells, zeros_succ, zeros_zero, List.size_toArray, List.length_cons, List.length_nil, List.length_append, List.take_succ_cons, List.take_zero, List.take_nil, List.drop_succ_cons, List.drop_zero, List.drop_nil, List.cons_append, List.nil_append, List.append_nil, Nat.reduceAdd, Nat.reduceMul, Nat.reduceLeDiff, Nat.reduceEqDiff, and_self, and_true, true_and, if_true, Nat.le_refl, Nat.zero_add, Nat.add_zero, Nat.zero_mul, reduceIte, if_false] <;> rfl))))
  refine St.r_storeN0 s 0 (ys := [ptr l[i] 0]) rfl rfl (by simp) (by simp [one1]) ?_; intro h s
  refine St.r_loadN0 s 0 rfl (by simp) ?_
  exact H _ _ s
theorem DoorItems_ok {n : Nat} {v : Value} (hc : cl h n 2 = some v) (H : ∀ E' h', St h [] E' h' → Q v h') : DoorNode_I_DoorItems.call #[.agg #[ptr n 0]] h Q := by
  refine DoorNode_I_DoorItems.body _ _ _ ?_
  unfold DoorNode_I_DoorItems.sh
  have s := St.start h
  refine St.r_box (cs := [ptr n 0]) s fun t1 h s => ?_
  refine r_fld ?_
  refine St.r_load0 s 0 rfl rfl ?_
  refine r_nil ?_
  refine r_fld ?_
  refine s.r_loadB hc ?_
  exact H _ _ s
theorem toD_items : ∀ {k : Nat} (x : PT It k), (toD x).items = x.items
  | 0, x => rfl
  | k + 1, x => by
    show inter x.1 ((x.2.map toD).map DT.items) = inter x.1 (x.2.map PT.items)
    rw [List.map_map]
    congr 1
    exact List.map_congr_left fun c _ => toD_items c
theorem toD_its : ∀ {k : Nat} (x : PT It k), (toD x).1 = x.its
  | 0, _ => rfl
  | _ + 1, _ => rfl
theorem toD_lv {m : Nat} : ∀ {k lo : Nat} {x : PT It k}, x.Fl m lo → (toD x).lv = (k + 1, true)
  | 0, _, x, _ => rfl
  | k + 1, lo, x, f => by
    have hl : x.2.length = x.1.length + 1 := f.2.2.1
    obtain ⟨q, r, hq⟩ : ∃ q r, x.2 = q :: r := head_of (by omega)
    have hk : ∀ c ∈ x.2, (toD c).lv = (k + 1, true) := fun c hc => toD_lv (f.2.2.2 c hc)
    have e : (toD x).2 = toD q :: r.map toD := by show x.2.map toD = _; rw [hq]; rfl
    have e1 : (toD x).1 = x.1 := rfl
    have hr : (r.map toD).length = (toD x).1.length := by rw [List.length_map, e1]; rw [hq] at hl; simp at hl; exact hl
    unfold DT.lv
    rw [e]
    simp only [if_pos hr]
    have h1 := hk q (by rw [hq]; simp)
    rw [h1]
    simp only [Bool.true_and, Prod.mk.injEq, true_and, List.all_map, List.all_eq_true, Function.comp]
    intro c hc
    rw [hk c (by rw [hq]; exact List.mem_cons_of_mem _ hc)]
    simp
theorem toD_fl {d : Nat} (hd : 1 ≤ d) : ∀ {k lo : Nat} {x : PT It k}, x.Fl (2 * d - 1) lo → (toD x).fl d lo = true
  | 0, lo, x, f => by
    have f : lo ≤ List.length (α := It) x ∧ List.length (α := It) x ≤ 2 * d - 1 := f
    show (decide ((lo : Int) ≤ (List.length (α := It) x : Nat)) && decide (((List.length (α := It) x : Nat) : Int) ≤ 2 * d - 1) && true) = true
    simp only [Bool.and_eq_true, decide_eq_true_eq, and_true]
    omega
  | k + 1, lo, x, f => by
    have h1 := f.1
    have h2 := f.2.1
    show (decide ((lo : Int) ≤ (x.1.length : Nat)) && decide (((x.1.length : Nat) : Int) ≤ 2 * d - 1) && (x.2.map toD).all fun q => DT.fl d (d - 1) q) = true
    simp only [Bool.and_eq_true, decide_eq_true_eq, List.all_map, List.all_eq_true, Function.comp]
    refine ⟨⟨by omega, by omega⟩, fun c hc => ?_⟩
    have h3 := f.2.2.2 c hc
    rw [show (2 * d - 1) / 2 = d - 1 by omega] at h3
    have := toD_fl hd h3
    rw [show ((d - 1 : Nat) : Int) = (d : Int) - 1 by omega] at this
    exact this
theorem toD_bulk {m : Nat} (hm : 3 ≤ m) : ∀ {k lo : Nat} {x : PT It k}, x.Fl m lo → 1 ≤ lo → (toD x).bulk ≤ 2 * x.items.length
  | 0, lo, x, f, h => by
    have f : lo ≤ List.length (α := It) x := f.1
    show 1 + List.length (α := It) x + 0 ≤ 2 * List.length (α := It) x
    omega
  | k + 1, lo, x, f, h => by
    have h1 := f.1
    have hs : ∀ l : List (PT It k), (∀ c ∈ l, c ∈ x.2) → ((l.map toD).map DT.bulk).sum ≤ 2 * ((l.map PT.items).map List.length).sum := fun l => by
      induction l with
      | nil => intro _; simp
      | cons a r ih =>
        intro hl
        have i1 := ih fun c hc => hl c (List.mem_cons_of_mem _ hc)
        have i2 := toD_bulk hm (f.2.2.2 a (hl a (by simp))) (by omega)
        simp only [List.map_cons, List.sum_cons]
        omega
    have := hs x.2 fun _ h => h
    show 1 + x.1.length + ((x.2.map toD).map DT.bulk).sum ≤ 2 * (inter x.1 (x.2.map PT.items)).length
    rw [inter_length]
    omega
end Go.Proofs.Ytgnnidefbeoibaa.Gi
end
section
namespace Go.Proofs.Ytgnnidefbeoibaa.Gi
open Go.Hp Go.Proofs.Ytgnnidefbeoibaa
set_option linter.unusedVariables false
set_option linter.unusedSimpArgs false
variable {h0 h : Heap} {Z E : List Rg} {Q : Value → Heap → Prop} {lt : It → It → Bool} {lf : Value}

/-- What lifting a node does behind its items and its count, however it came to these. -/
def liftTail (t1 t2 t3 : Value) (h : Heap) (Q : Value → Heap → Prop) : Prop :=
  loadN 1 t1 h fun t11 =>
    DoorNode_I_DoorIsLeaf.call #[t11] h fun t12 h =>
    notV t12 fun t13 =>
    ifV t13
    (loadN 1 t1 h fun t14 =>
    DoorNode_I_DoorKids.call #[t14] h fun t15 h =>
    loopC (fun c s h K1 => i_lifted.l2.b (c.getD 0 undef) (c.getD 1 undef) (c.getD 2 undef) (c.getD 3 undef) (s.getD 0 undef) h K1 Q) [t1, t2, t3, t15] [(.int .i64 0)] h)
    (i_lifted.j1 t2 t3 h Q)
theorem lift_orders {d : Nd It} (hnd : NdAt enc 2 h d) (hl : d.its.length ≤ 1073741823)
    (T : ∀ t1 t2 t3 b o vi sp R g, Own 2 vi d.its.length b o (d.its.flatMap enc) sp → (b, o, d.its.flatMap enc ++ sp) ∈ R →
        St h [] ((t1, 0, [ptr d.n 0]) :: (t2, 0, [.slice none 0 0, .slice none 0 0, .int .i64 0]) :: (t3, 0, [vi, .slice none 0 0, .int .i64 d.cnt]) :: R) g → liftTail (ptr t1 0) (ptr t2 0) (ptr t3 0) g Q) : i_lifted.call #[.agg #[ptr d.n 0]] h Q := by
  refine i_lifted.body _ _ _ ?_
  unfold i_lifted.sh
  have s := St.start h
  refine St.r_box (cs := [ptr d.n 0]) s fun t1 h s => ?_
  refine s.r_alloc fun t2 h s => ?_
  refine St.r_loadN0 s 1 rfl (by simp) ?_
  refine St.r_loadN0 s 1 rfl (by simp) ?_
  refine ⟨?_, ?_⟩
  · refine DoorItems_ok (cl_fr s.fr hnd.iv) fun E2 h s2 => ?_
    have s := (s.join s2).perm List.perm_append_comm
    have s : St _ [] ((t2, 0, [.slice none 0 0, .slice none 0 0, .int .i64 0]) :: (t1, 0, [ptr d.n 0]) :: E2) h := s
    refine ⟨St.r_stillN0 s 1 (j := 0) rfl (by simp) rfl, ?_, ?_⟩
    · refine items_new s (hnd.its.st s) (by omega) fun vi b o sp h s w => ?_
      refine ⟨St.r_stillN0 s 2 (j := 0) rfl (by simp) rfl, ?_, ?_⟩
      · refine DoorCount_ok (cl_fr s.fr hnd.cnt) fun E3 h s3 => ?_
        have s := (s.join s3).perm List.perm_append_comm
        refine r_build (cs := [vi, .slice none 0 0, .int .i64 d.cnt]) (by obtain ⟨_, _, e0, _⟩ := w; subst e0; ((simp only [fillV, fill1, Value.cells, zeros_succ, zeros_zero, List.size_toArray, List.length_cons, List.length_nil, List.length_append, List.take_succ_cons, List.take_zero, List.take_nil, List.drop_succ_cons, List.drop_zero, List.drop_nil, List.cons_append, List.nil_append, List.append_nil, Nat.reduceAdd, Nat.reduceMul, Nat.reduceLeDiff, Nat.reduceEqDiff, and_self, and_true, true_and, if_true, Nat.le_refl, Nat.zero_add, Nat.add_zero, Nat.zero_mul, reduceIte, if_false] <;> rfl))) ?_
        refine s.r_alloc fun t3 h s => ?_
        refine St.r_storeN0 s 0 (ys := [vi, .slice none 0 0, .int .i64 d.cnt]) rfl rfl (by simp) (one3 w.one rfl rfl) ?_; intro h s
        have s : St _ [] ((t1, 0, [ptr d.n 0]) :: (t2, 0, [.slice none 0 0, .slice none 0 0, .int .i64 0]) :: (t3, 0, [vi, .slice none 0 0, .int .i64 d.cnt]) :: (b, o, d.its.flatMap enc ++ sp) :: (E2 ++ E3)) h := s.perm (by ((apply perm_rg; intro f; simp only [List.set_cons_zero, List.set_cons_succ, List.eraseIdx_cons_zero, List.eraseIdx_cons_succ, List.cons_append, List.nil_append, List.map_append, List.map_cons, List.map_nil, List.sum_append, List.sum_cons, List.sum_nil, List.map_flatMap, Nat.add_zero, Nat.zero_add]; ac_rfl)))
        exact T _ _ _ _ _ _ _ _ _ w (List.mem_cons_self ..) s
      · refine s.r_alloc fun t3 h s => ?_
        refine ⟨St.r_stillN0 s 3 (j := 0) rfl (by simp) rfl, ?_⟩
        refine DoorCount_ok (cl_fr s.fr hnd.cnt) fun E3 h s3 => ?_
        have s := (s.join s3).perm List.perm_append_comm
        refine r_build (cs := [vi, .slice none 0 0, .int .i64 d.cnt]) (by obtain ⟨_, _, e0, _⟩ := w; subst e0; ((simp only [fillV, fill1, Value.cells, zeros_succ, zeros_zero, List.size_toArray, List.length_cons, List.length_nil, List.length_append, List.take_succ_cons, List.take_zero, List.take_nil, List.drop_succ_cons, List.drop_zero, List.drop_nil, List.cons_append, List.nil_append, List.append_nil, Nat.reduceAdd, Nat.reduceMul, Nat.reduceLeDiff, Nat.reduceEqDiff, and_self, and_true, true_and, if_true, Nat.le_refl, Nat.zero_add, Nat.add_zero, Nat.zero_mul, reduceIte, if_false] <;> rfl))) ?_
        refine St.r_storeN0 s 0 (ys := [vi, .slice none 0 0, .int .i64 d.cnt]) rfl rfl (by simp) (one3 w.one rfl rfl) ?_; intro h s
        have s : St _ [] ((t1, 0, [ptr d.n 0]) :: (t2, 0, [.slice none 0 0, .slice none 0 0, .int .i64 0]) :: (t3, 0, [vi, .slice none 0 0, .int .i64 d.cnt]) :: (b, o, d.its.flatMap enc ++ sp) :: (E2 ++ E3)) h := s.perm (by ((apply perm_rg; intro f; simp only [List.set_cons_zero, List.set_cons_succ, List.eraseIdx_cons_zero, List.eraseIdx_cons_succ, List.cons_append, List.nil_append, List.map_append, List.map_cons, List.map_nil, List.sum_append, List.sum_cons, List.sum_nil, List.map_flatMap, Nat.add_zero, Nat.zero_add]; ac_rfl)))
        exact T _ _ _ _ _ _ _ _ _ w (List.mem_cons_self ..) s
    · refine s.r_alloc fun t3 h s => ?_
      refine ⟨St.r_stillN0 s 2 (j := 0) rfl (by simp) rfl, ?_⟩
      refine items_new s (hnd.its.st s) (by omega) fun vi b o sp h s w => ?_
      refine ⟨St.r_stillN0 s 3 (j := 0) rfl (by simp) rfl, ?_⟩
      refine DoorCount_ok (cl_fr s.fr hnd.cnt) fun E3 h s3 => ?_
      have s := (s.join s3).perm List.perm_append_comm
      refine r_build (cs := [vi, .slice none 0 0, .int .i64 d.cnt]) (by obtain ⟨_, _, e0, _⟩ := w; subst e0; ((simp only [fillV, fill1, Value.cells, zeros_succ, zeros_zero, List.size_toArray, List.length_cons, List.length_nil, List.length_append, List.take_succ_cons, List.take_zero, List.take_nil, List.drop_succ_cons, List.drop_zero, List.drop_nil, List.cons_append, List.nil_append, List.append_nil, Nat.reduceAdd, Nat.reduceMul, Nat.reduceLeDiff, Nat.reduceEqDiff, and_self, and_true, true_and, if_true, Nat.le_refl, Nat.zero_add, Nat.add_zero, Nat.zero_mul, reduceIte, if_false] <;> rfl))) ?_
      refine St.r_storeN0 s 1 (ys := [vi, .slice none 0 0, .int .i64 d.cnt]) rfl rfl (by simp) (one3 w.one rfl rfl) ?_; intro h s
      have s : St _ [] ((t1, 0, [ptr d.n 0]) :: (t2, 0, [.slice none 0 0, .slice none 0 0, .int .i64 0]) :: (t3, 0, [vi, .slice none 0 0, .int .i64 d.cnt]) :: (b, o, d.its.flatMap enc ++ sp) :: (E2 ++ E3)) h := s.perm (by ((apply perm_rg; intro f; simp only [List.set_cons_zero, List.set_cons_succ, List.eraseIdx_cons_zero, List.eraseIdx_cons_succ, List.cons_append, List.nil_append, List.map_append, List.map_cons, List.map_nil, List.sum_append, List.sum_cons, List.sum_nil, List.map_flatMap, Nat.add_zero, Nat.zero_add]; ac_rfl)))
      exact T _ _ _ _ _ _ _ _ _ w (List.mem_cons_self ..) s
  · refine s.r_alloc fun t3 h s => ?_
    refine ⟨St.r_stillN0 s 2 (j := 0) rfl (by simp) rfl, St.r_stillN0 s 2 (j := 0) rfl (by simp) rfl, ?_⟩
    refine DoorItems_ok (cl_fr s.fr hnd.iv) fun E2 h s2 => ?_
    have s := (s.join s2).perm List.perm_append_comm
    have s : St _ [] ((t3, 0, [.slice none 0 0, .slice none 0 0, .int .i64 0]) :: (t2, 0, [.slice none 0 0, .slice none 0 0, .int .i64 0]) :: (t1, 0, [ptr d.n 0]) :: E2) h := s
    refine ⟨St.r_stillN0 s 2 (j := 0) rfl (by simp) rfl, ?_⟩
    refine items_new s (hnd.its.st s) (by omega) fun vi b o sp h s w => ?_
    refine ⟨St.r_stillN0 s 3 (j := 0) rfl (by simp) rfl, ?_⟩
    refine DoorCount_ok (cl_fr s.fr hnd.cnt) fun E3 h s3 => ?_
    have s := (s.join s3).perm List.perm_append_comm
    refine r_build (cs := [vi, .slice none 0 0, .int .i64 d.cnt]) (by obtain ⟨_, _, e0, _⟩ := w; subst e0; ((simp only [fillV, fill1, Value.cells, zeros_succ, zeros_zero, List.size_toArray, List.length_cons, List.length_nil, List.length_append, List.take_succ_cons, List.take_zero, List.take_nil, List.drop_succ_cons, List.drop_zero, List.drop_nil, List.cons_append, List.nil_append, List.append_nil, Nat.reduceAdd, Nat.reduceMul, Nat.reduceLeDiff, Nat.reduceEqDiff, and_self, and_true, true_and, if_true, Nat.le_refl, Nat.zero_add, Nat.add_zero, Nat.zero_mul, reduceIte, if_false] <;> rfl))) ?_
    refine St.r_storeN0 s 1 (ys := [vi, .slice none 0 0, .int .i64 d.cnt]) rfl rfl (by simp) (one3 w.one rfl rfl) ?_; intro h s
    have s : St _ [] ((t1, 0, [ptr d.n 0]) :: (t2, 0, [.slice none 0 0, .slice none 0 0, .int .i64 0]) :: (t3, 0, [vi, .slice none 0 0, .int .i64 d.cnt]) :: (b, o, d.its.flatMap enc ++ sp) :: (E2 ++ E3)) h := s.perm (by ((apply perm_rg; intro f; simp only [List.set_cons_zero, List.set_cons_succ, List.eraseIdx_cons_zero, List.eraseIdx_cons_succ, List.cons_append, List.nil_append, List.map_append, List.map_cons, List.map_nil, List.sum_append, List.sum_cons, List.sum_nil, List.map_flatMap, Nat.add_zero, Nat.zero_add]; ac_rfl)))
    exact T _ _ _ _ _ _ _ _ _ w (List.mem_cons_self ..) s
theorem lifted_ok : ∀ {k : Nat} (t : GT It k) {h : Heap} {Q : Value → Heap → Prop}, t.At enc 2 h → t.Cn → t.pt.Sh 1073741823 →
    (∀ vi vk A h', St h [] A h' → (∀ g, (∀ r ∈ A, r.Ok g) → ArgC g t.pt vi vk) → one1 vi = true → one1 vk = true → Q (.agg #[vi, vk, .int .i64 t.pt.items.length]) h') → i_lifted.call #[.agg #[ptr t.id 0]] h Q := by
  intro k
  induction k with
  | zero =>
    intro t h Q ha hc hs H
    have hnd := GT.At.nd ha
    have hs1 : t.nd.its.length ≤ 1073741823 := hs
    have tail : ∀ {g : Heap} {t1 t2 t3 b o : Nat} {vi : Value} {sp : List Value} {R : List Rg}, Own 2 vi t.nd.its.length b o (t.nd.its.flatMap enc) sp → (b, o, t.nd.its.flatMap enc ++ sp) ∈ R →
        St h [] ((t1, 0, [ptr t.id 0]) :: (t2, 0, [.slice none 0 0, .slice none 0 0, .int .i64 0]) :: (t3, 0, [vi, .slice none 0 0, .int .i64 t.nd.cnt]) :: R) g → liftTail (ptr t1 0) (ptr t2 0) (ptr t3 0) g Q := fun {g t1 t2 t3 b o vi sp R} w hm s => by
      unfold liftTail
      refine St.r_loadN0 s 0 rfl (by simp) ?_
      refine DoorIsLeaf_ok (a := none) (cl_fr s.fr ha.2) fun E4 h s4 => ?_
      have s := (s.join s4).perm List.perm_append_comm
      refine r_not ?_
      refine r_if (fun e => absurd e (by simp)) (fun _ => ?_)
      unfold i_lifted.j1
      have s : St _ [] ((t1, 0, [ptr t.id 0]) :: (t2, 0, [.slice none 0 0, .slice none 0 0, .int .i64 0]) :: (t3, 0, [vi, .slice none 0 0, .int .i64 t.nd.cnt]) :: (R ++ E4)) h := s
      refine St.r_loadN0 s 2 rfl (by simp) ?_
      refine St.r_storeN0 s 1 (ys := [vi, .slice none 0 0, .int .i64 t.nd.cnt]) rfl rfl (by simp) (one3 w.one rfl rfl) ?_; intro h s
      refine St.r_loadN0 s 1 rfl (by simp) ?_
      have ec : t.nd.cnt = t.pt.items.length := hc.cnt
      rw [ec] at s ⊢
      refine H vi (.slice none 0 0) _ h s (fun g hg => ⟨?_, Rdl.nil 3 g⟩) w.one rfl
      exact w.rdlO (hg _ (List.mem_cons_of_mem _ (List.mem_cons_of_mem _ (List.mem_cons_of_mem _ (List.mem_append.2 (.inl hm))))))
    refine lift_orders hnd hs1 fun t1 t2 t3 b o vi sp R g w hm s => ?_
    exact tail w hm s
  | succ k ih =>
    intro t h Q ha hc hs H
    have hnd := GT.At.nd ha
    obtain ⟨_, c1, c2, c3, c4, c5⟩ := ha
    have hs1 : t.1.its.length ≤ 1073741823 := hs.1
    have tail : ∀ {g : Heap} {t1 t2 t3 b o : Nat} {vi : Value} {sp : List Value} {R : List Rg}, Own 2 vi t.nd.its.length b o (t.nd.its.flatMap enc) sp → (b, o, t.nd.its.flatMap enc ++ sp) ∈ R →
        St h [] ((t1, 0, [ptr t.id 0]) :: (t2, 0, [.slice none 0 0, .slice none 0 0, .int .i64 0]) :: (t3, 0, [vi, .slice none 0 0, .int .i64 t.nd.cnt]) :: R) g → liftTail (ptr t1 0) (ptr t2 0) (ptr t3 0) g Q := fun {g t1 t2 t3 b o vi sp R} w hm s => by
      unfold liftTail
      refine St.r_loadN0 s 0 rfl (by simp) ?_
      refine DoorIsLeaf_ok (a := some ⟨t.1.kb, 0, none⟩) (cl_fr s.fr c1) fun E4 h s4 => ?_
      have s := (s.join s4).perm List.perm_append_comm
      refine r_not ?_
      refine r_if (fun _ => ?_) (fun e => absurd e (by simp))
      have s : St _ [] ((t1, 0, [ptr t.id 0]) :: (t2, 0, [.slice none 0 0, .slice none 0 0, .int .i64 0]) :: (t3, 0, [vi, .slice none 0 0, .int .i64 t.nd.cnt]) :: (R ++ E4)) h := s
      refine St.r_loadN0 s 0 rfl (by simp) ?_
      have c3' : ∀ {g : Heap} {Z E : List Rg}, St _ Z E g → Rdl 1 g t.1.kv t.2.length (t.2.map fun k => ptr k.id 0) := fun s => c3.st s
      refine DoorKids_ok (cl_fr s.fr c1) (cl_fr s.fr c2) (c3' s) fun E5 h s5 => ?_
      have s := (s.join s5).perm List.perm_append_comm
      have hkl : t.2.length = t.1.its.length + 1 := c4
      refine loop_ghost (fun q st h' => ∃ (j : Nat) (cs : List (Value × Value × Int)) (vk : Value) (b2 o2 : Nat) (p2 : List Value) (R2 : List Rg), q = t.2.length - j ∧ j ≤ t.2.length ∧ st = [.int .i64 (j : Nat)] ∧ cs.length = j ∧ Own 3 vk cs.length b2 o2 (cs.flatMap encN) p2 ∧
          St _ [] ((t1, 0, [ptr t.id 0]) :: (t2, 0, [.slice none 0 0, .slice none 0 0, .int .i64 0]) :: (t3, 0, [vi, vk, .int .i64 t.nd.cnt]) :: (b2, o2, cs.flatMap encN ++ p2) :: (R ++ R2)) h' ∧
          (∀ c ∈ cs, one1 c.1 = true ∧ one1 c.2.1 = true) ∧
          (∀ g, (∀ r ∈ R2, r.Ok g) → ∀ i (h1 : i < t.2.length) (h2 : i < cs.length), ArgC g (t.2[i]).pt cs[i].1 cs[i].2.1 ∧ cs[i].2.2 = (t.2[i]).pt.items.length)) (n0 := t.2.length)
        ⟨0, [], .slice none 0 0, 0, 0, [], E4 ++ E5, rfl, Nat.zero_le _, rfl, rfl, Own.nil 3 0 0, (s.empty 0 0).perm (by ((apply perm_rg; intro f; simp only [List.set_cons_zero, List.set_cons_succ, List.eraseIdx_cons_zero, List.eraseIdx_cons_succ, List.cons_append, List.nil_append, List.map_append, List.map_cons, List.map_nil, List.sum_append, List.sum_cons, List.sum_nil, List.map_flatMap, Nat.add_zero, Nat.zero_add]; ac_rfl))), fun _ h => (List.not_mem_nil h).elim, fun g _ i _ h2 => absurd h2 (Nat.not_lt_zero _)⟩ ?_
      clear s s5 s4
      rintro q st h ⟨j, cs, vk, b2, o2, p2, R2, rfl, hj, rfl, hcs, w2, s, hone, harg⟩ K HK
      unfold i_lifted.l2.b
      refine r_cmpI ?_
      refine r_if (fun hlt => ?_) (fun hge => ?_)
      · have hlt : j < t.2.length := by simpa using hlt
        have hkm : t.2[j] ∈ t.2 := List.getElem_mem hlt
        unfold i_lifted.j3
        refine r_fld ?_
        refine St.r_load0 s 2 rfl rfl ?_
        refine St.r_loadN0 s 0 rfl (by simp) ?_
        refine DoorKid_ok (l := t.2.map fun k => k.id) (i := j) (cl_fr s.fr c1) (cl_fr s.fr c2) (by rw [List.map_map, List.length_map]; exact c3' s) (by rw [List.length_map]; exact hlt) fun E6 h s6 => ?_
        rw [List.getElem_map]
        have s := (s.join s6).perm List.perm_append_comm
        have s : St _ [] ((t1, 0, [ptr t.id 0]) :: (t2, 0, [.slice none 0 0, .slice none 0 0, .int .i64 0]) :: (t3, 0, [vi, vk, .int .i64 t.nd.cnt]) :: (b2, o2, cs.flatMap encN ++ p2) :: ((R ++ R2) ++ E6)) h := s
        refine ⟨s.r_still0 2 rfl rfl, ?_⟩
        refine ih t.2[j] ((c5 _ hkm).fr s.fr) (hc.2 _ hkm) (hs.2.2 _ (List.mem_map.2 ⟨_, hkm, rfl⟩)) fun kvi kvk A h s7 hA hk1 hk2 => ?_
        have s := (s.join s7).perm List.perm_append_comm
        have s : St _ [] ((t1, 0, [ptr t.id 0]) :: (t2, 0, [.slice none 0 0, .slice none 0 0, .int .i64 0]) :: (t3, 0, [vi, vk, .int .i64 t.nd.cnt]) :: (b2, o2, cs.flatMap encN ++ p2) :: (((R ++ R2) ++ E6) ++ A)) h := s
        refine ⟨s.r_still0 2 rfl rfl, ?_⟩
        refine St.r_mkSl (sz := 3) (cs := encN (kvi, kvk, (t.2[j].pt.items.length : Nat))) s (by ((simp only [fillV, fill1, Value.cells, zeros_succ, zeros_zero, List.size_toArray, List.length_cons, List.length_nil, List.length_append, List.take_succ_cons, List.take_zero, List.take_nil, List.drop_succ_cons, List.drop_zero, List.drop_nil, List.cons_append, List.nil_append, List.append_nil, Nat.reduceAdd, Nat.reduceMul, Nat.reduceLeDiff, Nat.reduceEqDiff, and_self, and_true, true_and, if_true, Nat.le_refl, Nat.zero_add, Nat.add_zero, Nat.zero_mul, reduceIte, if_false] <;> rfl))) rfl fun q1 h s wq => ?_
        refine ⟨s.r_still0 3 rfl rfl, ?_⟩
        refine s.r_appL (f := encN) (L := cs) (M := [(kvi, kvk, ((t.2[j].pt.items.length : Nat) : Int))]) 4 rfl w2 rfl (by have := wq.rdl s 0 rfl; simpa using this) (fun y hy => by rw [List.mem_singleton.1 hy]; exact one3 hk1 hk2 rfl) (by rw [List.length_singleton]; omega) (by rw [List.length_singleton]; omega) fun vk' b2' o2' p2' h s w2' => ?_
        refine r_fld ?_
        refine St.r_store0 s 3 rfl (by simp) w2'.one ?_; intro h s
        unfold i_lifted.j4
        refine r_add1 (by omega) ?_
        refine HK (t.2.length - (j + 1)) _ _ (by omega) ⟨j + 1, _, vk', b2', o2', p2', R2 ++ (E6 ++ A), rfl, hlt, rfl, by rw [List.length_append, hcs]; rfl, w2', (s.tail rfl).perm (by simp only [List.set_cons_succ, List.set_cons_zero]; ((apply perm_rg; intro f; simp only [List.set_cons_zero, List.set_cons_succ, List.eraseIdx_cons_zero, List.eraseIdx_cons_succ, List.cons_append, List.nil_append, List.map_append, List.map_cons, List.map_nil, List.sum_append, List.sum_cons, List.sum_nil, List.map_flatMap, Nat.add_zero, Nat.zero_add]; ac_rfl))), fun c hcm => ?_, fun g hg i h1 h2 => ?_⟩
        · rcases List.mem_append.1 hcm with e | e
          · exact hone c e
          · rw [List.mem_singleton.1 e]; exact ⟨hk1, hk2⟩
        · rcases Nat.lt_or_ge i cs.length with h3 | h3
          · rw [List.getElem_append_left h3]
            exact harg g (fun r hr => hg r (List.mem_append.2 (.inl hr))) i h1 h3
          · have : i = j := by rw [List.length_append, List.length_singleton] at h2; omega
            subst this
            rw [List.getElem_append_right h3]
            simp only [hcs, Nat.sub_self, List.getElem_cons_zero]
            exact ⟨hA g fun r hr => hg r (List.mem_append.2 (.inr (List.mem_append.2 (.inr hr)))), trivial⟩
      · have hge : j = t.2.length := by have := of_decide_eq_false hge; omega
        unfold i_lifted.j1
        refine St.r_loadN0 s 2 rfl (by simp) ?_
        refine St.r_storeN0 s 1 (ys := [vi, vk, .int .i64 t.nd.cnt]) rfl rfl (by simp) (one3 w.one w2.one rfl) ?_; intro h s
        refine St.r_loadN0 s 1 rfl (by simp) ?_
        have ec : t.nd.cnt = t.pt.items.length := hc.cnt
        rw [ec] at s ⊢
        refine H vi vk _ h s (fun g hg => ⟨w.rdlO (hg _ (List.mem_cons_of_mem _ (List.mem_cons_of_mem _ (List.mem_cons_of_mem _ (List.mem_cons_of_mem _ (List.mem_append.2 (.inl hm))))))), cs, by show cs.length = (t.2.map GT.pt).length; rw [List.length_map]; omega, w2.rdlO (hg _ (List.mem_cons_of_mem _ (List.mem_cons_of_mem _ (List.mem_cons_of_mem _ (List.mem_cons_self ..))))), fun i h1 h2 => ?_⟩) w.one w2.one
        have h1' : i < t.2.length := by have : i < (t.2.map GT.pt).length := h1; rwa [List.length_map] at this
        have := harg g (fun r hr => hg r (List.mem_cons_of_mem _ (List.mem_cons_of_mem _ (List.mem_cons_of_mem _ (List.mem_cons_of_mem _ (List.mem_append.2 (.inr hr))))))) i h1' h2
        have e : (t.2.map GT.pt)[i]'h1 = (t.2[i]'h1').pt := List.getElem_map ..
        show ArgC g ((t.2.map GT.pt)[i]'h1) _ _ ∧ _ = (((t.2.map GT.pt)[i]'h1).items.length : Int)
        rw [e]; exact this
    refine lift_orders hnd hs1 fun t1 t2 t3 b o vi sp R g w hm s => ?_
    exact tail w hm s
end Go.Proofs.Ytgnnidefbeoibaa.Gi
end
section
namespace Go.Proofs.Ytgnnidefbeoibaa.Gi
open Go.Hp Go.Proofs.Ytgnnidefbeoibaa
set_option linter.unusedVariables false
set_option linter.unusedSimpArgs false
variable {h0 h : Heap} {Z E : List Rg} {Q : Value → Heap → Prop} {lt : It → It → Bool} {lf : Value}

theorem EqualItems_ok {l : List It} {v1 v2 : Value} (h1 : Rdl 2 h v1 l.length (l.flatMap enc)) (h2 : Rdl 2 h v2 l.length (l.flatMap enc)) (hl : l.length ≤ 4611686018427387903) (H : Q (.bool true) h) : s_EqualItems.call #[v1, v2] h Q := by
  refine s_EqualItems.body _ _ _ _ ?_
  unfold s_EqualItems.sh
  refine h1.lenV ?_
  refine h2.lenV ?_
  refine r_cmpI ?_
  refine r_if (fun e => absurd e (by simp)) (fun _ => ?_)
  unfold s_EqualItems.j1
  refine h1.lenV ?_
  refine loop_up (n := l.length) (fun j => [.int .i64 j]) (fun j h' => h' = h) rfl ?_
  rintro j _ hj rfl K HK
  unfold s_EqualItems.l3.b
  refine r_cmpI ?_
  refine r_if (fun hlt => ?_) (fun hge => ?_)
  · have hlt : j < l.length := by simpa using hlt
    unfold s_EqualItems.j4
    refine h1.at (n := j) rfl encl rfl rfl hlt fun b o hb => ?_
    refine hb.loadN rfl ?_
    refine h2.at (n := j) rfl encl rfl rfl hlt fun b2 o2 hb2 => ?_
    refine hb2.loadN rfl ?_
    refine ⟨_, _, true, rfl, rfl, eqItem _ _ 9998, ?_⟩
    refine r_if (fun e => absurd e (by simp)) (fun _ => ?_)
    unfold s_EqualItems.j5
    refine r_add1 (by omega) ?_
    exact HK _ hlt rfl
  · unfold s_EqualItems.j2
    exact H
theorem SameNodes_ok : ∀ {k : Nat} (x : PT It k) {g : Heap} {vi vk vi2 vk2 : Value} {Q : Value → Heap → Prop}, ArgC g x vi vk → ArgC g x vi2 vk2 → (toD x).bulk ≤ 1073741824 →
    (∀ E' h', St g [] E' h' → Q (.bool true) h') → s_SameNodes.call #[.agg #[vi, vk, .int .i64 x.items.length], .agg #[vi2, vk2, .int .i64 x.items.length]] g Q := by
  intro k
  induction k with
  | zero =>
    intro x g vi vk vi2 vk2 Q ha hb hbk H
    have hil := (toD x).kids_le
    have hx : (toD x).1.length = List.length (α := It) x := rfl
    refine s_SameNodes.body _ _ _ _ ?_
    unfold s_SameNodes.sh
    have s := St.start g
    refine St.r_box (cs := [vi, vk, .int .i64 x.items.length]) s fun t2 h s => ?_
    refine St.r_box (cs := [vi2, vk2, .int .i64 x.items.length]) s fun t3 h s => ?_
    refine r_fld ?_
    refine St.r_load0 s 1 rfl rfl ?_
    refine r_fld ?_
    refine St.r_load0 s 0 rfl rfl ?_
    refine r_cmpI ?_
    refine r_br (fun _ => ?_) (fun e => absurd e (by simp))
    refine r_fld ?_
    refine St.r_load0 s 1 rfl rfl ?_
    refine r_fld ?_
    refine St.r_load0 s 0 rfl rfl ?_
    refine EqualItems_ok (l := x) (ha.1.st s) (hb.1.st s) (by omega) ?_
    refine r_br (fun _ => ?_) (fun e => absurd e (by simp))
    refine St.r_loadN0 s 1 rfl (by simp) ?_
    refine St.r_loadN0 s 0 rfl (by simp) ?_
    refine s_SameShapes.body _ _ _ _ _ ?_
    unfold s_SameShapes.sh
    refine St.r_box (cs := [vi, vk, .int .i64 x.items.length]) s fun t5 h s => ?_
    refine St.r_box (cs := [vi2, vk2, .int .i64 x.items.length]) s fun t6 h s => ?_
    refine r_fld ?_
    refine St.r_load0 s 1 rfl rfl ?_
    refine (ha.2.st s).lenV ?_
    refine r_fld ?_
    refine St.r_load0 s 0 rfl rfl ?_
    refine (hb.2.st s).lenV ?_
    refine r_cmpI ?_
    refine r_if (fun e => absurd e (by simp)) (fun _ => ?_)
    unfold s_SameShapes.j1
    refine r_fld ?_
    refine St.r_load0 s 1 rfl rfl ?_
    refine (ha.2.st s).lenV ?_
    refine loop_ghost (fun q st h' => q = 0 ∧ st = [.int .i64 0] ∧ h' = h) (n0 := 0) ⟨rfl, rfl, rfl⟩ ?_
    rintro q st _ ⟨rfl, rfl, rfl⟩ K HK
    unfold s_SameShapes.l3.b
    refine r_cmpI ?_
    refine r_if (fun e => absurd e (by simp)) (fun _ => ?_)
    exact H _ _ s
  | succ k ih =>
    intro x g vi vk vi2 vk2 Q ha hb hbk H
    obtain ⟨hr, cs, hcl, hrk, hks⟩ := ha
    obtain ⟨hr2, cs2, hcl2, hrk2, hks2⟩ := hb
    have hil := (toD x).kids_le
    have hx : (toD x).1.length = x.1.length := rfl
    have hx2 : (toD x).2.length = x.2.length := List.length_map ..
    have hcc : cs2.length = cs.length := by omega
    refine s_SameNodes.body _ _ _ _ ?_
    unfold s_SameNodes.sh
    have s := St.start g
    refine St.r_box (cs := [vi, vk, .int .i64 x.items.length]) s fun t2 h s => ?_
    refine St.r_box (cs := [vi2, vk2, .int .i64 x.items.length]) s fun t3 h s => ?_
    refine r_fld ?_
    refine St.r_load0 s 1 rfl rfl ?_
    refine r_fld ?_
    refine St.r_load0 s 0 rfl rfl ?_
    refine r_cmpI ?_
    refine r_br (fun _ => ?_) (fun e => absurd e (by simp))
    refine r_fld ?_
    refine St.r_load0 s 1 rfl rfl ?_
    refine r_fld ?_
    refine St.r_load0 s 0 rfl rfl ?_
    refine EqualItems_ok (l := x.1) (hr.st s) (hr2.st s) (by omega) ?_
    refine r_br (fun _ => ?_) (fun e => absurd e (by simp))
    refine St.r_loadN0 s 1 rfl (by simp) ?_
    refine St.r_loadN0 s 0 rfl (by simp) ?_
    refine s_SameShapes.body _ _ _ _ _ ?_
    unfold s_SameShapes.sh
    refine St.r_box (cs := [vi, vk, .int .i64 x.items.length]) s fun t5 h s => ?_
    refine St.r_box (cs := [vi2, vk2, .int .i64 x.items.length]) s fun t6 h s => ?_
    refine r_fld ?_
    refine St.r_load0 s 1 rfl rfl ?_
    refine (hrk.st s).lenV ?_
    refine r_fld ?_
    refine St.r_load0 s 0 rfl rfl ?_
    refine (hrk2.st s).lenV ?_
    refine r_cmpI ?_
    refine r_if (fun e => absurd e (by simp [hcc])) (fun _ => ?_)
    unfold s_SameShapes.j1
    refine r_fld ?_
    refine St.r_load0 s 1 rfl rfl ?_
    refine (hrk.st s).lenV ?_
    refine loop_ghost (fun q st h' => ∃ (j : Nat) (R : List Rg), q = cs.length - j ∧ j ≤ cs.length ∧ st = [.int .i64 (j : Nat)] ∧ St g [] ((t6, 0, [vi2, vk2, .int .i64 x.items.length]) :: (t5, 0, [vi, vk, .int .i64 x.items.length]) :: R) h') (n0 := cs.length)
      ⟨0, _, rfl, Nat.zero_le _, rfl, s⟩ ?_
    clear s
    rintro q st h ⟨j, R, rfl, hj, rfl, s⟩ K HK
    unfold s_SameShapes.l3.b
    refine r_cmpI ?_
    refine r_if (fun hlt => ?_) (fun hge => ?_)
    · have hlt : j < cs.length := by have := of_decide_eq_true hlt; omega
      have hlt2 : j < x.2.length := by omega
      obtain ⟨ka, kc⟩ := hks j hlt2 hlt
      obtain ⟨ka2, kc2⟩ := hks2 j hlt2 (by omega)
      unfold s_SameShapes.j4
      refine r_fld ?_
      refine St.r_load0 s 1 rfl rfl ?_
      refine (hrk.st s).at (n := j) (f := encN) rfl (fun _ => rfl) rfl rfl hlt fun b o hbb => ?_
      refine hbb.loadN rfl ?_
      refine r_fld ?_
      refine St.r_load0 s 0 rfl rfl ?_
      refine (hrk2.st s).at (n := j) (f := encN) rfl (fun _ => rfl) rfl rfl (by omega) fun b2 o2 hbb2 => ?_
      refine hbb2.loadN rfl ?_
      refine r_callV ⟨_, Try.func21, rfl, by kernel_rfl⟩ ?_
      have hkb2 : (toD x.2[j]).bulk ≤ 1073741824 := by
        have := (toD x).kid_le (q := toD x.2[j]) (by show toD x.2[j] ∈ x.2.map toD; exact List.mem_map.2 ⟨_, List.getElem_mem hlt2, rfl⟩)
        omega
      have key := ih x.2[j] (g := h) (vi := cs[j].1) (vk := cs[j].2.1) (vi2 := cs2[j].1) (vk2 := cs2[j].2.1) (Q := fun t32 h => notV t32 fun t33 => ifV t33 (Q (.bool false) h) (s_SameShapes.j5 (.func (.func 21) #[] #[]) (ptr t5 0) (ptr t6 0) (.int .i64 cs.length) (.int .i64 j) h K Q)) (ka.fr s.fr) (ka2.fr s.fr) hkb2 fun E2 h s2 => by
        have s := (s.join s2).perm List.perm_append_comm
        refine r_not ?_
        refine r_if (fun e => absurd e (by simp)) (fun _ => ?_)
        unfold s_SameShapes.j5
        refine r_add1 (by omega) ?_
        exact HK (cs.length - (j + 1)) _ _ (by omega) ⟨j + 1, _, rfl, hlt, rfl, s⟩
      have e1 : encN cs[j] = [cs[j].1, cs[j].2.1, .int .i64 x.2[j].items.length] := by rw [← kc]
      have e2 : encN cs2[j] = [cs2[j].1, cs2[j].2.1, .int .i64 x.2[j].items.length] := by rw [← kc2]
      rw [e1, e2]
      exact key
    · unfold s_SameShapes.j2
      exact H _ _ s
abbrev zN : List Value := [.slice none 0 0, .slice none 0 0, .int .i64 0]
end Go.Proofs.Ytgnnidefbeoibaa.Gi
end
section
namespace Go.Proofs.Ytgnnidefbeoibaa.Gi
open Go.Hp Go.Proofs.Ytgnnidefbeoibaa
set_option linter.unusedVariables false
set_option linter.unusedSimpArgs false
variable {h0 h : Heap} {Z E : List Rg} {Q : Value → Heap → Prop} {lt : It → It → Bool} {lf : Value}

theorem encNl (c : Value × Value × Int) : (encN c).length = 3 := rfl
/-- The values of a node that are values of one cell. -/
def OneN (c : Value × Value × Int) : Prop := one1 c.1 = true ∧ one1 c.2.1 = true
theorem OneN.all {c : Value × Value × Int} (o : OneN c) : ∀ y ∈ encN c, one1 y = true := one3 o.1 o.2 rfl
end Go.Proofs.Ytgnnidefbeoibaa.Gi
end
section
namespace Go.Proofs.Ytgnnidefbeoibaa.Gi
open Go.Hp Go.Proofs.Ytgnnidefbeoibaa
set_option linter.unusedVariables false
set_option linter.unusedSimpArgs false
variable {h0 h : Heap} {Z E : List Rg} {Q : Value → Heap → Prop} {lt : It → It → Bool} {lf : Value}

/-- A tree as data with the values of its slices, and of its kids' counts. -/
def VT : Nat → Type
  | 0 => List It × Value × Value
  | k + 1 => (List It × Value × Value) × List (VT k × Int)
def VT.hd : {k : Nat} → VT k → List It × Value × Value
  | 0, t => t
  | _ + 1, t => t.1
abbrev VT.vi {k : Nat} (t : VT k) : Value := t.hd.2.1
abbrev VT.vk {k : Nat} (t : VT k) : Value := t.hd.2.2
/-- A kid as it lies in its parent's slice. -/
def tri {k : Nat} (c : VT k × Int) : Value × Value × Int := (c.1.vi, c.1.vk, c.2)
def VT.pt : {k : Nat} → VT k → PT It k
  | 0, t => (t.1 : List It)
  | _ + 1, t => (t.1.1, t.2.map fun c => VT.pt c.1)
theorem VT.pt_its : ∀ {k : Nat} (t : VT k), t.pt.its = t.hd.1
  | 0, _ => rfl
  | _ + 1, _ => rfl
/-- The tree lies in memory as it is told. -/
def ArgV (h : Heap) : {k : Nat} → VT k → Prop
  | 0, t => Rdl 2 h t.2.1 t.1.length (t.1.flatMap enc) ∧ Rdl 3 h t.2.2 0 []
  | _ + 1, t => Rdl 2 h t.1.2.1 t.1.1.length (t.1.1.flatMap enc) ∧ Rdl 3 h t.1.2.2 t.2.length ((t.2.map tri).flatMap encN) ∧ ∀ c, c ∈ t.2 → ArgV h c.1
theorem ArgV.fr {h h' : Heap} (f : Fr (fun _ _ => False) h h') : ∀ {k : Nat} {t : VT k}, ArgV h t → ArgV h' t
  | 0, _, a => ⟨a.1.fr f (fun _ _ e => e), a.2.fr f (fun _ _ e => e)⟩
  | _ + 1, _, a => ⟨a.1.fr f (fun _ _ e => e), a.2.1.fr f (fun _ _ e => e), fun c hc => ArgV.fr f (a.2.2 c hc)⟩
theorem ArgV.one {h : Heap} : ∀ {k : Nat} {t : VT k}, ArgV h t → one1 t.vi = true ∧ one1 t.vk = true
  | 0, _, a => ⟨a.1.one, a.2.one⟩
  | _ + 1, _, a => ⟨a.1.one, a.2.1.one⟩
/-- The counts are those of the items. -/
def VT.Cnt : {k : Nat} → VT k → Prop
  | 0, _ => True
  | _ + 1, t => ∀ c, c ∈ t.2 → c.2 = c.1.pt.items.length ∧ VT.Cnt c.1
theorem ArgV.toD {h : Heap} : ∀ {k : Nat} {t : VT k}, ArgV h t → ArgD h (Gi.toD t.pt) t.vi t.vk
  | 0, t, a => ⟨a.1, [], rfl, a.2, fun j j1 => absurd j1 (Nat.not_lt_zero _)⟩
  | k + 1, t, a => by
    refine ⟨a.1, t.2.map tri, ?_, by rw [List.length_map]; exact a.2.1, fun j j1 j2 => ?_⟩
    · show (t.2.map tri).length = ((t.2.map fun c => VT.pt c.1).map Gi.toD).length
      rw [List.length_map, List.length_map, List.length_map]
    · have hj : j < t.2.length := by rw [List.length_map] at j2; exact j2
      have e1 : ((t.2.map fun c => VT.pt c.1).map Gi.toD)[j]'(by rw [List.length_map, List.length_map]; exact hj) = Gi.toD (VT.pt (t.2[j]'hj).1) := by
        rw [List.getElem_map, List.getElem_map]
      have e2 : (t.2.map tri)[j]'j2 = tri (t.2[j]'hj) := List.getElem_map ..
      show ArgD h (((t.2.map fun c => VT.pt c.1).map Gi.toD)[j]'(by rw [List.length_map, List.length_map]; exact hj)) _ _
      rw [e1, e2]
      exact ArgV.toD (a.2.2 _ (List.getElem_mem hj))
theorem ArgV.toC {h : Heap} : ∀ {k : Nat} {t : VT k}, ArgV h t → t.Cnt → ArgC h t.pt t.vi t.vk
  | 0, t, a, _ => ⟨a.1, a.2⟩
  | k + 1, t, a, n => by
    refine ⟨a.1, t.2.map tri, ?_, by rw [List.length_map]; exact a.2.1, fun j j1 j2 => ?_⟩
    · show (t.2.map tri).length = (t.2.map fun c => VT.pt c.1).length
      rw [List.length_map, List.length_map]
    · have hj : j < t.2.length := by rw [List.length_map] at j2; exact j2
      have e1 : (t.2.map fun c => VT.pt c.1)[j]'(by rw [List.length_map]; exact hj) = VT.pt (t.2[j]'hj).1 := List.getElem_map ..
      have e2 : (t.2.map tri)[j]'j2 = tri (t.2[j]'hj) := List.getElem_map ..
      show ArgC h ((t.2.map fun c => VT.pt c.1)[j]'(by rw [List.length_map]; exact hj)) _ _ ∧ _ = (((t.2.map fun c => VT.pt c.1)[j]'(by rw [List.length_map]; exact hj)).items.length : Int)
      rw [e1, e2]
      have hm := List.getElem_mem hj
      exact ⟨ArgV.toC (a.2.2 _ hm) (n _ hm).2, (n _ hm).1⟩
end Go.Proofs.Ytgnnidefbeoibaa.Gi
end
section
namespace Go.Proofs.Ytgnnidefbeoibaa.Gi
open Go.Hp Go.Proofs.Ytgnnidefbeoibaa
set_option linter.unusedVariables false
set_option linter.unusedSimpArgs false
variable {h0 h : Heap} {Z E : List Rg} {Q : Value → Heap → Prop} {lt : It → It → Bool} {lf : Value}

/-- What spec.WithCounts does behind the items and the count. -/
def wcTail (t1 t2 t3 : Value) (h : Heap) (Q : Value → Heap → Prop) : Prop :=
  fld 1 t1 fun t14 =>
    load1 t14 h fun t15 =>
    lenV t15 fun t16 =>
    loopC (fun c s h K1 => s_WithCounts.l2.b (c.getD 0 undef) (c.getD 1 undef) (c.getD 2 undef) (c.getD 3 undef) (s.getD 0 undef) h K1 Q) [t2, t3, t15, t16] [(.int .i64 0)] h
theorem wc_orders {k : Nat} (x : PT It k) {vi vk vc : Value} (ha : ArgD h (toD x) vi vk) (hb : (toD x).bulk ≤ 1073741824) (hvc : one1 vc = true)
    (T : ∀ t1 t2 t3 b o vi' sp R g, Own 2 vi' x.its.length b o (x.its.flatMap enc) sp → (b, o, x.its.flatMap enc ++ sp) ∈ R →
        St h [] ((t1, 0, [vi, vk, vc]) :: (t2, 0, zN) :: (t3, 0, [vi', .slice none 0 0, .int .i64 x.items.length]) :: R) g → wcTail (ptr t1 0) (ptr t2 0) (ptr t3 0) g Q) : s_WithCounts.call #[.agg #[vi, vk, vc]] h Q := by
  have hkl := (toD x).kids_le
  have hr : Rdl 2 h vi x.its.length (x.its.flatMap enc) := by
    have := ha.1
    rw [toD_its] at this
    exact this
  have hil : x.its.length ≤ 1073741824 := by rw [← toD_its]; omega
  have fill : ∀ {v : Value} {n : Nat} {b o : Nat} {xs sp : List Value}, Own 2 v n b o xs sp → fillV [(0, 1, v), (2, 1, Value.int .i64 x.items.length)] [.slice none 0 0, .slice none 0 0, .int .i64 0] = some [v, .slice none 0 0, .int .i64 x.items.length] := fun {v n b o xs sp} w => by
    obtain ⟨_, _, e0, _⟩ := w; subst e0; ((simp only [fillV, fill1, Value.cells, zeros_succ, zeros_zero, List.size_toArray, List.length_cons, List.length_nil, List.length_append, List.take_succ_cons, List.take_zero, List.take_nil, List.drop_succ_cons, List.drop_zero, List.drop_nil, List.cons_append, List.nil_append, List.append_nil, Nat.reduceAdd, Nat.reduceMul, Nat.reduceLeDiff, Nat.reduceEqDiff, and_self, and_true, true_and, if_true, Nat.le_refl, Nat.zero_add, Nat.add_zero, Nat.zero_mul, reduceIte, if_false] <;> rfl))
  refine s_WithCounts.body _ _ _ ?_
  unfold s_WithCounts.sh
  have s := St.start h
  refine St.r_box (cs := [vi, vk, vc]) s fun t1 h1 s => ?_
  refine s.r_alloc fun t2 h1 s => ?_
  refine r_fld (n := 0) ?_
  refine St.r_load0 s 1 rfl rfl ?_
  refine St.r_loadN0 s 1 rfl (by simp) ?_
  refine ⟨?_, ?_⟩
  · refine St.r_mkSl (sz := 2) (cs := []) s (by ((simp only [fillV, fill1, Value.cells, zeros_succ, zeros_zero, List.size_toArray, List.length_cons, List.length_nil, List.length_append, List.take_succ_cons, List.take_zero, List.take_nil, List.drop_succ_cons, List.drop_zero, List.drop_nil, List.cons_append, List.nil_append, List.append_nil, Nat.reduceAdd, Nat.reduceMul, Nat.reduceLeDiff, Nat.reduceEqDiff, and_self, and_true, true_and, if_true, Nat.le_refl, Nat.zero_add, Nat.add_zero, Nat.zero_mul, reduceIte, if_false] <;> rfl))) rfl fun q h1 s wq => ?_
    refine ⟨St.r_still0 s 2 rfl rfl, St.r_stillN0 s 2 (j := 0) rfl (by simp) rfl, ?_, ?_⟩
    · refine s.r_appL (f := enc) (L := []) (M := x.its) 0 rfl wq rfl (hr.st s) (fun _ _ => enc1 _) (by simp; omega) (by simp; omega) fun vi' b o sp h1 s w => ?_
      rw [List.nil_append] at w
      have s : St h [] ((b, o, x.its.flatMap enc ++ sp) :: (t2, 0, zN) :: (t1, 0, [vi, vk, vc]) :: []) h1 := s
      refine ⟨St.r_stillN0 s 2 (j := 0) rfl (by simp) rfl, ?_, ?_⟩
      · refine s_NodeItems_ok (toD x) (ha.fr s.fr) hb hvc fun v E2 h1 s2 hv => ?_
        have s := (s.join s2).perm List.perm_append_comm
        rw [toD_items] at hv
        refine hv.lenV ?_
        refine r_build (cs := [vi', .slice none 0 0, .int .i64 x.items.length]) (fill w) ?_
        refine s.r_alloc fun t3 h1 s => ?_
        refine St.r_storeN0 s 0 (ys := [vi', .slice none 0 0, .int .i64 x.items.length]) rfl rfl (by simp) (one3 w.one rfl rfl) ?_; intro h1 s
        exact T _ _ _ _ _ _ _ ((b, o, x.its.flatMap enc ++ sp) :: E2) _ w (List.mem_cons_self ..) (s.perm (E' := (t1, 0, [vi, vk, vc]) :: (t2, 0, zN) :: (t3, 0, [vi', .slice none 0 0, .int .i64 x.items.length]) :: (b, o, x.its.flatMap enc ++ sp) :: E2) (by ((apply perm_rg; intro f; simp only [List.set_cons_zero, List.set_cons_succ, List.eraseIdx_cons_zero, List.eraseIdx_cons_succ, List.cons_append, List.nil_append, List.map_append, List.map_cons, List.map_nil, List.sum_append, List.sum_cons, List.sum_nil, List.map_flatMap, Nat.add_zero, Nat.zero_add]; ac_rfl))))
      · refine s.r_alloc fun t3 h1 s => ?_
        refine ⟨St.r_stillN0 s 3 (j := 0) rfl (by simp) rfl, ?_⟩
        refine s_NodeItems_ok (toD x) (ha.fr s.fr) hb hvc fun v E2 h1 s2 hv => ?_
        have s := (s.join s2).perm List.perm_append_comm
        rw [toD_items] at hv
        refine hv.lenV ?_
        refine r_build (cs := [vi', .slice none 0 0, .int .i64 x.items.length]) (fill w) ?_
        refine St.r_storeN0 s 0 (ys := [vi', .slice none 0 0, .int .i64 x.items.length]) rfl rfl (by simp) (one3 w.one rfl rfl) ?_; intro h1 s
        exact T _ _ _ _ _ _ _ ((b, o, x.its.flatMap enc ++ sp) :: E2) _ w (List.mem_cons_self ..) (s.perm (E' := (t1, 0, [vi, vk, vc]) :: (t2, 0, zN) :: (t3, 0, [vi', .slice none 0 0, .int .i64 x.items.length]) :: (b, o, x.its.flatMap enc ++ sp) :: E2) (by ((apply perm_rg; intro f; simp only [List.set_cons_zero, List.set_cons_succ, List.eraseIdx_cons_zero, List.eraseIdx_cons_succ, List.cons_append, List.nil_append, List.map_append, List.map_cons, List.map_nil, List.sum_append, List.sum_cons, List.sum_nil, List.map_flatMap, Nat.add_zero, Nat.zero_add]; ac_rfl))))
    · refine s.r_alloc fun t3 h1 s => ?_
      refine ⟨St.r_still0 s 3 rfl rfl, St.r_stillN0 s 3 (j := 0) rfl (by simp) rfl, ?_⟩
      refine s.r_appL (f := enc) (L := []) (M := x.its) 1 rfl wq rfl (hr.st s) (fun _ _ => enc1 _) (by simp; omega) (by simp; omega) fun vi' b o sp h1 s w => ?_
      rw [List.nil_append] at w
      have s : St h [] ((t3, 0, zN) :: (b, o, x.its.flatMap enc ++ sp) :: (t2, 0, zN) :: (t1, 0, [vi, vk, vc]) :: []) h1 := s
      refine ⟨St.r_stillN0 s 3 (j := 0) rfl (by simp) rfl, ?_⟩
      refine s_NodeItems_ok (toD x) (ha.fr s.fr) hb hvc fun v E2 h1 s2 hv => ?_
      have s := (s.join s2).perm List.perm_append_comm
      rw [toD_items] at hv
      refine hv.lenV ?_
      refine r_build (cs := [vi', .slice none 0 0, .int .i64 x.items.length]) (fill w) ?_
      refine St.r_storeN0 s 0 (ys := [vi', .slice none 0 0, .int .i64 x.items.length]) rfl rfl (by simp) (one3 w.one rfl rfl) ?_; intro h1 s
      exact T _ _ _ _ _ _ _ ((b, o, x.its.flatMap enc ++ sp) :: E2) _ w (List.mem_cons_self ..) (s.perm (E' := (t1, 0, [vi, vk, vc]) :: (t2, 0, zN) :: (t3, 0, [vi', .slice none 0 0, .int .i64 x.items.length]) :: (b, o, x.its.flatMap enc ++ sp) :: E2) (by ((apply perm_rg; intro f; simp only [List.set_cons_zero, List.set_cons_succ, List.eraseIdx_cons_zero, List.eraseIdx_cons_succ, List.cons_append, List.nil_append, List.map_append, List.map_cons, List.map_nil, List.sum_append, List.sum_cons, List.sum_nil, List.map_flatMap, Nat.add_zero, Nat.zero_add]; ac_rfl))))
  · refine s.r_alloc fun t3 h1 s => ?_
    refine ⟨St.r_still0 s 2 rfl rfl, St.r_stillN0 s 2 (j := 0) rfl (by simp) rfl, ?_⟩
    refine St.r_mkSl (sz := 2) (cs := []) s (by ((simp only [fillV, fill1, Value.cells, zeros_succ, zeros_zero, List.size_toArray, List.length_cons, List.length_nil, List.length_append, List.take_succ_cons, List.take_zero, List.take_nil, List.drop_succ_cons, List.drop_zero, List.drop_nil, List.cons_append, List.nil_append, List.append_nil, Nat.reduceAdd, Nat.reduceMul, Nat.reduceLeDiff, Nat.reduceEqDiff, and_self, and_true, true_and, if_true, Nat.le_refl, Nat.zero_add, Nat.add_zero, Nat.zero_mul, reduceIte, if_false] <;> rfl))) rfl fun q h1 s wq => ?_
    refine ⟨St.r_still0 s 3 rfl rfl, St.r_stillN0 s 3 (j := 0) rfl (by simp) rfl, ?_⟩
    refine s.r_appL (f := enc) (L := []) (M := x.its) 0 rfl wq rfl (hr.st s) (fun _ _ => enc1 _) (by simp; omega) (by simp; omega) fun vi' b o sp h1 s w => ?_
    rw [List.nil_append] at w
    have s : St h [] ((b, o, x.its.flatMap enc ++ sp) :: (t3, 0, zN) :: (t2, 0, zN) :: (t1, 0, [vi, vk, vc]) :: []) h1 := s
    refine ⟨St.r_stillN0 s 3 (j := 0) rfl (by simp) rfl, ?_⟩
    refine s_NodeItems_ok (toD x) (ha.fr s.fr) hb hvc fun v E2 h1 s2 hv => ?_
    have s := (s.join s2).perm List.perm_append_comm
    rw [toD_items] at hv
    refine hv.lenV ?_
    refine r_build (cs := [vi', .slice none 0 0, .int .i64 x.items.length]) (fill w) ?_
    refine St.r_storeN0 s 1 (ys := [vi', .slice none 0 0, .int .i64 x.items.length]) rfl rfl (by simp) (one3 w.one rfl rfl) ?_; intro h1 s
    exact T _ _ _ _ _ _ _ ((b, o, x.its.flatMap enc ++ sp) :: E2) _ w (List.mem_cons_self ..) (s.perm (E' := (t1, 0, [vi, vk, vc]) :: (t2, 0, zN) :: (t3, 0, [vi', .slice none 0 0, .int .i64 x.items.length]) :: (b, o, x.its.flatMap enc ++ sp) :: E2) (by ((apply perm_rg; intro f; simp only [List.set_cons_zero, List.set_cons_succ, List.eraseIdx_cons_zero, List.eraseIdx_cons_succ, List.cons_append, List.nil_append, List.map_append, List.map_cons, List.map_nil, List.sum_append, List.sum_cons, List.sum_nil, List.map_flatMap, Nat.add_zero, Nat.zero_add]; ac_rfl))))
theorem WithCountsV_ok : ∀ {k : Nat} (x : PT It k) {h : Heap} {Q : Value → Heap → Prop} {vi vk vc : Value}, ArgD h (toD x) vi vk → (toD x).bulk ≤ 1073741824 → one1 vc = true →
    (∀ (t : VT k) A h', t.pt = x → t.Cnt → St h [] A h' → (∀ g, (∀ r ∈ A, r.Ok g) → ArgV g t) → one1 t.vi = true → one1 t.vk = true → Q (.agg #[t.vi, t.vk, .int .i64 x.items.length]) h') → s_WithCounts.call #[.agg #[vi, vk, vc]] h Q := by
  intro k
  induction k with
  | zero =>
    intro x h Q vi vk vc ha hb hvc H
    obtain ⟨_, cs, hcl, hrk, _⟩ := id ha
    have hc0 : cs.length = 0 := hcl
    refine wc_orders x ha hb hvc fun t1 t2 t3 b o vi' sp R g w hm s => ?_
    unfold wcTail
    refine r_fld (n := 1) ?_
    refine St.r_load0 s 0 rfl rfl ?_
    refine (hrk.st s).lenV ?_
    refine loop_ghost (fun q st h' => q = 0 ∧ st = [.int .i64 0] ∧ h' = g) (n0 := 0) ⟨rfl, rfl, rfl⟩ ?_
    rintro q st _ ⟨rfl, rfl, rfl⟩ K HK
    show s_WithCounts.l2.b (ptr t2 0) (ptr t3 0) vk (.int .i64 cs.length) (.int .i64 0) _ K Q
    unfold s_WithCounts.l2.b
    refine r_cmpI ?_
    refine r_if (fun e => absurd (of_decide_eq_true e) (by omega)) (fun _ => ?_)
    unfold s_WithCounts.j1
    refine St.r_loadN0 s 2 rfl (by simp) ?_
    refine St.r_storeN0 s 1 (ys := [vi', .slice none 0 0, .int .i64 x.items.length]) rfl rfl (by simp) (one3 w.one rfl rfl) ?_; intro h1 s
    refine St.r_loadN0 s 1 rfl (by simp) ?_
    refine H (((x : List It), vi', .slice none 0 0) : VT 0) _ h1 rfl trivial s (fun g hg => ⟨?_, Rdl.nil 3 g⟩) w.one rfl
    exact w.rdlO (hg _ (List.mem_cons_of_mem _ (List.mem_cons_of_mem _ (List.mem_cons_of_mem _ hm))))
  | succ k ih =>
    intro x h Q vi vk vc ha hb hvc H
    obtain ⟨_, cs, hcl, hrk, hks⟩ := id ha
    have hkl := (toD x).kids_le
    have hx2 : (toD x).2.length = x.2.length := List.length_map ..
    have hcl : cs.length = x.2.length := by rw [← hx2]; exact hcl
    refine wc_orders x ha hb hvc fun t1 t2 t3 b o vi' sp R g w hm s => ?_
    unfold wcTail
    refine r_fld (n := 1) ?_
    refine St.r_load0 s 0 rfl rfl ?_
    refine (hrk.st s).lenV ?_
    refine loop_ghost (fun q st h' => ∃ (j : Nat) (ds : List (VT k × Int)) (vk' : Value) (b2 o2 : Nat) (p2 : List Value) (R2 : List Rg), q = cs.length - j ∧ j ≤ cs.length ∧ st = [.int .i64 (j : Nat)] ∧ (ds.map fun c => VT.pt c.1) = x.2.take j ∧ Own 3 vk' (ds.map tri).length b2 o2 ((ds.map tri).flatMap encN) p2 ∧
        St _ [] ((t1, 0, [vi, vk, vc]) :: (t2, 0, zN) :: (t3, 0, [vi', vk', .int .i64 x.items.length]) :: (b2, o2, (ds.map tri).flatMap encN ++ p2) :: (R ++ R2)) h' ∧
        (∀ c ∈ ds, c.2 = c.1.pt.items.length ∧ c.1.Cnt) ∧ (∀ g, (∀ r ∈ R2, r.Ok g) → ∀ c ∈ ds, ArgV g c.1)) (n0 := cs.length)
      ⟨0, [], .slice none 0 0, 0, 0, [], [], rfl, Nat.zero_le _, rfl, rfl, Own.nil 3 0 0, (s.empty 0 0).perm (by simp only [List.map_nil, List.flatMap_nil, List.append_nil]; ((apply perm_rg; intro f; simp only [List.set_cons_zero, List.set_cons_succ, List.eraseIdx_cons_zero, List.eraseIdx_cons_succ, List.cons_append, List.nil_append, List.map_append, List.map_cons, List.map_nil, List.sum_append, List.sum_cons, List.sum_nil, List.map_flatMap, Nat.add_zero, Nat.zero_add]; ac_rfl))), fun _ h => (List.not_mem_nil h).elim, fun g _ c h2 => (List.not_mem_nil h2).elim⟩ ?_
    clear s
    rintro q st h1 ⟨j, ds, vk', b2, o2, p2, R2, rfl, hj, rfl, hds, w2, s, hcnt, harg⟩ K HK
    have hdl : ds.length = j := by have := congrArg List.length hds; rw [List.length_map, List.length_take] at this; omega
    have hdl2 : (ds.map tri).length = j := by rw [List.length_map]; exact hdl
    show s_WithCounts.l2.b (ptr t2 0) (ptr t3 0) vk (.int .i64 cs.length) (.int .i64 (j : Nat)) h1 K Q
    unfold s_WithCounts.l2.b
    refine r_cmpI ?_
    refine r_if (fun hlt => ?_) (fun hge => ?_)
    · have hlt : j < cs.length := by have := of_decide_eq_true hlt; omega
      have hlt2 : j < x.2.length := by omega
      have hkj := hks j (by omega) hlt
      have hkj : ArgD h (toD x.2[j]) cs[j].1 cs[j].2.1 := by
        have e : (x.2.map toD)[j]'(by rw [List.length_map]; exact hlt2) = toD (x.2[j]) := List.getElem_map ..
        have h3 : ArgD h ((x.2.map toD)[j]'(by rw [List.length_map]; exact hlt2)) cs[j].1 cs[j].2.1 := hkj
        rwa [e] at h3
      have hkb2 : (toD x.2[j]).bulk ≤ 1073741824 := by
        have := (toD x).kid_le (q := toD x.2[j]) (by show toD x.2[j] ∈ x.2.map toD; exact List.mem_map.2 ⟨_, List.getElem_mem hlt2, rfl⟩)
        omega
      unfold s_WithCounts.j3
      refine (hrk.st s).at (n := j) (f := encN) rfl (fun _ => rfl) rfl rfl hlt fun bb oo hbb => ?_
      refine hbb.loadN rfl ?_
      refine s.r_alloc fun t5 h1 s => ?_
      refine St.r_storeN0 s 0 (ys := encN cs[j]) rfl rfl (by simp) (one3 hkj.one.1 hkj.one.2 rfl) ?_; intro h1 s
      have s : St _ [] ((t5, 0, encN cs[j]) :: (t1, 0, [vi, vk, vc]) :: (t2, 0, zN) :: (t3, 0, [vi', vk', .int .i64 x.items.length]) :: (b2, o2, (ds.map tri).flatMap encN ++ p2) :: (R ++ R2)) h1 := s
      refine r_fld (n := 1) ?_
      refine St.r_load0 s 3 rfl rfl ?_
      refine St.r_loadN0 s 0 rfl (by simp) ?_
      refine ih x.2[j] (hkj.fr s.fr) hkb2 rfl fun t A h1 ht htc s7 hA hk1 hk2 => ?_
      have s := (s.join s7).perm List.perm_append_comm
      refine ⟨St.r_still0 s 3 rfl rfl, ?_⟩
      refine St.r_mkSl (sz := 3) (cs := encN (tri (t, (x.2[j].items.length : Nat)))) s (by ((simp only [fillV, fill1, Value.cells, zeros_succ, zeros_zero, List.size_toArray, List.length_cons, List.length_nil, List.length_append, List.take_succ_cons, List.take_zero, List.take_nil, List.drop_succ_cons, List.drop_zero, List.drop_nil, List.cons_append, List.nil_append, List.append_nil, Nat.reduceAdd, Nat.reduceMul, Nat.reduceLeDiff, Nat.reduceEqDiff, and_self, and_true, true_and, if_true, Nat.le_refl, Nat.zero_add, Nat.add_zero, Nat.zero_mul, reduceIte, if_false] <;> rfl))) rfl fun q1 h1 s wq => ?_
      refine ⟨St.r_still0 s 4 rfl rfl, ?_⟩
      refine s.r_appL (f := encN) (L := ds.map tri) (M := [tri (t, ((x.2[j].items.length : Nat) : Int))]) 5 rfl w2 rfl (by have := wq.rdl s 0 rfl; simpa using this) (fun y hy => by rw [List.mem_singleton.1 hy]; exact one3 hk1 hk2 rfl) (by rw [List.length_singleton]; omega) (by rw [List.length_singleton]; omega) fun vk2 b2' o2' p2' h1 s w2' => ?_
      refine r_fld (n := 1) ?_
      refine St.r_store0 s 4 rfl (by simp) w2'.one ?_; intro h1 s
      unfold s_WithCounts.j4
      refine r_add1 (by omega) ?_
      have em : (ds ++ [(t, ((x.2[j].items.length : Nat) : Int))]).map tri = ds.map tri ++ [tri (t, ((x.2[j].items.length : Nat) : Int))] := List.map_append ..
      refine HK (cs.length - (j + 1)) _ _ (by omega) ⟨j + 1, ds ++ [(t, ((x.2[j].items.length : Nat) : Int))], vk2, b2', o2', p2', R2 ++ A, rfl, hlt, rfl, ?_, by rw [em]; exact w2', ?_, fun c hcm => ?_, fun g hg c hcm => ?_⟩
      · rw [List.map_append, hds, List.take_succ_eq_append_getElem hlt2, List.map_cons, ht]; rfl
      · rw [em]
        exact (s.perm (E' := (q1, 0, encN (tri (t, (x.2[j].items.length : Nat)))) :: (t5, 0, encN cs[j]) :: (t1, 0, [vi, vk, vc]) :: (t2, 0, zN) :: (t3, 0, [vi', vk2, .int .i64 x.items.length]) :: (b2', o2', (ds.map tri ++ [tri (t, ((x.2[j].items.length : Nat) : Int))]).flatMap encN ++ p2') :: (R ++ (R2 ++ A))) (by simp only [List.set_cons_succ, List.set_cons_zero]; ((apply perm_rg; intro f; simp only [List.set_cons_zero, List.set_cons_succ, List.eraseIdx_cons_zero, List.eraseIdx_cons_succ, List.cons_append, List.nil_append, List.map_append, List.map_cons, List.map_nil, List.sum_append, List.sum_cons, List.sum_nil, List.map_flatMap, Nat.add_zero, Nat.zero_add]; ac_rfl)))).drop 2
      · rcases List.mem_append.1 hcm with e | e
        · exact hcnt c e
        · rw [List.mem_singleton.1 e]; exact ⟨by rw [ht], htc⟩
      · rcases List.mem_append.1 hcm with e | e
        · exact harg g (fun r hr => hg r (List.mem_append.2 (.inl hr))) c e
        · rw [List.mem_singleton.1 e]; exact hA g fun r hr => hg r (List.mem_append.2 (.inr hr))
    · have hge : j = cs.length := by have := of_decide_eq_false hge; omega
      have hall : (ds.map fun c => VT.pt c.1) = x.2 := by rw [hds, List.take_of_length_le (by omega)]
      unfold s_WithCounts.j1
      refine St.r_loadN0 s 2 rfl (by simp) ?_
      refine St.r_storeN0 s 1 (ys := [vi', vk', .int .i64 x.items.length]) rfl rfl (by simp) (one3 w.one w2.one rfl) ?_; intro h1 s
      refine St.r_loadN0 s 1 rfl (by simp) ?_
      refine H (((x.1, vi', vk'), ds) : VT (k + 1)) _ h1 (congrArg (fun l => ((x.1, l) : List It × List (PT It k))) hall) hcnt s (fun g hg => ⟨w.rdlO (hg _ (List.mem_cons_of_mem _ (List.mem_cons_of_mem _ (List.mem_cons_of_mem _ (List.mem_cons_of_mem _ (List.mem_append.2 (.inl hm))))))), ?_, harg g fun r hr => hg r (List.mem_cons_of_mem _ (List.mem_cons_of_mem _ (List.mem_cons_of_mem _ (List.mem_cons_of_mem _ (List.mem_append.2 (.inr hr))))))⟩) w.one w2.one
      have := w2.rdlO (hg _ (List.mem_cons_of_mem _ (List.mem_cons_of_mem _ (List.mem_cons_of_mem _ (List.mem_cons_self ..)))))
      rw [List.length_map] at this
      exact this
theorem WithCounts_ok {k : Nat} (x : PT It k) {h : Heap} {Q : Value → Heap → Prop} {vi vk vc : Value} (ha : ArgD h (toD x) vi vk) (hb : (toD x).bulk ≤ 1073741824) (hvc : one1 vc = true)
    (H : ∀ vi' vk' A h', St h [] A h' → (∀ g, (∀ r ∈ A, r.Ok g) → ArgC g x vi' vk') → one1 vi' = true → one1 vk' = true → Q (.agg #[vi', vk', .int .i64 x.items.length]) h') : s_WithCounts.call #[.agg #[vi, vk, vc]] h Q :=
  WithCountsV_ok x ha hb hvc fun t A h' ht htc s hA o1 o2 => H t.vi t.vk A h' s (fun g hg => by have := (hA g hg).toC htc; rw [ht] at this; exact this) o1 o2
end Go.Proofs.Ytgnnidefbeoibaa.Gi
end
section
namespace Go.Proofs.Ytgnnidefbeoibaa.Gi
open Go.Hp Go.Proofs.Ytgnnidefbeoibaa
set_option linter.unusedVariables false
set_option linter.unusedSimpArgs false
variable {h0 h hA : Heap} {Z E : List Rg} {Q : Value → Heap → Prop}

theorem toD_join2 (y : It) : ∀ {k : Nat} (l r : PT It k), toD (PT.join2 y l r) = (l.its ++ y :: r.its, (toD l).2 ++ (toD r).2)
  | 0, _, _ => rfl
  | k + 1, l, r => by
    show (_, (l.2 ++ r.2).map toD) = (_, l.2.map toD ++ r.2.map toD)
    rw [List.map_append]; rfl
theorem toD_shR (y : It) : ∀ {k : Nat} (l r : PT It k), (PT.shR y l r).2.1 = l.its.getLast?.getD y ∧ toD (PT.shR y l r).1 = (l.its.dropLast, (toD l).2.dropLast) ∧ toD (PT.shR y l r).2.2 = (y :: r.its, (toD l).2.getLast?.toList ++ (toD r).2)
  | 0, _, _ => ⟨rfl, rfl, rfl⟩
  | k + 1, l, r => by
    refine ⟨rfl, ?_, ?_⟩
    · show (_, l.2.dropLast.map toD) = (_, (l.2.map toD).dropLast)
      rw [List.map_dropLast]; rfl
    · show (_, (l.2.getLast?.toList ++ r.2).map toD) = (_, (l.2.map toD).getLast?.toList ++ r.2.map toD)
      rw [List.map_append, List.getLast?_map]
      cases l.2.getLast? <;> rfl
theorem toD_shL (y : It) : ∀ {k : Nat} (l r : PT It k), (PT.shL y l r).2.1 = r.its.head?.getD y ∧ toD (PT.shL y l r).1 = (l.its ++ [y], (toD l).2 ++ (toD r).2.head?.toList) ∧ toD (PT.shL y l r).2.2 = (r.its.tail, (toD r).2.tail)
  | 0, _, _ => ⟨rfl, rfl, rfl⟩
  | k + 1, l, r => by
    refine ⟨rfl, ?_, ?_⟩
    · show (_, (l.2 ++ r.2.head?.toList).map toD) = (_, l.2.map toD ++ (r.2.map toD).head?.toList)
      rw [List.map_append, List.head?_map]
      cases r.2.head? <;> rfl
    · show (_, r.2.tail.map toD) = (_, (r.2.map toD).tail)
      rw [List.map_tail]; rfl
/-- Nodes as data that are told by their values. -/
def KL (h : Heap) {k : Nat} (cs : List (Value × Value × Int)) (L : List (DT k)) : Prop := cs.length = L.length ∧ ∀ (j : Nat) (c : Value × Value × Int) (t : DT k), cs[j]? = some c → L[j]? = some t → ArgD h t c.1 c.2.1
theorem KL.append {k : Nat} {a b : List (Value × Value × Int)} {A B : List (DT k)} (ha : KL h a A) (hb : KL h b B) : KL h (a ++ b) (A ++ B) := by
  refine ⟨by rw [List.length_append, List.length_append, ha.1, hb.1], fun j c t h1 h2 => ?_⟩
  rcases Nat.lt_or_ge j a.length with hl | hl
  · rw [List.getElem?_append_left hl] at h1
    rw [List.getElem?_append_left (by rw [← ha.1]; exact hl)] at h2
    exact ha.2 j c t h1 h2
  · rw [List.getElem?_append_right hl] at h1
    rw [List.getElem?_append_right (by rw [← ha.1]; exact hl), ← ha.1] at h2
    exact hb.2 _ c t h1 h2
theorem KL.take {k : Nat} {a : List (Value × Value × Int)} {A : List (DT k)} (ha : KL h a A) (n : Nat) : KL h (a.take n) (A.take n) := by
  refine ⟨by rw [List.length_take, List.length_take, ha.1], fun j c t h1 h2 => ?_⟩
  rw [List.getElem?_take] at h1 h2
  split at h1
  · rename_i hj; rw [if_pos hj] at h2; exact ha.2 j c t h1 h2
  · cases h1
theorem KL.drop {k : Nat} {a : List (Value × Value × Int)} {A : List (DT k)} (ha : KL h a A) (n : Nat) : KL h (a.drop n) (A.drop n) := by
  refine ⟨by rw [List.length_drop, List.length_drop, ha.1], fun j c t h1 h2 => ?_⟩
  rw [List.getElem?_drop] at h1 h2
  exact ha.2 _ c t h1 h2
theorem KL.one {k : Nat} {c : Value × Value × Int} {t : DT k} (ha : ArgD h t c.1 c.2.1) : KL h [c] [t] := by
  refine ⟨rfl, fun j c' t' h1 h2 => ?_⟩
  cases j with
  | zero => cases h1; cases h2; exact ha
  | succ j => simp at h1
theorem KL.fr {h' : Heap} (f : Fr (fun _ _ => False) h h') {k : Nat} {a : List (Value × Value × Int)} {A : List (DT k)} (ha : KL h a A) : KL h' a A := ⟨ha.1, fun j c t h1 h2 => (ha.2 j c t h1 h2).fr f⟩
theorem KL.arg {k : Nat} {cs : List (Value × Value × Int)} {L : List (DT k)} {its : List It} {vi vk : Value} (ha : KL h cs L) (hr : Rdl 2 h vi its.length (its.flatMap enc)) (hk : Rdl 3 h vk cs.length (cs.flatMap encN)) : ArgD h (k := k + 1) (its, L) vi vk :=
  ⟨hr, cs, ha.1, hk, fun j h1 h2 => ha.2 j _ _ (List.getElem?_eq_getElem h2) (List.getElem?_eq_getElem h1)⟩
theorem ArgD.kl {k : Nat} {t : DT (k + 1)} {vi vk : Value} (ha : ArgD h t vi vk) : Rdl 2 h vi t.1.length (t.1.flatMap enc) ∧ ∃ cs, KL h cs t.2 ∧ Rdl 3 h vk cs.length (cs.flatMap encN) := by
  obtain ⟨hr, cs, hcl, hrk, hks⟩ := ha
  refine ⟨hr, cs, ⟨hcl, fun j c t' h1 h2 => ?_⟩, hrk⟩
  obtain ⟨a1, rfl⟩ := List.getElem?_eq_some_iff.1 h1
  obtain ⟨a2, rfl⟩ := List.getElem?_eq_some_iff.1 h2
  exact hks j a2 a1
theorem KL.ones {k : Nat} {cs : List (Value × Value × Int)} {L : List (DT (k + 1))} (ha : KL h cs L) : ∀ c ∈ cs, OneN c := fun c hc => by
  obtain ⟨j, hj⟩ := List.getElem?_of_mem hc
  have hl := (List.getElem?_eq_some_iff.1 hj).1
  have := ha.2 j c _ hj (List.getElem?_eq_getElem (by rw [← ha.1]; exact hl))
  exact this.one
/-- What a value held in a range still is. -/
theorem still1M (s : St h0 Z E h) {b o j : Nat} {cs : List Value} {v : Value} (hm : (b, o, cs) ∈ E) (hj : cs[j]? = some v) : still1 (ptr b (o + j)) v h := by
  obtain ⟨k, hk⟩ := List.getElem?_of_mem hm
  exact s.r_still1 k hk hj
theorem stillNM (s : St h0 Z E h) {b n : Nat} {cs : List Value} (hm : (b, 0, cs) ∈ E) (hn : cs.length = n) : stillN n (ptr b 0) (.agg cs.toArray) h := by
  obtain ⟨k, hk⟩ := List.getElem?_of_mem hm
  exact s.r_stillN0 k (j := 0) hk (by omega) (by rw [List.drop_zero, ← hn, List.take_length])
end Go.Proofs.Ytgnnidefbeoibaa.Gi
end
section
namespace Go.Proofs.Ytgnnidefbeoibaa.Gi
open Go.Hp Go.Proofs.Ytgnnidefbeoibaa
set_option linter.unusedVariables false
set_option linter.unusedSimpArgs false
variable {h0 h hA : Heap} {Z E : List Rg} {Q : Value → Heap → Prop}

theorem slcAll {sz : Nat} {v : Value} {len : Nat} {xs : List Value} {K : Value → Prop} (r : Rdl sz h v len xs) {lo hi : Option Value} {l m : Nat} (hl : bnd lo 0 m l) (hm : bnd hi len len m) (hlm : l ≤ m) (hml : m ≤ len)
    (H : ∀ v', (∀ (g : Heap) (ys : List Value), Rdl sz g v len ys → Rdl sz g v' (m - l) ((ys.drop (l * sz)).take ((m - l) * sz))) → one1 v' = true → K v') : Hp.slc sz v lo hi none K := by
  obtain ⟨a, cap, e, h1, h2, h3⟩ := r
  subst e
  refine ⟨a, len, cap, l, m, cap, rfl, rfl, ?_, hl, H _ (fun g ys r => ?_) rfl⟩
  · cases hi with
    | none => exact hm
    | some x => obtain ⟨k, i, e1, e2, e3, e4⟩ := hm; exact ⟨k, i, e1, e2, by omega, e4⟩
  · obtain ⟨a', cap', e, g1, g2, g3⟩ := r
    cases e
    refine ⟨_, _, rfl, ?_, fun hn => ?_, by omega⟩
    · rw [List.length_take, List.length_drop, g1, Nat.min_eq_left]
      rw [← Nat.sub_mul]; exact Nat.mul_le_mul_right _ (by omega)
    · obtain ⟨b, o, ha, hr⟩ := g2 (by omega)
      refine ⟨b, o + l * sz, ?_, hr.sub _ _ ?_⟩
      · rw [if_neg (by omega), ha, Option.map_some, add_mk]
      · rw [g1, ← Nat.add_mul]; exact Nat.mul_le_mul_right _ (by omega)
theorem slcA0' {α : Type} {f : α → List Value} {sz : Nat} (hf : ∀ x, (f x).length = sz) {K : Value → Prop} {L : List α} {v : Value} (r : Rdl sz h v L.length (L.flatMap f)) {k' : IntKind} {z' : Int} {j : Nat} (hz' : z' = j) (hj : j ≤ L.length)
    (H : ∀ v', (∀ g, Rdl sz g v L.length (L.flatMap f) → Rdl sz g v' (L.take j).length ((L.take j).flatMap f)) → one1 v' = true → K v') : Hp.slc sz v none (some (.int k' z')) none K := by
  subst hz'
  refine slcAll r (l := 0) (m := j) rfl ⟨k', j, rfl, by omega, by omega, by simp⟩ (Nat.zero_le _) hj fun v' hv o => H v' (fun g rg => ?_) o
  have := hv g _ rg
  rw [Nat.zero_mul, List.drop_zero, Nat.sub_zero, flat_take hf L j hj] at this
  rw [List.length_take, Nat.min_eq_left hj]; exact this
theorem slcA1' {α : Type} {f : α → List Value} {sz : Nat} (hf : ∀ x, (f x).length = sz) {K : Value → Prop} {L : List α} {v : Value} (r : Rdl sz h v L.length (L.flatMap f)) {k : IntKind} {z : Int} {i : Nat} (hz : z = i) (hi : i ≤ L.length)
    (H : ∀ v', (∀ g, Rdl sz g v L.length (L.flatMap f) → Rdl sz g v' (L.drop i).length ((L.drop i).flatMap f)) → one1 v' = true → K v') : Hp.slc sz v (some (.int k z)) none none K := by
  subst hz
  refine slcAll r (l := i) (m := L.length) ⟨k, i, rfl, by omega, by omega, by simp⟩ rfl hi (Nat.le_refl _) fun v' hv o => H v' (fun g rg => ?_) o
  have := hv g _ rg
  rw [flat_drop hf, List.take_of_length_le (by rw [flat_len hf, List.length_drop]; exact Nat.le_refl _)] at this
  rw [List.length_drop]; exact this
abbrev zN3 : List Value := [.slice none 0 0, .slice none 0 0, .int .i64 0]
theorem s_Width_ok {d : Int} (H : Q (.int .i64 (if d = 0 then 32 else d)) h) : s_Width.call #[.int .i64 d] h Q := by
  refine s_Width.body _ _ _ ?_
  unfold s_Width.sh
  refine r_cmpI ?_
  refine r_if (fun e => ?_) (fun e => ?_)
  · have e : d = 0 := eq_of_beq e
    rw [if_pos e] at H; exact H
  · have e : d ≠ 0 := fun h => by rw [h] at e; exact absurd e (by decide)
    rw [if_neg e] at H; exact H
section
variable {k d j : Nat} {x : PT It (k + 1)} {vi vk vc : Value} {cs : List (Value × Value × Int)} {t4 t6 t13 : Nat}
/-- The end: the node's items and kids are as due; the counts are set. -/
theorem rb_end {its : List It} {os : List (Value × Value × Int)} {v1 v2 : Value} {R : List Rg} {y : PT It (k + 1)} (hits : its = (toD y).1) (hk : KL h os (toD y).2) (hb : (toD y).bulk ≤ 1073741824) (r1 : Rdl 2 h v1 its.length (its.flatMap enc)) (r2 : Rdl 3 h v2 os.length (os.flatMap encN))
    (s : St hA [] ((t13, 0, [v1, v2, .int .i64 0]) :: (t6, 0, zN3) :: R) h)
    (H : ∀ vi' vk' E' h', St hA [] E' h' → ArgC h' y vi' vk' → Q (.agg #[vi', vk', .int .i64 y.items.length]) h') : s_Rebalanced.j8 (ptr t6 0) (ptr t13 0) h Q := by
  unfold s_Rebalanced.j8
  refine St.r_loadN0 s 0 rfl (by simp) ?_
  subst hits
  have ha : ArgD h (toD y) v1 v2 := by
    have := hk.arg r1 r2
    exact this
  refine WithCounts_ok y ha hb rfl fun vi' vk' A h2 s2 hC o1 o2 => ?_
  have s := s.join s2
  have s : St hA [] ((t6, 0, zN3) :: (A ++ ((t13, 0, [v1, v2, .int .i64 0]) :: R))) h2 := s.perm (by ((apply perm_rg; intro f; simp only [List.set_cons_zero, List.set_cons_succ, List.eraseIdx_cons_zero, List.eraseIdx_cons_succ, List.cons_append, List.nil_append, List.map_append, List.map_cons, List.map_nil, List.sum_append, List.sum_cons, List.sum_nil, List.map_flatMap, Nat.add_zero, Nat.zero_add]; ac_rfl)))
  refine St.r_storeN0 s 0 (ys := [vi', vk', .int .i64 y.items.length]) rfl rfl (by simp) (one3 o1 o2 rfl) ?_; intro h3 s
  have s : St hA [] ((t6, 0, [vi', vk', .int .i64 y.items.length]) :: (A ++ ((t13, 0, [v1, v2, .int .i64 0]) :: R))) h3 := s
  refine St.r_loadN0 s 0 rfl (by simp) ?_
  exact H vi' vk' _ h3 s (hC h3 fun r hr => s.ok (List.mem_append_left _ (List.mem_cons_of_mem _ (List.mem_append_left _ hr))))
end
end Go.Proofs.Ytgnnidefbeoibaa.Gi
end
section
namespace Go.Proofs.Ytgnnidefbeoibaa.Gi
open Go.Hp Go.Proofs.Ytgnnidefbeoibaa
set_option linter.unusedVariables false
set_option linter.unusedSimpArgs false
variable {h0 h hA : Heap} {Z E : List Rg} {Q : Value → Heap → Prop}

theorem fillN1 {v : Value} (h : one1 v = true) : fillV [(0, 1, v)] zN3 = some [v, .slice none 0 0, .int .i64 0] := by
  cases v <;> first | rfl | (simp [one1] at h; done)
theorem fillN2 {v w : Value} (h : one1 v = true) (h2 : one1 w = true) : fillV [(0, 1, v), (1, 1, w)] zN3 = some [v, w, .int .i64 0] := by
  cases v <;> first | (simp [one1] at h; done) | (cases w <;> first | rfl | (simp [one1] at h2; done))
/-- What lies at hand: the node as data. -/
structure RbC (hA : Heap) {k : Nat} (x : PT It (k + 1)) (j : Nat) (vi vk : Value) (cs : List (Value × Value × Int)) : Prop where
  hr : Rdl 2 hA vi x.1.length (x.1.flatMap enc)
  hrk : Rdl 3 hA vk cs.length (cs.flatMap encN)
  kl : KL hA cs (x.2.map toD)
  hl : x.2.length = x.1.length + 1
  hx : x.1.length ≤ 1024
  hj : j < x.1.length
theorem RbC.cl {k : Nat} {x : PT It (k + 1)} {j : Nat} {vi vk : Value} {cs : List (Value × Value × Int)} (C : RbC hA x j vi vk cs) : cs.length = x.1.length + 1 := by rw [C.kl.1, List.length_map, C.hl]
section
variable {k d j p : Nat} {x : PT It (k + 1)} {vi vk vc : Value} {cs : List (Value × Value × Int)} {t4 t6 t13 t15 t16 : Nat}
/-- The kids, where an item goes over. -/
theorem rb_j7 (C : RbC hA x j vi vk cs) {cL cR : Value × Value × Int} {v1 : Value} {R : List Rg} (oL : OneN cL) (oR : OneN cR)
    (s : St hA [] ((t13, 0, [v1, .slice none 0 0, .int .i64 0]) :: (t15, 0, encN cL) :: (t16, 0, encN cR) :: (t4, 0, [vi, vk, vc]) :: R) h)
    (H : ∀ v2 b o sp R' h', Own 3 v2 (cs.take j ++ [cL, cR] ++ cs.drop (j + 2)).length b o ((cs.take j ++ [cL, cR] ++ cs.drop (j + 2)).flatMap encN) sp → St hA [] ((t13, 0, [v1, v2, .int .i64 0]) :: (b, o, (cs.take j ++ [cL, cR] ++ cs.drop (j + 2)).flatMap encN ++ sp) :: (R' ++ R)) h' → s_Rebalanced.j8 (ptr t6 0) (ptr t13 0) h' Q) :
    s_Rebalanced.j7 (ptr t4 0) (ptr t6 0) (.int .i64 j) (ptr t13 0) (ptr t15 0) (ptr t16 0) h Q := by
  have hcl := C.cl
  have hj := C.hj
  have hx := C.hx
  have ones := C.kl.ones
  have oT : ∀ c ∈ cs.take j, ∀ y ∈ encN c, one1 y = true := fun c hc => (ones c (List.mem_of_mem_take hc)).all
  have oD : ∀ c ∈ cs.drop (j + 2), ∀ y ∈ encN c, one1 y = true := fun c hc => (ones c (List.mem_of_mem_drop hc)).all
  have oM : ∀ c ∈ [cL, cR], ∀ y ∈ encN c, one1 y = true := fun c hc => by
    rcases List.mem_cons.1 hc with e | e
    · rw [e]; exact oL.all
    · rw [List.mem_singleton.1 e]; exact oR.all
  unfold s_Rebalanced.j7
  refine r_fld ?_
  refine St.r_load1 s 0 (j := 1) rfl rfl ?_
  refine r_fld ?_
  refine St.r_load1 s 3 (j := 1) rfl rfl ?_
  refine slcA0' encNl (C.hrk.st s) rfl (by omega) fun va ra oa => ?_
  refine St.r_loadN0 s 1 rfl (by simp) ?_
  refine St.r_loadN0 s 2 rfl (by simp) ?_
  refine r_fld ?_
  refine St.r_load1 s 3 (j := 1) rfl rfl ?_
  refine r_add (z := ((j + 2 : Nat) : Int)) (by rw [i64w (by omega) (by omega)]; omega) ?_
  refine slcA1' encNl (C.hrk.st s) rfl (by omega) fun vb rb ob => ?_
  have fin : ∀ {v2 : Value} {b o : Nat} {sp : List Value} {R' : List Rg} {h' : Heap}, Own 3 v2 (cs.take j ++ [cL, cR] ++ cs.drop (j + 2)).length b o ((cs.take j ++ [cL, cR] ++ cs.drop (j + 2)).flatMap encN) sp → St h [] ((b, o, (cs.take j ++ [cL, cR] ++ cs.drop (j + 2)).flatMap encN ++ sp) :: R') h' →
      fld 1 (ptr t13 0) fun t180 => store1 t180 v2 h' fun h => s_Rebalanced.j8 (ptr t6 0) (ptr t13 0) h Q := fun {v2 b o sp R' h'} w u => by
    have s := (s.join u).perm (E' := (t13, 0, [v1, .slice none 0 0, .int .i64 0]) :: (b, o, (cs.take j ++ [cL, cR] ++ cs.drop (j + 2)).flatMap encN ++ sp) :: ((R' ++ [(t15, 0, encN cL), (t16, 0, encN cR), (t4, 0, [vi, vk, vc])]) ++ R)) (by ((apply perm_rg; intro f; simp only [List.set_cons_zero, List.set_cons_succ, List.eraseIdx_cons_zero, List.eraseIdx_cons_succ, List.cons_append, List.nil_append, List.map_append, List.map_cons, List.map_nil, List.sum_append, List.sum_cons, List.sum_nil, List.map_flatMap, Nat.add_zero, Nat.zero_add]; ac_rfl)))
    refine r_fld ?_
    refine St.r_store1 s 0 (j := 1) rfl (by simp) w.one ?_; intro h s
    exact H v2 b o sp _ h w s
  have u := St.start h
  refine ⟨?_, ?_⟩
  · refine (u.empty 0 0).r_appL (f := encN) (L := []) (M := cs.take j) 0 rfl (Own.nil 3 0 0) rfl (ra _ (C.hrk.st s)) oT (by simp; omega) (by simp; omega) fun va' b1 o1 sp1 h1 u w1 => ?_
    rw [List.nil_append] at w1
    have u : St h [] [(b1, o1, (cs.take j).flatMap encN ++ sp1)] h1 := u
    refine ⟨stillNM (s.join u) (by simp) rfl, stillNM (s.join u) (by simp) rfl, still1M (s.join u) (b := t4) (o := 0) (j := 1) (cs := [vi, vk, vc]) (by simp) rfl, ?_⟩
    refine u.r_mkSl (sz := 3) (cs := encN cL ++ encN cR) (by ((simp only [fillV, fill1, Value.cells, zeros_succ, zeros_zero, List.size_toArray, List.length_cons, List.length_nil, List.length_append, List.take_succ_cons, List.take_zero, List.take_nil, List.drop_succ_cons, List.drop_zero, List.drop_nil, List.cons_append, List.nil_append, List.append_nil, Nat.reduceAdd, Nat.reduceMul, Nat.reduceLeDiff, Nat.reduceEqDiff, and_self, and_true, true_and, if_true, Nat.le_refl, Nat.zero_add, Nat.add_zero, Nat.zero_mul, reduceIte, if_false] <;> rfl))) rfl fun q h1 u wq => ?_
    refine ⟨still1M (s.join u) (b := t4) (o := 0) (j := 1) (cs := [vi, vk, vc]) (by simp) rfl, ?_⟩
    refine u.r_appL (f := encN) (L := cs.take j) (M := [cL, cR]) 1 rfl w1 rfl (by have := wq.rdl u 0 (by rw [List.append_nil]; rfl); simpa using this) oM (by simp; omega) (by simp; omega) fun vb' b2 o2 sp2 h1 u w2 => ?_
    have u : St h [] [(q, 0, encN cL ++ encN cR), (b2, o2, (cs.take j ++ [cL, cR]).flatMap encN ++ sp2)] h1 := u
    refine ⟨still1M (s.join u) (b := t4) (o := 0) (j := 1) (cs := [vi, vk, vc]) (by simp) rfl, ?_⟩
    refine u.r_appL (f := encN) (L := cs.take j ++ [cL, cR]) (M := cs.drop (j + 2)) 1 rfl w2 rfl (rb _ (C.hrk.st (s.join u))) oD (by simp; omega) (by simp; omega) fun vc' b3 o3 sp3 h1 u w3 => ?_
    have u : St h [] [(q, 0, encN cL ++ encN cR), (b3, o3, (cs.take j ++ [cL, cR] ++ cs.drop (j + 2)).flatMap encN ++ sp3)] h1 := u
    exact fin w3 (u.perm (List.Perm.swap _ _ _))
  · refine u.r_mkSl (sz := 3) (cs := encN cL ++ encN cR) (by ((simp only [fillV, fill1, Value.cells, zeros_succ, zeros_zero, List.size_toArray, List.length_cons, List.length_nil, List.length_append, List.take_succ_cons, List.take_zero, List.take_nil, List.drop_succ_cons, List.drop_zero, List.drop_nil, List.cons_append, List.nil_append, List.append_nil, Nat.reduceAdd, Nat.reduceMul, Nat.reduceLeDiff, Nat.reduceEqDiff, and_self, and_true, true_and, if_true, Nat.le_refl, Nat.zero_add, Nat.add_zero, Nat.zero_mul, reduceIte, if_false] <;> rfl))) rfl fun q h1 u wq => ?_
    refine ⟨still1M (s.join u) (b := t13) (o := 0) (j := 1) (cs := [v1, .slice none 0 0, .int .i64 0]) (by simp) rfl, still1M (s.join u) (b := t4) (o := 0) (j := 1) (cs := [vi, vk, vc]) (by simp) rfl, still1M (s.join u) (b := t4) (o := 0) (j := 1) (cs := [vi, vk, vc]) (by simp) rfl, ?_⟩
    refine (u.empty 0 0).r_appL (f := encN) (L := []) (M := cs.take j) 0 rfl (Own.nil 3 0 0) rfl (ra _ (C.hrk.st (s.join u))) oT (by simp; omega) (by simp; omega) fun va' b1 o1 sp1 h1 u w1 => ?_
    rw [List.nil_append] at w1
    have u : St h [] [(b1, o1, (cs.take j).flatMap encN ++ sp1), (q, 0, encN cL ++ encN cR)] h1 := u
    refine ⟨still1M (s.join u) (b := t4) (o := 0) (j := 1) (cs := [vi, vk, vc]) (by simp) rfl, ?_⟩
    refine u.r_appL (f := encN) (L := cs.take j) (M := [cL, cR]) 0 rfl w1 rfl (by have := wq.rdl u 1 (by rw [List.append_nil]; rfl); simpa using this) oM (by simp; omega) (by simp; omega) fun vb' b2 o2 sp2 h1 u w2 => ?_
    have u : St h [] [(b2, o2, (cs.take j ++ [cL, cR]).flatMap encN ++ sp2), (q, 0, encN cL ++ encN cR)] h1 := u
    refine ⟨still1M (s.join u) (b := t4) (o := 0) (j := 1) (cs := [vi, vk, vc]) (by simp) rfl, ?_⟩
    refine u.r_appL (f := encN) (L := cs.take j ++ [cL, cR]) (M := cs.drop (j + 2)) 0 rfl w2 rfl (rb _ (C.hrk.st (s.join u))) oD (by simp; omega) (by simp; omega) fun vc' b3 o3 sp3 h1 u w3 => ?_
    exact fin w3 u
/-- The items, where one goes over. -/
theorem rb_j6 (C : RbC hA x j vi vk cs) {its : List It} {w0 : Value} {bi oi : Nat} {spi : List Value} {R : List Rg} (w : Own 2 w0 its.length bi oi (its.flatMap enc) spi) (hp : p < its.length)
    (s : St hA [] ((t13, 0, zN3) :: (bi, oi, its.flatMap enc ++ spi) :: (t4, 0, [vi, vk, vc]) :: R) h)
    (H : ∀ v1 b o sp R' h', Own 2 v1 (x.1.take j ++ [its[p]] ++ x.1.drop (j + 1)).length b o ((x.1.take j ++ [its[p]] ++ x.1.drop (j + 1)).flatMap enc) sp → St hA [] ((t13, 0, [v1, .slice none 0 0, .int .i64 0]) :: (b, o, (x.1.take j ++ [its[p]] ++ x.1.drop (j + 1)).flatMap enc ++ sp) :: (bi, oi, its.flatMap enc ++ spi) :: (t4, 0, [vi, vk, vc]) :: (R' ++ R)) h' → s_Rebalanced.j7 (ptr t4 0) (ptr t6 0) (.int .i64 j) (ptr t13 0) (ptr t15 0) (ptr t16 0) h' Q) :
    s_Rebalanced.j6 (ptr t4 0) (ptr t6 0) (.int .i64 j) w0 (ptr t13 0) (.int .i64 p) (ptr t15 0) (ptr t16 0) h Q := by
  have hj := C.hj
  have hx := C.hx
  unfold s_Rebalanced.j6
  refine r_fld ?_
  refine St.r_load1 s 0 (j := 0) rfl rfl ?_
  refine r_fld ?_
  refine St.r_load1 s 2 (j := 0) rfl rfl ?_
  refine slcA0' encl (C.hr.st s) rfl (by omega) fun va ra oa => ?_
  refine (w.rdl s 1 rfl).at (f := enc) (n := p) rfl encl rfl rfl hp fun bb ob hb => ?_
  refine hb.loadN rfl ?_
  refine r_fld ?_
  refine St.r_load1 s 2 (j := 0) rfl rfl ?_
  refine r_add (z := ((j + 1 : Nat) : Int)) (by rw [i64w (by omega) (by omega)]; omega) ?_
  refine slcA1' encl (C.hr.st s) rfl (by omega) fun vb rb ob' => ?_
  generalize its[p] = z at *
  have fin : ∀ {v1 : Value} {b o : Nat} {sp : List Value} {R' : List Rg} {h' : Heap}, Own 2 v1 (x.1.take j ++ [z] ++ x.1.drop (j + 1)).length b o ((x.1.take j ++ [z] ++ x.1.drop (j + 1)).flatMap enc) sp → St h [] ((b, o, (x.1.take j ++ [z] ++ x.1.drop (j + 1)).flatMap enc ++ sp) :: R') h' →
      fld 0 (ptr t13 0) fun t162 => store1 t162 v1 h' fun h => s_Rebalanced.j7 (ptr t4 0) (ptr t6 0) (.int .i64 j) (ptr t13 0) (ptr t15 0) (ptr t16 0) h Q := fun {v1 b o sp R' h'} w1 u => by
    have s := (s.join u).perm (E' := (t13, 0, zN3) :: (b, o, (x.1.take j ++ [z] ++ x.1.drop (j + 1)).flatMap enc ++ sp) :: (bi, oi, its.flatMap enc ++ spi) :: (t4, 0, [vi, vk, vc]) :: (R' ++ R)) (by ((apply perm_rg; intro f; simp only [List.set_cons_zero, List.set_cons_succ, List.eraseIdx_cons_zero, List.eraseIdx_cons_succ, List.cons_append, List.nil_append, List.map_append, List.map_cons, List.map_nil, List.sum_append, List.sum_cons, List.sum_nil, List.map_flatMap, Nat.add_zero, Nat.zero_add]; ac_rfl)))
    refine r_fld ?_
    refine St.r_store1 s 0 (j := 0) rfl (by simp) w1.one ?_; intro h s
    exact H v1 b o sp _ h w1 s
  have oA : ∀ (l : List It), ∀ c ∈ l, ∀ y ∈ enc c, one1 y = true := fun l c _ => enc1 c
  have k4 : ∀ {E' : List Rg} {h' : Heap}, St h [] E' h' → still1 (ptr t4 (0 + 0)) vi h' := fun u => still1M (s.join u) (b := t4) (o := 0) (j := 0) (cs := [vi, vk, vc]) (by simp) rfl
  have u := St.start h
  refine ⟨?_, ?_⟩
  · refine (u.empty 0 0).r_appL (f := enc) (L := []) (M := x.1.take j) 0 rfl (Own.nil 2 0 0) rfl (ra _ (C.hr.st s)) (oA _) (by simp; omega) (by simp; omega) fun va' b1 o1 sp1 h1 u w1 => ?_
    rw [List.nil_append] at w1
    have u : St h [] [(b1, o1, (x.1.take j).flatMap enc ++ sp1)] h1 := u
    refine ⟨(hb.st u).stillN rfl, k4 u, ?_⟩
    refine u.r_mkSl (sz := 2) (cs := enc z) (by ((simp only [fillV, fill1, Value.cells, zeros_succ, zeros_zero, List.size_toArray, List.length_cons, List.length_nil, List.length_append, List.take_succ_cons, List.take_zero, List.take_nil, List.drop_succ_cons, List.drop_zero, List.drop_nil, List.cons_append, List.nil_append, List.append_nil, Nat.reduceAdd, Nat.reduceMul, Nat.reduceLeDiff, Nat.reduceEqDiff, and_self, and_true, true_and, if_true, Nat.le_refl, Nat.zero_add, Nat.add_zero, Nat.zero_mul, reduceIte, if_false] <;> rfl))) rfl fun q h1 u wq => ?_
    refine ⟨k4 u, ?_⟩
    refine u.r_appL (f := enc) (L := x.1.take j) (M := [z]) 1 rfl w1 rfl (by have := wq.rdl u 0 (by rw [List.append_nil]; rfl); simpa using this) (oA _) (by simp; omega) (by simp; omega) fun vb' b2 o2 sp2 h1 u w2 => ?_
    have u : St h [] [(q, 0, enc z), (b2, o2, (x.1.take j ++ [z]).flatMap enc ++ sp2)] h1 := u
    refine ⟨k4 u, ?_⟩
    refine u.r_appL (f := enc) (L := x.1.take j ++ [z]) (M := x.1.drop (j + 1)) 1 rfl w2 rfl (rb _ (C.hr.st (s.join u))) (oA _) (by simp; omega) (by simp; omega) fun vc' b3 o3 sp3 h1 u w3 => ?_
    have u : St h [] [(q, 0, enc z), (b3, o3, (x.1.take j ++ [z] ++ x.1.drop (j + 1)).flatMap enc ++ sp3)] h1 := u
    exact fin w3 (u.perm (List.Perm.swap _ _ _))
  · refine u.r_mkSl (sz := 2) (cs := enc z) (by ((simp only [fillV, fill1, Value.cells, zeros_succ, zeros_zero, List.size_toArray, List.length_cons, List.length_nil, List.length_append, List.take_succ_cons, List.take_zero, List.take_nil, List.drop_succ_cons, List.drop_zero, List.drop_nil, List.cons_append, List.nil_append, List.append_nil, Nat.reduceAdd, Nat.reduceMul, Nat.reduceLeDiff, Nat.reduceEqDiff, and_self, and_true, true_and, if_true, Nat.le_refl, Nat.zero_add, Nat.add_zero, Nat.zero_mul, reduceIte, if_false] <;> rfl))) rfl fun q h1 u wq => ?_
    refine ⟨still1M (s.join u) (b := t13) (o := 0) (j := 0) (cs := zN3) (by simp) rfl, k4 u, k4 u, ?_⟩
    refine (u.empty 0 0).r_appL (f := enc) (L := []) (M := x.1.take j) 0 rfl (Own.nil 2 0 0) rfl (ra _ (C.hr.st (s.join u))) (oA _) (by simp; omega) (by simp; omega) fun va' b1 o1 sp1 h1 u w1 => ?_
    rw [List.nil_append] at w1
    have u : St h [] [(b1, o1, (x.1.take j).flatMap enc ++ sp1), (q, 0, enc z)] h1 := u
    refine ⟨k4 u, ?_⟩
    refine u.r_appL (f := enc) (L := x.1.take j) (M := [z]) 0 rfl w1 rfl (by have := wq.rdl u 1 (by rw [List.append_nil]; rfl); simpa using this) (oA _) (by simp; omega) (by simp; omega) fun vb' b2 o2 sp2 h1 u w2 => ?_
    have u : St h [] [(b2, o2, (x.1.take j ++ [z]).flatMap enc ++ sp2), (q, 0, enc z)] h1 := u
    refine ⟨k4 u, ?_⟩
    refine u.r_appL (f := enc) (L := x.1.take j ++ [z]) (M := x.1.drop (j + 1)) 0 rfl w2 rfl (rb _ (C.hr.st (s.join u))) (oA _) (by simp; omega) (by simp; omega) fun vc' b3 o3 sp3 h1 u w3 => ?_
    exact fin w3 u
/-- One item goes over: the two nodes are cut out of all their items at p. -/
theorem rb_j4 (C : RbC hA x j vi vk cs) {its : List It} {K : List (DT k)} {ks : List (Value × Value × Int)} {w0 wv : Value} {bi oi bk ok : Nat} {spi spk : List Value} {y : PT It (k + 1)} {R : List Rg} (w : Own 2 w0 its.length bi oi (its.flatMap enc) spi) (wK : Own 3 wv ks.length bk ok (ks.flatMap encN) spk) (hK : KL hA ks K) (hp : p < its.length) (hpl : its.length ≤ 4096) (hkl : ks.length = 0 ∨ p + 1 ≤ ks.length) (hkl2 : ks.length ≤ 4096)
    (hy1 : (toD y).1 = x.1.take j ++ [its[p]] ++ x.1.drop (j + 1)) (hy2 : ∃ A B : DT (k + 1), A = (its.take p, K.take (p + 1)) ∧ B = (its.drop (p + 1), K.drop (p + 1)) ∧ (toD y).2 = (x.2.map toD).take j ++ [A, B] ++ (x.2.map toD).drop (j + 2)) (hb : (toD y).bulk ≤ 1073741824)
    (s : St hA [] ((t13, 0, zN3) :: (bi, oi, its.flatMap enc ++ spi) :: (bk, ok, ks.flatMap encN ++ spk) :: (t4, 0, [vi, vk, vc]) :: (t6, 0, zN3) :: R) h)
    (H : ∀ vi' vk' E' h', St hA [] E' h' → ArgC h' y vi' vk' → Q (.agg #[vi', vk', .int .i64 y.items.length]) h') :
    s_Rebalanced.j4 (ptr t4 0) (ptr t6 0) (.int .i64 j) w0 wv (ptr t13 0) (.int .i64 p) h Q := by
  have hj := C.hj
  have hx := C.hx
  obtain ⟨A, B, eA, eB, hy2⟩ := hy2
  unfold s_Rebalanced.j4
  refine slcA0' encl (w.rdl s 1 rfl) rfl (by omega) fun vL rL oL => ?_
  refine r_build (fillN1 oL) ?_
  refine r_add (z := ((p + 1 : Nat) : Int)) (by rw [i64w (by omega) (by omega)]; omega) ?_
  refine slcA1' encl (w.rdl s 1 rfl) rfl (by omega) fun vR rR oR => ?_
  refine r_build (fillN1 oR) ?_
  -- behind the two new nodes
  have fin : ∀ {t15 t16 : Nat} {vl vr : Value} {R' : List Rg} {h : Heap}, (∀ g, Rdl 3 g wv ks.length (ks.flatMap encN) → Rdl 3 g vl (ks.take (p + 1)).length ((ks.take (p + 1)).flatMap encN)) → (∀ g, Rdl 3 g wv ks.length (ks.flatMap encN) → Rdl 3 g vr (ks.drop (p + 1)).length ((ks.drop (p + 1)).flatMap encN)) → one1 vl = true → one1 vr = true →
      St hA [] ((t13, 0, zN3) :: (bi, oi, its.flatMap enc ++ spi) :: (t4, 0, [vi, vk, vc]) :: (t15, 0, encN (vL, vl, 0)) :: (t16, 0, encN (vR, vr, 0)) :: (bk, ok, ks.flatMap encN ++ spk) :: (t6, 0, zN3) :: R') h →
      s_Rebalanced.j6 (ptr t4 0) (ptr t6 0) (.int .i64 j) w0 (ptr t13 0) (.int .i64 p) (ptr t15 0) (ptr t16 0) h Q := fun {t15 t16 vl vr R' h} rl rr ol or s => by
    refine rb_j6 C w hp s fun v1 b1 o1 sp1 R1 h1 w1 s => ?_
    have s := s.perm (E' := (t13, 0, [v1, .slice none 0 0, .int .i64 0]) :: (t15, 0, encN (vL, vl, 0)) :: (t16, 0, encN (vR, vr, 0)) :: (t4, 0, [vi, vk, vc]) :: ((b1, o1, (x.1.take j ++ [its[p]] ++ x.1.drop (j + 1)).flatMap enc ++ sp1) :: (bi, oi, its.flatMap enc ++ spi) :: (bk, ok, ks.flatMap encN ++ spk) :: (t6, 0, zN3) :: (R1 ++ R'))) (by ((apply perm_rg; intro f; simp only [List.set_cons_zero, List.set_cons_succ, List.eraseIdx_cons_zero, List.eraseIdx_cons_succ, List.cons_append, List.nil_append, List.map_append, List.map_cons, List.map_nil, List.sum_append, List.sum_cons, List.sum_nil, List.map_flatMap, Nat.add_zero, Nat.zero_add]; ac_rfl)))
    refine rb_j7 C (cL := (vL, vl, 0)) (cR := (vR, vr, 0)) ⟨oL, ol⟩ ⟨oR, or⟩ s fun v2 b2 o2 sp2 R2 h2 w2 s => ?_
    have s := s.perm (E' := (t13, 0, [v1, v2, .int .i64 0]) :: (t6, 0, zN3) :: (b2, o2, (cs.take j ++ [(vL, vl, 0), (vR, vr, 0)] ++ cs.drop (j + 2)).flatMap encN ++ sp2) :: (b1, o1, (x.1.take j ++ [its[p]] ++ x.1.drop (j + 1)).flatMap enc ++ sp1) :: (bi, oi, its.flatMap enc ++ spi) :: (bk, ok, ks.flatMap encN ++ spk) :: (R2 ++ (R1 ++ R'))) (by ((apply perm_rg; intro f; simp only [List.set_cons_zero, List.set_cons_succ, List.eraseIdx_cons_zero, List.eraseIdx_cons_succ, List.cons_append, List.nil_append, List.map_append, List.map_cons, List.map_nil, List.sum_append, List.sum_cons, List.sum_nil, List.map_flatMap, Nat.add_zero, Nat.zero_add]; ac_rfl)))
    have q1 := w1.rdl s 3 rfl
    have q2 := w2.rdl s 2 rfl
    have qi := w.rdl s 4 rfl
    have qk := wK.rdl s 5 rfl
    have f : Fr (fun _ _ => False) hA h2 := s.fr
    have kK := hK.fr f
    have aA : ArgD h2 A vL vl := by rw [eA]; exact (kK.take (p + 1)).arg (rL _ qi) (rl _ qk)
    have aB : ArgD h2 B vR vr := by rw [eB]; exact (kK.drop (p + 1)).arg (rR _ qi) (rr _ qk)
    have kx := C.kl.fr f
    refine rb_end (y := y) (its := x.1.take j ++ [its[p]] ++ x.1.drop (j + 1)) (os := cs.take j ++ [(vL, vl, 0), (vR, vr, 0)] ++ cs.drop (j + 2)) hy1.symm ?_ hb q1 q2 s H
    rw [hy2]
    exact ((kx.take j).append ((KL.one (c := (vL, vl, 0)) aA).append (KL.one (c := (vR, vr, 0)) aB))).append (kx.drop (j + 2))
  have mid : ∀ {t15 t16 : Nat} {R' : List Rg} {h : Heap}, St hA [] ((t13, 0, zN3) :: (bi, oi, its.flatMap enc ++ spi) :: (t4, 0, [vi, vk, vc]) :: (t15, 0, [vL, .slice none 0 0, .int .i64 0]) :: (t16, 0, [vR, .slice none 0 0, .int .i64 0]) :: (bk, ok, ks.flatMap encN ++ spk) :: (t6, 0, zN3) :: R') h →
      s_Rebalanced.j5 (ptr t4 0) (ptr t6 0) (.int .i64 j) w0 wv (ptr t13 0) (.int .i64 p) (ptr t15 0) (ptr t16 0) h Q := fun {t15 t16 R' h} s => by
    unfold s_Rebalanced.j5
    refine wK.lenV ?_
    refine r_cmpI ?_
    refine r_if (fun e => ?_) (fun e => ?_)
    · have e : 0 < ks.length := by have := of_decide_eq_true e; omega
      refine r_add (z := ((p + 1 : Nat) : Int)) (by rw [i64w (by omega) (by omega)]; omega) ?_
      refine slcA0' encNl (wK.rdl s 5 rfl) rfl (by omega) fun vl rl ol => ?_
      refine r_add (z := ((p + 1 : Nat) : Int)) (by rw [i64w (by omega) (by omega)]; omega) ?_
      refine slcA1' encNl (wK.rdl s 5 rfl) rfl (by omega) fun vr rr or => ?_
      refine r_fld ?_
      refine St.r_store1 s 3 (j := 1) rfl (by simp) ol ?_; intro h s
      refine r_fld ?_
      refine St.r_store1 s 4 (j := 1) rfl (by simp) or ?_; intro h s
      exact fin rl rr ol or s
    · have e : ks = [] := by
        have := of_decide_eq_false e
        exact List.length_eq_zero_iff.1 (by omega)
      subst e
      exact fin (fun g _ => Rdl.nil 3 g) (fun g _ => Rdl.nil 3 g) rfl rfl s
  refine ⟨?_, ?_⟩
  · refine s.r_alloc fun t15 h s => ?_
    refine s.r_alloc fun t16 h s => ?_
    refine St.r_storeN0 s 1 (ys := [vL, .slice none 0 0, .int .i64 0]) rfl rfl (by simp) (one3 oL rfl rfl) ?_; intro h s
    refine St.r_storeN0 s 0 (ys := [vR, .slice none 0 0, .int .i64 0]) rfl rfl (by simp) (one3 oR rfl rfl) ?_; intro h s
    have s : St hA [] ((t16, 0, [vR, .slice none 0 0, .int .i64 0]) :: (t15, 0, [vL, .slice none 0 0, .int .i64 0]) :: (t13, 0, zN3) :: (bi, oi, its.flatMap enc ++ spi) :: (bk, ok, ks.flatMap encN ++ spk) :: (t4, 0, [vi, vk, vc]) :: (t6, 0, zN3) :: R) h := s
    exact mid (s.perm (by ((apply perm_rg; intro f; simp only [List.set_cons_zero, List.set_cons_succ, List.eraseIdx_cons_zero, List.eraseIdx_cons_succ, List.cons_append, List.nil_append, List.map_append, List.map_cons, List.map_nil, List.sum_append, List.sum_cons, List.sum_nil, List.map_flatMap, Nat.add_zero, Nat.zero_add]; ac_rfl))))
  · refine s.r_alloc fun t16 h s => ?_
    refine s.r_alloc fun t15 h s => ?_
    refine St.r_storeN0 s 0 (ys := [vL, .slice none 0 0, .int .i64 0]) rfl rfl (by simp) (one3 oL rfl rfl) ?_; intro h s
    refine St.r_storeN0 s 1 (ys := [vR, .slice none 0 0, .int .i64 0]) rfl rfl (by simp) (one3 oR rfl rfl) ?_; intro h s
    have s : St hA [] ((t15, 0, [vL, .slice none 0 0, .int .i64 0]) :: (t16, 0, [vR, .slice none 0 0, .int .i64 0]) :: (t13, 0, zN3) :: (bi, oi, its.flatMap enc ++ spi) :: (bk, ok, ks.flatMap encN ++ spk) :: (t4, 0, [vi, vk, vc]) :: (t6, 0, zN3) :: R) h := s
    exact mid (s.perm (by ((apply perm_rg; intro f; simp only [List.set_cons_zero, List.set_cons_succ, List.eraseIdx_cons_zero, List.eraseIdx_cons_succ, List.cons_append, List.nil_append, List.map_append, List.map_cons, List.map_nil, List.sum_append, List.sum_cons, List.sum_nil, List.map_flatMap, Nat.add_zero, Nat.zero_add]; ac_rfl))))
end
end Go.Proofs.Ytgnnidefbeoibaa.Gi
end
section
namespace Go.Proofs.Ytgnnidefbeoibaa.Gi
open Go.Hp Go.Proofs.Ytgnnidefbeoibaa
set_option linter.unusedVariables false
set_option linter.unusedSimpArgs false
variable {h0 h hA : Heap} {Z E : List Rg} {Q : Value → Heap → Prop}

theorem mend_eq {m k j : Nat} {x : PT It (k + 1)} {y : It} {l r : PT It k} (e1 : x.1[j]? = some y) (e2 : x.2[j]? = some l) (e3 : x.2[j + 1]? = some r) :
    PT.mendAt m x j = if l.its.length + r.its.length < m then (x.1.eraseIdx j, x.2.take j ++ PT.join2 y l r :: x.2.drop (j + 2))
      else if r.its.length < l.its.length then (x.1.set j (PT.shR y l r).2.1, x.2.take j ++ (PT.shR y l r).1 :: (PT.shR y l r).2.2 :: x.2.drop (j + 2))
      else (x.1.set j (PT.shL y l r).2.1, x.2.take j ++ (PT.shL y l r).1 :: (PT.shL y l r).2.2 :: x.2.drop (j + 2)) := by
  unfold PT.mendAt
  simp only [e1, e2, e3]
  rfl
theorem toD_two {k j : Nat} (x : PT It (k + 1)) (a : List It) (u v : PT It k) : (toD (k := k + 1) (a, x.2.take j ++ u :: v :: x.2.drop (j + 2))).2 = (x.2.map toD).take j ++ [toD u, toD v] ++ (x.2.map toD).drop (j + 2) := by
  show (x.2.take j ++ u :: v :: x.2.drop (j + 2)).map toD = _
  rw [List.map_append, List.map_cons, List.map_cons, List.map_take, List.map_drop, List.append_assoc]; rfl
theorem toD_single {k j : Nat} (x : PT It (k + 1)) (a : List It) (u : PT It k) : (toD (k := k + 1) (a, x.2.take j ++ u :: x.2.drop (j + 2))).2 = (x.2.map toD).take j ++ [toD u] ++ (x.2.map toD).drop (j + 2) := by
  show (x.2.take j ++ u :: x.2.drop (j + 2)).map toD = _
  rw [List.map_append, List.map_cons, List.map_take, List.map_drop, List.append_assoc]; rfl
theorem set_cut {α : Type} {l : List α} {j : Nat} (hj : j < l.length) (z : α) : l.set j z = l.take j ++ [z] ++ l.drop (j + 1) := by
  rw [List.set_eq_take_append_cons_drop, if_pos hj, List.append_assoc]; rfl
section
variable {α : Type} (a b : List α) (y : α)
theorem cut_l1 : (a ++ y :: b).take (a.length + 1) = a ++ [y] := by
  rw [List.take_length_add_append]; rfl
theorem cut_l2 : (a ++ y :: b).drop (a.length + 1 + 1) = b.tail := by
  rw [Nat.add_assoc, List.drop_length_add_append]; cases b <;> rfl
theorem cut_l3 : (a ++ b).take (a.length + 1) = a ++ b.head?.toList := by
  rw [List.take_length_add_append]; cases b <;> rfl
theorem cut_l4 : (a ++ b).drop (a.length + 1) = b.tail := by
  rw [List.drop_length_add_append]; cases b <;> rfl
theorem cut_r1 {n : Nat} (h : n + 1 = a.length) : (a ++ b).take n = a.dropLast := by
  rw [List.take_append_of_le_length (by omega), List.dropLast_eq_take]; congr 1; omega
theorem cut_r2 {n : Nat} (h : n + 1 = a.length) : (a ++ b).drop n = a.getLast?.toList ++ b := by
  rw [List.drop_append_of_le_length (by omega)]
  congr 1
  have hn : n < a.length := by omega
  rw [List.drop_eq_getElem_cons hn, List.drop_of_length_le (by omega), List.getLast?_eq_getElem?, show a.length - 1 = n by omega, List.getElem?_eq_getElem hn]; rfl
theorem cut_r3 {n : Nat} (h : n + 1 = a.length) : (a ++ b).drop (n + 1) = b := by rw [h, List.drop_left]
end
theorem kids_len {m k lo : Nat} : ∀ {l : PT It k}, l.Fl m lo → ((toD l).2.length = l.its.length + 1 ∧ 0 < k) ∨ ((toD l).2 = [] ∧ k = 0) := by
  cases k with
  | zero => exact fun _ => .inr ⟨rfl, rfl⟩
  | succ k => exact fun f => .inl ⟨by show (List.map toD _).length = _; rw [List.length_map]; exact f.2.2.1, Nat.succ_pos _⟩
section
variable {k d j : Nat} {x : PT It (k + 1)} {vi vk vc : Value} {cs : List (Value × Value × Int)} {t4 t6 t13 t8 t9 : Nat}
/-- The two nodes become one. -/
theorem rb_merge (C : RbC hA x j vi vk cs) {its : List It} {K : List (DT k)} {ks : List (Value × Value × Int)} {w0 wv : Value} {bi oi bk ok : Nat} {spi spk : List Value} {y : PT It (k + 1)} {R : List Rg} (w : Own 2 w0 its.length bi oi (its.flatMap enc) spi) (wK : Own 3 wv ks.length bk ok (ks.flatMap encN) spk) (hK : KL hA ks K)
    (hy1 : (toD y).1 = x.1.take j ++ x.1.drop (j + 1)) (hy2 : ∃ A : DT (k + 1), A = (its, K) ∧ (toD y).2 = (x.2.map toD).take j ++ [A] ++ (x.2.map toD).drop (j + 2)) (hb : (toD y).bulk ≤ 1073741824)
    (s : St hA [] ((t13, 0, zN3) :: (bi, oi, its.flatMap enc ++ spi) :: (bk, ok, ks.flatMap encN ++ spk) :: (t4, 0, [vi, vk, vc]) :: (t6, 0, zN3) :: R) h)
    (H : ∀ vi' vk' E' h', St hA [] E' h' → ArgC h' y vi' vk' → Q (.agg #[vi', vk', .int .i64 y.items.length]) h') :
    fld 0 (ptr t13 0) fun t68 => load1 t68 h fun t69 => fld 0 (ptr t4 0) fun t70 => load1 t70 h fun t71 => slc 2 t71 none (some (.int .i64 j)) none fun t73 => fld 0 (ptr t4 0) fun t75 => load1 t75 h fun t76 =>
    arith (· + ·) (.int .i64 j) (.int .i64 1) fun t78 => slc 2 t76 (some t78) none none fun t79 => app 52 2 16 [(.int .i64 0), (.int .i64 0)] t69 t73 h fun t74 h =>
    still1 t75 t76 h ∧ app 52 2 16 [(.int .i64 0), (.int .i64 0)] t74 t79 h fun t80 h => fld 0 (ptr t13 0) fun t81 => store1 t81 t80 h fun h => fld 1 (ptr t13 0) fun t82 => load1 t82 h fun t83 => fld 1 (ptr t4 0) fun t84 => load1 t84 h fun t85 =>
    slc 3 t85 none (some (.int .i64 j)) none fun t87 => buildV [(.slice none 0 0), (.slice none 0 0), (.int .i64 0)] [(0, 1, w0), (1, 1, wv)] fun t91 =>
    (app 28 3 56 [(.slice none 0 0), (.slice none 0 0), (.int .i64 0)] t83 t87 h fun t88 h =>
    mkSl (if 1 * 3 = 0 then [] else zeros [(.slice none 0 0), (.slice none 0 0), (.int .i64 0)] 1) 1 [(0 * 3, 3, t91)] 28 h fun t92 h =>
    app 28 3 56 [(.slice none 0 0), (.slice none 0 0), (.int .i64 0)] t88 t92 h fun t93 h => fld 1 (ptr t13 0) fun t94 => store1 t94 t93 h fun h => s_Rebalanced.j9 (ptr t4 0) (ptr t6 0) (.int .i64 j) (ptr t13 0) h Q) ∧
    (mkSl (if 1 * 3 = 0 then [] else zeros [(.slice none 0 0), (.slice none 0 0), (.int .i64 0)] 1) 1 [(0 * 3, 3, t91)] 28 h fun t92_2 h =>
    still1 t82 t83 h ∧ still1 t84 t85 h ∧ app 28 3 56 [(.slice none 0 0), (.slice none 0 0), (.int .i64 0)] t83 t87 h fun t88_2 h =>
    app 28 3 56 [(.slice none 0 0), (.slice none 0 0), (.int .i64 0)] t88_2 t92_2 h fun t93_2 h => fld 1 (ptr t13 0) fun t94_2 => store1 t94_2 t93_2 h fun h => s_Rebalanced.j9 (ptr t4 0) (ptr t6 0) (.int .i64 j) (ptr t13 0) h Q) := by
  have hj := C.hj
  have hx := C.hx
  have hcl := C.cl
  obtain ⟨A, eA, hy2⟩ := hy2
  have ones := C.kl.ones
  have oT : ∀ c ∈ cs.take j, ∀ y ∈ encN c, one1 y = true := fun c hc => (ones c (List.mem_of_mem_take hc)).all
  have oD : ∀ c ∈ cs.drop (j + 2), ∀ y ∈ encN c, one1 y = true := fun c hc => (ones c (List.mem_of_mem_drop hc)).all
  have oN : OneN (w0, wv, 0) := ⟨w.one, wK.one⟩
  have oM : ∀ c ∈ [((w0, wv, 0) : Value × Value × Int)], ∀ y ∈ encN c, one1 y = true := fun c hc => by rw [List.mem_singleton.1 hc]; exact oN.all
  have oA : ∀ (l : List It), ∀ c ∈ l, ∀ y ∈ enc c, one1 y = true := fun l c _ => enc1 c
  refine r_fld ?_
  refine St.r_load1 s 0 (j := 0) rfl rfl ?_
  refine r_fld ?_
  refine St.r_load1 s 3 (j := 0) rfl rfl ?_
  refine slcA0' encl (C.hr.st s) rfl (by omega) fun va ra oa => ?_
  refine r_fld ?_
  refine St.r_load1 s 3 (j := 0) rfl rfl ?_
  refine r_add (z := ((j + 1 : Nat) : Int)) (by rw [i64w (by omega) (by omega)]; omega) ?_
  refine slcA1' encl (C.hr.st s) rfl (by omega) fun vb rb ob => ?_
  have u := St.start h
  refine (u.empty 0 0).r_appL (f := enc) (L := []) (M := x.1.take j) 0 rfl (Own.nil 2 0 0) rfl (ra _ (C.hr.st s)) (oA _) (by simp; omega) (by simp; omega) fun va' b1 o1 sp1 h1 u w1 => ?_
  rw [List.nil_append] at w1
  have u : St h [] [(b1, o1, (x.1.take j).flatMap enc ++ sp1)] h1 := u
  refine ⟨still1M (s.join u) (b := t4) (o := 0) (j := 0) (cs := [vi, vk, vc]) (by simp) rfl, ?_⟩
  refine u.r_appL (f := enc) (L := x.1.take j) (M := x.1.drop (j + 1)) 0 rfl w1 rfl (rb _ (C.hr.st (s.join u))) (oA _) (by simp; omega) (by simp; omega) fun v1 b1 o1 sp1 h1 u w1 => ?_
  have s := (s.join u).perm (E' := (t13, 0, zN3) :: (b1, o1, (x.1.take j ++ x.1.drop (j + 1)).flatMap enc ++ sp1) :: (bi, oi, its.flatMap enc ++ spi) :: (bk, ok, ks.flatMap encN ++ spk) :: (t4, 0, [vi, vk, vc]) :: (t6, 0, zN3) :: R) (by
    show List.Perm _ ((b1, o1, (x.1.take j ++ x.1.drop (j + 1)).flatMap enc ++ sp1) :: (t13, 0, zN3) :: (bi, oi, its.flatMap enc ++ spi) :: (bk, ok, ks.flatMap encN ++ spk) :: (t4, 0, [vi, vk, vc]) :: (t6, 0, zN3) :: R)
    ((apply perm_rg; intro f; simp only [List.set_cons_zero, List.set_cons_succ, List.eraseIdx_cons_zero, List.eraseIdx_cons_succ, List.cons_append, List.nil_append, List.map_append, List.map_cons, List.map_nil, List.sum_append, List.sum_cons, List.sum_nil, List.map_flatMap, Nat.add_zero, Nat.zero_add]; ac_rfl)))
  refine r_fld ?_
  refine St.r_store1 s 0 (j := 0) rfl (by simp) w1.one ?_; intro h s
  have s : St hA [] ((t13, 0, [v1, .slice none 0 0, .int .i64 0]) :: (b1, o1, (x.1.take j ++ x.1.drop (j + 1)).flatMap enc ++ sp1) :: (bi, oi, its.flatMap enc ++ spi) :: (bk, ok, ks.flatMap encN ++ spk) :: (t4, 0, [vi, vk, vc]) :: (t6, 0, zN3) :: R) h := s
  refine r_fld ?_
  refine St.r_load1 s 0 (j := 1) rfl rfl ?_
  refine r_fld ?_
  refine St.r_load1 s 4 (j := 1) rfl rfl ?_
  refine slcA0' encNl (C.hrk.st s) rfl (by omega) fun vc1 rc oc => ?_
  refine r_build (fillN2 w.one wK.one) ?_
  have fin : ∀ {v2 : Value} {b o : Nat} {sp : List Value} {R' : List Rg} {h' : Heap}, Own 3 v2 (cs.take j ++ [(w0, wv, 0)]).length b o ((cs.take j ++ [(w0, wv, 0)]).flatMap encN) sp → St h [] ((b, o, (cs.take j ++ [(w0, wv, 0)]).flatMap encN ++ sp) :: R') h' →
      fld 1 (ptr t13 0) fun t94 => store1 t94 v2 h' fun h => s_Rebalanced.j9 (ptr t4 0) (ptr t6 0) (.int .i64 j) (ptr t13 0) h Q := fun {v2 b o sp R' h'} w2 u => by
    have s := (s.join u).perm (E' := (t13, 0, [v1, .slice none 0 0, .int .i64 0]) :: (b, o, (cs.take j ++ [(w0, wv, 0)]).flatMap encN ++ sp) :: (b1, o1, (x.1.take j ++ x.1.drop (j + 1)).flatMap enc ++ sp1) :: (bi, oi, its.flatMap enc ++ spi) :: (bk, ok, ks.flatMap encN ++ spk) :: (t4, 0, [vi, vk, vc]) :: (t6, 0, zN3) :: (R' ++ R)) (by ((apply perm_rg; intro f; simp only [List.set_cons_zero, List.set_cons_succ, List.eraseIdx_cons_zero, List.eraseIdx_cons_succ, List.cons_append, List.nil_append, List.map_append, List.map_cons, List.map_nil, List.sum_append, List.sum_cons, List.sum_nil, List.map_flatMap, Nat.add_zero, Nat.zero_add]; ac_rfl)))
    refine r_fld ?_
    refine St.r_store1 s 0 (j := 1) rfl (by simp) w2.one ?_; intro h2 s
    have s : St hA [] ((t13, 0, [v1, v2, .int .i64 0]) :: (b, o, (cs.take j ++ [(w0, wv, 0)]).flatMap encN ++ sp) :: (b1, o1, (x.1.take j ++ x.1.drop (j + 1)).flatMap enc ++ sp1) :: (bi, oi, its.flatMap enc ++ spi) :: (bk, ok, ks.flatMap encN ++ spk) :: (t4, 0, [vi, vk, vc]) :: (t6, 0, zN3) :: (R' ++ R)) h2 := s
    unfold s_Rebalanced.j9
    refine r_fld ?_
    refine St.r_load1 s 0 (j := 1) rfl rfl ?_
    refine r_fld ?_
    refine St.r_load1 s 5 (j := 1) rfl rfl ?_
    refine r_add (z := ((j + 2 : Nat) : Int)) (by rw [i64w (by omega) (by omega)]; omega) ?_
    refine slcA1' encNl (C.hrk.st s) rfl (by omega) fun vd rd od => ?_
    refine s.r_appL (f := encN) (L := cs.take j ++ [(w0, wv, 0)]) (M := cs.drop (j + 2)) 1 rfl w2 rfl (rd _ (C.hrk.st s)) oD (by simp; omega) (by simp; omega) fun v3 b3 o3 sp3 h3 s w3 => ?_
    have s : St hA [] ((t13, 0, [v1, v2, .int .i64 0]) :: (b3, o3, (cs.take j ++ [(w0, wv, 0)] ++ cs.drop (j + 2)).flatMap encN ++ sp3) :: (b1, o1, (x.1.take j ++ x.1.drop (j + 1)).flatMap enc ++ sp1) :: (bi, oi, its.flatMap enc ++ spi) :: (bk, ok, ks.flatMap encN ++ spk) :: (t4, 0, [vi, vk, vc]) :: (t6, 0, zN3) :: (R' ++ R)) h3 := s
    refine r_fld ?_
    refine St.r_store1 s 0 (j := 1) rfl (by simp) w3.one ?_; intro h3 s
    have s := s.perm (E' := (t13, 0, [v1, v3, .int .i64 0]) :: (t6, 0, zN3) :: (b3, o3, (cs.take j ++ [(w0, wv, 0)] ++ cs.drop (j + 2)).flatMap encN ++ sp3) :: (b1, o1, (x.1.take j ++ x.1.drop (j + 1)).flatMap enc ++ sp1) :: (bi, oi, its.flatMap enc ++ spi) :: (bk, ok, ks.flatMap encN ++ spk) :: (t4, 0, [vi, vk, vc]) :: (R' ++ R)) (by
      show List.Perm _ ((t13, 0, [v1, v3, .int .i64 0]) :: (b3, o3, (cs.take j ++ [(w0, wv, 0)] ++ cs.drop (j + 2)).flatMap encN ++ sp3) :: (b1, o1, (x.1.take j ++ x.1.drop (j + 1)).flatMap enc ++ sp1) :: (bi, oi, its.flatMap enc ++ spi) :: (bk, ok, ks.flatMap encN ++ spk) :: (t4, 0, [vi, vk, vc]) :: (t6, 0, zN3) :: (R' ++ R))
      ((apply perm_rg; intro f; simp only [List.set_cons_zero, List.set_cons_succ, List.eraseIdx_cons_zero, List.eraseIdx_cons_succ, List.cons_append, List.nil_append, List.map_append, List.map_cons, List.map_nil, List.sum_append, List.sum_cons, List.sum_nil, List.map_flatMap, Nat.add_zero, Nat.zero_add]; ac_rfl)))
    have q1 := w1.rdl s 3 rfl
    have q2 := w3.rdl s 2 rfl
    have qi := w.rdl s 4 rfl
    have qk := wK.rdl s 5 rfl
    have f : Fr (fun _ _ => False) hA h3 := s.fr
    have kx := C.kl.fr f
    have aA : ArgD h3 A w0 wv := by rw [eA]; exact (hK.fr f).arg qi qk
    have e : KL h3 (cs.take j ++ [(w0, wv, 0)] ++ cs.drop (j + 2)) (toD y).2 := by
      rw [hy2]
      exact ((kx.take j).append (KL.one (c := (w0, wv, 0)) aA)).append (kx.drop (j + 2))
    exact rb_end (y := y) (its := x.1.take j ++ x.1.drop (j + 1)) (os := cs.take j ++ [(w0, wv, 0)] ++ cs.drop (j + 2)) hy1.symm e hb q1 q2 s H
  have u := St.start h
  refine ⟨?_, ?_⟩
  · refine (u.empty 0 0).r_appL (f := encN) (L := []) (M := cs.take j) 0 rfl (Own.nil 3 0 0) rfl (rc _ (C.hrk.st s)) oT (by simp; omega) (by simp; omega) fun va' b2 o2 sp2 h1 u w2 => ?_
    rw [List.nil_append] at w2
    have u : St h [] [(b2, o2, (cs.take j).flatMap encN ++ sp2)] h1 := u
    refine u.r_mkSl (sz := 3) (cs := encN (w0, wv, 0)) (by ((simp only [fillV, fill1, Value.cells, zeros_succ, zeros_zero, List.size_toArray, List.length_cons, List.length_nil, List.length_append, List.take_succ_cons, List.take_zero, List.take_nil, List.drop_succ_cons, List.drop_zero, List.drop_nil, List.cons_append, List.nil_append, List.append_nil, Nat.reduceAdd, Nat.reduceMul, Nat.reduceLeDiff, Nat.reduceEqDiff, and_self, and_true, true_and, if_true, Nat.le_refl, Nat.zero_add, Nat.add_zero, Nat.zero_mul, reduceIte, if_false] <;> rfl))) rfl fun q h1 u wq => ?_
    refine u.r_appL (f := encN) (L := cs.take j) (M := [(w0, wv, 0)]) 1 rfl w2 rfl (by have := wq.rdl u 0 (by rw [List.append_nil]; rfl); simpa using this) oM (by simp; omega) (by simp; omega) fun vb' b3 o3 sp3 h1 u w3 => ?_
    have u : St h [] [(q, 0, encN (w0, wv, 0)), (b3, o3, (cs.take j ++ [(w0, wv, 0)]).flatMap encN ++ sp3)] h1 := u
    exact fin w3 (u.perm (List.Perm.swap _ _ _))
  · refine u.r_mkSl (sz := 3) (cs := encN (w0, wv, 0)) (by ((simp only [fillV, fill1, Value.cells, zeros_succ, zeros_zero, List.size_toArray, List.length_cons, List.length_nil, List.length_append, List.take_succ_cons, List.take_zero, List.take_nil, List.drop_succ_cons, List.drop_zero, List.drop_nil, List.cons_append, List.nil_append, List.append_nil, Nat.reduceAdd, Nat.reduceMul, Nat.reduceLeDiff, Nat.reduceEqDiff, and_self, and_true, true_and, if_true, Nat.le_refl, Nat.zero_add, Nat.add_zero, Nat.zero_mul, reduceIte, if_false] <;> rfl))) rfl fun q h1 u wq => ?_
    refine ⟨still1M (s.join u) (b := t13) (o := 0) (j := 1) (cs := [v1, .slice none 0 0, .int .i64 0]) (by simp) rfl, still1M (s.join u) (b := t4) (o := 0) (j := 1) (cs := [vi, vk, vc]) (by simp) rfl, ?_⟩
    refine (u.empty 0 0).r_appL (f := encN) (L := []) (M := cs.take j) 0 rfl (Own.nil 3 0 0) rfl (rc _ (C.hrk.st (s.join u))) oT (by simp; omega) (by simp; omega) fun va' b2 o2 sp2 h1 u w2 => ?_
    rw [List.nil_append] at w2
    have u : St h [] [(b2, o2, (cs.take j).flatMap encN ++ sp2), (q, 0, encN (w0, wv, 0))] h1 := u
    refine u.r_appL (f := encN) (L := cs.take j) (M := [(w0, wv, 0)]) 0 rfl w2 rfl (by have := wq.rdl u 1 (by rw [List.append_nil]; rfl); simpa using this) oM (by simp; omega) (by simp; omega) fun vb' b3 o3 sp3 h1 u w3 => ?_
    exact fin w3 u
end
end Go.Proofs.Ytgnnidefbeoibaa.Gi
end
section
namespace Go.Proofs.Ytgnnidefbeoibaa.Gi
open Go.Hp Go.Proofs.Ytgnnidefbeoibaa
set_option linter.unusedVariables false
set_option linter.unusedSimpArgs false
variable {h0 h hA : Heap} {Z E : List Rg} {Q : Value → Heap → Prop}

/-- The stores of the two kids and of the item between them. -/
def rbTail (a0 t4 t6 t22 t8 t9 t10 t27 t28 t29 t32 t33 t34 t35 t37 t38 : Value) (h : Heap) (Q : Value → Heap → Prop) : Prop :=
  storeN 3 t8 t27 h fun h => still1 t28 t29 h ∧ stillN 3 t32 t33 h ∧ still1 t34 t35 h ∧ stillN 2 t37 t38 h ∧ storeN 3 t9 t33 h fun h => still1 t34 t35 h ∧ stillN 2 t37 t38 h ∧ storeN 2 t10 t38 h fun h => s_Rebalanced.j1 a0 t4 t6 t22 t8 t9 t10 h Q
section
variable {k d j : Nat} {x : PT It (k + 1)} {vi vk vc : Value} {cs : List (Value × Value × Int)} {t4 t6 : Nat}
/-- Where the two nodes stay two: at which of their items they are cut. -/
theorem rb_j3 (C : RbC hA x j vi vk cs) {y : It} {l r : PT It k} {cl cr : Value × Value × Int} {csl csr : List (Value × Value × Int)} {w0 wv : Value} {bi oi bk ok t8 t9 t13 : Nat} {spi spk : List Value} {R : List Rg} (e1 : x.1[j]? = some y) (e2 : x.2[j]? = some l) (e3 : x.2[j + 1]? = some r) (hfl : l.Fl (2 * d - 1) (d - 2)) (hfr : r.Fl (2 * d - 1) (d - 2)) (hd : 2 ≤ d) (hd2 : d ≤ 512)
    (rl : Rdl 2 hA cl.1 l.its.length (l.its.flatMap enc)) (rr : Rdl 2 hA cr.1 r.its.length (r.its.flatMap enc)) (kll : KL hA csl (toD l).2) (klr : KL hA csr (toD r).2) (hm : ¬ l.its.length + r.its.length < 2 * d - 1)
    (w : Own 2 w0 (l.its ++ y :: r.its).length bi oi ((l.its ++ y :: r.its).flatMap enc) spi) (wK : Own 3 wv (csl ++ csr).length bk ok ((csl ++ csr).flatMap encN) spk) (hb : (toD (PT.mendAt (2 * d - 1) x j)).bulk ≤ 1073741824)
    (s : St hA [] ((t13, 0, zN3) :: (bi, oi, (l.its ++ y :: r.its).flatMap enc ++ spi) :: (bk, ok, (csl ++ csr).flatMap encN ++ spk) :: (t4, 0, [vi, vk, vc]) :: (t6, 0, zN3) :: (t8, 0, encN cl) :: (t9, 0, encN cr) :: R) h)
    (H : ∀ vi' vk' E' h', St hA [] E' h' → ArgC h' (PT.mendAt (2 * d - 1) x j) vi' vk' → Q (.agg #[vi', vk', .int .i64 (PT.mendAt (2 * d - 1) x j).items.length]) h') :
    s_Rebalanced.j3 (ptr t4 0) (ptr t6 0) (.int .i64 j) (ptr t8 0) (ptr t9 0) w0 wv (ptr t13 0) h Q := by
  have hll := hfl.le
  have hrl := hfr.le
  have hj := C.hj
  have hme := mend_eq (m := 2 * d - 1) e1 e2 e3
  rw [if_neg hm] at hme
  have hkl := kids_len hfl
  have hkr := kids_len hfr
  have hcl1 := kll.1
  have hcr1 := klr.1
  have hil : (l.its ++ y :: r.its).length = l.its.length + 1 + r.its.length := by rw [List.length_append, List.length_cons]; omega
  have hk2 : (csl ++ csr).length ≤ 4096 := by
    rw [List.length_append, hcl1, hcr1]
    rcases hkl with ⟨h1, _⟩ | ⟨h1, _⟩ <;> rcases hkr with ⟨h3, _⟩ | ⟨h3, _⟩ <;> rw [h1, h3] <;> (try simp) <;> omega
  unfold s_Rebalanced.j3
  refine r_fld ?_
  refine St.r_load1 s 5 (j := 0) rfl rfl ?_
  refine (rl.st s).lenV ?_
  refine r_add1 (by omega) ?_
  refine r_fld ?_
  refine St.r_load1 s 5 (j := 0) rfl rfl ?_
  refine (rl.st s).lenV ?_
  refine r_fld ?_
  refine St.r_load1 s 6 (j := 0) rfl rfl ?_
  refine (rr.st s).lenV ?_
  refine r_cmpI ?_
  refine r_if (fun e => ?_) (fun e => ?_)
  · have e : r.its.length < l.its.length := by have := of_decide_eq_true e; omega
    rw [if_pos e] at hme
    obtain ⟨p, hp⟩ : ∃ p, l.its.length = p + 1 := ⟨l.its.length - 1, by omega⟩
    obtain ⟨s1, s2, s3⟩ := toD_shR y l r
    refine r_fld ?_
    refine St.r_load1 s 5 (j := 0) rfl rfl ?_
    refine (rl.st s).lenV ?_
    refine r_sub (z := (p : Int)) (by rw [i64w (by omega) (by omega)]; omega) ?_
    have hpl : p < (l.its ++ y :: r.its).length := by omega
    have hz : (l.its ++ y :: r.its)[p] = l.its.getLast?.getD y := by
      rw [List.getElem_append_left (by omega), List.getLast?_eq_getElem?, List.getElem?_eq_getElem (by omega)]
      simp only [hp, Nat.add_sub_cancel, Option.getD_some]
    refine rb_j4 C (K := (toD l).2 ++ (toD r).2) (p := p) (y := PT.mendAt (2 * d - 1) x j) w wK (kll.append klr) hpl (by omega) ?_ hk2 ?_ ⟨toD (PT.shR y l r).1, toD (PT.shR y l r).2.2, ?_, ?_, ?_⟩ hb s H
    · rw [List.length_append]
      rcases hkl with ⟨h1, h2⟩ | ⟨h1, h2⟩
      · right; omega
      · rcases hkr with ⟨h3, h4⟩ | ⟨h3, h4⟩
        · omega
        · left; rw [hcl1, hcr1, h1, h3]; rfl
    · rw [hme, hz, ← s1]; exact set_cut hj _
    · rw [s2]
      refine Prod.ext ?_ ?_
      · exact (cut_r1 _ _ (by omega)).symm
      · rcases hkl with ⟨h1, h2⟩ | ⟨h1, h2⟩
        · exact (cut_r1 _ _ (by omega)).symm
        · rcases hkr with ⟨h3, h4⟩ | ⟨h3, h4⟩
          · omega
          · show (toD l).2.dropLast = _; rw [h1, h3]; rfl
    · rw [s3]
      refine Prod.ext ?_ ?_
      · exact (cut_r3 _ _ (by omega)).symm
      · rcases hkl with ⟨h1, h2⟩ | ⟨h1, h2⟩
        · exact (cut_r2 _ _ (by omega)).symm
        · rcases hkr with ⟨h3, h4⟩ | ⟨h3, h4⟩
          · omega
          · show (toD l).2.getLast?.toList ++ (toD r).2 = _; rw [h1, h3]; rfl
    · rw [hme]; exact toD_two x _ _ _
  · have e : ¬ r.its.length < l.its.length := by have := of_decide_eq_false e; omega
    rw [if_neg e] at hme
    obtain ⟨s1, s2, s3⟩ := toD_shL y l r
    have hpl : l.its.length + 1 < (l.its ++ y :: r.its).length := by omega
    have hz : (l.its ++ y :: r.its)[l.its.length + 1] = r.its.head?.getD y := by
      rw [List.getElem_append_right (by omega)]
      simp only [Nat.add_sub_cancel_left, List.getElem_cons_succ]
      rw [List.head?_eq_getElem?, List.getElem?_eq_getElem (by omega)]; rfl
    refine rb_j4 C (K := (toD l).2 ++ (toD r).2) (p := l.its.length + 1) (y := PT.mendAt (2 * d - 1) x j) w wK (kll.append klr) hpl (by omega) ?_ hk2 ?_ ⟨toD (PT.shL y l r).1, toD (PT.shL y l r).2.2, ?_, ?_, ?_⟩ hb s H
    · rw [List.length_append]
      rcases hkl with ⟨h1, h2⟩ | ⟨h1, h2⟩
      · rcases hkr with ⟨h3, h4⟩ | ⟨h3, h4⟩
        · right; omega
        · omega
      · rcases hkr with ⟨h3, h4⟩ | ⟨h3, h4⟩
        · omega
        · left; rw [hcl1, hcr1, h1, h3]; rfl
    · rw [hme, hz, ← s1]; exact set_cut hj _
    · rw [s2]
      refine Prod.ext ?_ ?_
      · exact (cut_l1 _ _ _).symm
      · rcases hkl with ⟨h1, h2⟩ | ⟨h1, h2⟩
        · rw [← h1]; exact (cut_l3 _ _).symm
        · rcases hkr with ⟨h3, h4⟩ | ⟨h3, h4⟩
          · omega
          · show (toD l).2 ++ (toD r).2.head?.toList = _; rw [h1, h3]; rfl
    · rw [s3]
      refine Prod.ext ?_ ?_
      · exact (cut_l2 _ _ _).symm
      · rcases hkl with ⟨h1, h2⟩ | ⟨h1, h2⟩
        · rw [← h1]; exact (cut_l4 _ _).symm
        · rcases hkr with ⟨h3, h4⟩ | ⟨h3, h4⟩
          · omega
          · show (toD r).2.tail = _; rw [h1, h3]; rfl
    · rw [hme]; exact toD_two x _ _ _
theorem klOnes : ∀ {k : Nat} {cs : List (Value × Value × Int)} {L : List (DT k)}, KL hA cs L → ∀ c ∈ cs, ∀ y ∈ encN c, one1 y = true := by
  intro k
  cases k with
  | zero =>
    intro cs L h c hc
    cases L with
    | nil => rw [List.length_eq_zero_iff.1 h.1] at hc; exact absurd hc List.not_mem_nil
    | cons e _ => exact e.elim
  | succ k => exact fun h c hc => (h.ones c hc).all
theorem Rebalanced_ok {i : Int} (ha : ArgD hA (toD x) vi vk) (hvc : one1 vc = true) (hd : 2 ≤ d) (hd2 : d ≤ 512) (hl : x.2.length = x.1.length + 1) (hx : x.1.length ≤ 1024) (hj : min i ((x.1.length : Int) - 1) = (j : Nat)) (hj1 : j < x.1.length) (hfl : ∀ c ∈ x.2, c.Fl (2 * d - 1) (d - 2)) (hb : (toD (PT.mendAt (2 * d - 1) x j)).bulk ≤ 1073741824)
    (H : ∀ vi' vk' E' h', St hA [] E' h' → ArgC h' (PT.mendAt (2 * d - 1) x j) vi' vk' → Q (.agg #[vi', vk', .int .i64 (PT.mendAt (2 * d - 1) x j).items.length]) h') :
    s_Rebalanced.call #[.int .i64 d, .agg #[vi, vk, vc], .int .i64 i] hA Q := by
  obtain ⟨hr, cs, kl, hrk⟩ := ArgD.kl ha
  have hr : Rdl 2 hA vi x.1.length (x.1.flatMap enc) := hr
  have hone := ArgD.one ha
  have C : RbC hA x j vi vk cs := ⟨hr, hrk, kl, hl, hx, hj1⟩
  have hcl := C.cl
  have e1 : x.1[j]? = some x.1[j] := List.getElem?_eq_getElem hj1
  have e2 : x.2[j]? = some (x.2[j]'(by omega)) := List.getElem?_eq_getElem (by omega)
  have e3 : x.2[j + 1]? = some (x.2[j + 1]'(by omega)) := List.getElem?_eq_getElem (by omega)
  have c2 : cs[j]? = some (cs[j]'(by omega)) := List.getElem?_eq_getElem (by omega)
  have c3 : cs[j + 1]? = some (cs[j + 1]'(by omega)) := List.getElem?_eq_getElem (by omega)
  have fl2 := hfl _ (List.getElem_mem (show j < x.2.length by omega))
  have fl3 := hfl _ (List.getElem_mem (show j + 1 < x.2.length by omega))
  have al : ArgD hA (toD (x.2[j]'(by omega))) (cs[j]'(by omega)).1 (cs[j]'(by omega)).2.1 := kl.2 j _ _ c2 (by show (x.2.map toD)[j]? = _; rw [List.getElem?_map, e2]; rfl)
  have ar : ArgD hA (toD (x.2[j + 1]'(by omega))) (cs[j + 1]'(by omega)).1 (cs[j + 1]'(by omega)).2.1 := kl.2 (j + 1) _ _ c3 (by show (x.2.map toD)[j + 1]? = _; rw [List.getElem?_map, e3]; rfl)
  have o2 := kl.ones _ (List.getElem_mem (show j < cs.length by omega))
  have o3 := kl.ones _ (List.getElem_mem (show j + 1 < cs.length by omega))
  have hz1 : ∀ (g : Heap), Rdl 3 g vk cs.length (cs.flatMap encN) → True := fun _ _ => trivial
  refine s_Rebalanced.body _ _ _ _ _ ?_
  unfold s_Rebalanced.sh
  have s := St.start hA
  refine St.r_box (cs := [vi, vk, vc]) s fun t4 h s => ?_
  refine s.r_alloc fun t6 h s => ?_
  have s : St hA [] [(t6, 0, zN3), (t4, 0, [vi, vk, vc])] h := s
  refine r_fld ?_
  refine St.r_load1 s 1 (j := 0) rfl rfl ?_
  refine (hr.st s).lenV ?_
  refine r_sub (z := (x.1.length : Int) - 1) (i64w (by omega) (by omega)) ?_
  refine r_minI ?_
  rw [hj]
  refine r_fld ?_
  refine St.r_load1 s 1 (j := 1) rfl rfl ?_
  refine (hrk.st s).at (f := encN) (n := j) rfl encNl rfl rfl (by omega) fun b1 o1 hb1 => ?_
  refine hb1.loadN rfl ?_
  refine r_fld ?_
  refine St.r_load1 s 1 (j := 1) rfl rfl ?_
  refine r_add1 (by omega) ?_
  refine (hrk.st s).at (f := encN) (n := j + 1) rfl encNl rfl rfl (by omega) fun b2 o2' hb2 => ?_
  refine hb2.loadN rfl ?_
  refine r_fld ?_
  refine St.r_load1 s 1 (j := 0) rfl rfl ?_
  refine (hr.st s).at (f := enc) (n := j) rfl encl rfl rfl hj1 fun b3 o3' hb3 => ?_
  refine hb3.loadN rfl ?_
  generalize x.1[j] = y at *
  generalize x.2[j]'(by omega) = l at *
  generalize x.2[j + 1]'(by omega) = r at *
  generalize cs[j]'(by omega) = cl at *
  generalize cs[j + 1]'(by omega) = cr at *
  obtain ⟨rl, csl, kll, rkl⟩ := ArgD.kl al
  obtain ⟨rr, csr, klr, rkr⟩ := ArgD.kl ar
  rw [toD_its] at rl rr
  have hll := fl2.le
  have hrl := fl3.le
  have hkl := kids_len fl2
  have hkr := kids_len fl3
  have hcl1 := kll.1
  have hcr1 := klr.1
  have hil : (l.its ++ y :: r.its).length = l.its.length + 1 + r.its.length := by rw [List.length_append, List.length_cons]; omega
  have hkl' : csl.length ≤ 2048 := by rw [hcl1]; rcases hkl with ⟨h1, _⟩ | ⟨h1, _⟩ <;> rw [h1] <;> (try simp) <;> omega
  have hkr' : csr.length ≤ 2048 := by rw [hcr1]; rcases hkr with ⟨h1, _⟩ | ⟨h1, _⟩ <;> rw [h1] <;> (try simp) <;> omega
  -- the two kids become one, or stay two
  have J2 : ∀ {t8 t9 t10 bi oi : Nat} {w0 : Value} {spi : List Value} {R : List Rg} {h : Heap}, Own 2 w0 (l.its ++ y :: r.its).length bi oi ((l.its ++ y :: r.its).flatMap enc) spi → St hA [] ((bi, oi, (l.its ++ y :: r.its).flatMap enc ++ spi) :: (t8, 0, encN cl) :: (t9, 0, encN cr) :: (t10, 0, enc y) :: (t4, 0, [vi, vk, vc]) :: (t6, 0, zN3) :: R) h →
      s_Rebalanced.j2 (.int .i64 d) (ptr t4 0) (ptr t6 0) (.int .i64 j) (ptr t8 0) (ptr t9 0) w0 h Q := fun {t8 t9 t10 bi oi w0 spi R h} w s => by
    unfold s_Rebalanced.j2
    refine r_fld ?_
    refine St.r_load1 s 1 (j := 1) rfl rfl ?_
    refine r_fld ?_
    refine St.r_load1 s 2 (j := 1) rfl rfl ?_
    have k8 : ∀ {E' : List Rg} {h' : Heap}, St h [] E' h' → still1 (ptr t8 (0 + 1)) cl.2.1 h' := fun u => still1M (s.join u) (b := t8) (o := 0) (j := 1) (cs := encN cl) (by simp) rfl
    have k9 : ∀ {E' : List Rg} {h' : Heap}, St h [] E' h' → still1 (ptr t9 (0 + 1)) cr.2.1 h' := fun u => still1M (s.join u) (b := t9) (o := 0) (j := 1) (cs := encN cr) (by simp) rfl
    have oL : ∀ c ∈ csl, ∀ y ∈ encN c, one1 y = true := klOnes kll
    have oR : ∀ c ∈ csr, ∀ y ∈ encN c, one1 y = true := klOnes klr
    have u := St.start h
    refine u.r_mkSl (sz := 3) (cs := []) (by ((simp only [fillV, fill1, Value.cells, zeros_succ, zeros_zero, List.size_toArray, List.length_cons, List.length_nil, List.length_append, List.take_succ_cons, List.take_zero, List.take_nil, List.drop_succ_cons, List.drop_zero, List.drop_nil, List.cons_append, List.nil_append, List.append_nil, Nat.reduceAdd, Nat.reduceMul, Nat.reduceLeDiff, Nat.reduceEqDiff, and_self, and_true, true_and, if_true, Nat.le_refl, Nat.zero_add, Nat.add_zero, Nat.zero_mul, reduceIte, if_false] <;> rfl))) rfl fun q h1 u wq => ?_
    refine ⟨k8 u, k9 u, ?_⟩
    refine u.r_appL (f := encN) (L := []) (M := csl) 0 rfl wq rfl (rkl.st (s.join u)) oL (by simp; omega) (by simp; omega) fun va ba oa pa h1 u wa => ?_
    rw [List.nil_append] at wa
    have u : St h [] [(ba, oa, csl.flatMap encN ++ pa)] h1 := u
    refine ⟨k9 u, ?_⟩
    refine u.r_appL (f := encN) (L := csl) (M := csr) 0 rfl wa rfl (rkr.st (s.join u)) oR (by omega) (by omega) fun wv bk ok spk h1 u wK => ?_
    have u : St h [] [(bk, ok, (csl ++ csr).flatMap encN ++ spk)] h1 := u
    refine r_build (cs := zN3) rfl ?_
    have s := s.join u
    refine s.r_alloc fun t13 h s => ?_
    refine St.r_storeN0 s 0 (ys := zN3) rfl rfl (by simp) (one3 rfl rfl rfl) ?_; intro h s
    have s := s.perm (E' := (t13, 0, zN3) :: (bi, oi, (l.its ++ y :: r.its).flatMap enc ++ spi) :: (bk, ok, (csl ++ csr).flatMap encN ++ spk) :: (t4, 0, [vi, vk, vc]) :: (t6, 0, zN3) :: (t8, 0, encN cl) :: (t9, 0, encN cr) :: ((t10, 0, enc y) :: R)) (by
      show List.Perm _ ((t13, 0, zN3) :: (bk, ok, (csl ++ csr).flatMap encN ++ spk) :: (bi, oi, (l.its ++ y :: r.its).flatMap enc ++ spi) :: (t8, 0, encN cl) :: (t9, 0, encN cr) :: (t10, 0, enc y) :: (t4, 0, [vi, vk, vc]) :: (t6, 0, zN3) :: R)
      ((apply perm_rg; intro f; simp only [List.set_cons_zero, List.set_cons_succ, List.eraseIdx_cons_zero, List.eraseIdx_cons_succ, List.cons_append, List.nil_append, List.map_append, List.map_cons, List.map_nil, List.sum_append, List.sum_cons, List.sum_nil, List.map_flatMap, Nat.add_zero, Nat.zero_add]; ac_rfl)))
    refine r_fld ?_
    refine St.r_load1 s 5 (j := 0) rfl rfl ?_
    refine (rl.st s).lenV ?_
    refine r_fld ?_
    refine St.r_load1 s 6 (j := 0) rfl rfl ?_
    refine (rr.st s).lenV ?_
    refine r_add (z := ((l.its.length + r.its.length : Nat) : Int)) (by rw [i64w (by omega) (by omega)]; omega) ?_
    refine r_mulI (by omega) (by omega) ?_
    refine r_sub (z := ((2 * d - 1 : Nat) : Int)) (by rw [i64w (by omega) (by omega)]; omega) ?_
    refine r_cmpI ?_
    refine r_if (fun e => ?_) (fun e => ?_)
    · have hm : l.its.length + r.its.length < 2 * d - 1 := by have := of_decide_eq_true e; omega
      have hme := mend_eq (m := 2 * d - 1) e1 e2 e3
      rw [if_pos hm] at hme
      refine rb_merge C (K := (toD l).2 ++ (toD r).2) (y := PT.mendAt (2 * d - 1) x j) w wK (kll.append klr) ?_ ⟨toD (PT.join2 y l r), toD_join2 y l r, ?_⟩ hb s H
      · rw [hme]
        show x.1.eraseIdx j = _
        rw [List.eraseIdx_eq_take_drop_succ]
      · rw [hme]; exact toD_single x _ _
    · have hm : ¬ l.its.length + r.its.length < 2 * d - 1 := by have := of_decide_eq_false e; omega
      exact rb_j3 C e1 e2 e3 fl2 fl3 hd hd2 rl rr kll klr hm w wK hb s H
  have J1 : ∀ {t8 t9 t10 : Nat} {R : List Rg} {h : Heap}, St hA [] ((t8, 0, encN cl) :: (t9, 0, encN cr) :: (t10, 0, enc y) :: (t4, 0, [vi, vk, vc]) :: (t6, 0, zN3) :: R) h → s_Rebalanced.j1 (.int .i64 d) (ptr t4 0) (ptr t6 0) (.int .i64 j) (ptr t8 0) (ptr t9 0) (ptr t10 0) h Q := fun {t8 t9 t10 R h} s => by
    unfold s_Rebalanced.j1
    refine r_fld ?_
    refine St.r_load1 s 0 (j := 0) rfl rfl ?_
    refine St.r_loadN0 s 2 rfl (by simp) ?_
    refine r_fld ?_
    refine St.r_load1 s 1 (j := 0) rfl rfl ?_
    have oA : ∀ (l : List It), ∀ c ∈ l, ∀ y ∈ enc c, one1 y = true := fun l c _ => enc1 c
    have k8 : ∀ {E' : List Rg} {h' : Heap}, St h [] E' h' → still1 (ptr t8 (0 + 0)) cl.1 h' := fun u => still1M (s.join u) (b := t8) (o := 0) (j := 0) (cs := encN cl) (by simp) rfl
    have k9 : ∀ {E' : List Rg} {h' : Heap}, St h [] E' h' → still1 (ptr t9 (0 + 0)) cr.1 h' := fun u => still1M (s.join u) (b := t9) (o := 0) (j := 0) (cs := encN cr) (by simp) rfl
    have k10 : ∀ {E' : List Rg} {h' : Heap}, St h [] E' h' → stillN 2 (ptr t10 0) (.agg (enc y).toArray) h' := fun u => stillNM (s.join u) (b := t10) (cs := enc y) (by simp) rfl
    have fin : ∀ {w0 : Value} {b o : Nat} {sp : List Value} {R' : List Rg} {h' : Heap}, Own 2 w0 (l.its ++ [y] ++ r.its).length b o ((l.its ++ [y] ++ r.its).flatMap enc) sp → St h [] ((b, o, (l.its ++ [y] ++ r.its).flatMap enc ++ sp) :: R') h' → s_Rebalanced.j2 (.int .i64 d) (ptr t4 0) (ptr t6 0) (.int .i64 j) (ptr t8 0) (ptr t9 0) w0 h' Q := fun {w0 b o sp R' h'} w u => by
      have e : l.its ++ [y] ++ r.its = l.its ++ y :: r.its := by rw [List.append_assoc]; rfl
      rw [e] at w u
      exact J2 (t10 := t10) (R := R' ++ R) w ((s.join u).perm (by ((apply perm_rg; intro f; simp only [List.set_cons_zero, List.set_cons_succ, List.eraseIdx_cons_zero, List.eraseIdx_cons_succ, List.cons_append, List.nil_append, List.map_append, List.map_cons, List.map_nil, List.sum_append, List.sum_cons, List.sum_nil, List.map_flatMap, Nat.add_zero, Nat.zero_add]; ac_rfl))))
    have u := St.start h
    refine ⟨?_, ?_⟩
    · refine u.r_mkSl (sz := 2) (cs := []) (by ((simp only [fillV, fill1, Value.cells, zeros_succ, zeros_zero, List.size_toArray, List.length_cons, List.length_nil, List.length_append, List.take_succ_cons, List.take_zero, List.take_nil, List.drop_succ_cons, List.drop_zero, List.drop_nil, List.cons_append, List.nil_append, List.append_nil, Nat.reduceAdd, Nat.reduceMul, Nat.reduceLeDiff, Nat.reduceEqDiff, and_self, and_true, true_and, if_true, Nat.le_refl, Nat.zero_add, Nat.add_zero, Nat.zero_mul, reduceIte, if_false] <;> rfl))) rfl fun q h1 u wq => ?_
      refine ⟨k8 u, k10 u, k9 u, ?_, ?_⟩
      · refine u.r_appL (f := enc) (L := []) (M := l.its) 0 rfl wq rfl (rl.st (s.join u)) (oA _) (by simp; omega) (by simp; omega) fun va ba oa pa h1 u wa => ?_
        rw [List.nil_append] at wa
        have u : St h [] [(ba, oa, l.its.flatMap enc ++ pa)] h1 := u
        refine ⟨k10 u, k9 u, ?_⟩
        refine u.r_mkSl (sz := 2) (cs := enc y) (by ((simp only [fillV, fill1, Value.cells, zeros_succ, zeros_zero, List.size_toArray, List.length_cons, List.length_nil, List.length_append, List.take_succ_cons, List.take_zero, List.take_nil, List.drop_succ_cons, List.drop_zero, List.drop_nil, List.cons_append, List.nil_append, List.append_nil, Nat.reduceAdd, Nat.reduceMul, Nat.reduceLeDiff, Nat.reduceEqDiff, and_self, and_true, true_and, if_true, Nat.le_refl, Nat.zero_add, Nat.add_zero, Nat.zero_mul, reduceIte, if_false] <;> rfl))) rfl fun q2 h1 u wq2 => ?_
        refine ⟨k9 u, ?_⟩
        refine u.r_appL (f := enc) (L := l.its) (M := [y]) 1 rfl wa rfl (by have := wq2.rdl u 0 (by rw [List.append_nil]; rfl); simpa using this) (oA _) (by simp; omega) (by simp; omega) fun vb bb ob pb h1 u wb => ?_
        have u : St h [] [(q2, 0, enc y), (bb, ob, (l.its ++ [y]).flatMap enc ++ pb)] h1 := u
        refine ⟨k9 u, ?_⟩
        refine u.r_appL (f := enc) (L := l.its ++ [y]) (M := r.its) 1 rfl wb rfl (rr.st (s.join u)) (oA _) (by simp; omega) (by simp; omega) fun vd bd od pd h1 u wd => ?_
        have u : St h [] [(q2, 0, enc y), (bd, od, (l.its ++ [y] ++ r.its).flatMap enc ++ pd)] h1 := u
        exact fin wd (u.perm (List.Perm.swap _ _ _))
      · have u : St h [] [(q, 0, ([] : List It).flatMap enc ++ [])] h1 := u
        refine u.r_mkSl (sz := 2) (cs := enc y) (by ((simp only [fillV, fill1, Value.cells, zeros_succ, zeros_zero, List.size_toArray, List.length_cons, List.length_nil, List.length_append, List.take_succ_cons, List.take_zero, List.take_nil, List.drop_succ_cons, List.drop_zero, List.drop_nil, List.cons_append, List.nil_append, List.append_nil, Nat.reduceAdd, Nat.reduceMul, Nat.reduceLeDiff, Nat.reduceEqDiff, and_self, and_true, true_and, if_true, Nat.le_refl, Nat.zero_add, Nat.add_zero, Nat.zero_mul, reduceIte, if_false] <;> rfl))) rfl fun q2 h1 u wq2 => ?_
        refine ⟨k8 u, k9 u, ?_⟩
        refine u.r_appL (f := enc) (L := []) (M := l.its) 1 rfl wq rfl (rl.st (s.join u)) (oA _) (by simp; omega) (by simp; omega) fun va ba oa pa h1 u wa => ?_
        rw [List.nil_append] at wa
        have u : St h [] [(q2, 0, enc y), (ba, oa, l.its.flatMap enc ++ pa)] h1 := u
        refine ⟨k9 u, ?_⟩
        refine u.r_appL (f := enc) (L := l.its) (M := [y]) 1 rfl wa rfl (by have := wq2.rdl u 0 (by rw [List.append_nil]; rfl); simpa using this) (oA _) (by simp; omega) (by simp; omega) fun vb bb ob pb h1 u wb => ?_
        have u : St h [] [(q2, 0, enc y), (bb, ob, (l.its ++ [y]).flatMap enc ++ pb)] h1 := u
        refine ⟨k9 u, ?_⟩
        refine u.r_appL (f := enc) (L := l.its ++ [y]) (M := r.its) 1 rfl wb rfl (rr.st (s.join u)) (oA _) (by simp; omega) (by simp; omega) fun vd bd od pd h1 u wd => ?_
        have u : St h [] [(q2, 0, enc y), (bd, od, (l.its ++ [y] ++ r.its).flatMap enc ++ pd)] h1 := u
        exact fin wd (u.perm (List.Perm.swap _ _ _))
    · refine u.r_mkSl (sz := 2) (cs := enc y) (by ((simp only [fillV, fill1, Value.cells, zeros_succ, zeros_zero, List.size_toArray, List.length_cons, List.length_nil, List.length_append, List.take_succ_cons, List.take_zero, List.take_nil, List.drop_succ_cons, List.drop_zero, List.drop_nil, List.cons_append, List.nil_append, List.append_nil, Nat.reduceAdd, Nat.reduceMul, Nat.reduceLeDiff, Nat.reduceEqDiff, and_self, and_true, true_and, if_true, Nat.le_refl, Nat.zero_add, Nat.add_zero, Nat.zero_mul, reduceIte, if_false] <;> rfl))) rfl fun q2 h1 u wq2 => ?_
      refine ⟨k8 u, k9 u, ?_⟩
      refine u.r_mkSl (sz := 2) (cs := []) (by ((simp only [fillV, fill1, Value.cells, zeros_succ, zeros_zero, List.size_toArray, List.length_cons, List.length_nil, List.length_append, List.take_succ_cons, List.take_zero, List.take_nil, List.drop_succ_cons, List.drop_zero, List.drop_nil, List.cons_append, List.nil_append, List.append_nil, Nat.reduceAdd, Nat.reduceMul, Nat.reduceLeDiff, Nat.reduceEqDiff, and_self, and_true, true_and, if_true, Nat.le_refl, Nat.zero_add, Nat.add_zero, Nat.zero_mul, reduceIte, if_false] <;> rfl))) rfl fun q h1 u wq => ?_
      refine ⟨k8 u, k9 u, ?_⟩
      refine u.r_appL (f := enc) (L := []) (M := l.its) 0 rfl wq rfl (rl.st (s.join u)) (oA _) (by simp; omega) (by simp; omega) fun va ba oa pa h1 u wa => ?_
      rw [List.nil_append] at wa
      have u : St h [] [(ba, oa, l.its.flatMap enc ++ pa), (q2, 0, enc y)] h1 := u
      refine ⟨k9 u, ?_⟩
      refine u.r_appL (f := enc) (L := l.its) (M := [y]) 0 rfl wa rfl (by have := wq2.rdl u 1 (by rw [List.append_nil]; rfl); simpa using this) (oA _) (by simp; omega) (by simp; omega) fun vb bb ob pb h1 u wb => ?_
      have u : St h [] [(bb, ob, (l.its ++ [y]).flatMap enc ++ pb), (q2, 0, enc y)] h1 := u
      refine ⟨k9 u, ?_⟩
      refine u.r_appL (f := enc) (L := l.its ++ [y]) (M := r.its) 0 rfl wb rfl (rr.st (s.join u)) (oA _) (by simp; omega) (by simp; omega) fun vd bd od pd h1 u wd => ?_
      exact fin wd u
  have u := St.start h
  have K : ∀ {E' : List Rg} {h' : Heap}, St h [] E' h' → still1 (ptr t4 (0 + 1)) vk h' ∧ stillN 3 (ptr b1 o1) (.agg (encN cl).toArray) h' ∧ still1 (ptr t4 (0 + 1)) vk h' ∧ stillN 3 (ptr b2 o2') (.agg (encN cr).toArray) h' ∧ still1 (ptr t4 (0 + 0)) vi h' ∧ stillN 2 (ptr b3 o3') (.agg (enc y).toArray) h' := fun u =>
    ⟨still1M (s.join u) (b := t4) (o := 0) (j := 1) (cs := [vi, vk, vc]) (by simp) rfl, (hb1.st u).stillN rfl, still1M (s.join u) (b := t4) (o := 0) (j := 1) (cs := [vi, vk, vc]) (by simp) rfl, (hb2.st u).stillN rfl, still1M (s.join u) (b := t4) (o := 0) (j := 0) (cs := [vi, vk, vc]) (by simp) rfl, (hb3.st u).stillN rfl⟩
  have tail : ∀ {t8 t9 t10 : Nat} {h' : Heap}, St h [] [(t8, 0, zN3), (t9, 0, zN3), (t10, 0, enc emp)] h' → rbTail (.int .i64 d) (ptr t4 0) (ptr t6 0) (.int .i64 j) (ptr t8 0) (ptr t9 0) (ptr t10 0) (.agg (encN cl).toArray) (ptr t4 (0 + 1)) vk (ptr b2 o2') (.agg (encN cr).toArray) (ptr t4 (0 + 0)) vi (ptr b3 o3') (.agg (enc y).toArray) h' Q := fun {t8 t9 t10 h'} u => by
    unfold rbTail
    refine St.r_storeN0 u 0 (ys := encN cl) rfl rfl (by simp) o2.all ?_; intro h1 u
    obtain ⟨a1, a2, a3, a4, a5, a6⟩ := K u
    refine ⟨a3, a4, a5, a6, ?_⟩
    refine St.r_storeN0 u 1 (ys := encN cr) rfl rfl (by simp) o3.all ?_; intro h1 u
    obtain ⟨a1, a2, a3, a4, a5, a6⟩ := K u
    refine ⟨a5, a6, ?_⟩
    refine St.r_storeN0 u 2 (ys := enc y) rfl rfl (by simp) (enc1 y) ?_; intro h1 u
    have u : St h [] [(t8, 0, encN cl), (t9, 0, encN cr), (t10, 0, enc y)] h1 := u
    exact J1 (R := []) ((s.join u).perm (by ((apply perm_rg; intro f; simp only [List.set_cons_zero, List.set_cons_succ, List.eraseIdx_cons_zero, List.eraseIdx_cons_succ, List.cons_append, List.nil_append, List.map_append, List.map_cons, List.map_nil, List.sum_append, List.sum_cons, List.sum_nil, List.map_flatMap, Nat.add_zero, Nat.zero_add]; ac_rfl))))
  refine ⟨?_, ?_, ?_⟩
  · refine u.r_alloc fun t8 h1 u => ?_
    obtain ⟨a1, a2, a3, a4, a5, a6⟩ := K u
    refine ⟨a1, a2, a3, a4, a5, a6, ?_, ?_⟩
    · refine u.r_alloc fun t9 h1 u => ?_
      obtain ⟨a1, a2, a3, a4, a5, a6⟩ := K u
      refine ⟨a1, a2, a3, a4, a5, a6, ?_⟩
      refine u.r_alloc fun t10 h1 u => ?_
      obtain ⟨a1, a2, a3, a4, a5, a6⟩ := K u
      refine ⟨a1, a2, a3, a4, a5, a6, ?_⟩
      exact tail (u.perm (E' := [(t8, 0, zN3), (t9, 0, zN3), (t10, 0, enc emp)]) (by
        show List.Perm _ [(t10, 0, enc emp), (t9, 0, zN3), (t8, 0, zN3)]
        ((apply perm_rg; intro f; simp only [List.set_cons_zero, List.set_cons_succ, List.eraseIdx_cons_zero, List.eraseIdx_cons_succ, List.cons_append, List.nil_append, List.map_append, List.map_cons, List.map_nil, List.sum_append, List.sum_cons, List.sum_nil, List.map_flatMap, Nat.add_zero, Nat.zero_add]; ac_rfl))))
    · refine u.r_alloc fun t10 h1 u => ?_
      obtain ⟨a1, a2, a3, a4, a5, a6⟩ := K u
      refine ⟨a1, a2, a3, a4, a5, a6, ?_⟩
      refine u.r_alloc fun t9 h1 u => ?_
      obtain ⟨a1, a2, a3, a4, a5, a6⟩ := K u
      refine ⟨a1, a2, a3, a4, a5, a6, ?_⟩
      exact tail (u.perm (E' := [(t8, 0, zN3), (t9, 0, zN3), (t10, 0, enc emp)]) (by
        show List.Perm _ [(t9, 0, zN3), (t10, 0, enc emp), (t8, 0, zN3)]
        ((apply perm_rg; intro f; simp only [List.set_cons_zero, List.set_cons_succ, List.eraseIdx_cons_zero, List.eraseIdx_cons_succ, List.cons_append, List.nil_append, List.map_append, List.map_cons, List.map_nil, List.sum_append, List.sum_cons, List.sum_nil, List.map_flatMap, Nat.add_zero, Nat.zero_add]; ac_rfl))))
  · refine u.r_alloc fun t9 h1 u => ?_
    obtain ⟨a1, a2, a3, a4, a5, a6⟩ := K u
    refine ⟨a1, a2, a3, a4, a5, a6, ?_, ?_⟩
    · refine u.r_alloc fun t8 h1 u => ?_
      obtain ⟨a1, a2, a3, a4, a5, a6⟩ := K u
      refine ⟨a1, a2, a3, a4, a5, a6, ?_⟩
      refine u.r_alloc fun t10 h1 u => ?_
      obtain ⟨a1, a2, a3, a4, a5, a6⟩ := K u
      refine ⟨a1, a2, a3, a4, a5, a6, ?_⟩
      exact tail (u.perm (E' := [(t8, 0, zN3), (t9, 0, zN3), (t10, 0, enc emp)]) (by
        show List.Perm _ [(t10, 0, enc emp), (t8, 0, zN3), (t9, 0, zN3)]
        ((apply perm_rg; intro f; simp only [List.set_cons_zero, List.set_cons_succ, List.eraseIdx_cons_zero, List.eraseIdx_cons_succ, List.cons_append, List.nil_append, List.map_append, List.map_cons, List.map_nil, List.sum_append, List.sum_cons, List.sum_nil, List.map_flatMap, Nat.add_zero, Nat.zero_add]; ac_rfl))))
    · refine u.r_alloc fun t10 h1 u => ?_
      obtain ⟨a1, a2, a3, a4, a5, a6⟩ := K u
      refine ⟨a1, a2, a3, a4, a5, a6, ?_⟩
      refine u.r_alloc fun t8 h1 u => ?_
      obtain ⟨a1, a2, a3, a4, a5, a6⟩ := K u
      refine ⟨a1, a2, a3, a4, a5, a6, ?_⟩
      exact tail (u.perm (E' := [(t8, 0, zN3), (t9, 0, zN3), (t10, 0, enc emp)]) (by
        show List.Perm _ [(t8, 0, zN3), (t10, 0, enc emp), (t9, 0, zN3)]
        ((apply perm_rg; intro f; simp only [List.set_cons_zero, List.set_cons_succ, List.eraseIdx_cons_zero, List.eraseIdx_cons_succ, List.cons_append, List.nil_append, List.map_append, List.map_cons, List.map_nil, List.sum_append, List.sum_cons, List.sum_nil, List.map_flatMap, Nat.add_zero, Nat.zero_add]; ac_rfl))))
  · refine u.r_alloc fun t10 h1 u => ?_
    obtain ⟨a1, a2, a3, a4, a5, a6⟩ := K u
    refine ⟨a1, a2, a3, a4, a5, a6, ?_, ?_⟩
    · refine u.r_alloc fun t8 h1 u => ?_
      obtain ⟨a1, a2, a3, a4, a5, a6⟩ := K u
      refine ⟨a1, a2, a3, a4, a5, a6, ?_⟩
      refine u.r_alloc fun t9 h1 u => ?_
      obtain ⟨a1, a2, a3, a4, a5, a6⟩ := K u
      refine ⟨a1, a2, a3, a4, a5, a6, ?_⟩
      exact tail (u.perm (E' := [(t8, 0, zN3), (t9, 0, zN3), (t10, 0, enc emp)]) (by
        show List.Perm _ [(t9, 0, zN3), (t8, 0, zN3), (t10, 0, enc emp)]
        ((apply perm_rg; intro f; simp only [List.set_cons_zero, List.set_cons_succ, List.eraseIdx_cons_zero, List.eraseIdx_cons_succ, List.cons_append, List.nil_append, List.map_append, List.map_cons, List.map_nil, List.sum_append, List.sum_cons, List.sum_nil, List.map_flatMap, Nat.add_zero, Nat.zero_add]; ac_rfl))))
    · refine u.r_alloc fun t9 h1 u => ?_
      obtain ⟨a1, a2, a3, a4, a5, a6⟩ := K u
      refine ⟨a1, a2, a3, a4, a5, a6, ?_⟩
      refine u.r_alloc fun t8 h1 u => ?_
      obtain ⟨a1, a2, a3, a4, a5, a6⟩ := K u
      refine ⟨a1, a2, a3, a4, a5, a6, ?_⟩
      exact tail (u.perm (E' := [(t8, 0, zN3), (t9, 0, zN3), (t10, 0, enc emp)]) (by
        exact List.Perm.refl _))
end
end Go.Proofs.Ytgnnidefbeoibaa.Gi
end
section
namespace Go.Proofs.Ytgnnidefbeoibaa.Gi
open Go.Hp Go.Proofs.Ytgnnidefbeoibaa
set_option linter.unusedVariables false
set_option linter.unusedSimpArgs false
variable {h0 h hA : Heap} {Z E : List Rg} {Q : Value → Heap → Prop}

/-- A node whose child i has one item less than it may have. -/
structure LackN (ow : List Int) (w : Int) {k : Nat} (t : DT (k + 1)) (i : Int) : Prop where
  i0 : 0 ≤ i
  i1 : i < t.2.length
  n1 : 1 ≤ t.1.length
  n2 : (t.1.length : Int) ≤ 2 * w - 1
  df : ∀ q : DT k, t.2[i.toNat]? = some q → (q.its.length : Int) = w - 2
  fl : ∀ (j : Nat) (q : DT k), t.2[j]? = some q → q.fl w (if (j : Int) = i then w - 2 else w - 1) = true
  lv : t.lv.2 = true
  asc : Asc (ltO ow) t.items
theorem argD_its : ∀ {k : Nat} {t : DT k} {vi vk : Value}, ArgD h t vi vk → Rdl 2 h vi t.its.length (t.its.flatMap enc)
  | 0, e, _, _, _ => e.elim
  | _ + 1, _, _, _, a => a.1
theorem Lacks_ok {ow : List Int} {ov vi vk vc : Value} {d i : Int} {nl : Bool} {k : Nat} {t : DT (k + 1)} (ho : OwAt hA ow ov) (ha : ArgD hA t vi vk) (hvc : one1 vc = true) (hb : t.bulk ≤ 1073741824) (hk : k ≤ 1099511627775) (hd : d = 0 ∨ (2 ≤ d ∧ d ≤ 128))
    (H : ∀ b E' h', (b = true → LackN ow (if d = 0 then 32 else d) t i) → St hA [] E' h' → Q (.bool b) h') : s_Lacks.call #[.agg #[ov, .int .i64 d, .bool nl], .agg #[vi, vk, vc], .int .i64 i] hA Q := by
  obtain ⟨hr, cs, hcl, hrk, hks⟩ := id ha
  have hkl := t.kids_le
  have hil := t.items_le
  refine s_Lacks.body _ _ _ _ _ ?_
  unfold s_Lacks.sh
  have s := St.start hA
  refine St.r_box (cs := [ov, .int .i64 d, .bool nl]) s fun t3 h s => ?_
  refine St.r_box (cs := [vi, vk, vc]) s fun t4 h s => ?_
  have s : St hA [] ((t4, 0, [vi, vk, vc]) :: (t3, 0, [ov, .int .i64 d, .bool nl]) :: []) h := s
  refine r_fld ?_
  refine St.r_load1 s 1 (j := 1) rfl rfl ?_
  refine s_Width_ok ?_
  obtain ⟨w, hw, hw2, hw3⟩ : ∃ w : Int, w = (if d = 0 then 32 else d) ∧ 2 ≤ w ∧ w ≤ 128 := by
    refine ⟨_, rfl, ?_, ?_⟩ <;> (split <;> omega)
  rw [← hw] at H ⊢
  have no : ∀ {E' : List Rg} {h' : Heap}, St hA [] E' h' → Q (.bool false) h' := fun s => H false _ _ (fun e => by cases e) s
  refine r_cmpI ?_
  refine r_br (fun e => ?_) (fun _ => no s)
  have i0 : 0 ≤ i := by have := of_decide_eq_false e; omega
  refine r_fld ?_
  refine St.r_load1 s 0 (j := 1) rfl rfl ?_
  refine (hrk.st s).lenV ?_
  refine r_cmpI ?_
  refine r_br (fun e => ?_) (fun _ => no s)
  have i1 : i < cs.length := by have := of_decide_eq_false e; omega
  refine r_fld ?_
  refine St.r_load1 s 0 (j := 0) rfl rfl ?_
  refine (hr.st s).lenV ?_
  refine r_cmpI ?_
  refine r_br (fun e => ?_) (fun _ => no s)
  have n1 : 1 ≤ t.1.length := by have := of_decide_eq_false e; omega
  refine r_fld ?_
  refine St.r_load1 s 0 (j := 0) rfl rfl ?_
  refine (hr.st s).lenV ?_
  refine r_mulI (by omega) (by omega) ?_
  refine r_sub (z := 2 * w - 1) (i64w (by omega) (by omega)) ?_
  refine r_cmpI ?_
  refine r_br (fun e => ?_) (fun _ => no s)
  have n2 : (t.1.length : Int) ≤ 2 * w - 1 := by have := of_decide_eq_false e; omega
  refine r_fld ?_
  refine St.r_load1 s 0 (j := 1) rfl rfl ?_
  obtain ⟨n, rfl⟩ : ∃ n : Nat, i = n := ⟨i.toNat, by omega⟩
  have hn : n < cs.length := by omega
  refine (hrk.st s).at (f := encN) (n := n) rfl encNl rfl rfl hn fun b1 o1 hb1 => ?_
  refine r_fld ?_
  refine hb1.load (j := 0) rfl ?_
  have akn := hks n (by omega) hn
  refine ((argD_its akn).st s).lenV ?_
  refine r_sub (z := w - 2) (i64w (by omega) (by omega)) ?_
  refine r_cmpI ?_
  refine r_if (fun _ => no s) (fun e => ?_)
  have df : ∀ q, t.2[n]? = some q → (q.its.length : Int) = w - 2 := fun q hq => by
    have hq2 : t.2[n]'(by omega) = q := (List.getElem?_eq_some_iff.1 hq).2
    have e : (((t.2[n]'(by omega)).its.length : Nat) : Int) = w - 2 := by
      cases hh : ((((t.2[n]'(by omega)).its.length : Nat) : Int) != (w - 2)) with
      | true => rw [hh] at e; cases e
      | false => simpa using hh
    rw [hq2] at e; exact e
  unfold s_Lacks.j1
  refine r_fld ?_
  refine St.r_load1 s 0 (j := 1) rfl rfl ?_
  refine hrk.lenV ?_
  refine loop_ghost (fun q st h' => ∃ (j : Nat) (R : List Rg), q = cs.length - j ∧ j ≤ cs.length ∧ st = [.int .i64 (j : Nat)] ∧ (∀ (j' : Nat) (q : DT k), j' < j → t.2[j']? = some q → q.fl w (if (j' : Int) = (n : Nat) then w - 2 else w - 1) = true) ∧ St hA [] ((t4, 0, [vi, vk, vc]) :: (t3, 0, [ov, .int .i64 d, .bool nl]) :: R) h') (n0 := cs.length)
    ⟨0, [], rfl, Nat.zero_le _, rfl, fun j' q h => absurd h (Nat.not_lt_zero _), s⟩ ?_
  clear s hb1
  rintro q st h ⟨j, R, rfl, hj, rfl, hfl, s⟩ K HK
  unfold s_Lacks.l3.b
  refine r_cmpI ?_
  refine r_if (fun hlt => ?_) (fun hge => ?_)
  · have hlt : j < cs.length := by have := of_decide_eq_true hlt; omega
    unfold s_Lacks.j4
    refine (hrk.st s).at (f := encN) (n := j) rfl encNl rfl rfl hlt fun b2 o2 hb2 => ?_
    refine hb2.loadN rfl ?_
    have akj := hks j (by omega) hlt
    have hbj := t.kid_le (List.getElem_mem (show j < t.2.length by omega))
    have oj : OneN cs[j] := by
      have := akj
      generalize t.2[j]'(by omega) = q at this
      cases k with
      | zero => exact q.elim
      | succ k => exact ArgD.one this
    refine s.r_alloc fun t9 h s => ?_
    refine St.r_storeN0 s 0 (ys := encN cs[j]) rfl rfl (by simp) oj.all ?_; intro h s
    have s : St hA [] ((t9, 0, encN cs[j]) :: (t4, 0, [vi, vk, vc]) :: (t3, 0, [ov, .int .i64 d, .bool nl]) :: R) h := s
    refine r_sub (z := w - 1) (i64w (by omega) (by omega)) ?_
    refine r_cmpI ?_
    have fin : ∀ {least : Int}, least = (if (j : Int) = (n : Nat) then w - 2 else w - 1) → s_Lacks.j6 (.int .i64 (n : Nat)) (ptr t3 0) (ptr t4 0) (.int .i64 w) (ptr t9 0) (.int .i64 least) vk (.int .i64 (cs.length : Nat)) (.int .i64 (j : Nat)) h K Q := fun {least} el => by
      unfold s_Lacks.j6
      refine St.r_loadN0 s 0 rfl (by simp) ?_
      refine s_Filled_ok (t.2[j]'(by omega)) (d := w) (least := least) (akj.fr s.fr) (by omega) (by omega) (by omega) rfl fun E2 h2 s2 => ?_
      have s := (s.join s2).perm List.perm_append_comm
      refine r_not ?_
      refine r_if (fun _ => no s) (fun e => ?_)
      have e : (t.2[j]'(by omega)).fl w least = true := by
        cases hh : (t.2[j]'(by omega)).fl w least with
        | true => rfl
        | false => rw [hh] at e; cases e
      unfold s_Lacks.j5
      refine r_add1 (by omega) ?_
      refine HK (cs.length - (j + 1)) _ _ (by omega) ⟨j + 1, (t9, 0, encN cs[j]) :: (R ++ E2), rfl, hlt, rfl, fun j' q hj' hq => ?_, ?_⟩
      · rcases Nat.lt_or_ge j' j with h1 | h1
        · exact hfl j' q h1 hq
        · have : j' = j := by omega
          subst this
          have hq2 : t.2[j']'(by omega) = q := (List.getElem?_eq_some_iff.1 hq).2
          rw [hq2, el] at e; exact e
      · exact s.perm (by
          show List.Perm _ ((t9, 0, encN cs[j]) :: (t4, 0, [vi, vk, vc]) :: (t3, 0, [ov, .int .i64 d, .bool nl]) :: (R ++ E2))
          ((apply perm_rg; intro f; simp only [List.set_cons_zero, List.set_cons_succ, List.eraseIdx_cons_zero, List.eraseIdx_cons_succ, List.cons_append, List.nil_append, List.map_append, List.map_cons, List.map_nil, List.sum_append, List.sum_cons, List.sum_nil, List.map_flatMap, Nat.add_zero, Nat.zero_add]; ac_rfl)))
    refine r_if (fun e => ?_) (fun e => ?_)
    · have e : (j : Int) = (n : Nat) := eq_of_beq e
      refine r_sub (z := w - 2) (i64w (by omega) (by omega)) ?_
      exact fin (by rw [if_pos e])
    · have e : (j : Int) ≠ (n : Nat) := fun h => by rw [h] at e; simp at e
      exact fin (by rw [if_neg e])
  · have hge : j = cs.length := by have := of_decide_eq_false hge; omega
    subst hge
    unfold s_Lacks.j2
    refine St.r_loadN0 s 0 rfl (by simp) ?_
    refine s_Levels_ok t (ha.fr s.fr) hb (by omega) hvc fun E2 h2 s2 => ?_
    have s := (s.join s2).perm List.perm_append_comm
    refine r_ext rfl ?_
    refine r_ext rfl ?_
    refine r_br (fun elv => ?_) (fun _ => no s)
    refine r_fld ?_
    refine St.r_load1 s 1 (j := 0) rfl rfl ?_
    refine St.r_loadN0 s 0 rfl (by simp) ?_
    refine s_NodeItems_ok t (ha.fr s.fr) hb hvc fun v E3 h3 s3 rv => ?_
    have s := (s.join s3).perm List.perm_append_comm
    refine ⟨St.r_still1 s 1 (j := 0) rfl rfl, ?_⟩
    refine s_Rising_ok (l := t.items) (ho.st s) rv (by have := t.items_le; omega) fun b E4 h4 hbb s4 => ?_
    refine H b _ _ (fun e => ⟨by omega, by rw [← hcl]; exact i1, n1, n2, fun q hq => df q (by rw [Int.toNat_natCast] at hq; exact hq), fun j q hq => hfl j q (by have := (List.getElem?_eq_some_iff.1 hq).1; omega) hq, elv, hbb.1 e⟩) (s.join s4)
end Go.Proofs.Ytgnnidefbeoibaa.Gi
end
section
namespace Go.Proofs.Ytgnnidefbeoibaa.Gi
open Go.Hp Go.Proofs.Ytgnnidefbeoibaa
set_option linter.unusedVariables false
set_option linter.unusedSimpArgs false
variable {h0 h hA : Heap} {Z E : List Rg} {Q : Value → Heap → Prop}

/-- A node as data with kids, as high everywhere: a tree whose kids are those of the node. -/
theorem uni_kids {k n : Nat} {t : DT (k + 1)} (h : t.lv = (n + 2, true)) : ∃ x : PT It (n + 1), Uni t x ∧ x.1 = t.1 ∧ x.2.length = t.1.length + 1 ∧ x.2.length = t.2.length ∧ ∀ j (h1 : j < t.2.length) (h2 : j < x.2.length), Uni t.2[j] x.2[j] := by
  match ht : t.2 with
  | [] =>
    have hl : t.lv = (1, true) := by unfold DT.lv; rw [ht]
    rw [hl] at h
    have := congrArg Prod.fst h; simp at this
  | q :: qs =>
    by_cases e : qs.length = t.1.length
    · have hl : t.lv = (q.lv.1 + 1, q.lv.2 && qs.all fun x => x.lv.2 && x.lv.1 == q.lv.1) := by
        conv => lhs; unfold DT.lv
        rw [ht]; simp only [if_pos e]
      rw [hl] at h
      have hn := congrArg Prod.fst h
      have hb := congrArg Prod.snd h
      simp only at hn hb
      have hq : q.lv.2 = true := by cases hh : q.lv.2 <;> simp_all
      have hall : ∀ x, x ∈ t.2 → x.lv = (n + 1, true) := fun x hx => by
        rw [ht] at hx
        rcases List.mem_cons.1 hx with rfl | hx
        · exact Prod.ext (by simp only; omega) hq
        · rw [hq, Bool.true_and, List.all_eq_true] at hb
          have := hb x hx
          simp only [Bool.and_eq_true, beq_iff_eq] at this
          exact Prod.ext (by simp only; omega) this.1
      obtain ⟨xs, hxl, hxs⟩ := exists_list t.2 fun x hx => uni_of x n (hall x hx)
      refine ⟨(t.1, xs), ⟨rfl, ?_, fun m hm => ?_, fun h vi vk ⟨hr, cs, hcl, hrk, hks⟩ => ⟨hr, ?_, cs, ?_, hrk, fun j h1 h2 => ?_⟩, fun d lo h1 hf => ?_⟩, rfl, ?_, ?_, fun j h1 h2 => ?_⟩
      · show inter t.1 (xs.map PT.items) = inter t.1 (t.2.map DT.items)
        congr 1
        refine List.ext_getElem (by simp [hxl]) fun i h1 h2 => ?_
        simp only [List.getElem_map]
        exact (hxs i (by simpa using h2) (by simpa using h1)).items
      · have hk := t.kids_le
        refine ⟨by show t.1.length ≤ m; omega, by show xs.length = t.1.length + 1; rw [hxl, ht, List.length_cons, e], fun x hx => ?_⟩
        obtain ⟨i, hi, rfl⟩ := List.getElem_of_mem (show x ∈ xs from hx)
        have := t.kid_le (List.getElem_mem (show i < t.2.length by omega))
        exact (hxs i (by omega) hi).sh m (by omega)
      · show xs ≠ []
        intro hh
        rw [hh, ht] at hxl
        simp at hxl
      · show cs.length = xs.length
        rw [hxl]; exact hcl
      · have h1' : j < xs.length := h1
        exact (hxs j (by omega) h1').arg h _ _ (hks j (by omega) h2)
      · have : t.fl d lo = (decide ((lo : Int) ≤ t.1.length) && decide ((t.1.length : Int) ≤ 2 * d - 1) && t.2.all fun q => DT.fl d (d - 1) q) := rfl
        rw [this] at hf
        simp only [Bool.and_eq_true, decide_eq_true_eq, List.all_eq_true] at hf
        refine ⟨by show lo ≤ t.1.length; omega, by show t.1.length ≤ _; omega, by show xs.length = t.1.length + 1; rw [hxl, ht, List.length_cons, e], fun x hx => ?_⟩
        obtain ⟨i, hi, rfl⟩ := List.getElem_of_mem (show x ∈ xs from hx)
        have h3 := hf.2 _ (List.getElem_mem (show i < t.2.length by omega))
        have e4 : (2 * d - 1) / 2 = d - 1 := by omega
        rw [e4]
        refine (hxs i (by omega) hi).fl d (d - 1) h1 ?_
        rw [show ((d - 1 : Nat) : Int) = (d : Int) - 1 by omega]; exact h3
      · show xs.length = t.1.length + 1; rw [hxl, ht, List.length_cons, e]
      · show xs.length = (q :: qs).length; rw [hxl, ht]
      · have h1' : j < t.2.length := by rw [ht]; exact h1
        have h2' : j < xs.length := h2
        have := hxs j h1' h2'
        have e3 : t.2[j]'h1' = (q :: qs)[j]'h1 := List.getElem_of_eq ht h1'
        rw [e3] at this; exact this
    · have hl : t.lv = (0, false) := by unfold DT.lv; rw [ht]; simp only [if_neg e]
      rw [hl] at h
      cases h
theorem argT_toD {h : Heap} : ∀ {k : Nat} {x : PT It k} {vi vk : Value}, ArgT h x vi vk → ArgD h (toD x) vi vk
  | 0, x, vi, vk, ⟨hr, a, cap, e⟩ => ⟨hr, [], rfl, ⟨a, cap, e, rfl, fun h => absurd rfl h, Nat.zero_le _⟩, fun j j1 => absurd j1 (Nat.not_lt_zero _)⟩
  | k + 1, x, vi, vk, ⟨hr, _, cs, hcl, hrk, hks⟩ => by
    have hx2 : (toD x).2.length = x.2.length := List.length_map ..
    refine ⟨hr, cs, by rw [hx2]; exact hcl, hrk, fun j j1 j2 => ?_⟩
    have j1' : j < x.2.length := by omega
    have e : (x.2.map toD)[j]'(by rw [List.length_map]; exact j1') = toD (x.2[j]) := List.getElem_map ..
    show ArgD h ((x.2.map toD)[j]'(by rw [List.length_map]; exact j1')) _ _
    rw [e]
    exact argT_toD (hks j j1' j2)
/-- What a node that lacks is as a tree. -/
theorem lack_tree {ow : List Int} {w : Nat} {k : Nat} {t : DT (k + 1)} {i : Int} (hw : 2 ≤ w) (L : LackN ow w t i) : ∃ (n i' j : Nat) (x : PT It (n + 1)), i = i' ∧ t.lv = (n + 2, true) ∧ Uni t x ∧ x.1 = t.1 ∧ x.2.length = x.1.length + 1 ∧ j < x.1.length ∧ min i ((x.1.length : Int) - 1) = (j : Nat) ∧ j = (if i' = x.1.length then i' - 1 else i') ∧ i' ≤ x.1.length ∧
    x.Fx (2 * w - 1) 1 i' ∧ (∀ c, x.2[i']? = some c → c.its.length + 1 = (2 * w - 1) / 2) ∧ (∀ c ∈ x.2, c.Fl (2 * w - 1) (w - 2)) := by
  obtain ⟨l0, l1, l2, l3, ldf, lfl, llv, lasc⟩ := L
  obtain ⟨i', rfl⟩ : ∃ n : Nat, i = n := ⟨i.toNat, by omega⟩
  obtain ⟨n, hn⟩ : ∃ n, t.lv = (n + 2, true) := by
    match ht : t.2 with
    | [] => rw [ht] at l1; simp at l1; omega
    | q :: qs =>
      by_cases e : qs.length = t.1.length
      · have hl : t.lv = (q.lv.1 + 1, q.lv.2 && qs.all fun x => x.lv.2 && x.lv.1 == q.lv.1) := by
          conv => lhs; unfold DT.lv
          rw [ht]; simp only [if_pos e]
        have h2 : (q.lv.2 && qs.all fun x => x.lv.2 && x.lv.1 == q.lv.1) = true := by rw [hl] at llv; exact llv
        have hq : q.lv.2 = true := by cases hh : q.lv.2 <;> simp_all
        have := lv_pos q hq
        exact ⟨q.lv.1 - 1, by rw [hl, h2]; exact Prod.ext (by simp only; omega) rfl⟩
      · have hl : t.lv = (0, false) := by unfold DT.lv; rw [ht]; simp only [if_neg e]
        rw [hl] at llv; cases llv
  obtain ⟨x, hx, x1, x2, x3, x4⟩ := uni_kids hn
  have hx1 : x.1.length = t.1.length := by rw [x1]
  have hm : (2 * w - 1) / 2 = w - 1 := by omega
  have kf : ∀ (j : Nat) (c : PT It n), x.2[j]? = some c → PT.Fl (2 * w - 1) (if j = i' then w - 2 else w - 1) c := fun j c hc => by
    obtain ⟨h2, rfl⟩ := List.getElem?_eq_some_iff.1 hc
    have h1 : j < t.2.length := by omega
    have := lfl j _ (List.getElem?_eq_getElem h1)
    by_cases e : j = i'
    · rw [if_pos e]
      rw [if_pos (by omega), show (w : Int) - 2 = ((w - 2 : Nat) : Int) by omega] at this
      exact (x4 j h1 h2).fl w (w - 2) (by omega) this
    · rw [if_neg e]
      rw [if_neg (by omega), show (w : Int) - 1 = ((w - 1 : Nat) : Int) by omega] at this
      exact (x4 j h1 h2).fl w (w - 1) (by omega) this
  refine ⟨n, i', if i' = x.1.length then i' - 1 else i', x, rfl, hn, hx, x1, by omega, ?_, ?_, rfl, by omega, ⟨by omega, by omega, by omega, fun j c hc => ?_⟩, fun c hc => ?_, fun c hc => ?_⟩
  · split <;> omega
  · split <;> omega
  · have := kf j c hc
    rw [hm]
    split
    · rename_i e; rw [if_pos e] at this; exact this
    · rename_i e; rw [if_neg e] at this; exact this
  · obtain ⟨h2, rfl⟩ := List.getElem?_eq_some_iff.1 hc
    have h1 : i' < t.2.length := by omega
    have := ldf _ (by rw [Int.toNat_natCast]; exact List.getElem?_eq_getElem h1)
    have e := (x4 i' h1 h2).its
    rw [hm]
    have e2 : (x.2[i']'h2).its.length = (t.2[i']'h1).its.length := by rw [e]
    omega
  · obtain ⟨j, hj⟩ := List.getElem?_of_mem hc
    have := kf j c hj
    split at this
    · exact this
    · exact this.mono (by omega)
theorem mend_bulk {m k lo : Nat} (hm : 3 ≤ m) {z : PT It (k + 1)} (f : z.Fl m lo) : (toD z).bulk ≤ 2 * z.items.length + 1 := by
  have hs : ∀ l : List (PT It k), (∀ c ∈ l, c ∈ z.2) → ((l.map toD).map DT.bulk).sum ≤ 2 * ((l.map PT.items).map List.length).sum := fun l => by
    induction l with
    | nil => intro _; simp
    | cons a r ih =>
      intro hl
      have i1 := ih fun c hc => hl c (List.mem_cons_of_mem _ hc)
      have i2 := toD_bulk hm (f.2.2.2 a (hl a (by simp))) (by omega)
      simp only [List.map_cons, List.sum_cons]
      omega
  have := hs z.2 fun _ h => h
  show 1 + z.1.length + ((z.2.map toD).map DT.bulk).sum ≤ 2 * (inter z.1 (z.2.map PT.items)).length + 1
  rw [inter_length]
  omega
end Go.Proofs.Ytgnnidefbeoibaa.Gi
end
section
namespace Go.Proofs.Ytgnnidefbeoibaa.Gi
open Go.Hp Go.Proofs.Ytgnnidefbeoibaa
set_option linter.unusedVariables false
set_option linter.unusedSimpArgs false
variable {h0 h hA : Heap} {Z E : List Rg} {Q : Value → Heap → Prop}

theorem NRebalance_ok {ow : List Int} {ov vi vk vc : Value} {d i j k : Nat} {nl : Bool} {x : PT It (k + 1)} (ho : OwAt hA ow ov) (hd : d = 0 ∨ 2 ≤ d) (hd2 : d ≤ 512) (ha : ArgT hA x vi vk) (hvc : one1 vc = true) (hsh : x.Sh 1073741823) (hsz : x.items.length ≤ 268435456) (fx : x.Fx (dmax d) 1 i) (h1 : 1 ≤ x.1.length) (hi : i ≤ x.1.length) (hdef : ∀ c, x.2[i]? = some c → c.its.length + 1 = dmax d / 2) (hj : j = (if i = x.1.length then i - 1 else i))
    (H : ∀ vi' vk' E' h' lo, (PT.mendAt (dmax d) x j).Fl (dmax d) lo → (PT.mendAt (dmax d) x j).items = x.items → St hA [] E' h' → ArgC h' (PT.mendAt (dmax d) x j) vi' vk' → Q (.agg #[vi', vk', .int .i64 (PT.mendAt (dmax d) x j).items.length]) h') :
    i_NRebalance.call #[.agg #[ov, .int .i64 d, .bool nl], .agg #[vi, vk, vc], .int .i64 i] hA Q := by
  obtain ⟨m3, m1, mo, me, mn0⟩ := dmax_ok hd hd2
  have hone := ha.one
  refine i_NRebalance.body _ _ _ _ _ ?_
  unfold i_NRebalance.sh
  have s := St.start hA
  refine St.r_box (cs := [ov, .int .i64 d, .bool nl]) s fun t3 h s => ?_
  refine St.r_box (cs := [vi, vk, vc]) s fun t4 h s => ?_
  refine s.r_alloc fun t6 h s => ?_
  have s : St hA [] [(t6, 0, zN3), (t4, 0, [vi, vk, vc]), (t3, 0, [ov, .int .i64 d, .bool nl])] h := s
  refine St.r_loadN0 s 2 rfl (by simp) ?_
  refine grow_nil (ho.st s) hd hd2 fun tb lf cb A E1 h T => ?_
  have s := s.join T.st
  have s : St hA [] ((tb, 0, hdr 1 (some ⟨cb, 0, none⟩) none 0 lf (dmin d : Nat) (dmax d : Nat)) :: ((A ++ E1) ++ [(t6, 0, zN3), (t4, 0, [vi, vk, vc]), (t3, 0, [ov, .int .i64 d, .bool nl])])) h := s
  have s := s.perm (E' := (t4, 0, [vi, vk, vc]) :: (tb, 0, hdr 1 (some ⟨cb, 0, none⟩) none 0 lf (dmin d : Nat) (dmax d : Nat)) :: ((A ++ E1) ++ [(t6, 0, zN3), (t3, 0, [ov, .int .i64 d, .bool nl])])) (by ((apply perm_rg; intro f; simp only [List.set_cons_zero, List.set_cons_succ, List.eraseIdx_cons_zero, List.eraseIdx_cons_succ, List.cons_append, List.nil_append, List.map_append, List.map_cons, List.map_nil, List.sum_append, List.sum_cons, List.sum_nil, List.map_flatMap, Nat.add_zero, Nat.zero_add]; ac_rfl)))
  refine St.r_loadN0 s 0 rfl (by simp) ?_
  refine planted_ok x (s.get (k := 1) (j := 0) rfl (by simp)) (ha.fr s.fr) (Sh_mono (by omega) hsh) (by omega) hvc fun t h ht gt s2 => ?_
  subst ht
  have s := s.join s2
  refine s.r_alloc fun t8 h s => ?_
  refine St.r_storeN0 s 0 (ys := [ptr t.id 0]) rfl rfl (by simp) (by simp [one1]) ?_; intro h s
  have s : St hA [] ((t8, 0, [ptr t.id 0]) :: (t.all enc ++ ((t4, 0, [vi, vk, vc]) :: (tb, 0, hdr 1 (some ⟨cb, 0, none⟩) none 0 lf (dmin d : Nat) (dmax d : Nat)) :: ((A ++ E1) ++ [(t6, 0, zN3), (t3, 0, [ov, .int .i64 d, .bool nl])])))) h := s
  refine St.r_loadN0 s 0 rfl (by simp) ?_
  refine BTreeG_I_DoorNodeRebalance.body _ _ _ _ _ ?_
  unfold BTreeG_I_DoorNodeRebalance.sh
  refine St.r_box (cs := [ptr t.id 0]) s fun t2 h s => ?_
  refine r_fld ?_
  refine St.r_load1 s 0 (j := 0) rfl rfl ?_
  have s := s.perm (E' := (tb, 0, hdr 1 (some ⟨cb, 0, none⟩) none 0 lf (dmin d : Nat) (dmax d : Nat)) :: (t2, 0, [ptr t.id 0]) :: (t8, 0, [ptr t.id 0]) :: (t.all enc ++ ((t4, 0, [vi, vk, vc]) :: ((A ++ E1) ++ [(t6, 0, zN3), (t3, 0, [ov, .int .i64 d, .bool nl])])))) (by
    show List.Perm _ ((t2, 0, [ptr t.id 0]) :: (t8, 0, [ptr t.id 0]) :: (t.all enc ++ ((t4, 0, [vi, vk, vc]) :: (tb, 0, hdr 1 (some ⟨cb, 0, none⟩) none 0 lf (dmin d : Nat) (dmax d : Nat)) :: ((A ++ E1) ++ [(t6, 0, zN3), (t3, 0, [ov, .int .i64 d, .bool nl])]))))
    ((apply perm_rg; intro f; simp only [List.set_cons_zero, List.set_cons_succ, List.eraseIdx_cons_zero, List.eraseIdx_cons_succ, List.cons_append, List.nil_append, List.map_append, List.map_cons, List.map_nil, List.sum_append, List.sum_cons, List.sum_nil, List.map_flatMap, Nat.add_zero, Nat.zero_add]; ac_rfl)))
  have s := hdr_cut s
  have s := s.perm (E' := [(tb, 0, hd0 1 (some ⟨cb, 0, none⟩)), (tb, 4, hd4 lf (dmin d : Nat) (dmax d : Nat))] ++ (t.all enc ++ ((tb, 2, [.pointer none]) :: (tb, 3, [.int .i64 0]) :: (t2, 0, [ptr t.id 0]) :: (t8, 0, [ptr t.id 0]) :: (t6, 0, zN3) :: (t4, 0, [vi, vk, vc]) :: ((A ++ E1) ++ [(t3, 0, [ov, .int .i64 d, .bool nl])])))) (by
    show List.Perm _ ((tb, 0, hd0 1 (some ⟨cb, 0, none⟩)) :: (tb, 4, hd4 lf (dmin d : Nat) (dmax d : Nat)) :: (tb, 2, [.pointer none]) :: (tb, 3, [.int .i64 0]) :: (t2, 0, [ptr t.id 0]) :: (t8, 0, [ptr t.id 0]) :: (t.all enc ++ ((t4, 0, [vi, vk, vc]) :: ((A ++ E1) ++ [(t6, 0, zN3), (t3, 0, [ov, .int .i64 d, .bool nl])]))))
    ((apply perm_rg; intro f; simp only [List.set_cons_zero, List.set_cons_succ, List.eraseIdx_cons_zero, List.eraseIdx_cons_succ, List.cons_append, List.nil_append, List.map_append, List.map_cons, List.map_nil, List.sum_append, List.sum_cons, List.sum_nil, List.map_flatMap, Nat.add_zero, Nat.zero_add]; ac_rfl)))
  obtain ⟨s1, back⟩ := s.borrow
  refine rebalance_ok (List.mem_append_left _ (List.mem_cons_self ..)) (List.mem_append_left _ (List.mem_cons_of_mem _ (List.mem_cons_self ..))) m3 m1 mo t fx h1 hi hdef (by omega) gt s1 fun t' h M s => ?_
  obtain ⟨M1, M2, M3, M4, M5⟩ := M
  rw [← hj] at M5
  have s := back _ _ s
  have s := s.perm (E' := (t8, 0, [ptr t.id 0]) :: (t'.all enc ++ ([(tb, 0, hd0 1 (some ⟨cb, 0, none⟩)), (tb, 4, hd4 lf (dmin d : Nat) (dmax d : Nat))] ++ ((tb, 2, [.pointer none]) :: (tb, 3, [.int .i64 0]) :: (t2, 0, [ptr t.id 0]) :: (t6, 0, zN3) :: (t4, 0, [vi, vk, vc]) :: ((A ++ E1) ++ [(t3, 0, [ov, .int .i64 d, .bool nl])]))))) (by ((apply perm_rg; intro f; simp only [List.set_cons_zero, List.set_cons_succ, List.eraseIdx_cons_zero, List.eraseIdx_cons_succ, List.cons_append, List.nil_append, List.map_append, List.map_cons, List.map_nil, List.sum_append, List.sum_cons, List.sum_nil, List.map_flatMap, Nat.add_zero, Nat.zero_add]; ac_rfl)))
  refine St.r_loadN0 s 0 rfl (by simp) ?_
  have hid : ptr t.id 0 = ptr t'.id 0 := by rw [M1]
  show i_lifted.call #[.agg #[ptr t.id 0]] h _
  rw [hid]
  refine lifted_ok t' (GT.At.of M4.wf fun r hr => s.ok (List.mem_append_left _ (List.mem_cons_of_mem _ (List.mem_append_left _ hr)))) M4.cn (Sh_mono (by omega) M3.sh) fun vi' vk' B h2 s2 hB o1 o2 => ?_
  have s := s.join s2
  have s := s.perm (E' := (t6, 0, zN3) :: (B ++ ((t8, 0, [ptr t.id 0]) :: (t'.all enc ++ ([(tb, 0, hd0 1 (some ⟨cb, 0, none⟩)), (tb, 4, hd4 lf (dmin d : Nat) (dmax d : Nat))] ++ ((tb, 2, [.pointer none]) :: (tb, 3, [.int .i64 0]) :: (t2, 0, [ptr t.id 0]) :: (t4, 0, [vi, vk, vc]) :: ((A ++ E1) ++ [(t3, 0, [ov, .int .i64 d, .bool nl])]))))))) (by ((apply perm_rg; intro f; simp only [List.set_cons_zero, List.set_cons_succ, List.eraseIdx_cons_zero, List.eraseIdx_cons_succ, List.cons_append, List.nil_append, List.map_append, List.map_cons, List.map_nil, List.sum_append, List.sum_cons, List.sum_nil, List.map_flatMap, Nat.add_zero, Nat.zero_add]; ac_rfl)))
  refine St.r_storeN0 s 0 (ys := [vi', vk', .int .i64 t'.pt.items.length]) rfl rfl (by simp) (one3 o1 o2 rfl) ?_; intro h3 s
  have s : St hA [] ((t6, 0, [vi', vk', .int .i64 t'.pt.items.length]) :: (B ++ ((t8, 0, [ptr t.id 0]) :: (t'.all enc ++ ([(tb, 0, hd0 1 (some ⟨cb, 0, none⟩)), (tb, 4, hd4 lf (dmin d : Nat) (dmax d : Nat))] ++ ((tb, 2, [.pointer none]) :: (tb, 3, [.int .i64 0]) :: (t2, 0, [ptr t.id 0]) :: (t4, 0, [vi, vk, vc]) :: ((A ++ E1) ++ [(t3, 0, [ov, .int .i64 d, .bool nl])]))))))) h3 := s
  refine St.r_loadN0 s 0 rfl (by simp) ?_
  have hC := hB h3 fun r hr => s.ok (List.mem_append_left _ (List.mem_cons_of_mem _ (List.mem_append_left _ hr)))
  rw [M5] at hC M3 M2
  have := H vi' vk' _ h3 _ M3 M2 s hC
  rw [← M5] at this; exact this
theorem kid_items {k : Nat} {z : PT It (k + 1)} {c : PT It k} (hc : c ∈ z.2) : c.items.length ≤ z.items.length := by
  show _ ≤ (inter z.1 (z.2.map PT.items)).length
  rw [inter_length]
  have := mem_le_sum (List.mem_map.2 ⟨_, List.mem_map.2 ⟨c, hc, rfl⟩, rfl⟩ : c.items.length ∈ (z.2.map PT.items).map List.length)
  omega
theorem l_FnNRebalance_ok {ow : List Int} {ov : Value} {d c i : Int} {nl : Bool} {k : Nat} (t : DT (k + 1)) {vi vk : Value} (ho : Rdl 1 hA ov ow.length (ow.flatMap fi)) (ha : ArgD hA t vi vk) (hb : t.bulk ≤ 1048576) (hk : k ≤ 1048576) (H : ∀ E' h', St hA [] E' h' → Q (.bool true) h') :
    l_FnNRebalance.call #[.agg #[ov, .int .i64 d, .bool nl], .agg #[vi, vk, .int .i64 c], .int .i64 i] hA Q := by
  obtain ⟨hr, cs, hcl, hrk, _⟩ := id ha
  have hkl := t.kids_le
  have hil := t.items_le
  have hone := ArgD.one ha
  refine l_FnNRebalance.body _ _ _ _ _ ?_
  unfold l_FnNRebalance.sh
  have s := St.start hA
  refine St.r_box (cs := [ov, .int .i64 d, .bool nl]) s fun t3 h s => ?_
  refine St.r_box (cs := [vi, vk, .int .i64 c]) s fun t4 h s => ?_
  refine St.r_loadN0 s 1 rfl (by simp) ?_
  refine l_zzFits1_ok (ho.st s) fun E1 h s1 => ?_
  have s := (s.join s1).perm List.perm_append_comm
  refine r_not ?_
  refine r_br (fun e => ?_) (fun e => H _ _ s)
  have how : ow.length ≤ 2147483647 := by simpa using e
  have ho : OwAt _ ow ov := ⟨ho, how⟩
  refine St.r_loadN0 s 0 rfl (by simp) ?_
  refine l_zzFits3_ok (hr.st s) (hrk.st s) (by omega) (by omega) rfl fun E2 h s2 => ?_
  have s := (s.join s2).perm List.perm_append_comm
  refine r_not ?_
  refine r_if (fun e => absurd e (by decide)) (fun _ => ?_)
  have live : ∀ {E' h'}, St hA [] E' h' → l_aliveN.call #[] h' Q := fun s => l_aliveN_ok fun E' h' s' => H _ _ (s.join s')
  unfold l_FnNRebalance.j1
  refine St.r_loadN0 s 1 rfl (by simp) ?_
  refine l_fits.body _ _ _ ?_
  unfold l_fits.sh
  refine St.r_box (cs := [ov, .int .i64 d, .bool nl]) s fun t1 h s => ?_
  refine r_fld ?_
  refine St.r_load1 s 0 (j := 1) rfl rfl ?_
  refine Fits_ok ?_
  refine r_not ?_
  refine r_br (fun e => ?_) (fun _ => live s)
  have hd : d = 0 ∨ (2 ≤ d ∧ d ≤ 128) := by
    cases hq : decide (d = 0 ∨ (2 ≤ d ∧ d ≤ 128)) with
    | true => exact of_decide_eq_true hq
    | false => rw [hq] at e; exact absurd e (by decide)
  have s : St hA [] ((t1, 0, [ov, .int .i64 d, .bool nl]) :: (t4, 0, [vi, vk, .int .i64 c]) :: (t3, 0, [ov, .int .i64 d, .bool nl]) :: (E1 ++ E2)) h := s
  refine St.r_loadN0 s 2 rfl (by simp) ?_
  refine St.r_loadN0 s 1 rfl (by simp) ?_
  refine Lacks_ok (ho.st s) (ha.fr s.fr) rfl (by omega) (by omega) hd fun b E3 h hbb s3 => ?_
  have s := (s.join s3).perm List.perm_append_comm
  refine r_not ?_
  cases b with
  | false => exact r_if (fun _ => live s) (fun e => absurd e (by decide))
  | true =>
    refine r_if (fun e => absurd e (by decide)) (fun _ => ?_)
    have L := hbb rfl
    obtain ⟨d, rfl⟩ : ∃ n : Nat, d = n := ⟨d.toNat, by omega⟩
    obtain ⟨w, hw, hw2, hw3, hwm⟩ : ∃ w : Nat, (if (d : Int) = 0 then 32 else (d : Int)) = (w : Nat) ∧ 2 ≤ w ∧ w ≤ 128 ∧ dmax d = 2 * w - 1 := by
      unfold dmax
      by_cases e : d = 0
      · exact ⟨32, by subst e; rfl, by omega, by omega, by rw [if_pos e]⟩
      · exact ⟨d, by rw [if_neg (by omega)], by omega, by omega, by rw [if_neg e]⟩
    rw [hw] at L
    obtain ⟨n, i', j, x, rfl, hlv, ux, x1, x2, x3, x4, x5, x6, fx, xdef, xfl⟩ := lack_tree hw2 L
    have l1 := L.n1
    have hx1 : x.1.length = t.1.length := by rw [x1]
    have hxi : x.items = t.items := ux.items
    have fx2 : x.1.length ≤ 2 * w - 1 := fx.2.1
    unfold l_FnNRebalance.j2
    refine r_fld ?_
    refine St.r_load1 s 2 (j := 1) rfl rfl ?_
    refine s_Width_ok ?_
    rw [hw]
    refine St.r_loadN0 s 2 rfl (by simp) ?_
    refine St.r_loadN0 s 1 rfl (by simp) ?_
    have aT := ux.arg _ _ _ (ha.fr s.fr)
    refine NRebalance_ok (j := j) (ho.st s) (by omega) (by omega) aT rfl (ux.sh _ (by omega)) (by rw [hxi]; omega) (by rw [hwm]; exact fx) (by omega) x6 (by rw [hwm]; exact xdef) x5 fun vi' vk' E4 h lo f4 i4 s4 a4 => ?_
    rw [hwm] at f4 i4 a4 ⊢
    have hyb := mend_bulk (by omega) f4
    have hyi : (PT.mendAt (2 * w - 1) x j).items.length = t.items.length := by rw [i4, hxi]
    rw [hyi] at hyb ⊢
    have s := (s.join s4).perm List.perm_append_comm
    have u := St.start h
    refine u.r_alloc fun t8 h u => ?_
    refine St.r_storeN0 u 0 (ys := [vi', vk', .int .i64 t.items.length]) rfl rfl (by simp) (one3 a4.one.1 a4.one.2 rfl) ?_; intro h u
    have u : St _ [] [(t8, 0, [vi', vk', .int .i64 t.items.length])] h := u
    have a4 := a4.fr u.fr
    have s := s.join u
    have s : St hA [] ((t8, 0, [vi', vk', .int .i64 t.items.length]) :: (t1, 0, [ov, .int .i64 d, .bool nl]) :: (t4, 0, [vi, vk, .int .i64 c]) :: (t3, 0, [ov, .int .i64 d, .bool nl]) :: (E1 ++ E2 ++ E3 ++ E4)) h := s
    clear u s4
    obtain ⟨ar, acs, acl, ark, aks⟩ := id a4
    refine r_fld ?_
    refine St.r_load1 s 0 (j := 1) rfl rfl ?_
    refine ark.lenV ?_
    have hal2 : acs.length ≤ 1024 := by have := f4.2.1; have := f4.2.2.1; omega
    have hn2 : n + 2 ≤ k + 1 := by have := t.lv_le; rw [hlv] at this; exact this
    refine loop_ghost (fun q st h' => ∃ (a : Nat) (R : List Rg), q = acs.length - a ∧ a ≤ acs.length ∧ st = [.int .i64 (a : Nat)] ∧ St h [] R h') (n0 := acs.length) ⟨0, [], rfl, Nat.zero_le _, rfl, St.start h⟩ ?_
    rintro q st h' ⟨a, R, rfl, hal, rfl, u⟩ K HK
    unfold l_FnNRebalance.l4.b
    refine r_cmpI ?_
    refine r_if (fun hlt => ?_) (fun hge => ?_)
    · have hlt : a < acs.length := by have := of_decide_eq_true hlt; omega
      have hlx : a < (PT.mendAt (2 * w - 1) x j).2.length := by omega
      unfold l_FnNRebalance.j5
      refine (ark.st u).at (f := encN) (n := a) rfl encNl rfl rfl hlt fun b2 o2 hb2 => ?_
      refine hb2.loadN rfl ?_
      have ak := (aks a hlx hlt).1
      refine u.r_alloc fun t10 h' u => ?_
      refine St.r_storeN0 u 0 (ys := encN acs[a]) rfl rfl (by simp) (OneN.all (ak.one)) ?_; intro h' u
      refine r_sub (z := ((w - 1 : Nat) : Int)) (by rw [i64w (by omega) (by omega)]; omega) ?_
      refine St.r_loadN0 u 0 rfl (by simp) ?_
      have fk := f4.2.2.2 _ (List.getElem_mem hlx)
      rw [show (2 * w - 1) / 2 = w - 1 by omega] at fk
      have kb := toD_bulk (m := 2 * w - 1) (by omega) fk (by omega)
      have ksz : (PT.mendAt (2 * w - 1) x j).2[a].items.length ≤ t.items.length := by
        rw [← hyi]; exact kid_items (List.getElem_mem hlx)
      refine s_Filled_ok (toD ((PT.mendAt (2 * w - 1) x j).2[a])) (d := w) (least := (w - 1 : Nat)) (ak.toD.fr u.fr) (by omega) (by omega) (by omega) rfl fun E5 h5 s5 => ?_
      rw [toD_fl (by omega) fk]
      refine r_not ?_
      refine r_if (fun e => absurd e (by decide)) (fun _ => ?_)
      unfold l_FnNRebalance.j6
      refine r_add1 (by omega) ?_
      exact HK (acs.length - (a + 1)) _ _ (by omega) ⟨a + 1, _, rfl, hlt, rfl, u.join s5⟩
    · have s := (s.join u).perm List.perm_append_comm
      have a4 := a4.fr u.fr
      unfold l_FnNRebalance.j3
      refine St.r_loadN0 s 0 rfl (by simp) ?_
      refine s_Levels_ok (toD (PT.mendAt (2 * w - 1) x j)) a4.toD (by omega) (by omega) rfl fun E5 h5 s5 => ?_
      rw [toD_lv f4]
      have s := (s.join s5).perm List.perm_append_comm
      have a4 := a4.fr s5.fr
      refine r_ext rfl ?_
      refine r_ext rfl ?_
      refine St.r_loadN0 s 2 rfl (by simp) ?_
      refine s_Levels_ok t (ha.fr s.fr) (by omega) (by omega) rfl fun E6 h6 s6 => ?_
      rw [hlv]
      have s := (s.join s6).perm List.perm_append_comm
      have a4 := a4.fr s6.fr
      refine r_ext rfl ?_
      refine r_ext rfl ?_
      refine St.r_loadN0 s 0 rfl (by simp) ?_
      refine St.r_loadN0 s 2 rfl (by simp) ?_
      have aX : ArgD h6 (toD x) vi vk := argT_toD (ux.arg _ _ _ (ha.fr s.fr))
      refine Rebalanced_ok (j := j) aX rfl hw2 (by omega) x2 (by omega) x4 x3 xfl (by omega) fun vi2 vk2 E7 h7 s7 a7 => ?_
      rw [hyi]
      have s := (s.join s7).perm List.perm_append_comm
      have a4 := a4.fr s7.fr
      refine ⟨St.r_stillN0 s 0 (j := 0) rfl (by simp) rfl, ?_⟩
      have key := SameNodes_ok (PT.mendAt (2 * w - 1) x j) (Q := fun t70 h => br t70 true (br (.bool true) true (cmpI (fun a b => a == b) (.int .i64 ((n + 1 + 1 : Nat) : Int)) (.int .i64 ((n + 2 : Nat) : Int)) fun t77 =>
        br t77 true (loadN 3 (ptr t8 0) h fun t80 => loadN 3 (ptr t4 0) h fun t82 => s_NodeItems.call #[t80] h fun t81 h =>
        stillN 3 (ptr t4 0) t82 h ∧ s_NodeItems.call #[t82] h fun t83 h => sl_Equal_implItemI.call #[t81, t83] h fun t84 h =>
        br t84 true (l_aliveN.call #[] h fun t87 h => Q t87 h) (Q (.bool false) h)) (Q (.bool false) h)) (Q (.bool false) h)) (Q (.bool false) h)) a4 a7 (by omega) fun E8 h8 s8 => by
          have s := (s.join s8).perm List.perm_append_comm
          have a4 := a4.fr s8.fr
          refine r_br (fun _ => ?_) (fun e => absurd e (by decide))
          refine r_br (fun _ => ?_) (fun e => absurd e (by decide))
          refine r_cmpI ?_
          refine r_br (fun _ => ?_) (fun e => by
            have e : (((n + 2 : Nat) : Int) == ((n + 2 : Nat) : Int)) = false := e
            rw [beq_self_eq_true] at e
            cases e)
          refine St.r_loadN0 s 0 rfl (by simp) ?_
          refine St.r_loadN0 s 2 rfl (by simp) ?_
          refine s_NodeItems_ok (toD (PT.mendAt (2 * w - 1) x j)) a4.toD (by omega) rfl fun v9 E9 h9 s9 r9 => ?_
          have s := (s.join s9).perm List.perm_append_comm
          refine ⟨St.r_stillN0 s 2 (j := 0) rfl (by simp) rfl, ?_⟩
          refine s_NodeItems_ok t (ha.fr s.fr) (by omega) rfl fun v10 E10 h10 s10 r10 => ?_
          have s := (s.join s10).perm List.perm_append_comm
          have r9 := r9.st s10
          rw [toD_items, i4, hxi] at r9
          refine EqualI_ok r9 r10 (by omega) ?_
          refine r_br (fun _ => ?_) (fun e => absurd e (by decide))
          exact live s
      rw [hyi] at key
      exact key
end Go.Proofs.Ytgnnidefbeoibaa.Gi
end
