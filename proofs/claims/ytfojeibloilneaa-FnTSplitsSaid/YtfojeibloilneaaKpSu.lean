/-
  What handing on the items from a pivot downward comes to.
  Conditions: nobody writes the map's nodes meanwhile; they ascend.
-/
import Derived.Test.YtfojeibloilneaaKoSu
import Derived.Test.YtfojeibloilneaaS8
namespace Go.Proofs.Ytfojeibloilneaa.Su
open Go.Hp Go.Proofs.Ytfojeibloilneaa
set_option linter.unusedVariables false
set_option linter.unusedSimpArgs false
variable {h0 h : Heap} {Z E : List Rg} {Q : Value → Heap → Prop}

theorem flt {x : It} {A B : List It} (hA : ∀ a ∈ A, lt x a = false) (hB : ∀ b ∈ B, lt x b = true) : (A ++ B).filter (fun y => !lt x y) = A := by
  rw [List.filter_append, List.filter_eq_self.2 (fun a ha => by rw [hA a ha]; rfl), List.filter_eq_nil_iff.2 (fun b hb => by rw [hB b hb]; simp), List.append_nil]
theorem allGt {x : It} {l : List It} (ha : Asc lt l) (hh : ∀ y, l.head? = some y → lt x y = true) : ∀ y ∈ l, lt x y = true := by
  cases l with
  | nil => intro y hy; cases hy
  | cons z l =>
    intro y hy
    have hz := hh z rfl
    rcases List.mem_cons.1 hy with e | hy
    · rw [e]; exact hz
    · exact swo.tr1 hz (swo.asym ((List.pairwise_cons.1 ha).1 y hy))

theorem nodeDescend_ok {cont : List It → Bool} {f tr : Value} {J : List It → Heap → Prop} {iso : Int} {m N : Nat} {x : It} (hm : m ≤ 1024) (hJ : ∀ p h, J p h → ∃ E, St h0 Z E h)
    (cb : ∀ (p : List It) (x : It) (h : Heap) (K : Value → Heap → Prop), p.length < N → J p h → (∀ h', J (p ++ [x]) h' → K (.bool (cont (p ++ [x]))) h') → callV Try.prog f #[kv x.1, vv x.2] h K) :
    ∀ {k : Nat} (t : GT It k) {lo : Nat} (g : Gd iso t) (fl : t.pt.Fl m lo) (ha : Asc lt t.pt.items) (hz : ∀ r ∈ t.all enc, r ∈ Z) (hzb : ∀ r ∈ t.all enc, r.2.2 ≠ [] → h0.size ≤ r.1) {pb po : Nat} (hp : ∀ E h, St h0 Z E h → cl h pb po = some (ptr t.id 0)) {p : List It} {h : Heap} {Q : Value → Heap → Prop}, p.length + t.pt.items.length ≤ N → J p h →
      (∀ h', J (feed cont p (t.pt.items.filter fun y => !lt x y).reverse).1 h' → Q (.bool (feed cont p (t.pt.items.filter fun y => !lt x y).reverse).2) h') → Map_su_nodeDescend.call #[tr, ptr pb po, kv x.1, f, .bool false] h Q
  | 0, (d : Nd It), lo, g, fl, ha, hz, hzb, pb, po, hp, p, h, Q, hN, hj, H => by
    obtain ⟨own, n, is', cnt, its, iv, ib, io, isp, kb, kv', krb, kro, ksp⟩ := d
    obtain ⟨z1, z2⟩ := allZ_leaf hz
    have hib : 0 < its.length → h0.size ≤ ib := fun hl => hzb (ib, io, its.flatMap enc ++ isp) (List.mem_cons_of_mem _ (List.mem_cons_self ..)) (fun e => by
      have e : its.flatMap enc ++ isp = [] := e
      have := congrArg List.length e
      rw [List.length_append, flat_len encl, List.length_nil] at this
      omega)
    have w : Own 1 iv its.length ib io (its.flatMap enc) isp := g.wf.1
    have hl : its.length ≤ m := fl.2
    have ha : Asc lt its := ha
    have hN : p.length + its.length ≤ N := hN
    have hp : ∀ E h, St h0 Z E h → cl h pb po = some (ptr n 0) := hp
    have H : ∀ h', J (feed cont p (its.filter fun y => !lt x y).reverse).1 h' → Q (.bool (feed cont p (its.filter fun y => !lt x y).reverse).2) h' := H
    have hpl := pos_le (lt := lt) its x
    refine Map_su_nodeDescend.body _ _ _ _ _ _ _ ?_
    unfold Map_su_nodeDescend.sh
    obtain ⟨E, s⟩ := hJ p h hj
    refine isoLoad_ro (hp E h s) ?_
    refine search_ok (x := x) ha (by omega) (s.clz z1 2 rfl rfl) (w.rdlZ s z2) ?_
    refine r_ext rfl ?_
    refine r_ext rfl ?_
    refine r_not ?_
    have main : ∀ (M : Nat) (q : List It) (h : Heap), M ≤ its.length → q.length + (its.take M).length ≤ N → J q h → (∀ h', J (feed cont q (its.take M).reverse).1 h' → Q (.bool (feed cont q (its.take M).reverse).2) h') → Map_su_nodeDescend.j1 tr f (.bool false) (ptr n 0) (.int .i64 ((M : Int) - 1)) h Q := by
      intro M q h hM hqN hj H
      unfold Map_su_nodeDescend.j1
      rw [show (M : Int) - 1 = (M : Int) - 1 - (0 : Nat) by omega]
      refine loop_up (n := M) (fun j => [.int .i64 ((M : Int) - 1 - (j : Nat))]) (fun j h => ∃ d, d ++ (its.take (M - j)).reverse = (its.take M).reverse ∧ (feed cont q d).2 = true ∧ J (feed cont q d).1 h) ⟨[], rfl, rfl, hj⟩ ?_
      rintro j h hjl ⟨d, hd, hf, hj⟩ K HK
      obtain ⟨E, s⟩ := hJ _ h hj
      unfold Map_su_nodeDescend.l3.b
      refine r_cmpI ?_
      refine r_if (fun hlt => ?_) (fun hge => ?_)
      · have hlt : j < M := by have : (0 : Int) ≤ (M : Int) - 1 - (j : Nat) := by simpa using hlt
                               omega
        obtain ⟨i, hi⟩ : ∃ i, i + 1 = M - j := ⟨M - j - 1, by omega⟩
        have hi2 : M - (j + 1) = i := by omega
        have hlt : i < its.length := by omega
        have ei : (M : Int) - 1 - (j : Nat) = ((i : Nat) : Int) := by omega
        have hx : its[i]? = some its[i] := List.getElem?_eq_getElem hlt
        rw [← hi] at hd
        have et : (its.take (i + 1)).reverse = its[i] :: (its.take i).reverse := by rw [List.take_succ_eq_append_getElem hlt]; simp
        rw [et] at hd
        have hdl := congrArg List.length hd
        simp only [List.length_append, List.length_reverse, List.length_cons] at hdl
        have hfl := feed_len (cont := cont) d q
        have hfl2 := feed_len (cont := cont) (d ++ [its[i]]) q
        rw [List.length_append, List.length_singleton] at hfl2
        have ef1 : feed cont q (d ++ [its[i]]) = ((feed cont q d).1 ++ [its[i]], cont ((feed cont q d).1 ++ [its[i]])) := by rw [feed_step hf, feed_one]
        rw [ei]
        unfold Map_su_nodeDescend.j4
        refine r_nil ?_
        refine r_fld ?_
        refine s.r_lz0 z1 (j := 2) rfl ?_
        refine w.idx (n := i) rfl hlt ?_
        refine r_fld ?_
        refine s.r_load1FZ encl (r := 0) z2 hx rfl ?_
        refine r_nil ?_
        refine r_fld ?_
        refine s.r_lz0 z1 (j := 2) rfl ?_
        refine w.idx (n := i) rfl hlt ?_
        have hpos : 0 < (its.flatMap enc ++ isp).length := by rw [List.length_append, flat_len encl]; omega
        refine r_fldZT zall s (hib (by omega)) z2 hpos ?_
        refine r_ld00 ?_
        refine cb _ its[i] h _ (by omega) hj fun h' hj' => ?_
        refine r_not ?_
        refine r_if (fun hb => ?_) (fun hb => ?_)
        · have hb : cont ((feed cont q d).1 ++ [its[i]]) = false := by simpa using hb
          have ea : feed cont q (its.take M).reverse = ((feed cont q d).1 ++ [its[i]], false) := by
            rw [← hd, show ∀ r : List It, d ++ its[i] :: r = (d ++ [its[i]]) ++ r from fun r => by simp, feed_stop (by rw [ef1]; exact hb), ef1]
          have := H h' (by rw [ea]; exact hj')
          rw [ea] at this; exact this
        · have hb : cont ((feed cont q d).1 ++ [its[i]]) = true := by simpa using hb
          rw [hb] at ef1
          have hf1 : (feed cont q (d ++ [its[i]])).2 = true := by rw [ef1]
          have hj1 : J (feed cont q (d ++ [its[i]])).1 h' := by rw [ef1]; exact hj'
          obtain ⟨E, s⟩ := hJ _ h' hj'
          unfold Map_su_nodeDescend.j6
          refine leaf_ok (a := none) (s.clz z1 3 rfl rfl) ?_
          refine r_not ?_
          refine r_if (fun e => absurd e (by simp)) (fun _ => ?_)
          unfold Map_su_nodeDescend.j5
          refine r_sub (z := (M : Int) - 1 - (j + 1 : Nat)) (by rw [i64w (by omega) (by omega)]; omega) ?_
          exact HK h' (by omega) ⟨d ++ [its[i]], by rw [hi2, ← hd]; simp, hf1, hj1⟩
      · have hge : j = M := by have : ¬ (0 : Int) ≤ (M : Int) - 1 - (j : Nat) := by simpa using hge
                               omega
        subst hge
        have e0 : d = (its.take j).reverse := by rw [← hd, Nat.sub_self]; simp [lz]
        subst e0
        unfold Map_su_nodeDescend.j2
        have := H h hj
        rw [hf] at this; exact this
    refine r_if (fun hnf => ?_) (fun hfd => ?_)
    · have hn : lget lt its x = none := by cases e : lget lt its x with
        | none => rfl
        | some y => rw [e] at hnf; simp at hnf
      have hfe : (its.filter fun y => !lt x y) = its.take (pos lt its x) := by
        have e0 : its = its.take (pos lt its x) ++ its.drop (pos lt its x) := (List.take_append_drop _ _).symm
        conv => lhs; rw [e0]
        exact flt (fun a h => swo.asym ((asc_pos (x := x) swo ha).1 a h)) (allGt (ha.sublist (List.drop_sublist ..)) (lget_none_head hn))
      rw [hfe] at H
      refine leaf_ok (a := none) (s.clz z1 3 rfl rfl) ?_
      refine r_not ?_
      refine r_if (fun e => absurd e (by simp)) (fun _ => ?_)
      unfold Map_su_nodeDescend.j7
      refine r_sub (z := ((pos lt its x : Nat) : Int) - 1) (by rw [i64w (by omega) (by omega)]) ?_
      exact main _ p h hpl (by rw [List.length_take]; omega) hj H
    · obtain ⟨y, hy⟩ : ∃ y, lget lt its x = some y := by
        cases e : lget lt its x with
        | some y => exact ⟨y, rfl⟩
        | none => rw [e] at hfd; simp at hfd
      obtain ⟨hpp, hyy, h3, h4⟩ := lget_some hy
      have hfe : (its.filter fun y => !lt x y) = its.take (pos lt its x + 1) := by
        have e0 : its = its.take (pos lt its x + 1) ++ its.drop (pos lt its x + 1) := (List.take_append_drop _ _).symm
        have ha2 := ha
        rw [e0] at ha2
        have et : its.take (pos lt its x + 1) = its.take (pos lt its x) ++ [y] := by rw [List.take_succ_eq_append_getElem hpp, hyy]
        conv => lhs; rw [e0]
        refine flt (fun a h => ?_) (fun b h => ?_)
        · rw [et] at h
          rcases List.mem_append.1 h with h | h
          · exact swo.asym ((asc_pos (x := x) swo ha).1 a h)
          · rw [List.mem_singleton.1 h]; exact h4
        · exact swo.tr2 h3 ((asc_app ha2).2.2 y (by rw [et]; simp) b h)
      rw [hfe] at H
      have := main (pos lt its x + 1) p h (by omega) (by rw [List.length_take]; omega) hj H
      rw [show ((pos lt its x + 1 : Nat) : Int) - 1 = ((pos lt its x : Nat) : Int) by omega] at this
      exact this
  | k + 1, t, lo, g, fl, ha, hz, hzb, pb, po, hp, p, h, Q, hN, hj, H => by
    obtain ⟨d, ts⟩ := t
    obtain ⟨own, n, is', cnt, its, iv, ib, io, isp, kb, kv', krb, kro, ksp⟩ := d
    obtain ⟨z1, z2, z3, z4, z5⟩ := allZ_inner hz
    have hib : 0 < its.length → h0.size ≤ ib := fun hl => hzb (ib, io, its.flatMap enc ++ isp) (List.mem_append.2 (.inl (List.mem_cons_of_mem _ (List.mem_cons_self ..)))) (fun e => by
      have e : its.flatMap enc ++ isp = [] := e
      have := congrArg List.length e
      rw [List.length_append, flat_len encl, List.length_nil] at this
      omega)
    have w : Own 1 iv its.length ib io (its.flatMap enc) isp := g.wf.1.1
    have wK : Own 1 kv' ts.length krb kro ((ts.map GT.id).map fun m => ptr m 0) ksp := g.wf.2.1
    have hkl : ts.length = its.length + 1 := g.wf.2.2.1
    have hl : its.length ≤ m := fl.2.1
    have hp : ∀ E h, St h0 Z E h → cl h pb po = some (ptr n 0) := hp
    have ha : Asc lt (PT.items (h := k + 1) (its, ts.map GT.pt)) := ha
    have hN : p.length + (PT.items (h := k + 1) (its, ts.map GT.pt)).length ≤ N := hN
    have H : ∀ h', J (feed cont p ((PT.items (h := k + 1) (its, ts.map GT.pt)).filter fun y => !lt x y).reverse).1 h' → Q (.bool (feed cont p ((PT.items (h := k + 1) (its, ts.map GT.pt)).filter fun y => !lt x y).reverse).2) h' := H
    have hpl := pos_le (lt := lt) its x
    have ha1 : Asc lt its := asc_of_sub ha (PT.its_sub1 ((its, ts.map GT.pt) : PT It (k + 1)))
    obtain ⟨c, hc⟩ : ∃ c, ts[pos lt its x]? = some c := ⟨ts[pos lt its x]'(by omega), List.getElem?_eq_getElem (by omega)⟩
    have hcm := List.mem_of_getElem? hc
    have hfc : PT.Fl m (m / 2) c.pt := fl.2.2.2 _ (List.mem_map.2 ⟨c, hcm, rfl⟩)
    have hcp : (ts.map GT.pt)[pos lt its x]? = some c.pt := by rw [List.getElem?_map, hc]; rfl
    obtain ⟨c0, hc0, _, eit⟩ := PT.around (t := ((its, ts.map GT.pt) : PT It (k + 1))) fl hpl
    have : c0 = c.pt := Option.some.inj (hc0.symm.trans hcp)
    subst this
    have eit : PT.items (h := k + 1) (its, ts.map GT.pt) = lz (its.take (pos lt its x)) (((ts.map GT.pt).take (pos lt its x)).map PT.items) ++ (c.pt.items ++ rz (its.drop (pos lt its x)) (((ts.map GT.pt).drop (pos lt its x + 1)).map PT.items)) := eit
    have hb : ∀ y ∈ lz (its.take (pos lt its x)) (((ts.map GT.pt).take (pos lt its x)).map PT.items), lt y x = true := by
      have ha2 := ha
      rw [eit] at ha2
      exact lz_before swo (by simp; omega) ha2 (fun y hy => (asc_pos (x := x) swo ha1).1 y hy)
    have hac : Asc lt c.pt.items := by rw [eit] at ha; exact (asc_app (asc_app ha).2.1).1
    generalize hB : rz (its.drop (pos lt its x)) (((ts.map GT.pt).drop (pos lt its x + 1)).map PT.items) = B at eit
    have hsl := congrArg List.length eit
    simp only [List.length_append] at hsl
    refine Map_su_nodeDescend.body _ _ _ _ _ _ _ ?_
    unfold Map_su_nodeDescend.sh
    obtain ⟨E, s⟩ := hJ p h hj
    refine isoLoad_ro (hp E h s) ?_
    refine search_ok (x := x) ha1 (by omega) (s.clz z1 2 rfl rfl) (w.rdlZ s z2) ?_
    refine r_ext rfl ?_
    refine r_ext rfl ?_
    refine r_not ?_
    have main : ∀ (M : Nat) (q : List It) (h : Heap), M ≤ its.length → q.length + (lz (its.take M) ((ts.take M).map fun t => t.pt.items)).length ≤ N → J q h → (∀ h', J (feed cont q (lz (its.take M) ((ts.take M).map fun t => t.pt.items)).reverse).1 h' → Q (.bool (feed cont q (lz (its.take M) ((ts.take M).map fun t => t.pt.items)).reverse).2) h') → Map_su_nodeDescend.j1 tr f (.bool false) (ptr n 0) (.int .i64 ((M : Int) - 1)) h Q := by
      intro M q h hM hqN hj H
      unfold Map_su_nodeDescend.j1
      rw [show (M : Int) - 1 = (M : Int) - 1 - (0 : Nat) by omega]
      refine loop_up (n := M) (fun j => [.int .i64 ((M : Int) - 1 - (j : Nat))]) (fun j h => ∃ d, d ++ (lz (its.take (M - j)) ((ts.take (M - j)).map fun t => t.pt.items)).reverse = (lz (its.take M) ((ts.take M).map fun t => t.pt.items)).reverse ∧ (feed cont q d).2 = true ∧ J (feed cont q d).1 h) ⟨[], rfl, rfl, hj⟩ ?_
      rintro j h hjl ⟨d, hd, hf, hj⟩ K HK
      obtain ⟨E, s⟩ := hJ _ h hj
      unfold Map_su_nodeDescend.l3.b
      refine r_cmpI ?_
      refine r_if (fun hlt => ?_) (fun hge => ?_)
      · have hlt : j < M := by have : (0 : Int) ≤ (M : Int) - 1 - (j : Nat) := by simpa using hlt
                               omega
        obtain ⟨i, hi⟩ : ∃ i, i + 1 = M - j := ⟨M - j - 1, by omega⟩
        have hi2 : M - (j + 1) = i := by omega
        have hlt : i < its.length := by omega
        have ei : (M : Int) - 1 - (j : Nat) = ((i : Nat) : Int) := by omega
        have hx : its[i]? = some its[i] := List.getElem?_eq_getElem hlt
        rw [← hi] at hd
        obtain ⟨c, hc⟩ : ∃ c, ts[i]? = some c := ⟨ts[i]'(by omega), List.getElem?_eq_getElem (by omega)⟩
        have hcm := List.mem_of_getElem? hc
        have hfc : PT.Fl m (m / 2) c.pt := fl.2.2.2 _ (List.mem_map.2 ⟨c, hcm, rfl⟩)
        have et : (lz (its.take (i + 1)) ((ts.take (i + 1)).map fun t => t.pt.items)).reverse = its[i] :: (c.pt.items.reverse ++ (lz (its.take i) ((ts.take i).map fun t => t.pt.items)).reverse) := by
          have e1 : its.take (i + 1) = its.take i ++ [its[i]] := List.take_succ_eq_append_getElem hlt
          have e2 : ts.take (i + 1) = ts.take i ++ [c] := by rw [List.take_add_one, hc]; rfl
          rw [e1, e2, List.map_append, List.map_cons, List.map_nil, lz_snoc _ _ _ _ (by simp; omega)]; simp
        rw [et] at hd
        have hdl := congrArg List.length hd
        simp only [List.length_append, List.length_reverse, List.length_cons] at hdl
        have hfl := feed_len (cont := cont) d q
        have hfl2 := feed_len (cont := cont) (d ++ [its[i]]) q
        rw [List.length_append, List.length_singleton] at hfl2
        have ef1 : feed cont q (d ++ [its[i]]) = ((feed cont q d).1 ++ [its[i]], cont ((feed cont q d).1 ++ [its[i]])) := by rw [feed_step hf, feed_one]
        rw [ei]
        unfold Map_su_nodeDescend.j4
        refine r_nil ?_
        refine r_fld ?_
        refine s.r_lz0 z1 (j := 2) rfl ?_
        refine w.idx (n := i) rfl hlt ?_
        refine r_fld ?_
        refine s.r_load1FZ encl (r := 0) z2 hx rfl ?_
        refine r_nil ?_
        refine r_fld ?_
        refine s.r_lz0 z1 (j := 2) rfl ?_
        refine w.idx (n := i) rfl hlt ?_
        have hpos : 0 < (its.flatMap enc ++ isp).length := by rw [List.length_append, flat_len encl]; omega
        refine r_fldZT zall s (hib (by omega)) z2 hpos ?_
        refine r_ld00 ?_
        refine cb _ its[i] h _ (by omega) hj fun h' hj' => ?_
        refine r_not ?_
        refine r_if (fun hb => ?_) (fun hb => ?_)
        · have hb : cont ((feed cont q d).1 ++ [its[i]]) = false := by simpa using hb
          have ea : feed cont q (lz (its.take M) ((ts.take M).map fun t => t.pt.items)).reverse = ((feed cont q d).1 ++ [its[i]], false) := by
            rw [← hd, show ∀ r : List It, d ++ its[i] :: r = (d ++ [its[i]]) ++ r from fun r => by simp, feed_stop (by rw [ef1]; exact hb), ef1]
          have := H h' (by rw [ea]; exact hj')
          rw [ea] at this; exact this
        · have hb : cont ((feed cont q d).1 ++ [its[i]]) = true := by simpa using hb
          rw [hb] at ef1
          have hf1 : (feed cont q (d ++ [its[i]])).2 = true := by rw [ef1]
          have hj1 : J (feed cont q (d ++ [its[i]])).1 h' := by rw [ef1]; exact hj'
          obtain ⟨E, s⟩ := hJ _ h' hj'
          unfold Map_su_nodeDescend.j6
          refine leaf_ok (a := some ⟨kb, 0, Option.none⟩) (s.clz z1 3 rfl rfl) ?_
          refine r_not ?_
          refine r_if (fun _ => ?_) (fun e => absurd e (by simp))
          refine r_nil ?_
          refine r_fld ?_
          refine s.r_lz0 z1 (j := 3) rfl ?_
          refine r_nil ?_
          refine s.r_lz0 z3 (j := 0) rfl ?_
          refine wK.idx (n := i) rfl (by omega) ?_
          have hcl : c.pt.items.reverse.length = c.pt.items.length := List.length_reverse
          refine nodeReverse_ok hm hJ cb c (g.kid hcm) hfc (z5 c hcm) (fun r hr => hzb r (List.mem_append.2 (.inr (List.mem_flatMap.2 ⟨c, hcm, hr⟩)))) (fun E h s => kidcell z4 hc s) (by omega) hj1 fun h2 hj2 => ?_
          have ef2 : feed cont q ((d ++ [its[i]]) ++ c.pt.items.reverse) = feed cont (feed cont q (d ++ [its[i]])).1 c.pt.items.reverse := feed_step hf1
          rw [← ef2] at hj2 ⊢
          have hd2 : ((d ++ [its[i]]) ++ c.pt.items.reverse) ++ (lz (its.take i) ((ts.take i).map fun t => t.pt.items)).reverse = (lz (its.take M) ((ts.take M).map fun t => t.pt.items)).reverse := by rw [← hd]; simp
          refine r_not ?_
          refine r_if (fun hr => ?_) (fun hr => ?_)
          · have hr : (feed cont q ((d ++ [its[i]]) ++ c.pt.items.reverse)).2 = false := by simpa using hr
            have ea : feed cont q (lz (its.take M) ((ts.take M).map fun t => t.pt.items)).reverse = ((feed cont q ((d ++ [its[i]]) ++ c.pt.items.reverse)).1, false) := by
              rw [← hd2, feed_stop hr]
            have := H h2 (by rw [ea]; exact hj2)
            rw [ea] at this; exact this
          · have hr : (feed cont q ((d ++ [its[i]]) ++ c.pt.items.reverse)).2 = true := by simpa using hr
            unfold Map_su_nodeDescend.j5
            refine r_sub (z := (M : Int) - 1 - (j + 1 : Nat)) (by rw [i64w (by omega) (by omega)]; omega) ?_
            exact HK h2 (by omega) ⟨_, by rw [hi2]; exact hd2, hr, hj2⟩
      · have hge : j = M := by have : ¬ (0 : Int) ≤ (M : Int) - 1 - (j : Nat) := by simpa using hge
                               omega
        subst hge
        have e0 : d = (lz (its.take j) ((ts.take j).map fun t => t.pt.items)).reverse := by rw [← hd, Nat.sub_self]; simp [lz]
        subst e0
        unfold Map_su_nodeDescend.j2
        have := H h hj
        rw [hf] at this; exact this
    have hB2 : Asc lt B := by rw [eit] at ha; exact (asc_app (asc_app ha).2.1).2.1
    have hpl2 : lz (its.take (pos lt its x)) (((ts.map GT.pt).take (pos lt its x)).map PT.items) = (lz (its.take (pos lt its x)) ((ts.take (pos lt its x)).map fun t => t.pt.items)) := by rw [← List.map_take, List.map_map]; rfl
    rw [hpl2] at eit hb hsl
    refine r_if (fun hnf => ?_) (fun hfd => ?_)
    · have hn : lget lt its x = none := by cases e : lget lt its x with
        | none => rfl
        | some y => rw [e] at hnf; simp at hnf
      have hhd : ∀ y, B.head? = some y → lt x y = true := by
        rw [← hB, rz_head (by simp; omega)]; exact lget_none_head hn
      have hfe : ((PT.items (h := k + 1) (its, ts.map GT.pt)).filter fun y => !lt x y).reverse = (c.pt.items.filter fun y => !lt x y).reverse ++ (lz (its.take (pos lt its x)) ((ts.take (pos lt its x)).map fun t => t.pt.items)).reverse := by
        rw [eit, List.filter_append, List.filter_append, List.filter_eq_self.2 (fun a h => by rw [swo.asym (hb a h)]; rfl), show (B.filter fun y => !lt x y) = [] from List.filter_eq_nil_iff.2 (fun b h => by rw [allGt hB2 hhd b h]; simp), List.append_nil, List.reverse_append]
      rw [hfe] at H
      refine leaf_ok (a := some ⟨kb, 0, Option.none⟩) (s.clz z1 3 rfl rfl) ?_
      refine r_not ?_
      refine r_if (fun _ => ?_) (fun e => absurd e (by simp))
      refine r_nil ?_
      refine r_fld ?_
      refine s.r_lz0 z1 (j := 3) rfl ?_
      refine r_nil ?_
      refine s.r_lz0 z3 (j := 0) rfl ?_
      refine wK.idx (n := pos lt its x) rfl (by omega) ?_
      refine nodeDescend_ok hm hJ cb c (g.kid hcm) hfc hac (z5 c hcm) (fun r hr => hzb r (List.mem_append.2 (.inr (List.mem_flatMap.2 ⟨c, hcm, hr⟩)))) (fun E h s => kidcell z4 hc s) (by omega) hj fun h' hj' => ?_
      have hfl := feed_len (cont := cont) (c.pt.items.filter fun y => !lt x y).reverse p
      have hfl2 := List.length_filter_le (fun y => !lt x y) c.pt.items
      rw [List.length_reverse] at hfl
      refine r_not ?_
      refine r_if (fun hr => ?_) (fun hr => ?_)
      · have hr : (feed cont p (c.pt.items.filter fun y => !lt x y).reverse).2 = false := by simpa using hr
        have ea := feed_stop (b := (lz (its.take (pos lt its x)) ((ts.take (pos lt its x)).map fun t => t.pt.items)).reverse) hr
        have := H h' (by rw [ea]; exact hj')
        rw [ea] at this; exact this
      · have hr : (feed cont p (c.pt.items.filter fun y => !lt x y).reverse).2 = true := by simpa using hr
        unfold Map_su_nodeDescend.j7
        refine r_sub (z := ((pos lt its x : Nat) : Int) - 1) (by rw [i64w (by omega) (by omega)]) ?_
        refine main _ _ h' hpl (by omega) hj' fun h2 hj2 => ?_
        have ea := feed_step (b := (lz (its.take (pos lt its x)) ((ts.take (pos lt its x)).map fun t => t.pt.items)).reverse) hr
        have := H h2 (by rw [ea]; exact hj2)
        rw [ea] at this; exact this
    · obtain ⟨y, hy⟩ : ∃ y, lget lt its x = some y := by
        cases e : lget lt its x with
        | some y => exact ⟨y, rfl⟩
        | none => rw [e] at hfd; simp at hfd
      obtain ⟨hpp, hyy, h3, h4⟩ := lget_some hy
      obtain ⟨rest, hrest⟩ : ∃ rest, B = y :: rest := by
        have e1 : its.drop (pos lt its x) = y :: its.drop (pos lt its x + 1) := by rw [← hyy]; exact List.drop_eq_getElem_cons hpp
        have e2 : (ts.map GT.pt).drop (pos lt its x + 1) = (ts.map GT.pt)[pos lt its x + 1]'(by simp; omega) :: (ts.map GT.pt).drop (pos lt its x + 1 + 1) := List.drop_eq_getElem_cons (by simp; omega)
        rw [← hB, e1, e2, List.map_cons, rz_cons]; exact ⟨_, rfl⟩
      rw [hrest] at eit hB2
      have hez : (lz (its.take (pos lt its x + 1)) ((ts.take (pos lt its x + 1)).map fun t => t.pt.items)) = (lz (its.take (pos lt its x)) ((ts.take (pos lt its x)).map fun t => t.pt.items)) ++ (c.pt.items ++ [y]) := by
        have e1 : its.take (pos lt its x + 1) = its.take (pos lt its x) ++ [y] := by rw [List.take_succ_eq_append_getElem hpp, hyy]
        have e2 : ts.take (pos lt its x + 1) = ts.take (pos lt its x) ++ [c] := by rw [List.take_add_one, hc]; rfl
        rw [e1, e2, List.map_append, List.map_cons, List.map_nil, lz_snoc _ _ _ _ (by simp; omega)]
      have hb2 : ∀ z ∈ (lz (its.take (pos lt its x)) ((ts.take (pos lt its x)).map fun t => t.pt.items)) ++ c.pt.items, lt z x = true := fun z hz => by
        have ha2 := ha
        rw [eit, ← List.append_assoc] at ha2
        exact swo.tr1 ((asc_app ha2).2.2 z hz y (by simp)) h4
      have hfe : ((PT.items (h := k + 1) (its, ts.map GT.pt)).filter fun y => !lt x y) = (lz (its.take (pos lt its x + 1)) ((ts.take (pos lt its x + 1)).map fun t => t.pt.items)) := by
        rw [eit, show ∀ r : List It, r ++ (c.pt.items ++ y :: rest) = (r ++ (c.pt.items ++ [y])) ++ rest from fun r => by simp, hez]
        refine flt (fun a h => ?_) (fun b h => swo.tr2 h3 ((List.pairwise_cons.1 hB2).1 b h))
        rw [← List.append_assoc] at h
        rcases List.mem_append.1 h with h | h
        · exact swo.asym (hb2 a h)
        · rw [List.mem_singleton.1 h]; exact h4
      rw [hfe] at H
      have hel := congrArg List.length hez
      simp only [List.length_append, List.length_singleton] at hel
      rw [hrest, List.length_cons] at hsl
      have := main (pos lt its x + 1) p h (by omega) (by omega) hj H
      rw [show ((pos lt its x + 1 : Nat) : Int) - 1 = ((pos lt its x : Nat) : Int) by omega] at this
      exact this
end Go.Proofs.Ytfojeibloilneaa.Su
