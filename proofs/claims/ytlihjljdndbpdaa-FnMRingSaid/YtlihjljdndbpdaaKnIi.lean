/-
  What handing on the items from a pivot on comes to.
  Conditions: nobody writes the map's nodes meanwhile; they ascend.
-/
import Derived.Test.YtlihjljdndbpdaaKhIi
import Derived.Test.YtlihjljdndbpdaaS24
namespace Go.Proofs.Ytlihjljdndbpdaa.Ii
open Go.Hp Go.Proofs.Ytlihjljdndbpdaa
set_option linter.unusedVariables false
set_option linter.unusedSimpArgs false
variable {h0 h : Heap} {Z E : List Rg} {Q : Value → Heap → Prop}

theorem nodeAscend_ok {cont : List It → Bool} {f tr : Value} {J : List It → Heap → Prop} {iso : Int} {m N : Nat} {x : It} (hm : m ≤ 1024) (hJ : ∀ p h, J p h → ∃ E, St h0 Z E h)
    (cb : ∀ (p : List It) (x : It) (h : Heap) (K : Value → Heap → Prop), p.length < N → J p h → (∀ h', J (p ++ [x]) h' → K (.bool (cont (p ++ [x]))) h') → callV Try.prog f #[kv x.1, vv x.2] h K) :
    ∀ {k : Nat} (t : GT It k) {lo : Nat} (g : Gd iso t) (fl : t.pt.Fl m lo) (ha : Asc lt t.pt.items) (hz : ∀ r ∈ t.all enc, r ∈ Z) (hzb : ∀ r ∈ t.all enc, r.2.2 ≠ [] → h0.size ≤ r.1) {pb po : Nat} (hp : ∀ E h, St h0 Z E h → cl h pb po = some (ptr t.id 0)) {p : List It} {h : Heap} {Q : Value → Heap → Prop}, p.length + t.pt.items.length ≤ N → J p h →
      (∀ h', J (feed cont p (t.pt.items.drop (pos lt t.pt.items x))).1 h' → Q (.bool (feed cont p (t.pt.items.drop (pos lt t.pt.items x))).2) h') → Map_ii_nodeAscend.call #[tr, ptr pb po, kv x.1, f, .bool false] h Q
  | 0, (d : Nd It), lo, g, fl, ha, hz, hzb, pb, po, hp, p, h, Q, hN, hj, H => by
    obtain ⟨own, n, is', cnt, its, iv, ib, io, isp, kb, kv', krb, kro, ksp⟩ := d
    obtain ⟨z1, z2⟩ := allZ_leaf hz
    have w : Own 2 iv its.length ib io (its.flatMap enc) isp := g.wf.1
    have hl : its.length ≤ m := fl.2
    have ha : Asc lt its := ha
    have hN : p.length + its.length ≤ N := hN
    have hp : ∀ E h, St h0 Z E h → cl h pb po = some (ptr n 0) := hp
    have H : ∀ h', J (feed cont p (its.drop (pos lt its x))).1 h' → Q (.bool (feed cont p (its.drop (pos lt its x))).2) h' := H
    have hpl := pos_le (lt := lt) its x
    refine Map_ii_nodeAscend.body _ _ _ _ _ _ _ ?_
    unfold Map_ii_nodeAscend.sh
    obtain ⟨E, s⟩ := hJ p h hj
    refine isoLoad_ro (hp E h s) ?_
    refine search_ok (x := x) ha (by omega) (s.clz z1 2 rfl rfl) (w.rdlZ s z2) ?_
    refine r_ext rfl ?_
    refine r_ext rfl ?_
    refine r_not ?_
    have main : Map_ii_nodeAscend.j1 tr f (.bool false) (ptr n 0) (.int .i64 (pos lt its x)) h Q := by
      unfold Map_ii_nodeAscend.j1
      refine loop_up (n := its.length - pos lt its x) (fun j => [.int .i64 ((pos lt its x + j : Nat) : Int)]) (fun j h => (feed cont p ((its.drop (pos lt its x)).take j)).2 = true ∧ J (feed cont p ((its.drop (pos lt its x)).take j)).1 h) ⟨rfl, hj⟩ ?_
      rintro j h hjl ⟨hf, hj⟩ K HK
      obtain ⟨E, s⟩ := hJ _ h hj
      unfold Map_ii_nodeAscend.l3.b
      refine r_nil ?_
      refine r_fld ?_
      refine s.r_lz0 z1 (j := 2) rfl ?_
      refine w.lenV ?_
      refine r_cmpI ?_
      refine r_if (fun hlt => ?_) (fun hge => ?_)
      · have hlt : pos lt its x + j < its.length := by have : ((pos lt its x + j : Nat) : Int) < its.length := by simpa using hlt
                                                       omega
        have hx : its[pos lt its x + j]? = some its[pos lt its x + j] := List.getElem?_eq_getElem hlt
        unfold Map_ii_nodeAscend.j4
        refine r_nil ?_
        refine r_fld ?_
        refine s.r_lz0 z1 (j := 2) rfl ?_
        refine w.idx (n := pos lt its x + j) rfl hlt ?_
        refine r_fld ?_
        refine s.r_load1FZ encl (r := 1) z2 hx rfl ?_
        refine r_nil ?_
        refine r_fld ?_
        refine s.r_lz0 z1 (j := 2) rfl ?_
        refine w.idx (n := pos lt its x + j) rfl hlt ?_
        refine r_fld ?_
        refine s.r_load1FZ encl (r := 0) z2 hx rfl ?_
        have hfl := feed_len (cont := cont) ((its.drop (pos lt its x)).take j) p
        rw [List.length_take, List.length_drop] at hfl
        have hd : j < (its.drop (pos lt its x)).length := by rw [List.length_drop]; omega
        have et : (its.drop (pos lt its x)).take (j + 1) = (its.drop (pos lt its x)).take j ++ [its[pos lt its x + j]] := by
          rw [List.take_succ_eq_append_getElem hd, List.getElem_drop]
        have ef : feed cont p ((its.drop (pos lt its x)).take (j + 1)) = ((feed cont p ((its.drop (pos lt its x)).take j)).1 ++ [its[pos lt its x + j]], cont ((feed cont p ((its.drop (pos lt its x)).take j)).1 ++ [its[pos lt its x + j]])) := by rw [et, feed_step hf, feed_one]
        refine cb _ its[pos lt its x + j] h _ (by omega) hj fun h' hj' => ?_
        refine r_not ?_
        refine r_if (fun hc => ?_) (fun hc => ?_)
        · have hc : cont ((feed cont p ((its.drop (pos lt its x)).take j)).1 ++ [its[pos lt its x + j]]) = false := by simpa using hc
          have ea : feed cont p (its.drop (pos lt its x)) = ((feed cont p ((its.drop (pos lt its x)).take j)).1 ++ [its[pos lt its x + j]], false) := by
            have e0 := feed_stop (cont := cont) (p := p) (a := (its.drop (pos lt its x)).take (j + 1)) (b := (its.drop (pos lt its x)).drop (j + 1)) (by rw [ef]; exact hc)
            rw [List.take_append_drop, ef] at e0
            exact e0
          have := H h' (by rw [ea]; exact hj')
          rw [ea] at this; exact this
        · have hc : cont ((feed cont p ((its.drop (pos lt its x)).take j)).1 ++ [its[pos lt its x + j]]) = true := by simpa using hc
          unfold Map_ii_nodeAscend.j6
          obtain ⟨E2, s2⟩ := hJ _ h' hj'
          refine leaf_ok (a := none) (s2.clz z1 3 rfl rfl) ?_
          refine r_not ?_
          refine r_if (fun e => absurd e (by simp)) (fun _ => ?_)
          unfold Map_ii_nodeAscend.j5
          refine r_add (z := ((pos lt its x + (j + 1) : Nat) : Int)) (by rw [i64w (by omega) (by omega)]; omega) ?_
          exact HK h' (by omega) ⟨by rw [ef]; exact hc, by rw [ef]; exact hj'⟩
      · have hge : its.length ≤ pos lt its x + j := by have : ¬ ((pos lt its x + j : Nat) : Int) < its.length := by simpa using hge
                                                       omega
        rw [List.take_of_length_le (by rw [List.length_drop]; omega)] at hf hj
        unfold Map_ii_nodeAscend.j2
        have := H h hj
        rw [hf] at this; exact this
    refine r_if (fun _ => ?_) (fun _ => main)
    refine leaf_ok (a := none) (s.clz z1 3 rfl rfl) ?_
    refine r_not ?_
    refine r_if (fun e => absurd e (by simp)) (fun _ => main)
  | k + 1, t, lo, g, fl, ha, hz, hzb, pb, po, hp, p, h, Q, hN, hj, H => by
    obtain ⟨d, ts⟩ := t
    obtain ⟨own, n, is', cnt, its, iv, ib, io, isp, kb, kv', krb, kro, ksp⟩ := d
    obtain ⟨z1, z2, z3, z4, z5⟩ := allZ_inner hz
    have w : Own 2 iv its.length ib io (its.flatMap enc) isp := g.wf.1.1
    have wK : Own 1 kv' ts.length krb kro ((ts.map GT.id).map fun m => ptr m 0) ksp := g.wf.2.1
    have hkl : ts.length = its.length + 1 := g.wf.2.2.1
    have hl : its.length ≤ m := fl.2.1
    have hp : ∀ E h, St h0 Z E h → cl h pb po = some (ptr n 0) := hp
    have ha : Asc lt (PT.items (h := k + 1) (its, ts.map GT.pt)) := ha
    have hN : p.length + (PT.items (h := k + 1) (its, ts.map GT.pt)).length ≤ N := hN
    have H : ∀ h', J (feed cont p ((PT.items (h := k + 1) (its, ts.map GT.pt)).drop (pos lt (PT.items (h := k + 1) (its, ts.map GT.pt)) x))).1 h' → Q (.bool (feed cont p ((PT.items (h := k + 1) (its, ts.map GT.pt)).drop (pos lt (PT.items (h := k + 1) (its, ts.map GT.pt)) x))).2) h' := H
    have hpl := pos_le (lt := lt) its x
    have ha1 : Asc lt its := asc_of_sub ha (PT.its_sub1 ((its, ts.map GT.pt) : PT It (k + 1)))
    obtain ⟨c, hc⟩ : ∃ c, ts[pos lt its x]? = some c := ⟨ts[pos lt its x]'(by omega), List.getElem?_eq_getElem (by omega)⟩
    have hcm := List.mem_of_getElem? hc
    have hfc : PT.Fl m (m / 2) c.pt := fl.2.2.2 _ (List.mem_map.2 ⟨c, hcm, rfl⟩)
    have hcp : (ts.map GT.pt)[pos lt its x]? = some c.pt := by rw [List.getElem?_map, hc]; rfl
    obtain ⟨c0, hc0, _, eit⟩ := PT.around (t := ((its, ts.map GT.pt) : PT It (k + 1))) fl hpl
    have : c0 = c.pt := Option.some.inj (hc0.symm.trans hcp)
    subst this
    have eit : PT.items (h := k + 1) (its, ts.map GT.pt) = lz (its.take (pos lt its x)) (((ts.map GT.pt).take (pos lt its x)).map PT.items) ++ (c.pt.items ++ rz (its.drop (pos lt its x)) (((ts.map GT.pt).drop (pos lt its x + 1)).map PT.items)) := eit
    have hb : ∀ y ∈ lz (its.take (pos lt its x)) (((ts.map GT.pt).take (pos lt its x)).map PT.items), lt y x = true := by
      have ha2 := ha
      rw [eit] at ha2
      exact lz_before swo (by simp; omega) ha2 (fun y hy => (asc_pos (x := x) swo ha1).1 y hy)
    have hac : Asc lt c.pt.items := by rw [eit] at ha; exact (asc_app (asc_app ha).2.1).1
    generalize hB : rz (its.drop (pos lt its x)) (((ts.map GT.pt).drop (pos lt its x + 1)).map PT.items) = B at eit
    have hsl := congrArg List.length eit
    simp only [List.length_append] at hsl
    refine Map_ii_nodeAscend.body _ _ _ _ _ _ _ ?_
    unfold Map_ii_nodeAscend.sh
    obtain ⟨E, s⟩ := hJ p h hj
    refine isoLoad_ro (hp E h s) ?_
    refine search_ok (x := x) ha1 (by omega) (s.clz z1 2 rfl rfl) (w.rdlZ s z2) ?_
    refine r_ext rfl ?_
    refine r_ext rfl ?_
    refine r_not ?_
    -- from the node's own item on
    have main : ∀ (q : List It) (h : Heap), q.length + B.length ≤ N → J q h → (∀ h', J (feed cont q B).1 h' → Q (.bool (feed cont q B).2) h') → Map_ii_nodeAscend.j1 tr f (.bool false) (ptr n 0) (.int .i64 (pos lt its x)) h Q := by
      intro q h hqN hj H
      have hkk : ∀ j, pos lt its x + 1 + j < ts.length → (((ts.map GT.pt).drop (pos lt its x + 1)).map PT.items)[j]? = (ts[pos lt its x + 1 + j]?).map fun t => t.pt.items := fun j hj => by
        rw [List.getElem?_map, List.getElem?_drop, List.getElem?_map, Option.map_map]; rfl
      unfold Map_ii_nodeAscend.j1
      refine loop_up (n := its.length - pos lt its x) (fun j => [.int .i64 ((pos lt its x + j : Nat) : Int)]) (fun j h => (feed cont q (rz ((its.drop (pos lt its x)).take j) ((((ts.map GT.pt).drop (pos lt its x + 1)).map PT.items).take j))).2 = true ∧ J (feed cont q (rz ((its.drop (pos lt its x)).take j) ((((ts.map GT.pt).drop (pos lt its x + 1)).map PT.items).take j))).1 h) ⟨rfl, hj⟩ ?_
      rintro j h hjl ⟨hf, hj⟩ K HK
      obtain ⟨E, s⟩ := hJ _ h hj
      have eB := rz_drop (b := its.drop (pos lt its x)) (kb := ((ts.map GT.pt).drop (pos lt its x + 1)).map PT.items) j
      rw [hB] at eB
      generalize hA : rz ((its.drop (pos lt its x)).take j) ((((ts.map GT.pt).drop (pos lt its x + 1)).map PT.items).take j) = A at hf hj eB
      unfold Map_ii_nodeAscend.l3.b
      refine r_nil ?_
      refine r_fld ?_
      refine s.r_lz0 z1 (j := 2) rfl ?_
      refine w.lenV ?_
      refine r_cmpI ?_
      refine r_if (fun hlt => ?_) (fun hge => ?_)
      · have hlt : pos lt its x + j < its.length := by have : ((pos lt its x + j : Nat) : Int) < its.length := by simpa using hlt
                                                       omega
        have hx : its[pos lt its x + j]? = some its[pos lt its x + j] := List.getElem?_eq_getElem hlt
        obtain ⟨c2, hc2⟩ : ∃ c2, ts[pos lt its x + j + 1]? = some c2 := ⟨ts[pos lt its x + j + 1]'(by omega), List.getElem?_eq_getElem (by omega)⟩
        have hcm2 := List.mem_of_getElem? hc2
        have hfc2 : PT.Fl m (m / 2) c2.pt := fl.2.2.2 _ (List.mem_map.2 ⟨c2, hcm2, rfl⟩)
        have l1 : j < (its.drop (pos lt its x)).length := by rw [List.length_drop]; omega
        have l2 : j < (((ts.map GT.pt).drop (pos lt its x + 1)).map PT.items).length := by rw [List.length_map, List.length_drop, List.length_map]; omega
        have g1 : (its.drop (pos lt its x))[j] = its[pos lt its x + j] := List.getElem_drop ..
        have g2 : (((ts.map GT.pt).drop (pos lt its x + 1)).map PT.items)[j] = c2.pt.items := by
          have := hkk j (by omega)
          rw [List.getElem?_eq_getElem l2, show pos lt its x + 1 + j = pos lt its x + j + 1 by omega, hc2] at this
          exact Option.some.inj this
        have et := rz_take l1 l2
        rw [hA, g1, g2] at et
        have eB2 := rz_drop (b := its.drop (pos lt its x)) (kb := ((ts.map GT.pt).drop (pos lt its x + 1)).map PT.items) (j + 1)
        rw [hB, et] at eB2
        have hbl := congrArg List.length eB2
        simp only [List.length_append, List.length_cons] at hbl
        have hfl := feed_len (cont := cont) A q
        have hfl2 := feed_len (cont := cont) (A ++ [its[pos lt its x + j]]) q
        rw [List.length_append, List.length_singleton] at hfl2
        unfold Map_ii_nodeAscend.j4
        refine r_nil ?_
        refine r_fld ?_
        refine s.r_lz0 z1 (j := 2) rfl ?_
        refine w.idx (n := pos lt its x + j) rfl hlt ?_
        refine r_fld ?_
        refine s.r_load1FZ encl (r := 1) z2 hx rfl ?_
        refine r_nil ?_
        refine r_fld ?_
        refine s.r_lz0 z1 (j := 2) rfl ?_
        refine w.idx (n := pos lt its x + j) rfl hlt ?_
        refine r_fld ?_
        refine s.r_load1FZ encl (r := 0) z2 hx rfl ?_
        have ef1 : feed cont q (A ++ [its[pos lt its x + j]]) = ((feed cont q A).1 ++ [its[pos lt its x + j]], cont ((feed cont q A).1 ++ [its[pos lt its x + j]])) := by rw [feed_step hf, feed_one]
        refine cb _ its[pos lt its x + j] h _ (by omega) hj fun h' hj' => ?_
        refine r_not ?_
        refine r_if (fun hc => ?_) (fun hc => ?_)
        · have hc : cont ((feed cont q A).1 ++ [its[pos lt its x + j]]) = false := by simpa using hc
          have ea : feed cont q B = ((feed cont q A).1 ++ [its[pos lt its x + j]], false) := by
            have e0 := feed_stop (cont := cont) (p := q) (a := A ++ [its[pos lt its x + j]]) (b := c2.pt.items ++ rz ((its.drop (pos lt its x)).drop (j + 1)) ((((ts.map GT.pt).drop (pos lt its x + 1)).map PT.items).drop (j + 1))) (by rw [ef1]; exact hc)
            rw [ef1] at e0
            rw [eB2, ← e0]; simp
          have := H h' (by rw [ea]; exact hj')
          rw [ea] at this; exact this
        · have hc : cont ((feed cont q A).1 ++ [its[pos lt its x + j]]) = true := by simpa using hc
          rw [hc] at ef1
          have hf1 : (feed cont q (A ++ [its[pos lt its x + j]])).2 = true := by rw [ef1]
          have hj1 : J (feed cont q (A ++ [its[pos lt its x + j]])).1 h' := by rw [ef1]; exact hj'
          unfold Map_ii_nodeAscend.j6
          obtain ⟨E2, s⟩ := hJ _ h' hj'
          refine leaf_ok (a := some ⟨kb, 0, Option.none⟩) (s.clz z1 3 rfl rfl) ?_
          refine r_not ?_
          refine r_if (fun _ => ?_) (fun e => absurd e (by simp))
          refine r_nil ?_
          refine r_fld ?_
          refine s.r_lz0 z1 (j := 3) rfl ?_
          refine r_nil ?_
          refine s.r_lz0 z3 (j := 0) rfl ?_
          refine r_add (z := ((pos lt its x + j + 1 : Nat) : Int)) (by rw [i64w (by omega) (by omega)]; omega) ?_
          refine wK.idx (n := pos lt its x + j + 1) rfl (by omega) ?_
          have ef2 : feed cont q (A ++ (its[pos lt its x + j] :: c2.pt.items)) = feed cont (feed cont q (A ++ [its[pos lt its x + j]])).1 c2.pt.items := by
            rw [← feed_step hf1]; simp
          refine nodeScan_ok hm hJ cb c2 (g.kid hcm2) hfc2 (z5 c2 hcm2) (fun r hr => hzb r (List.mem_append.2 (.inr (List.mem_flatMap.2 ⟨c2, hcm2, hr⟩)))) (fun E h s => kidcell z4 hc2 s) (by omega) hj1 fun h2 hj2 => ?_
          refine r_not ?_
          refine r_if (fun hr => ?_) (fun hr => ?_)
          · have hr : (feed cont (feed cont q (A ++ [its[pos lt its x + j]])).1 c2.pt.items).2 = false := by simpa using hr
            have ea : feed cont q B = ((feed cont (feed cont q (A ++ [its[pos lt its x + j]])).1 c2.pt.items).1, false) := by
              rw [eB2, feed_stop (by rw [ef2]; exact hr), ef2]
            have := H h2 (by rw [ea]; exact hj2)
            rw [ea] at this; exact this
          · have hr : (feed cont (feed cont q (A ++ [its[pos lt its x + j]])).1 c2.pt.items).2 = true := by simpa using hr
            unfold Map_ii_nodeAscend.j5
            refine r_add (z := ((pos lt its x + (j + 1) : Nat) : Int)) (by rw [i64w (by omega) (by omega)]; omega) ?_
            refine HK h2 (by omega) ⟨?_, ?_⟩
            · rw [et, ef2]; exact hr
            · rw [et, ef2]; exact hj2
      · have hge : its.length ≤ pos lt its x + j := by have : ¬ ((pos lt its x + j : Nat) : Int) < its.length := by simpa using hge
                                                       omega
        have e0 : (its.drop (pos lt its x)).drop j = [] := List.drop_of_length_le (by rw [List.length_drop]; omega)
        rw [e0] at eB
        have eB : B = A := by rw [eB]; simp [rz]
        unfold Map_ii_nodeAscend.j2
        have := H h (by rw [eB]; exact hj)
        rw [eB, hf] at this; exact this
    refine r_if (fun hnf => ?_) (fun hfd => ?_)
    · have hn : lget lt its x = none := by cases e : lget lt its x with
        | none => rfl
        | some y => rw [e] at hnf; simp at hnf
      have hhd : ∀ y, B.head? = some y → lt x y = true := by
        rw [← hB, rz_head (by simp; omega)]; exact lget_none_head hn
      have hpi : pos lt (PT.items (h := k + 1) (its, ts.map GT.pt)) x = (lz (its.take (pos lt its x)) (((ts.map GT.pt).take (pos lt its x)).map PT.items)).length + pos lt c.pt.items x := by
        rw [eit, pos_app hb, pos_app2 (fun y hy => swo.asym (hhd y hy))]
      have hdi : (PT.items (h := k + 1) (its, ts.map GT.pt)).drop (pos lt (PT.items (h := k + 1) (its, ts.map GT.pt)) x) = c.pt.items.drop (pos lt c.pt.items x) ++ B := by
        rw [hpi]
        conv => lhs; rw [eit]
        rw [List.drop_length_add_append, List.drop_append_of_le_length (pos_le _ _)]
      rw [hdi] at H
      refine leaf_ok (a := some ⟨kb, 0, Option.none⟩) (s.clz z1 3 rfl rfl) ?_
      refine r_not ?_
      refine r_if (fun _ => ?_) (fun e => absurd e (by simp))
      refine r_nil ?_
      refine r_fld ?_
      refine s.r_lz0 z1 (j := 3) rfl ?_
      refine r_nil ?_
      refine s.r_lz0 z3 (j := 0) rfl ?_
      refine wK.idx (n := pos lt its x) rfl (by omega) ?_
      refine nodeAscend_ok hm hJ cb c (g.kid hcm) hfc hac (z5 c hcm) (fun r hr => hzb r (List.mem_append.2 (.inr (List.mem_flatMap.2 ⟨c, hcm, hr⟩)))) (fun E h s => kidcell z4 hc s) (by omega) hj fun h' hj' => ?_
      have hfl := feed_len (cont := cont) (c.pt.items.drop (pos lt c.pt.items x)) p
      rw [List.length_drop] at hfl
      refine r_not ?_
      refine r_if (fun hr => ?_) (fun hr => ?_)
      · have hr : (feed cont p (c.pt.items.drop (pos lt c.pt.items x))).2 = false := by simpa using hr
        have ea := feed_stop (b := B) hr
        have := H h' (by rw [ea]; exact hj')
        rw [ea] at this; exact this
      · have hr : (feed cont p (c.pt.items.drop (pos lt c.pt.items x))).2 = true := by simpa using hr
        refine main _ h' (by omega) hj' fun h2 hj2 => ?_
        have ea := feed_step (b := B) hr
        have := H h2 (by rw [ea]; exact hj2)
        rw [ea] at this; exact this
    · obtain ⟨y, hy⟩ : ∃ y, lget lt its x = some y := by
        cases e : lget lt its x with
        | some y => exact ⟨y, rfl⟩
        | none => rw [e] at hfd; simp at hfd
      obtain ⟨hpp, hyy, h3, h4⟩ := lget_some hy
      obtain ⟨rest, hrest⟩ : ∃ rest, B = y :: rest := by
        have e1 : its.drop (pos lt its x) = y :: its.drop (pos lt its x + 1) := by rw [← hyy]; exact List.drop_eq_getElem_cons hpp
        have e2 : (ts.map GT.pt).drop (pos lt its x + 1) = (ts.map GT.pt)[pos lt its x + 1]'(by simp; omega) :: (ts.map GT.pt).drop (pos lt its x + 1 + 1) := List.drop_eq_getElem_cons (by simp; omega)
        rw [← hB, e1, e2, List.map_cons, rz_cons]; exact ⟨_, rfl⟩
      have hb2 : ∀ z ∈ lz (its.take (pos lt its x)) (((ts.map GT.pt).take (pos lt its x)).map PT.items) ++ c.pt.items, lt z x = true := fun z hz => by
        have ha2 := ha
        rw [eit, hrest, ← List.append_assoc] at ha2
        exact swo.tr1 ((asc_app ha2).2.2 z hz y (by simp)) h4
      have hpi : pos lt (PT.items (h := k + 1) (its, ts.map GT.pt)) x = (lz (its.take (pos lt its x)) (((ts.map GT.pt).take (pos lt its x)).map PT.items) ++ c.pt.items).length := by
        have p0 : pos lt (y :: rest) x = 0 := pos_zero (s := y :: rest) (fun z hz => by simp at hz; subst hz; exact h3)
        rw [eit, ← List.append_assoc, pos_app hb2, hrest, p0, Nat.add_zero]
      have hdi : (PT.items (h := k + 1) (its, ts.map GT.pt)).drop (pos lt (PT.items (h := k + 1) (its, ts.map GT.pt)) x) = B := by
        rw [hpi]
        conv => lhs; rw [eit, ← List.append_assoc]
        exact List.drop_left ..
      rw [hdi] at H
      exact main p h (by omega) hj H
end Go.Proofs.Ytlihjljdndbpdaa.Ii
