/-
  What handing on all items of a map, the last first, comes to.
  Conditions: nobody writes the map's nodes meanwhile.
-/
import Derived.Test.YtfojeibloilneaaKhSu
import Derived.Test.YtfojeibloilneaaS8
namespace Go.Proofs.Ytfojeibloilneaa.Su
open Go.Hp Go.Proofs.Ytfojeibloilneaa
set_option linter.unusedVariables false
set_option linter.unusedSimpArgs false
variable {h0 h : Heap} {Z E : List Rg} {Q : Value → Heap → Prop}

theorem nodeReverse_ok {cont : List It → Bool} {f tr : Value} {J : List It → Heap → Prop} {iso : Int} {m N : Nat} (hm : m ≤ 1024) (hJ : ∀ p h, J p h → ∃ E, St h0 Z E h)
    (cb : ∀ (p : List It) (x : It) (h : Heap) (K : Value → Heap → Prop), p.length < N → J p h → (∀ h', J (p ++ [x]) h' → K (.bool (cont (p ++ [x]))) h') → callV Try.prog f #[kv x.1, vv x.2] h K) :
    ∀ {k : Nat} (t : GT It k) {lo : Nat} (g : Gd iso t) (fl : t.pt.Fl m lo) (hz : ∀ r ∈ t.all enc, r ∈ Z) (hzb : ∀ r ∈ t.all enc, r.2.2 ≠ [] → h0.size ≤ r.1) {pb po : Nat} (hp : ∀ E h, St h0 Z E h → cl h pb po = some (ptr t.id 0)) {p : List It} {h : Heap} {Q : Value → Heap → Prop}, p.length + t.pt.items.length ≤ N → J p h →
      (∀ h', J (feed cont p t.pt.items.reverse).1 h' → Q (.bool (feed cont p t.pt.items.reverse).2) h') → Map_su_nodeReverse.call #[tr, ptr pb po, f, .bool false] h Q
  | 0, (d : Nd It), lo, g, fl, hz, hzb, pb, po, hp, p, h, Q, hN, hj, H => by
    obtain ⟨own, n, is', cnt, its, iv, ib, io, isp, kb, kv', krb, kro, ksp⟩ := d
    obtain ⟨z1, z2⟩ := allZ_leaf hz
    have hib : 0 < its.length → h0.size ≤ ib := fun hl => hzb (ib, io, its.flatMap enc ++ isp) (List.mem_cons_of_mem _ (List.mem_cons_self ..)) (fun e => by
      have e : its.flatMap enc ++ isp = [] := e
      have := congrArg List.length e
      rw [List.length_append, flat_len encl, List.length_nil] at this
      omega)
    have w : Own 1 iv its.length ib io (its.flatMap enc) isp := g.wf.1
    have hl : its.length ≤ m := fl.2
    have hp : ∀ E h, St h0 Z E h → cl h pb po = some (ptr n 0) := hp
    have hN : p.length + its.length ≤ N := hN
    have H : ∀ h', J (feed cont p its.reverse).1 h' → Q (.bool (feed cont p its.reverse).2) h' := H
    refine Map_su_nodeReverse.body _ _ _ _ _ _ ?_
    unfold Map_su_nodeReverse.sh
    obtain ⟨E, s⟩ := hJ p h hj
    refine isoLoad_ro (hp E h s) ?_
    refine leaf_ok (a := none) (s.clz z1 3 rfl rfl) ?_
    refine r_if (fun _ => ?_) (fun e => absurd e (by simp))
    refine r_nil ?_
    refine r_fld ?_
    refine s.r_lz0 z1 (j := 2) rfl ?_
    refine w.lenV ?_
    refine r_sub (z := (its.length : Int) - 1 - (0 : Nat)) (by rw [i64w (by omega) (by omega)]; omega) ?_
    refine loop_up (n := its.length) (fun j => [.int .i64 ((its.length : Int) - 1 - (j : Nat))]) (fun j h => (feed cont p (its.drop (its.length - j)).reverse).2 = true ∧ J (feed cont p (its.drop (its.length - j)).reverse).1 h) ⟨by rw [Nat.sub_zero, List.drop_length]; rfl, by rw [Nat.sub_zero, List.drop_length]; exact hj⟩ ?_
    rintro j h hjl ⟨hf, hj⟩ K HK
    obtain ⟨E, s⟩ := hJ _ h hj
    unfold Map_su_nodeReverse.l9.b
    refine r_cmpI ?_
    refine r_if (fun hlt => ?_) (fun hge => ?_)
    · have hlt : j < its.length := by have : (0 : Int) ≤ (its.length : Int) - 1 - (j : Nat) := by simpa using hlt
                                      omega
      obtain ⟨i, hi⟩ : ∃ i, i + 1 = its.length - j := ⟨its.length - j - 1, by omega⟩
      have hi2 : its.length - (j + 1) = i := by omega
      have hlt : i < its.length := by omega
      have ei : (its.length : Int) - 1 - (j : Nat) = ((i : Nat) : Int) := by omega
      have hx : its[i]? = some its[i] := List.getElem?_eq_getElem hlt
      rw [← hi] at hf hj
      have et : (its.drop i).reverse = (its.drop (i + 1)).reverse ++ [its[i]] := by rw [List.drop_eq_getElem_cons hlt, List.reverse_cons]
      rw [ei]
      unfold Map_su_nodeReverse.j10
      refine r_nil ?_
      refine r_fld ?_
      refine s.r_lz0 z1 (j := 2) rfl ?_
      refine w.idx (n := i) rfl hlt ?_
      refine r_fld ?_
      refine s.r_load1FZ encl (r := 0) z2 hx rfl ?_
      refine r_nil ?_
      refine r_fld ?_
      refine s.r_lz0 z1 (j := 2) rfl ?_
      refine w.idx (n := i) rfl hlt ?_
      have hpos : 0 < (its.flatMap enc ++ isp).length := by rw [List.length_append, flat_len encl]; omega
      refine r_fldZT zall s (hib (by omega)) z2 hpos ?_
      refine r_ld00 ?_
      have hfl := feed_len (cont := cont) (its.drop (i + 1)).reverse p
      rw [List.length_reverse, List.length_drop] at hfl
      refine cb _ its[i] h _ (by omega) hj fun h' hj' => ?_
      refine r_not ?_
      have ef : feed cont p (its.drop i).reverse = ((feed cont p (its.drop (i + 1)).reverse).1 ++ [its[i]], cont ((feed cont p (its.drop (i + 1)).reverse).1 ++ [its[i]])) := by rw [et, feed_step hf, feed_one]
      refine r_if (fun hc => ?_) (fun hc => ?_)
      · have hc : cont ((feed cont p (its.drop (i + 1)).reverse).1 ++ [its[i]]) = false := by simpa using hc
        have ea : feed cont p its.reverse = ((feed cont p (its.drop (i + 1)).reverse).1 ++ [its[i]], false) := by
          have e0 := feed_stop (cont := cont) (p := p) (a := (its.drop i).reverse) (b := (its.take i).reverse) (by rw [ef]; exact hc)
          rw [← List.reverse_append, List.take_append_drop, ef] at e0
          exact e0
        have := H h' (by rw [ea]; exact hj')
        rw [ea] at this; exact this
      · have hc : cont ((feed cont p (its.drop (i + 1)).reverse).1 ++ [its[i]]) = true := by simpa using hc
        unfold Map_su_nodeReverse.j11
        refine r_sub (z := (its.length : Int) - 1 - (j + 1 : Nat)) (by rw [i64w (by omega) (by omega)]; omega) ?_
        exact HK h' (by omega) ⟨by rw [hi2, ef]; exact hc, by rw [hi2, ef]; exact hj'⟩
    · have hge : j = its.length := by have : ¬ (0 : Int) ≤ (its.length : Int) - 1 - (j : Nat) := by simpa using hge
                                      omega
      subst hge
      rw [Nat.sub_self, List.drop_zero] at hf hj
      unfold Map_su_nodeReverse.j8
      have := H h hj
      rw [hf] at this; exact this
  | k + 1, t, lo, g, fl, hz, hzb, pb, po, hp, p, h, Q, hN, hj, H => by
    obtain ⟨d, ts⟩ := t
    obtain ⟨own, n, is', cnt, its, iv, ib, io, isp, kb, kv', krb, kro, ksp⟩ := d
    obtain ⟨z1, z2, z3, z4, z5⟩ := allZ_inner hz
    have hib : 0 < its.length → h0.size ≤ ib := fun hl => hzb (ib, io, its.flatMap enc ++ isp) (List.mem_append.2 (.inl (List.mem_cons_of_mem _ (List.mem_cons_self ..)))) (fun e => by
      have e : its.flatMap enc ++ isp = [] := e
      have := congrArg List.length e
      rw [List.length_append, flat_len encl, List.length_nil] at this
      omega)
    have w : Own 1 iv its.length ib io (its.flatMap enc) isp := g.wf.1.1
    have wK : Own 1 kv' ts.length krb kro ((ts.map GT.id).map fun m => ptr m 0) ksp := g.wf.2.1
    have hkl : ts.length = its.length + 1 := g.wf.2.2.1
    have hl : its.length ≤ m := fl.2.1
    have hp : ∀ E h, St h0 Z E h → cl h pb po = some (ptr n 0) := hp
    have hpl : ∀ i, ((ts.take i).map fun t => t.pt.items) = (((ts.map GT.pt).take i).map PT.items) := fun i => by rw [← List.map_take, List.map_map]; rfl
    obtain ⟨D, hD⟩ : ∃ D : Nat → List It, ∀ i c, ts[i]? = some c → D i = c.pt.items ++ rz (its.drop i) (((ts.map GT.pt).drop (i + 1)).map PT.items) := ⟨fun i => match ts[i]? with | some c => c.pt.items ++ rz (its.drop i) (((ts.map GT.pt).drop (i + 1)).map PT.items) | none => [], fun i c hc => by simp only [hc]⟩
    have hsplit : ∀ i (hi : i ≤ its.length) c, ts[i]? = some c → PT.items (h := k + 1) (its, ts.map GT.pt) = lz (its.take i) ((ts.take i).map fun t => t.pt.items) ++ D i := by
      intro i hi c hc
      obtain ⟨c', hc', _, e⟩ := PT.around (t := ((its, ts.map GT.pt) : PT It (k + 1))) fl hi
      have hc' : (ts.map GT.pt)[i]? = some c' := hc'
      rw [List.getElem?_map, hc] at hc'
      have : c' = c.pt := (Option.some.inj hc').symm
      subst this
      rw [hpl, hD i c hc]; exact e
    have hstep : ∀ i (hi : i < its.length) c, ts[i]? = some c → D i = c.pt.items ++ its[i] :: D (i + 1) := by
      intro i hi c hc
      obtain ⟨c2, hc2⟩ : ∃ c2, ts[i + 1]? = some c2 := ⟨ts[i + 1]'(by omega), List.getElem?_eq_getElem (by omega)⟩
      have e1 : its.drop i = its[i] :: its.drop (i + 1) := List.drop_eq_getElem_cons hi
      have e2 : (ts.map GT.pt).drop (i + 1) = c2.pt :: (ts.map GT.pt).drop (i + 1 + 1) := by
        have e3 : (ts.map GT.pt)[i + 1]'(by rw [List.length_map]; omega) = c2.pt := by
          have : (ts.map GT.pt)[i + 1]? = some c2.pt := by rw [List.getElem?_map, hc2]; rfl
          exact (List.getElem?_eq_some_iff.1 this).2
        rw [← e3]; exact List.drop_eq_getElem_cons (by rw [List.length_map]; omega)
      rw [hD i c hc, hD (i + 1) c2 hc2, e1, e2, List.map_cons, rz_cons]
    have hN : p.length + (PT.items (h := k + 1) (its, ts.map GT.pt)).length ≤ N := hN
    have H : ∀ h', J (feed cont p (PT.items (h := k + 1) (its, ts.map GT.pt)).reverse).1 h' → Q (.bool (feed cont p (PT.items (h := k + 1) (its, ts.map GT.pt)).reverse).2) h' := H
    refine Map_su_nodeReverse.body _ _ _ _ _ _ ?_
    unfold Map_su_nodeReverse.sh
    obtain ⟨E, s⟩ := hJ p h hj
    refine isoLoad_ro (hp E h s) ?_
    refine leaf_ok (a := some ⟨kb, 0, Option.none⟩) (s.clz z1 3 rfl rfl) ?_
    refine r_if (fun e => absurd e (by simp)) (fun _ => ?_)
    unfold Map_su_nodeReverse.j1
    obtain ⟨c, hc⟩ : ∃ c, ts[its.length]? = some c := ⟨ts[its.length]'(by omega), List.getElem?_eq_getElem (by omega)⟩
    have hcm := List.mem_of_getElem? hc
    have hfc : PT.Fl m (m / 2) c.pt := fl.2.2.2 _ (List.mem_map.2 ⟨c, hcm, rfl⟩)
    have hr0 : rz (its.drop its.length) (((ts.map GT.pt).drop (its.length + 1)).map PT.items) = [] := by rw [List.drop_length]; rfl
    have hDn : D its.length = c.pt.items := by rw [hD _ c hc, hr0, List.append_nil]
    have hs := hsplit its.length (Nat.le_refl _) c hc
    have hsl := congrArg List.length hs
    rw [hDn] at hsl
    simp only [List.length_append] at hsl
    refine r_nil ?_
    refine r_fld ?_
    refine s.r_lz0 z1 (j := 3) rfl ?_
    refine r_nil ?_
    refine s.r_lz0 z3 (j := 0) rfl ?_
    refine r_nil ?_
    refine r_fld ?_
    refine s.r_lz0 z1 (j := 3) rfl ?_
    refine r_nil ?_
    refine s.r_lz0 z3 (j := 0) rfl ?_
    refine wK.lenV ?_
    refine r_sub (z := ((its.length : Nat) : Int)) (by rw [i64w (by omega) (by omega)]; omega) ?_
    refine wK.idx (n := its.length) rfl (by omega) ?_
    refine nodeReverse_ok hm hJ cb c (g.kid hcm) hfc (z5 c hcm) (fun r hr => hzb r (List.mem_append.2 (.inr (List.mem_flatMap.2 ⟨c, hcm, hr⟩)))) (fun E h s => kidcell z4 hc s) (by omega) hj fun h' hj' => ?_
    refine r_not ?_
    rw [← hDn] at hj' ⊢
    refine r_if (fun hr => ?_) (fun hr => ?_)
    · have hr : (feed cont p (D its.length).reverse).2 = false := by simpa using hr
      have ea : feed cont p (PT.items (h := k + 1) (its, ts.map GT.pt)).reverse = ((feed cont p (D its.length).reverse).1, false) := by
        rw [hs, List.reverse_append, feed_stop hr]
      have := H h' (by rw [ea]; exact hj')
      rw [ea] at this; exact this
    have hr : (feed cont p (D its.length).reverse).2 = true := by simpa using hr
    clear hj s hs hsl hc hcm hfc hDn
    obtain ⟨E, s⟩ := hJ _ h' hj'
    unfold Map_su_nodeReverse.j2
    refine r_nil ?_
    refine r_fld ?_
    refine s.r_lz0 z1 (j := 2) rfl ?_
    refine w.lenV ?_
    refine r_sub (z := (its.length : Int) - 1 - (0 : Nat)) (by rw [i64w (by omega) (by omega)]; omega) ?_
    refine loop_up (n := its.length) (fun j => [.int .i64 ((its.length : Int) - 1 - (j : Nat))]) (fun j h => (feed cont p (D (its.length - j)).reverse).2 = true ∧ J (feed cont p (D (its.length - j)).reverse).1 h) ⟨hr, hj'⟩ ?_
    clear hr hj' s
    rintro j h hjl ⟨hf, hj⟩ K HK
    obtain ⟨E, s⟩ := hJ _ h hj
    unfold Map_su_nodeReverse.l4.b
    refine r_cmpI ?_
    refine r_if (fun hlt => ?_) (fun hge => ?_)
    · have hlt : j < its.length := by have : (0 : Int) ≤ (its.length : Int) - 1 - (j : Nat) := by simpa using hlt
                                      omega
      obtain ⟨i, hi⟩ : ∃ i, i + 1 = its.length - j := ⟨its.length - j - 1, by omega⟩
      have hi2 : its.length - (j + 1) = i := by omega
      have hlt : i < its.length := by omega
      have ei : (its.length : Int) - 1 - (j : Nat) = ((i : Nat) : Int) := by omega
      have hx : its[i]? = some its[i] := List.getElem?_eq_getElem hlt
      rw [← hi] at hf hj
      obtain ⟨c, hc⟩ : ∃ c, ts[i]? = some c := ⟨ts[i]'(by omega), List.getElem?_eq_getElem (by omega)⟩
      have hcm := List.mem_of_getElem? hc
      have hfc : PT.Fl m (m / 2) c.pt := fl.2.2.2 _ (List.mem_map.2 ⟨c, hcm, rfl⟩)
      have hd := hstep i hlt c hc
      have hs := hsplit i (by omega) c hc
      have hsl := congrArg List.length hs
      rw [hd] at hsl
      simp only [List.length_append, List.length_cons] at hsl
      have et : (D i).reverse = ((D (i + 1)).reverse ++ [its[i]]) ++ c.pt.items.reverse := by rw [hd]; simp
      have ers : (PT.items (h := k + 1) (its, ts.map GT.pt)).reverse = ((D (i + 1)).reverse ++ [its[i]]) ++ (c.pt.items.reverse ++ (lz (its.take i) ((ts.take i).map fun t => t.pt.items)).reverse) := by rw [hs, List.reverse_append, et]; simp
      have hfl := feed_len (cont := cont) (D (i + 1)).reverse p
      rw [List.length_reverse] at hfl
      have ef1 : feed cont p ((D (i + 1)).reverse ++ [its[i]]) = ((feed cont p (D (i + 1)).reverse).1 ++ [its[i]], cont ((feed cont p (D (i + 1)).reverse).1 ++ [its[i]])) := by rw [feed_step hf, feed_one]
      rw [ei]
      unfold Map_su_nodeReverse.j5
      refine r_nil ?_
      refine r_fld ?_
      refine s.r_lz0 z1 (j := 2) rfl ?_
      refine w.idx (n := i) rfl hlt ?_
      refine r_fld ?_
      refine s.r_load1FZ encl (r := 0) z2 hx rfl ?_
      refine r_nil ?_
      refine r_fld ?_
      refine s.r_lz0 z1 (j := 2) rfl ?_
      refine w.idx (n := i) rfl hlt ?_
      have hpos : 0 < (its.flatMap enc ++ isp).length := by rw [List.length_append, flat_len encl]; omega
      refine r_fldZT zall s (hib (by omega)) z2 hpos ?_
      refine r_ld00 ?_
      refine cb _ its[i] h _ (by omega) hj fun h' hj' => ?_
      refine r_not ?_
      refine r_if (fun hb => ?_) (fun hb => ?_)
      · have hb : cont ((feed cont p (D (i + 1)).reverse).1 ++ [its[i]]) = false := by simpa using hb
        have ea : feed cont p (PT.items (h := k + 1) (its, ts.map GT.pt)).reverse = ((feed cont p (D (i + 1)).reverse).1 ++ [its[i]], false) := by
          rw [ers, feed_stop (by rw [ef1]; exact hb), ef1]
        have := H h' (by rw [ea]; exact hj')
        rw [ea] at this; exact this
      · have hb : cont ((feed cont p (D (i + 1)).reverse).1 ++ [its[i]]) = true := by simpa using hb
        rw [hb] at ef1
        have hf1 : (feed cont p ((D (i + 1)).reverse ++ [its[i]])).2 = true := by rw [ef1]
        have hj1 : J (feed cont p ((D (i + 1)).reverse ++ [its[i]])).1 h' := by rw [ef1]; exact hj'
        have hfl2 := feed_len (cont := cont) ((D (i + 1)).reverse ++ [its[i]]) p
        rw [List.length_append, List.length_reverse, List.length_singleton] at hfl2
        obtain ⟨E, s⟩ := hJ _ h' hj'
        unfold Map_su_nodeReverse.j7
        refine r_nil ?_
        refine r_fld ?_
        refine s.r_lz0 z1 (j := 3) rfl ?_
        refine r_nil ?_
        refine s.r_lz0 z3 (j := 0) rfl ?_
        refine wK.idx (n := i) rfl (by omega) ?_
        refine nodeReverse_ok hm hJ cb c (g.kid hcm) hfc (z5 c hcm) (fun r hr => hzb r (List.mem_append.2 (.inr (List.mem_flatMap.2 ⟨c, hcm, hr⟩)))) (fun E h s => kidcell z4 hc s) (by omega) hj1 fun h2 hj2 => ?_
        have ef2 : feed cont p (D i).reverse = feed cont (feed cont p ((D (i + 1)).reverse ++ [its[i]])).1 c.pt.items.reverse := by rw [et, feed_step hf1]
        rw [← ef2] at hj2 ⊢
        refine r_not ?_
        refine r_if (fun hr => ?_) (fun hr => ?_)
        · have hr : (feed cont p (D i).reverse).2 = false := by simpa using hr
          have ea : feed cont p (PT.items (h := k + 1) (its, ts.map GT.pt)).reverse = ((feed cont p (D i).reverse).1, false) := by
            rw [hs, List.reverse_append, feed_stop hr]
          have := H h2 (by rw [ea]; exact hj2)
          rw [ea] at this; exact this
        · have hr : (feed cont p (D i).reverse).2 = true := by simpa using hr
          unfold Map_su_nodeReverse.j6
          refine r_sub (z := (its.length : Int) - 1 - (j + 1 : Nat)) (by rw [i64w (by omega) (by omega)]; omega) ?_
          exact HK h2 (by omega) ⟨by rw [hi2]; exact hr, by rw [hi2]; exact hj2⟩
    · have hge : j = its.length := by have : ¬ (0 : Int) ≤ (its.length : Int) - 1 - (j : Nat) := by simpa using hge
                                      omega
      subst hge
      obtain ⟨c, hc⟩ : ∃ c, ts[0]? = some c := ⟨ts[0]'(by omega), List.getElem?_eq_getElem (by omega)⟩
      have hs := hsplit 0 (Nat.zero_le _) c hc
      have hs : PT.items (h := k + 1) (its, ts.map GT.pt) = D 0 := by rw [hs]; rfl
      rw [Nat.sub_self, ← hs] at hf hj
      unfold Map_su_nodeReverse.j3
      have := H h hj
      rw [hf] at this; exact this
end Go.Proofs.Ytfojeibloilneaa.Su
