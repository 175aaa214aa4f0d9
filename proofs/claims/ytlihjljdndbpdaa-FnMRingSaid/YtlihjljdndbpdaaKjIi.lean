/-
  What the keys of a map come to.
  Conditions: not too many items.
-/
import Derived.Test.YtlihjljdndbpdaaKhIi
import Derived.Test.YtlihjljdndbpdaaS2
import Derived.Test.YtlihjljdndbpdaaS22
namespace Go.Proofs.Ytlihjljdndbpdaa.Ii
open Go.Hp Go.Proofs.Ytlihjljdndbpdaa
set_option linter.unusedVariables false
set_option linter.unusedSimpArgs false
variable {h0 h : Heap} {Z E : List Rg} {Q : Value → Heap → Prop}

theorem nodeKeys_ok {m : Nat} {iso : Int} (hm : m ≤ 1024) : ∀ {k : Nat} (t : GT It k) {lo : Nat} (g : Gd iso t) (fl : t.pt.Fl m lo) (hz : ∀ r ∈ t.all enc, r ∈ Z) {L : List KT} {v : Value} {b o : Nat} {sp : List Value} {E : List Rg} {h : Heap} {Q : Value → Heap → Prop},
    L.length + t.pt.items.length ≤ 4294967295 → Own 1 v L.length b o (L.flatMap fk) sp → St h0 Z ((b, o, L.flatMap fk ++ sp) :: E) h →
    (∀ v' b' o' sp' h', Own 1 v' (L ++ t.pt.items.map (·.1)).length b' o' ((L ++ t.pt.items.map (·.1)).flatMap fk) sp' → St h0 Z ((b', o', (L ++ t.pt.items.map (·.1)).flatMap fk ++ sp') :: E) h' → Q v' h') → mapNode_ii_keys.call #[ptr t.id 0, v] h Q
  | 0, (d : Nd It), lo, g, fl, hz, L, v, b, o, sp, E, h, Q, hN, wv, s, H => by
    obtain ⟨own, n, is', cnt, its, iv, ib, io, isp, kb, kv', krb, kro, ksp⟩ := d
    obtain ⟨z1, z2⟩ := allZ_leaf hz
    have w : Own 2 iv its.length ib io (its.flatMap enc) isp := g.wf.1
    have hl : its.length ≤ m := fl.2
    have hN : L.length + its.length ≤ 4294967295 := hN
    have H : ∀ v' b' o' sp' h', Own 1 v' (L ++ its.map (·.1)).length b' o' ((L ++ its.map (·.1)).flatMap fk) sp' → St h0 Z ((b', o', (L ++ its.map (·.1)).flatMap fk ++ sp') :: E) h' → Q v' h' := H
    show mapNode_ii_keys.call #[ptr n 0, v] h Q
    refine mapNode_ii_keys.body _ _ _ _ ?_
    unfold mapNode_ii_keys.sh
    refine leaf_ok (a := none) (s.clz z1 3 rfl rfl) ?_
    refine r_if (fun _ => ?_) (fun e => absurd e (by simp))
    refine loop_ghost (fun k st h => ∃ j v b o sp, k = its.length - j ∧ j ≤ its.length ∧ st = [v, .int .i64 (j : Nat)] ∧ Own 1 v (L ++ (its.take j).map (·.1)).length b o ((L ++ (its.take j).map (·.1)).flatMap fk) sp ∧ St h0 Z ((b, o, (L ++ (its.take j).map (·.1)).flatMap fk ++ sp) :: E) h)
      (n0 := its.length) ⟨0, v, b, o, sp, rfl, Nat.zero_le _, rfl, by simpa using wv, by simpa using s⟩ ?_
    rintro k st h ⟨j, v, b, o, sp, rfl, hj, rfl, wv, s⟩ K HK
    unfold mapNode_ii_keys.l7.b
    refine r_nil ?_
    refine r_fld ?_
    refine s.r_lz0 z1 (j := 2) rfl ?_
    refine w.lenV ?_
    refine r_cmpI ?_
    refine r_if (fun hlt => ?_) (fun hge => ?_)
    · have hlt : j < its.length := by simpa using hlt
      have hx : its[j]? = some its[j] := List.getElem?_eq_getElem hlt
      unfold mapNode_ii_keys.j8
      refine r_nil ?_
      refine r_fld ?_
      refine s.r_lz0 z1 (j := 2) rfl ?_
      refine w.idx (n := j) rfl hlt ?_
      refine r_fld ?_
      refine s.r_load1FZ encl (r := 1) z2 hx rfl ?_
      refine St.r_mkSl (sz := 1) (cs := [kv its[j].1]) s (by ((simp only [fillV, fill1, Value.cells, zeros_succ, zeros_zero, List.size_toArray, List.length_cons, List.length_nil, List.length_append, List.take_succ_cons, List.take_zero, List.take_nil, List.drop_succ_cons, List.drop_zero, List.drop_nil, List.cons_append, List.nil_append, List.append_nil, Nat.reduceAdd, Nat.reduceMul, Nat.reduceLeDiff, Nat.reduceEqDiff, and_self, and_true, true_and, if_true, Nat.le_refl, Nat.zero_add, Nat.add_zero, Nat.zero_mul, reduceIte, if_false] <;> rfl))) rfl fun q h s w1 => ?_
      refine St.r_app s 1 (sz := 1) (n := 1) (new := [kv its[j].1]) rfl wv rfl (w1.rdl s 0 rfl) (by simp [one1]) (by simp; omega) (by simp; omega) fun v' b' o' sp' h s w' => ?_
      rw [snoc_fk] at s w'
      have et : (L ++ (its.take j).map (·.1)) ++ [its[j].1] = L ++ (its.take (j + 1)).map (·.1) := by
        rw [List.take_succ_eq_append_getElem hlt, List.map_append, List.append_assoc]; rfl
      have w' : Own 1 v' ((L ++ (its.take j).map (·.1)) ++ [its[j].1]).length b' o' (((L ++ (its.take j).map (·.1)) ++ [its[j].1]).flatMap fk) sp' := by rw [List.length_append]; exact w'
      rw [et] at s w'
      unfold mapNode_ii_keys.j9
      refine r_add (z := ((j + 1 : Nat) : Int)) (by rw [i64w (by omega) (by omega)]; omega) ?_
      exact HK (its.length - (j + 1)) _ _ (by omega) ⟨j + 1, v', b', o', sp', rfl, hlt, rfl, w', s.drop 1⟩
    · have hge : j = its.length := by simp at hge; omega
      subst hge
      rw [List.take_length] at s wv
      unfold mapNode_ii_keys.j6
      exact H v b o sp h wv s
  | k + 1, t, lo, g, fl, hz, L, v, b, o, sp, E, h, Q, hN, wv, s, H => by
    obtain ⟨d, ts⟩ := t
    obtain ⟨own, n, is', cnt, its, iv, ib, io, isp, kb, kv', krb, kro, ksp⟩ := d
    obtain ⟨z1, z2, z3, z4, z5⟩ := allZ_inner hz
    have w : Own 2 iv its.length ib io (its.flatMap enc) isp := g.wf.1.1
    have wK : Own 1 kv' ts.length krb kro ((ts.map GT.id).map fun m => ptr m 0) ksp := g.wf.2.1
    have hkl : ts.length = its.length + 1 := g.wf.2.2.1
    have hl : its.length ≤ m := fl.2.1
    have hpl : ∀ i, ((ts.take i).map fun t => t.pt.items) = (((ts.map GT.pt).take i).map PT.items) := fun i => by rw [← List.map_take, List.map_map]; rfl
    have hsplit : ∀ i (hi : i ≤ its.length) c, ts[i]? = some c → PT.items (h := k + 1) (its, ts.map GT.pt) = lz (its.take i) ((ts.take i).map fun t => t.pt.items) ++ (c.pt.items ++ rz (its.drop i) (((ts.map GT.pt).drop (i + 1)).map PT.items)) := by
      intro i hi c hc
      obtain ⟨c', hc', _, e⟩ := PT.around (t := ((its, ts.map GT.pt) : PT It (k + 1))) fl hi
      have hc' : (ts.map GT.pt)[i]? = some c' := hc'
      rw [List.getElem?_map, hc] at hc'
      have : c' = c.pt := (Option.some.inj hc').symm
      subst this
      rw [hpl]; exact e
    have hN : L.length + (PT.items (h := k + 1) (its, ts.map GT.pt)).length ≤ 4294967295 := hN
    have H : ∀ v' b' o' sp' h', Own 1 v' (L ++ (PT.items (h := k + 1) (its, ts.map GT.pt)).map (·.1)).length b' o' ((L ++ (PT.items (h := k + 1) (its, ts.map GT.pt)).map (·.1)).flatMap fk) sp' → St h0 Z ((b', o', (L ++ (PT.items (h := k + 1) (its, ts.map GT.pt)).map (·.1)).flatMap fk ++ sp') :: E) h' → Q v' h' := H
    show mapNode_ii_keys.call #[ptr n 0, v] h Q
    refine mapNode_ii_keys.body _ _ _ _ ?_
    unfold mapNode_ii_keys.sh
    refine leaf_ok (a := some ⟨kb, 0, Option.none⟩) (s.clz z1 3 rfl rfl) ?_
    refine r_if (fun e => absurd e (by simp)) (fun _ => ?_)
    unfold mapNode_ii_keys.j1
    refine loop_ghost (fun q st h => ∃ j v b o sp, q = its.length - j ∧ j ≤ its.length ∧ st = [v, .int .i64 (j : Nat)] ∧ Own 1 v (L ++ (lz (its.take j) ((ts.take j).map fun t => t.pt.items)).map (·.1)).length b o ((L ++ (lz (its.take j) ((ts.take j).map fun t => t.pt.items)).map (·.1)).flatMap fk) sp ∧ St h0 Z ((b, o, (L ++ (lz (its.take j) ((ts.take j).map fun t => t.pt.items)).map (·.1)).flatMap fk ++ sp) :: E) h)
      (n0 := its.length) ⟨0, v, b, o, sp, rfl, Nat.zero_le _, rfl, by simpa [lz] using wv, by simpa [lz] using s⟩ ?_
    rintro q st h ⟨j, v, b, o, sp, rfl, hj, rfl, wv, s⟩ K HK
    obtain ⟨c, hc⟩ : ∃ c, ts[j]? = some c := ⟨ts[j]'(by omega), List.getElem?_eq_getElem (by omega)⟩
    have hcm := List.mem_of_getElem? hc
    have hfc : PT.Fl m (m / 2) c.pt := fl.2.2.2 _ (List.mem_map.2 ⟨c, hcm, rfl⟩)
    have hs := hsplit j hj c hc
    have hsl := congrArg List.length hs
    simp only [List.length_append] at hsl
    unfold mapNode_ii_keys.l3.b
    refine r_nil ?_
    refine r_fld ?_
    refine s.r_lz0 z1 (j := 2) rfl ?_
    refine w.lenV ?_
    refine r_cmpI ?_
    refine r_if (fun hlt => ?_) (fun hge => ?_)
    · have hlt : j < its.length := by simpa using hlt
      have hx : its[j]? = some its[j] := List.getElem?_eq_getElem hlt
      have et : its.take (j + 1) = its.take j ++ [its[j]] := List.take_succ_eq_append_getElem hlt
      have ek : ts.take (j + 1) = ts.take j ++ [c] := by rw [List.take_add_one, hc]; rfl
      have ez : lz (its.take (j + 1)) ((ts.take (j + 1)).map fun t => t.pt.items) = lz (its.take j) ((ts.take j).map fun t => t.pt.items) ++ (c.pt.items ++ [its[j]]) := by
        rw [et, ek, List.map_append, List.map_cons, List.map_nil, lz_snoc _ _ _ _ (by simp; omega)]
      obtain ⟨rest, hrest⟩ : ∃ rest, rz (its.drop j) (((ts.map GT.pt).drop (j + 1)).map PT.items) = its[j] :: rest := by
        have e1 : its.drop j = its[j] :: its.drop (j + 1) := List.drop_eq_getElem_cons hlt
        have e2 : (ts.map GT.pt).drop (j + 1) = (ts.map GT.pt)[j + 1]'(by simp; omega) :: (ts.map GT.pt).drop (j + 1 + 1) := List.drop_eq_getElem_cons (by simp; omega)
        rw [e1, e2, List.map_cons, rz_cons]; exact ⟨_, rfl⟩
      rw [hrest, List.length_cons] at hsl
      unfold mapNode_ii_keys.j4
      refine r_nil ?_
      refine r_fld ?_
      refine s.r_lz0 z1 (j := 3) rfl ?_
      refine r_nil ?_
      refine s.r_lz0 z3 (j := 0) rfl ?_
      refine wK.idx (n := j) rfl (by omega) ?_
      refine r_ld (kidcell z4 hc s) ?_
      refine nodeKeys_ok hm c (g.kid hcm) hfc (z5 c hcm) (by rw [List.length_append, List.length_map]; omega) wv s fun v2 b2 o2 sp2 h s2 s => ?_
      refine r_nil ?_
      refine r_fld ?_
      refine s.r_lz0 z1 (j := 2) rfl ?_
      refine w.idx (n := j) rfl hlt ?_
      refine r_fld ?_
      refine s.r_load1FZ encl (r := 1) z2 hx rfl ?_
      refine St.r_mkSl (sz := 1) (cs := [kv its[j].1]) s (by ((simp only [fillV, fill1, Value.cells, zeros_succ, zeros_zero, List.size_toArray, List.length_cons, List.length_nil, List.length_append, List.take_succ_cons, List.take_zero, List.take_nil, List.drop_succ_cons, List.drop_zero, List.drop_nil, List.cons_append, List.nil_append, List.append_nil, Nat.reduceAdd, Nat.reduceMul, Nat.reduceLeDiff, Nat.reduceEqDiff, and_self, and_true, true_and, if_true, Nat.le_refl, Nat.zero_add, Nat.add_zero, Nat.zero_mul, reduceIte, if_false] <;> rfl))) rfl fun q h s w1 => ?_
      refine St.r_app s 1 (sz := 1) (n := 1) (new := [kv its[j].1]) rfl s2 rfl (w1.rdl s 0 rfl) (by simp [one1]) (by simp only [List.length_append, List.length_map]; omega) (by simp only [List.length_append, List.length_map]; omega) fun v' b' o' sp' h s w' => ?_
      rw [snoc_fk] at s w'
      have e9 : (L ++ (lz (its.take j) ((ts.take j).map fun t => t.pt.items)).map (·.1) ++ c.pt.items.map (·.1)) ++ [its[j].1] = L ++ (lz (its.take (j + 1)) ((ts.take (j + 1)).map fun t => t.pt.items)).map (·.1) := by
        rw [ez]; simp
      have w' : Own 1 v' ((L ++ (lz (its.take j) ((ts.take j).map fun t => t.pt.items)).map (·.1) ++ c.pt.items.map (·.1)) ++ [its[j].1]).length b' o' (((L ++ (lz (its.take j) ((ts.take j).map fun t => t.pt.items)).map (·.1) ++ c.pt.items.map (·.1)) ++ [its[j].1]).flatMap fk) sp' := by rw [List.length_append]; exact w'
      rw [e9] at s w'
      unfold mapNode_ii_keys.j5
      refine r_add (z := ((j + 1 : Nat) : Int)) (by rw [i64w (by omega) (by omega)]; omega) ?_
      exact HK (its.length - (j + 1)) _ _ (by omega) ⟨j + 1, v', b', o', sp', rfl, hlt, rfl, w', s.drop 1⟩
    · have hge : j = its.length := by simp at hge; omega
      subst hge
      have hr0 : rz (its.drop its.length) (((ts.map GT.pt).drop (its.length + 1)).map PT.items) = [] := by rw [List.drop_length]; rfl
      rw [hr0, List.append_nil] at hs
      unfold mapNode_ii_keys.j2
      refine r_nil ?_
      refine r_fld ?_
      refine s.r_lz0 z1 (j := 3) rfl ?_
      refine r_nil ?_
      refine s.r_lz0 z3 (j := 0) rfl ?_
      refine r_nil ?_
      refine r_fld ?_
      refine s.r_lz0 z1 (j := 3) rfl ?_
      refine r_nil ?_
      refine s.r_lz0 z3 (j := 0) rfl ?_
      refine wK.lenV ?_
      refine r_sub (z := ((its.length : Nat) : Int)) (by rw [i64w (by omega) (by omega)]; omega) ?_
      refine wK.idx (n := its.length) rfl (by omega) ?_
      refine r_ld (kidcell z4 hc s) ?_
      refine nodeKeys_ok hm c (g.kid hcm) hfc (z5 c hcm) (by rw [List.length_append, List.length_map]; omega) wv s fun v2 b2 o2 sp2 h s2 s => ?_
      have e9 : L ++ (lz (its.take its.length) ((ts.take its.length).map fun t => t.pt.items)).map (·.1) ++ c.pt.items.map (·.1) = L ++ (PT.items (h := k + 1) (its, ts.map GT.pt)).map (·.1) := by rw [hs]; simp
      rw [e9] at s s2
      exact H v2 b2 o2 sp2 h s2 s

theorem Keys_ok {g : Rt} {tb m : Nat} {iso mn mx : Int} {ctr : Option Addr} (M : MapOk m iso g) (hl : (rPt g).items.length ≤ 4294967295) (s : St h0 Z (((tb, 0, hdr iso ctr (rA g) (rPt g).items.length mn mx) :: rAll g) ++ E) h)
    (H : ∀ v b o sp h', Own 1 v ((rPt g).items.map (·.1)).length b o (((rPt g).items.map (·.1)).flatMap fk) sp → St h0 Z ((b, o, ((rPt g).items.map (·.1)).flatMap fk ++ sp) :: (((tb, 0, hdr iso ctr (rA g) (rPt g).items.length mn mx) :: rAll g) ++ E)) h' → Q v h') :
    Map_ii_Keys.call #[ptr tb 0] h Q := by
  refine Map_ii_Keys.body _ _ _ ?_
  unfold Map_ii_Keys.sh
  refine Map_ii_Len.body _ _ _ ?_
  unfold Map_ii_Len.sh
  have s : St h0 Z ((tb, 0, hdr iso ctr (rA g) (rPt g).items.length mn mx) :: (rAll g ++ E)) h := s
  refine r_nil ?_
  refine r_fld ?_
  refine St.r_load0 s 0 rfl rfl ?_
  refine s.r_mks (n := 0) (sz := 1) rfl (by omega) (by omega) (by omega) fun v b h s w => ?_
  rw [zeros_zero] at s w
  refine r_nil ?_
  refine r_fld ?_
  refine St.r_load0 s 1 rfl rfl ?_
  refine r_neNilP ?_
  cases g with
  | none =>
    refine r_if (fun e => absurd e (by simp [rA])) (fun _ => ?_)
    unfold Map_ii_Keys.j1
    exact H _ b 0 _ h w s
  | some t =>
    refine r_if (fun _ => ?_) (fun e => absurd e (by simp [rA]))
    refine r_nil ?_
    refine r_fld ?_
    refine St.r_load0 s 1 rfl rfl ?_
    have s0 : St h0 Z (((tb, 0, hdr iso ctr (rA (some t)) (rPt (some t)).items.length mn mx) :: rAll (some t)) ++ ((b, 0, ([] : List KT).flatMap fk ++ zeros [kv emp.1] ((rPt (some t)).items.length - 0)) :: E)) h := s.perm (by ((apply perm_rg; intro f; simp only [List.set_cons_zero, List.set_cons_succ, List.eraseIdx_cons_zero, List.eraseIdx_cons_succ, List.cons_append, List.nil_append, List.map_append, List.map_cons, List.map_nil, List.sum_append, List.sum_cons, List.sum_nil, List.map_flatMap, Nat.add_zero, Nat.zero_add]; ac_rfl)))
    obtain ⟨s1, back⟩ := s0.borrow
    refine nodeKeys_ok M.m1 t.2 M.gd M.fl (fun r hr => List.mem_append.2 (.inl (List.mem_cons_of_mem _ hr))) (L := []) (by rw [List.length_nil, Nat.zero_add]; exact hl) w s1 fun v' b' o' sp' h' w' s => ?_
    have s := back _ h' s
    unfold Map_ii_Keys.j1
    exact H v' b' o' sp' h' w' (s.perm (by ((apply perm_rg; intro f; simp only [List.set_cons_zero, List.set_cons_succ, List.eraseIdx_cons_zero, List.eraseIdx_cons_succ, List.cons_append, List.nil_append, List.map_append, List.map_cons, List.map_nil, List.sum_append, List.sum_cons, List.sum_nil, List.map_flatMap, Nat.add_zero, Nat.zero_add]; ac_rfl))))
end Go.Proofs.Ytlihjljdndbpdaa.Ii
