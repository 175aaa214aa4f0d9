/-
  What the least item of a map, and handing on from a pivot, come to.
  Conditions: nobody writes the map's nodes meanwhile; they ascend.
-/
import Derived.Test.YtlihjljdndbpdaaKnIi
import Derived.Test.YtlihjljdndbpdaaKiIi
import Derived.Test.YtlihjljdndbpdaaHB
import Derived.Test.YtlihjljdndbpdaaS24
namespace Go.Proofs.Ytlihjljdndbpdaa.Ii
open Go.Hp Go.Proofs.Ytlihjljdndbpdaa
set_option linter.unusedVariables false
set_option linter.unusedSimpArgs false
variable {h0 h : Heap} {Z E : List Rg} {Q : Value → Heap → Prop}

theorem items_pos {m lo k : Nat} {t : PT It k} (f : t.Fl m lo) (h : 1 ≤ lo) : ∃ x r, t.items = x :: r := by
  have h1 := f.le.1
  have h2 := (PT.its_sub t).length_le
  exact head_of (by omega)
theorem minZ_ok {g : Rt} {tb m : Nat} {iso cnt mn mx : Int} {ctr : Option Addr} (M : MapOk m iso g) (hT : (tb, 0, hdr iso ctr (rA g) cnt mn mx) ∈ Z) (hz : ∀ r ∈ rAll g, r ∈ Z) (s : St h0 Z E h)
    (H : ∀ E' h', St h0 Z (E' ++ E) h' → Q (.tuple #[kv ((rPt g).items.head?.getD emp).1, vv ((rPt g).items.head?.getD emp).2, .bool (rPt g).items.head?.isSome]) h') : Map_ii_minMut.call #[ptr tb 0, .bool false] h Q := by
  refine Map_ii_minMut.body _ _ _ _ ?_
  unfold Map_ii_minMut.sh
  have m1 := M.m1
  have m3 := M.m3
  cases g with
  | none =>
    refine r_nil ?_
    refine r_fld ?_
    refine s.r_lz0 hT rfl ?_
    refine r_eqNilP ?_
    refine r_if (fun _ => ?_) (fun e => absurd e (by simp [rA]))
    exact H [] h s
  | some t =>
    obtain ⟨k, t⟩ := t
    have hT : (tb, 0, hdr iso ctr (some ⟨t.id, 0, none⟩) cnt mn mx) ∈ Z := hT
    refine r_nil ?_
    refine r_fld ?_
    refine s.r_lz0 hT rfl ?_
    refine r_eqNilP ?_
    refine r_if (fun e => absurd e (by simp)) (fun _ => ?_)
    unfold Map_ii_minMut.j1
    refine r_nil ?_
    refine r_fld ?_
    refine isoLoad_ro (s.clz hT 2 rfl rfl) ?_
    refine loop_ghost (fun q st h' => ∃ (t2 : GT It q), st = [ptr t2.id 0] ∧ h' = h ∧ Gd iso t2 ∧ t2.pt.Fl m 1 ∧ (∀ r ∈ t2.all enc, r ∈ Z) ∧ t.pt.items.head? = t2.pt.items.head?) (n0 := k) ⟨t, rfl, rfl, M.gd, M.fl, hz, rfl⟩ ?_
    rintro q st g ⟨t2, rfl, rfl, gd, fl, hz2, he⟩ K HK
    have H : ∀ E' h', St h0 Z (E' ++ E) h' → Q (.tuple #[kv (t.pt.items.head?.getD emp).1, vv (t.pt.items.head?.getD emp).2, .bool t.pt.items.head?.isSome]) h' := H
    rw [he] at H
    unfold Map_ii_minMut.l2.b
    cases q with
    | zero =>
      obtain ⟨own, n, is', c0, its, iv, ib, io, isp, kb, kv', krb, kro, ksp⟩ := (t2 : Nd It)
      obtain ⟨z1, z2⟩ := allZ_leaf hz2
      have w : Own 2 iv its.length ib io (its.flatMap enc) isp := gd.wf.1
      have hl : 1 ≤ its.length := fl.1
      have H : ∀ E' h', St h0 Z (E' ++ E) h' → Q (.tuple #[kv (its.head?.getD emp).1, vv (its.head?.getD emp).2, .bool its.head?.isSome]) h' := H
      obtain ⟨x, r, e⟩ := head_of hl
      have hx : its[0]? = some x := by rw [e]; rfl
      refine leaf_ok (a := none) (s.clz z1 3 rfl rfl) ?_
      refine r_if (fun _ => ?_) (fun e => absurd e (by simp))
      refine r_nil ?_
      refine r_fld ?_
      refine s.r_lz0 z1 rfl ?_
      (refine Own.idx (by assumption) rfl (by first | omega | (simp; done) | (simp; omega)) ?_)
      refine s.r_loadFZ encl z2 (by assumption) ?_
      refine s.r_alloc fun t8 h s => ?_
      (refine St.r_storeN0 s 0 rfl rfl (by simp) (enc1 _) ?_; intro h s; try simp only [List.set_cons_zero, List.set_cons_succ] at s)
      refine r_fld ?_
      refine St.r_load0 s 0 rfl rfl ?_
      refine r_fld ?_
      refine St.r_load0 s 0 rfl rfl ?_
      rw [e] at H
      exact H [_] h s
    | succ q =>
      obtain ⟨d, ts⟩ := t2
      obtain ⟨own, n, is', c0, its, iv, ib, io, isp, kb, kv', krb, kro, ksp⟩ := d
      obtain ⟨z1, z2, z3, z4, z5⟩ := allZ_inner hz2
      have wK : Own 1 kv' ts.length krb kro ((ts.map GT.id).map fun m => ptr m 0) ksp := gd.wf.2.1
      have hkl : ts.length = its.length + 1 := gd.wf.2.2.1
      obtain ⟨c, r, ec⟩ := head_of (show 1 ≤ ts.length by omega)
      have hc : ts[0]? = some c := by rw [ec]; rfl
      have hcm := List.mem_of_getElem? hc
      have fc : PT.Fl m (m / 2) c.pt := fl.2.2.2 _ (List.mem_map.2 ⟨c, hcm, rfl⟩)
      have fc1 : c.pt.Fl m 1 := fc.mono (by omega)
      obtain ⟨x, r2, ex⟩ := items_pos fc1 (Nat.le_refl _)
      refine leaf_ok (a := some ⟨kb, 0, none⟩) (s.clz z1 3 rfl rfl) ?_
      refine r_if (fun e => absurd e (by simp)) (fun _ => ?_)
      unfold Map_ii_minMut.j3
      refine r_nil ?_
      refine r_fld ?_
      refine s.r_lz0 z1 rfl ?_
      refine r_nil ?_
      refine s.r_lz0 z3 rfl ?_
      (refine Own.idx (by assumption) rfl (by first | omega | (simp; done) | (simp; omega)) ?_)
      refine isoLoad_ro (kidcell z4 hc s) ?_
      refine HK q _ _ (Nat.lt_succ_self q) ⟨c, rfl, rfl, gd.kid hcm, fc1, z5 c hcm, he.trans ?_⟩
      show (inter its ((ts.map GT.pt).map PT.items)).head? = _
      rw [ec, List.map_cons, List.map_cons, ex]
      simp [inter]
theorem Min_ok {g : Rt} {tb m : Nat} {iso cnt mn mx : Int} {ctr : Option Addr} (M : MapOk m iso g) (s : St h0 Z ((tb, 0, hdr iso ctr (rA g) cnt mn mx) :: (rAll g ++ E)) h)
    (H : ∀ E' h', St h0 Z (E' ++ ((tb, 0, hdr iso ctr (rA g) cnt mn mx) :: (rAll g ++ E))) h' → Q (.tuple #[kv ((rPt g).items.head?.getD emp).1, vv ((rPt g).items.head?.getD emp).2, .bool (rPt g).items.head?.isSome]) h') : Map_ii_Min.call #[ptr tb 0] h Q := by
  refine Map_ii_Min.body _ _ _ ?_
  unfold Map_ii_Min.sh
  have s0 : St h0 Z (((tb, 0, hdr iso ctr (rA g) cnt mn mx) :: rAll g) ++ E) h := s
  obtain ⟨s1, back⟩ := s0.borrow
  refine minZ_ok M (List.mem_append.2 (.inl (List.mem_cons_self ..))) (fun r hr => List.mem_append.2 (.inl (List.mem_cons_of_mem _ hr))) s1 fun E' h' s => ?_
  refine r_ext rfl ?_
  refine r_ext rfl ?_
  refine r_ext rfl ?_
  exact H E' h' ((back _ h' s).perm (by ((apply perm_rg; intro f; simp only [List.set_cons_zero, List.set_cons_succ, List.eraseIdx_cons_zero, List.eraseIdx_cons_succ, List.cons_append, List.nil_append, List.map_append, List.map_cons, List.map_nil, List.sum_append, List.sum_cons, List.sum_nil, List.map_flatMap, Nat.add_zero, Nat.zero_add]; ac_rfl))))
theorem Ascend_ok {cont : List It → Bool} {f : Value} {J : List It → Heap → Prop} {g : Rt} {tb m N : Nat} {iso cnt mn mx : Int} {ctr : Option Addr} {x : It} (M : MapOk m iso g) (hT : (tb, 0, hdr iso ctr (rA g) cnt mn mx) ∈ Z) (hz : ∀ r ∈ rAll g, r ∈ Z) (hzb : ∀ r ∈ rAll g, r.2.2 ≠ [] → h0.size ≤ r.1)
    (hJ : ∀ p h, J p h → ∃ E, St h0 Z E h)
    (cb : ∀ (p : List It) (x : It) (h : Heap) (K : Value → Heap → Prop), p.length < N → J p h → (∀ h', J (p ++ [x]) h' → K (.bool (cont (p ++ [x]))) h') → callV Try.prog f #[kv x.1, vv x.2] h K)
    (hN : (rPt g).items.length ≤ N) (hj : J [] h) (H : ∀ h', J (feed cont [] ((rPt g).items.drop (pos lt (rPt g).items x))).1 h' → Q (.tuple #[]) h') : Map_ii_Ascend.call #[ptr tb 0, kv x.1, f] h Q := by
  refine Map_ii_Ascend.body _ _ _ _ _ ?_
  unfold Map_ii_Ascend.sh
  refine Map_ii_ascend.body _ _ _ _ _ _ ?_
  unfold Map_ii_ascend.sh
  obtain ⟨E, s⟩ := hJ [] h hj
  refine r_nil ?_
  refine r_fld ?_
  refine s.r_lz0 hT (j := 2) rfl ?_
  refine r_eqNilP ?_
  cases g with
  | none =>
    refine r_if (fun _ => ?_) (fun e => absurd e (by simp [rA]))
    exact H h hj
  | some t =>
    refine r_if (fun e => absurd e (by simp [rA])) (fun _ => ?_)
    unfold Map_ii_ascend.j1
    refine r_nil ?_
    refine r_fld ?_
    refine nodeAscend_ok (x := x) M.m1 hJ cb t.2 M.gd M.fl M.asc hz hzb (fun E h s => ?_) (by rw [List.length_nil, Nat.zero_add]; exact hN) hj fun h' hj' => H h' hj'
    exact s.clz hT 2 rfl rfl
/-- What is handed on from a pivot, up to the n-th. -/
theorem keptA_ok {g : Rt} {tb t7 m : Nat} {n iso cnt mn mx : Int} {ctr : Option Addr} {x : It} (M : MapOk m iso g) (hl : (rPt g).items.length ≤ 4294967295)
    (s : St h0 Z ((t7, 0, [.slice none 0 0]) :: (((tb, 0, hdr iso ctr (rA g) cnt mn mx) :: rAll g) ++ E)) h)
    (H : ∀ v b o sp h', Own 2 v (firstN ((rPt g).items.drop (pos lt (rPt g).items x)) n).length b o ((firstN ((rPt g).items.drop (pos lt (rPt g).items x)) n).flatMap encA) sp → St h0 Z ((t7, 0, [v]) :: (b, o, (firstN ((rPt g).items.drop (pos lt (rPt g).items x)) n).flatMap encA ++ sp) :: (((tb, 0, hdr iso ctr (rA g) cnt mn mx) :: rAll g) ++ E)) h' → Q (.tuple #[]) h') :
    i_pairs.call #[ptr t7 0, .int .i64 n] h fun t12 h => Map_ii_Ascend.call #[ptr tb 0, kv x.1, t12] h Q := by
  refine pairs_ok s fun t2 t3 t5 h s => ?_
  have s0 : St h0 Z (((tb, 0, hdr iso ctr (rA g) cnt mn mx) :: rAll g) ++ ((t5, 0, [.func (.func 170) #[] #[ptr t2 0, ptr t3 0]]) :: (t2, 0, [ptr t7 0]) :: (t3, 0, [.int .i64 n]) :: (t7, 0, [.slice none 0 0]) :: (0, 0, ([] : List It).flatMap encA ++ []) :: E)) h := (s.empty 0 0).perm (by ((apply perm_rg; intro f; simp only [List.set_cons_zero, List.set_cons_succ, List.eraseIdx_cons_zero, List.eraseIdx_cons_succ, List.cons_append, List.nil_append, List.map_append, List.map_cons, List.map_nil, List.sum_append, List.sum_cons, List.sum_nil, List.map_flatMap, Nat.add_zero, Nat.zero_add]; ac_rfl)))
  obtain ⟨s1, back⟩ := s0.borrow
  refine Ascend_ok (x := x) (J := KeepJ h0 (((tb, 0, hdr iso ctr (rA g) cnt mn mx) :: rAll g) ++ Z) E t2 t3 t5 t7 n) (cont := upTo n) (N := 4294967296) M (List.mem_append.2 (.inl (List.mem_cons_self ..))) (fun r hr => List.mem_append.2 (.inl (List.mem_cons_of_mem _ hr))) (fun r hr => (s0.e r (List.mem_append.2 (.inl (List.mem_cons_of_mem _ hr)))).2)
    (fun p h hj => by obtain ⟨v, b, o, sp, w, s⟩ := hj; exact ⟨_, s⟩) (fun p x h K hp hj HK => keep_cb p x h K hp hj HK) (by omega) ⟨_, 0, 0, [], Own.nil 2 0 0, s1⟩ fun h' hj => ?_
  rw [feed_first] at hj
  obtain ⟨v, b, o, sp, w, s⟩ := hj
  have s := back _ h' s
  exact H v b o sp h' w ((s.perm (E' := (t5, 0, _) :: (t2, 0, _) :: (t3, 0, _) :: (t7, 0, [v]) :: (b, o, _) :: (((tb, 0, hdr iso ctr (rA g) cnt mn mx) :: rAll g) ++ E)) (by ((apply perm_rg; intro f; simp only [List.set_cons_zero, List.set_cons_succ, List.eraseIdx_cons_zero, List.eraseIdx_cons_succ, List.cons_append, List.nil_append, List.map_append, List.map_cons, List.map_nil, List.sum_append, List.sum_cons, List.sum_nil, List.map_flatMap, Nat.add_zero, Nat.zero_add]; ac_rfl)))).drop 3)
end Go.Proofs.Ytlihjljdndbpdaa.Ii
