/-
  What setting an item anywhere below a node of a map comes to.
  Conditions: as of XKc's.
-/
import Derived.Test.YtlihjljdndbpdaaKdIi
import Derived.Test.YtlihjljdndbpdaaS6
namespace Go.Proofs.Ytlihjljdndbpdaa.Ii
open Go.Hp Go.Proofs.Ytlihjljdndbpdaa
set_option linter.unusedVariables false
set_option linter.unusedSimpArgs false
variable {h0 h : Heap} {Z E : List Rg} {Q : Value → Heap → Prop}
abbrev pp (m : Nat) : Value := ptr m 0
theorem fpv (l : List Nat) : l.flatMap fp = (l.map pp).flatMap fv := by rw [flat_fv]; exact List.map_eq_flatMap.symm

theorem SetOk.succ {tb m : Nat} {iso mn : Int} {ctr : Option Addr} {x : It} (htb : h0.size ≤ tb) (hT0 : (tb, 0, hd0 iso ctr) ∈ Z) (hT4 : (tb, 4, hd4 mn m) ∈ Z) (hm1 : m ≤ 1024) (ho : m % 2 = 1) {k : Nat} (ih : SetOk h0 Z tb m iso x k) : SetOk h0 Z tb m iso x (k + 1) := by
  intro t h E Q pb po lo fl ha hsz g s H
  by_cases hns : ∀ c, t.pt.2[pos lt t.pt.1 x]? = some c → lget lt t.pt.1 x = none → c.splits lt m x = false
  · have hsp : t.pt.splits lt m x = false := by
      cases e : t.pt.splits lt m x with
      | false => rfl
      | true =>
        obtain ⟨_, e2⟩ := PT.splits_len e
        have e2 : lget lt t.pt.1 x = none := e2
        obtain ⟨c, hc, _⟩ := PT.step swo fl ha e2
        rw [PT.splits_kid e2 hc, hns c hc e2] at e
        simp at e
    refine set_noSplit htb hT0 hT4 hm1 ho ih t fl ha hsz g s hns fun t' h' h1 h2 h3 s => ?_
    have := H t' h' (by rw [hsp]; exact h1) h2 h3 s
    rw [hsp] at this; exact this
  have hex : ∃ cp, t.pt.2[pos lt t.pt.1 x]? = some cp ∧ lget lt t.pt.1 x = none ∧ cp.splits lt m x = true := by
    apply Classical.byContradiction
    intro hno
    refine hns fun c h1 h2 => ?_
    cases e : c.splits lt m x with
    | false => rfl
    | true => exact absurd ⟨c, h1, h2, e⟩ hno
  clear hns
  obtain ⟨cp, hcp, hn, hcs⟩ := hex
  obtain ⟨c0, hc0, hcm, hac, hg0, _⟩ := PT.step swo fl ha hn
  have : c0 = cp := Option.some.inj (hc0.symm.trans hcp)
  subst this
  have hgn := PT.splits_get swo (fl.2.2.2 _ hcm) hac hcs
  have hgt : t.pt.get lt x = none := by rw [PT.get_items swo fl ha, hg0, hgn]
  have hgc : c0.get lt x = none := by rw [PT.get_items swo (fl.2.2.2 _ hcm) hac, hgn]
  obtain ⟨md, hmd, _⟩ := PT.halves swo ho (fl.2.2.2 _ hcm) hac hcs
  obtain ⟨d, ts⟩ := t
  obtain ⟨own, n, is', cnt, its, iv, ib, io, isp, kb, kv, krb, kro, ksp⟩ := d
  have w : Own 2 iv its.length ib io (its.flatMap enc) isp := g.wf.1.1
  have wK : Own 1 kv ts.length krb kro ((ts.map GT.id).map fun m => ptr m 0) ksp := g.wf.2.1
  have hkl : ts.length = its.length + 1 := g.wf.2.2.1
  have hidl : (ts.map GT.id).length = ts.length := List.length_map ..
  have hom : own = true := g.mine.1
  have hiso : is' = iso := g.wf.1.2.1 hom
  subst hiso; subst hom
  have hlen : its.length ≤ m := fl.2.1
  have hn : lget lt its x = none := hn
  have hcp : (ts.map GT.pt)[pos lt its x]? = some c0 := hcp
  have ha1 : Asc lt its := asc_of_sub ha (PT.its_sub1 (its, ts.map GT.pt))
  rw [← hidl, mfp] at wK
  have hcn : cnt = (PT.items (h := k + 1) (its, ts.map GT.pt)).length := g.cn.1
  have s : St h0 Z ((pb, po, [ptr n 0]) :: (n, 0, [.int .u64 is', .int .i64 cnt, iv, ptr kb 0]) :: (ib, io, its.flatMap enc ++ isp) :: (kb, 0, [kv]) :: (krb, kro, ((ts.map GT.id).map fun m => ptr m 0) ++ ksp) :: (ts.flatMap (GT.all enc) ++ E)) h := s
  rw [mfp] at s
  refine set_head hT0 ha1 (by omega) w s (fun y h' hy s => by rw [hn] at hy; cases hy) fun t5 t9 h' _ s => ?_
  have hp := pos_le (lt := lt) its x
  obtain ⟨c, hc⟩ : ∃ c, ts[pos lt its x]? = some c := ⟨ts[pos lt its x]'(by omega), List.getElem?_eq_getElem (by omega)⟩
  have : c0 = c.pt := by
    rw [List.getElem?_map, hc] at hcp
    exact (Option.some.inj hcp).symm
  subst this
  have hcmem := List.mem_of_getElem? hc
  have hcsz : c.pt.items.length ≤ 4611686018427387903 := by
    have h1 : (inter its ((ts.map GT.pt).map PT.items)).length = _ := inter_length _ _
    have h2 : (inter its ((ts.map GT.pt).map PT.items)).length ≤ 4611686018427387903 := hsz
    have h3 : c.pt.items.length ≤ (((ts.map GT.pt).map PT.items).map List.length).sum := mem_le_sum (by
      rw [List.map_map, List.map_map]; exact List.mem_map.2 ⟨c, hcmem, rfl⟩)
    omega
  unfold Map_ii_nodeSet.j1
  refine St.r_load0 s 0 rfl rfl ?_
  refine leaf_ok (a := some ⟨kb, 0, none⟩) (s.get (k := 3) (j := 3) rfl (by simp)) ?_
  refine r_if (fun e => absurd e (by simp)) (fun _ => ?_)
  unfold Map_ii_nodeSet.j2
  refine St.r_load0 s 0 rfl rfl ?_
  refine r_nil ?_
  refine r_fld ?_
  refine St.r_load0 s 3 rfl rfl ?_
  refine r_nil ?_
  refine St.r_load0 s 5 rfl rfl ?_
  refine wK.idx (n := pos lt its x) rfl (by omega) ?_
  refine St.r_loadN0 s 1 rfl (by simp) ?_
  obtain ⟨E', sk, back⟩ := lend_kid (A := (t9, 0, [ptr n 0]) :: (t5, 0, enc x) :: (pb, po, [ptr n 0]) :: (n, 0, [.int .u64 is', .int .i64 cnt, iv, ptr kb 0]) :: (ib, io, its.flatMap enc ++ isp) :: (kb, 0, [kv]) :: []) (E := E) (kb := kb) (kv := kv) hc s
  refine ih c (fl.2.2.2 _ hcm) hac hcsz (g.kid hcmem) sk fun c' h' hc1 hc2 hc3 s => ?_
  rw [hcs, hgc]
  rw [hcs] at hc1
  simp only [↓reduceIte] at hc1
  have s := back c' h' hc2 s
  have s : St h0 Z ((t9, 0, [ptr n 0]) :: (t5, 0, enc x) :: (pb, po, [ptr n 0]) :: (n, 0, [.int .u64 is', .int .i64 cnt, iv, ptr kb 0]) :: (ib, io, its.flatMap enc ++ isp) :: (kb, 0, [kv]) :: (krb, kro, ((ts.set (pos lt its x) c').map GT.id).flatMap fp ++ ksp) :: ((ts.set (pos lt its x) c').flatMap (GT.all enc) ++ E)) h' := s
  have hi := (List.getElem?_eq_some_iff.1 hc).1
  have hc' : (ts.set (pos lt its x) c')[pos lt its x]? = some c' := List.getElem?_set_self hi
  have ept : (ts.set (pos lt its x) c').map GT.pt = ts.map GT.pt := by
    apply List.ext_getElem?
    intro j
    rw [List.map_set, List.getElem?_set]
    split
    · rename_i e; subst e
      simp only [List.length_map, hi, if_true]
      rw [hc1]; exact hcp.symm
    · rfl
  have g1 : Gd is' (k := k + 1) ((⟨true, n, is', cnt, its, iv, ib, io, isp, kb, kv, krb, kro, ksp⟩ : Nd It), ts.set (pos lt its x) c') :=
    Gd.setKid g hc hc2 hc3 (by show cnt = ((PT.items (h := k + 1) (its, (ts.set (pos lt its x) c').map GT.pt)).length : Int); rw [ept]; exact hcn)
  refine r_ext rfl ?_
  refine r_ext rfl ?_
  refine r_ext rfl ?_
  refine r_if (fun _ => ?_) (fun e => absurd e (by simp))
  refine St.r_load0 s 0 rfl rfl ?_
  refine r_nil ?_
  refine r_fld ?_
  refine St.r_load0 s 3 rfl rfl ?_
  refine w.lenV ?_
  refine r_nil ?_
  refine r_fld ?_
  refine s.r_lz hT4 3 rfl rfl ?_
  refine r_cmpI ?_
  refine r_if (fun hfull => ?_) (fun hroom => ?_)
  · have hfull : its.length = m := Int.ofNat_inj.1 (by simpa using hfull)
    have hsp : PT.splits lt m (h := k + 1) (its, ts.map GT.pt) x = true := by rw [PT.splits_kid (t := (its, ts.map GT.pt)) hn hcp, hcs]; simpa using hfull
    refine r_nil ?_
    refine r_fld ?_
    refine r_fld ?_
    refine s.r_lz hT4 0 rfl rfl ?_
    have := H ((⟨true, n, is', cnt, its, iv, ib, io, isp, kb, kv, krb, kro, ksp⟩ : Nd It), ts.set (pos lt its x) c') h' (by
      show (its, (ts.set (pos lt its x) c').map GT.pt) = if PT.splits lt m (h := k + 1) (its, ts.map GT.pt) x = true then _ else _
      rw [hsp, ept]; rfl) rfl g1 (by rw [← mfp] at s; exact s.drop 2)
    change Q (.tuple #[old (PT.get lt (h := k + 1) (its, ts.map GT.pt) x), .bool (PT.get lt (h := k + 1) (its, ts.map GT.pt) x).isSome, .bool (PT.splits lt m (h := k + 1) (its, ts.map GT.pt) x)]) h' at this
    have hgt : PT.get lt (h := k + 1) (its, ts.map GT.pt) x = none := hgt
    rw [hsp, hgt] at this
    exact this
  · have hroom : its.length ≠ m := fun e => by rw [e] at hroom; simp at hroom
    have hsp : PT.splits lt m (h := k + 1) (its, ts.map GT.pt) x = false := by rw [PT.splits_kid (t := (its, ts.map GT.pt)) hn hcp]; simp [hroom]
    obtain ⟨q1, q2, q3, q4, q5⟩ := PT.set_split (t := (its, ts.map GT.pt)) swo ho fl ha hn hcp hcs hmd hroom
    unfold Map_ii_nodeSet.j5
    refine St.r_load0 s 0 rfl rfl ?_
    refine r_nil ?_
    refine r_fld ?_
    refine St.r_load0 s 3 rfl rfl ?_
    refine r_nil ?_
    refine St.r_load0 s 5 rfl rfl ?_
    have wk1 : Own 1 kv ((ts.set (pos lt its x) c').map GT.id).length krb kro (((ts.set (pos lt its x) c').map GT.id).flatMap fp) ksp := by rw [set_ids hc hc2]; exact wK
    refine wk1.idx (n := pos lt its x) rfl (by rw [List.length_map, List.length_set]; omega) ?_
    refine r_loadM1 s 6 rfl hc' ?_
    have hcl : c'.pt.its.length = m := by rw [hc1]; exact (PT.splits_len hcs).1
    have etake : (ts.set (pos lt its x) c').take (pos lt its x) = ts.take (pos lt its x) := List.take_set_of_le (Nat.le_refl _)
    have edrop : (ts.set (pos lt its x) c').drop (pos lt its x + 1) = ts.drop (pos lt its x + 1) := List.drop_set_of_lt (by omega)
    refine nodeSplit_ok c' (m := m) (E := (t9, 0, [ptr n 0]) :: (t5, 0, enc x) :: (pb, po, [ptr n 0]) :: (n, 0, [.int .u64 is', .int .i64 cnt, iv, ptr kb 0]) :: (ib, io, its.flatMap enc ++ isp) :: (kb, 0, [kv]) :: (krb, kro, (ts.map GT.id).flatMap fp ++ ksp) :: ((ts.take (pos lt its x)).flatMap (GT.all enc) ++ ((ts.drop (pos lt its x + 1)).flatMap (GT.all enc) ++ E)))
      hT0 hT4 (by omega) (by omega) (by rw [hc1]; exact fl.2.2.2 _ hcm) hcl (by rw [hc1]; omega) hc3 (s.perm ?_) fun l r md' h hmd' hl hr hlid gl gr s => ?_
    · rw [set_ids hc hc2, flat_at3 (GT.all enc) hc', etake, edrop]; ((apply perm_rg; intro f; simp only [List.set_cons_zero, List.set_cons_succ, List.eraseIdx_cons_zero, List.eraseIdx_cons_succ, List.cons_append, List.nil_append, List.map_append, List.map_cons, List.map_nil, List.sum_append, List.sum_cons, List.sum_nil, List.map_flatMap, Nat.add_zero, Nat.zero_add]; ac_rfl))
    have : md' = md := by rw [hc1] at hmd'; exact Option.some.inj (hmd'.symm.trans hmd)
    subst this
    rw [hc1] at hl hr
    have s : St h0 Z ((t9, 0, [ptr n 0]) :: (t5, 0, enc x) :: (pb, po, [ptr n 0]) :: (n, 0, [.int .u64 is', .int .i64 cnt, iv, ptr kb 0]) :: (ib, io, its.flatMap enc ++ isp) :: (kb, 0, [kv]) :: (krb, kro, ((ts.map GT.id).map pp).flatMap fv ++ ksp) :: ((ts.take (pos lt its x) ++ l :: r :: ts.drop (pos lt its x + 1)).flatMap (GT.all enc) ++ E)) h :=
      s.perm (by rw [← fpv, List.flatMap_append, List.flatMap_cons, List.flatMap_cons]; ((apply perm_rg; intro f; simp only [List.set_cons_zero, List.set_cons_succ, List.eraseIdx_cons_zero, List.eraseIdx_cons_succ, List.cons_append, List.nil_append, List.map_append, List.map_cons, List.map_nil, List.sum_append, List.sum_cons, List.sum_nil, List.map_flatMap, Nat.add_zero, Nat.zero_add]; ac_rfl)))
    rw [fpv] at wK
    have hpl : ((ts.map GT.id).map pp).length = ts.length := by rw [List.length_map, List.length_map]
    have elp : (ts.map GT.id).length = ((ts.map GT.id).map pp).length := List.length_map .. |>.symm
    rw [elp] at wK
    generalize hL : (ts.map GT.id).map pp = L at s wK hpl
    refine r_ext rfl ?_
    refine r_ext rfl ?_
    refine s.r_alloc fun t13 h s => ?_
    refine St.r_storeN0 s 0 rfl rfl (by simp) (enc1 _) ?_; intro h s
    refine St.r_load0 s 1 rfl rfl ?_
    refine r_nil ?_
    refine r_fld ?_
    refine St.r_load0 s 4 rfl rfl ?_
    refine St.r_load0 s 1 rfl rfl ?_
    refine r_nil ?_
    refine r_fld ?_
    refine St.r_load0 s 4 rfl rfl ?_
    refine r_nil ?_
    refine St.r_load0 s 6 rfl rfl ?_
    refine St.r_mkSl (sz := 1) (cs := [.pointer none]) s (by ((simp only [fillV, fill1, Value.cells, zeros_succ, zeros_zero, List.size_toArray, List.length_cons, List.length_nil, List.length_append, List.take_succ_cons, List.take_zero, List.take_nil, List.drop_succ_cons, List.drop_zero, List.drop_nil, List.cons_append, List.nil_append, List.append_nil, Nat.reduceAdd, Nat.reduceMul, Nat.reduceLeDiff, Nat.reduceEqDiff, and_self, and_true, true_and, if_true, Nat.le_refl, Nat.zero_add, Nat.add_zero, Nat.zero_mul, reduceIte, if_false] <;> rfl))) rfl fun q h s w1 => ?_
    refine And.intro (by exact St.r_still0 s 2 rfl rfl) ?_
    refine And.intro (by exact St.r_still0 s 5 rfl rfl) ?_
    refine And.intro (by exact St.r_still0 s 2 rfl rfl) ?_
    refine And.intro (by exact St.r_still0 s 5 rfl rfl) ?_
    refine ⟨by refine St.r_still0 s 7 rfl rfl, ?_⟩
    refine St.r_app s 8 (sz := 1) (n := 1) (new := [.pointer none]) rfl wK rfl (w1.rdl s 0 rfl) (by simp [one1]) (by omega) (by omega) fun kv' krb' kro' ksp' h s wk' => ?_
    rw [snoc_fv] at s wk'
    have wk' : Own 1 kv' (L ++ [Value.pointer none]).length krb' kro' ((L ++ [Value.pointer none]).flatMap fv) ksp' := by rw [List.length_append]; exact wk'
    refine And.intro (by exact St.r_still0 s 2 rfl rfl) ?_
    refine And.intro (by exact St.r_still0 s 5 rfl rfl) ?_
    refine r_nil ?_
    refine St.r_store0 s 7 rfl (by simp) wk'.one ?_; intro h s
    refine St.r_load0 s 2 rfl rfl ?_
    refine r_nil ?_
    refine r_fld ?_
    refine St.r_load0 s 5 rfl rfl ?_
    refine r_nil ?_
    refine St.r_load0 s 7 rfl rfl ?_
    refine r_add (z := ((pos lt its x + 1 : Nat) : Int)) (by rw [i64w (by omega) (by omega)]; omega) ?_
    refine wk'.slcLo fvl (i := pos lt its x + 1) rfl (by simp; omega) fun dd wd => ?_
    refine St.r_load0 s 2 rfl rfl ?_
    refine r_nil ?_
    refine r_fld ?_
    refine St.r_load0 s 5 rfl rfl ?_
    refine r_nil ?_
    refine St.r_load0 s 7 rfl rfl ?_
    refine (wk'.rdl s 8 rfl).slcLo fvl (i := pos lt its x) rfl (by simp; omega) fun src rs => ?_
    refine s.r_cpyF fvl 8 (L := L ++ [Value.pointer none]) (M := (L ++ [Value.pointer none]).drop (pos lt its x)) rfl wd (by simp; omega) rs rfl (fun y hy => ?_) fun h s => ?_
    · have hy := List.mem_of_mem_drop hy
      intro z hz
      rw [List.mem_singleton.1 hz]
      rcases List.mem_append.1 hy with e | e
      · rw [← hL] at e; obtain ⟨a, _, rfl⟩ := List.mem_map.1 e; rfl
      · rw [List.mem_singleton.1 e]; rfl
    refine St.r_load0 s 2 rfl rfl ?_
    refine r_nil ?_
    refine r_fld ?_
    refine St.r_load0 s 5 rfl rfl ?_
    refine r_nil ?_
    refine St.r_load0 s 7 rfl rfl ?_
    refine r_add (z := ((pos lt its x + 1 : Nat) : Int)) (by rw [i64w (by omega) (by omega)]; omega) ?_
    refine wk'.idx (n := pos lt its x + 1) rfl (by simp; omega) ?_
    refine s.r_storeV (v := ptr r.id 0) 8 rfl (by simp; omega) rfl fun h s => ?_
    rw [List.set_set, ins_steps2 L (.pointer none) (ptr r.id 0) (by omega)] at s
    refine St.r_load0 s 2 rfl rfl ?_
    refine St.r_load0 s 2 rfl rfl ?_
    refine r_nil ?_
    refine r_fld ?_
    refine St.r_load0 s 5 rfl rfl ?_
    refine r_nil ?_
    refine r_fld ?_
    refine s.r_lzE hT4 0 (enc emp) rfl (by simp) rfl ?_
    refine St.r_mkSl (sz := 2) (cs := enc emp) s (by ((simp only [fillV, fill1, Value.cells, zeros_succ, zeros_zero, List.size_toArray, List.length_cons, List.length_nil, List.length_append, List.take_succ_cons, List.take_zero, List.take_nil, List.drop_succ_cons, List.drop_zero, List.drop_nil, List.cons_append, List.nil_append, List.append_nil, Nat.reduceAdd, Nat.reduceMul, Nat.reduceLeDiff, Nat.reduceEqDiff, and_self, and_true, true_and, if_true, Nat.le_refl, Nat.zero_add, Nat.add_zero, Nat.zero_mul, reduceIte, if_false] <;> rfl))) rfl fun qq h s w2 => ?_
    refine And.intro (by exact St.r_still0 s 3 rfl rfl) ?_
    refine And.intro (by exact St.r_still0 s 3 rfl rfl) ?_
    refine And.intro (by exact St.r_still0 s 6 rfl rfl) ?_
    refine St.r_app s 7 (sz := 2) (n := 1) (new := enc emp) rfl w rfl (w2.rdl s 0 rfl) (enc1 _) (by omega) (by omega) fun iv' ib' io' isp' h s w' => ?_
    rw [snoc_enc] at s w'
    have w' : Own 2 iv' (its ++ [emp]).length ib' io' ((its ++ [emp]).flatMap enc) isp' := by rw [List.length_append]; exact w'
    refine And.intro (by exact St.r_still0 s 3 rfl rfl) ?_
    refine r_nil ?_
    refine r_fld ?_
    refine St.r_store0 s 6 rfl (by simp) w'.one ?_; intro h s
    refine St.r_load0 s 3 rfl rfl ?_
    refine r_nil ?_
    refine r_fld ?_
    refine St.r_load0 s 6 rfl rfl ?_
    refine r_add (z := ((pos lt its x + 1 : Nat) : Int)) (by rw [i64w (by omega) (by omega)]; omega) ?_
    refine w'.slcLo encl (i := pos lt its x + 1) rfl (by simp; omega) fun dd2 wd2 => ?_
    refine St.r_load0 s 3 rfl rfl ?_
    refine r_nil ?_
    refine r_fld ?_
    refine St.r_load0 s 6 rfl rfl ?_
    refine (w'.rdl s 7 rfl).slcLo encl (i := pos lt its x) rfl (by simp; omega) fun src2 rs2 => ?_
    refine s.r_cpyF encl 7 (L := its ++ [emp]) (M := (its ++ [emp]).drop (pos lt its x)) rfl wd2 (by simp; omega) rs2 rfl (fun y _ => enc1 y) fun h s => ?_
    refine St.r_load0 s 3 rfl rfl ?_
    refine r_nil ?_
    refine r_fld ?_
    refine St.r_load0 s 6 rfl rfl ?_
    refine St.r_loadN0 s 2 rfl (by simp) ?_
    refine w'.idx (n := pos lt its x) rfl (by simp; omega) ?_
    refine s.r_storeF (x := md') encl 7 rfl (by simp; omega) (enc1 _) fun h s => ?_
    rw [List.set_set, ins_steps its emp md' hp] at s
    refine St.r_loadN0 s 4 rfl (by simp) ?_
    have hil := ins_length (x := md') hp
    have e8 : ins L (pos lt its x + 1) (ptr r.id 0) = ((ts.take (pos lt its x) ++ l :: r :: ts.drop (pos lt its x + 1)).map GT.id).map pp := by
      have e9 : ts.take (pos lt its x + 1) = ts.take (pos lt its x) ++ [c] := by rw [List.take_add_one, hc]; rfl
      unfold ins
      rw [← hL, ← List.map_take, ← List.map_take, ← List.map_drop, ← List.map_drop, e9]
      simp only [List.map_append, List.map_cons, List.map_nil, List.append_assoc, List.cons_append, List.nil_append, hlid, hc2]
    rw [e8, ← fpv] at s
    have hl2 : ((ts.take (pos lt its x) ++ l :: r :: ts.drop (pos lt its x + 1)).map GT.id).length = (L ++ [Value.pointer none]).length := by simp; omega
    have wk2 : Own 1 kv' (ts.take (pos lt its x) ++ l :: r :: ts.drop (pos lt its x + 1)).length krb' kro' (((ts.take (pos lt its x) ++ l :: r :: ts.drop (pos lt its x + 1)).map GT.id).flatMap fp) ksp' := by
      rw [← hl2, List.length_map] at wk'
      exact wk'.cong (by rw [flat_len fpl, flat_len fvl, hl2])
    have w2' : Own 2 iv' (ins its (pos lt its x) md').length ib' io' ((ins its (pos lt its x) md').flatMap enc) isp' := by
      rw [show (ins its (pos lt its x) md').length = (its ++ [emp]).length by rw [hil]; simp]
      exact w'.cong (by rw [flat_len encl, flat_len encl, hil]; simp)
    have ept2 : (ts.take (pos lt its x) ++ l :: r :: ts.drop (pos lt its x + 1)).map GT.pt = (ts.map GT.pt).take (pos lt its x) ++ c.pt.lo (m / 2) :: c.pt.hi (m / 2) :: (ts.map GT.pt).drop (pos lt its x + 1) := by
      rw [List.map_append, List.map_cons, List.map_cons, List.map_take, List.map_drop, hl, hr]
    have g2 : Gd is' (k := k + 1) ((⟨true, n, is', cnt, ins its (pos lt its x) md', iv', ib', io', isp', kb, kv', krb', kro', ksp'⟩ : Nd It), ts.take (pos lt its x) ++ l :: r :: ts.drop (pos lt its x + 1)) := by
      refine Gd.inner w2' rfl rfl wk2 (by show _ = (ins its (pos lt its x) md').length + 1; rw [hil]; simp; omega) (fun q hq => ?_) ?_
      · rcases List.mem_append.1 hq with e | e
        · exact g.kid (List.mem_of_mem_take e)
        · rcases List.mem_cons.1 e with e | e
          · rw [e]; exact gl
          · rcases List.mem_cons.1 e with e | e
            · rw [e]; exact gr
            · exact g.kid (List.mem_of_mem_drop e)
      · show cnt = ((PT.items (h := k + 1) (ins its (pos lt its x) md', (ts.take (pos lt its x) ++ l :: r :: ts.drop (pos lt its x + 1)).map GT.pt)).length : Int)
        rw [ept2, q1]; exact hcn
    have hpt2 : GT.pt (h := k + 1) ((⟨true, n, is', cnt, ins its (pos lt its x) md', iv', ib', io', isp', kb, kv', krb', kro', ksp'⟩ : Nd It), ts.take (pos lt its x) ++ l :: r :: ts.drop (pos lt its x + 1)) = (ins its (pos lt its x) md', (ts.map GT.pt).take (pos lt its x) ++ c.pt.lo (m / 2) :: c.pt.hi (m / 2) :: (ts.map GT.pt).drop (pos lt its x + 1)) := by
      show (_, _) = _; rw [ept2]
    have s : St h0 Z ((t9, 0, [ptr n 0]) :: ((GT.all enc (h := k + 1) ((⟨true, n, is', cnt, ins its (pos lt its x) md', iv', ib', io', isp', kb, kv', krb', kro', ksp'⟩ : Nd It), ts.take (pos lt its x) ++ l :: r :: ts.drop (pos lt its x + 1))) ++ ((pb, po, [ptr n 0]) :: E))) h := by
      have s1 : St h0 Z ((t9, 0, [ptr n 0]) :: (n, 0, [.int .u64 is', .int .i64 cnt, iv', ptr kb 0]) :: (ib', io', (ins its (pos lt its x) md').flatMap enc ++ isp') :: (kb, 0, [kv']) :: (krb', kro', ((ts.take (pos lt its x) ++ l :: r :: ts.drop (pos lt its x + 1)).map GT.id).flatMap fp ++ ksp') :: ((ts.take (pos lt its x) ++ l :: r :: ts.drop (pos lt its x + 1)).flatMap (GT.all enc) ++ ((pb, po, [ptr n 0]) :: E))) h :=
        (s.perm (E' := (qq, 0, _) :: (q, 0, _) :: (t13, 0, _) :: (t5, 0, _) :: _) (by ((apply perm_rg; intro f; simp only [List.set_cons_zero, List.set_cons_succ, List.eraseIdx_cons_zero, List.eraseIdx_cons_succ, List.cons_append, List.nil_append, List.map_append, List.map_cons, List.map_nil, List.sum_append, List.sum_cons, List.sum_nil, List.map_flatMap, Nat.add_zero, Nat.zero_add]; ac_rfl)))).drop 4
      rw [← mfp] at s1
      exact s1
    refine set_noSplit htb hT0 hT4 hm1 ho ih _ (by rw [hpt2]; exact q2) (by rw [hpt2, q1]; exact ha) (by rw [hpt2, q1]; exact hsz) g2 s (fun c2 h1 h2 => ?_) fun t' h' h1 h2 h3 s => ?_
    · rw [hpt2] at h1
      obtain ⟨c3, h3, h4⟩ := q4
      have : c2 = c3 := Option.some.inj (h1.symm.trans h3)
      rw [this]; exact h4
    · have hgt2 : PT.get lt (GT.pt (h := k + 1) ((⟨true, n, is', cnt, ins its (pos lt its x) md', iv', ib', io', isp', kb, kv', krb', kro', ksp'⟩ : Nd It), ts.take (pos lt its x) ++ l :: r :: ts.drop (pos lt its x + 1))) x = none := by
        rw [hpt2, PT.get_items swo q2 (by rw [q1]; exact ha), q1, ← PT.get_items (h := k + 1) (t := (its, ts.map GT.pt)) swo fl ha]; exact hgt
      rw [hgt2]
      refine r_ext rfl ?_
      refine r_ext rfl ?_
      refine r_ext rfl ?_
      have := H t' h' (by
        show _ = if PT.splits lt m (h := k + 1) (its, ts.map GT.pt) x = true then _ else _
        rw [hsp, h1, hpt2, q5]; rfl) h2 h3 ((s.drop 1).perm List.perm_middle.symm)
      change Q (.tuple #[old (PT.get lt (h := k + 1) (its, ts.map GT.pt) x), .bool (PT.get lt (h := k + 1) (its, ts.map GT.pt) x).isSome, .bool (PT.splits lt m (h := k + 1) (its, ts.map GT.pt) x)]) h' at this
      have hgt : PT.get lt (h := k + 1) (its, ts.map GT.pt) x = none := hgt
      rw [hsp, hgt] at this
      exact this

theorem SetOk.all {tb m : Nat} {iso mn : Int} {ctr : Option Addr} {x : It} (htb : h0.size ≤ tb) (hT0 : (tb, 0, hd0 iso ctr) ∈ Z) (hT4 : (tb, 4, hd4 mn m) ∈ Z) (hm1 : m ≤ 1024) (ho : m % 2 = 1) : ∀ k, SetOk h0 Z tb m iso x k
  | 0 => SetOk.zero htb hT0 hT4 hm1
  | k + 1 => SetOk.succ htb hT0 hT4 hm1 ho (SetOk.all htb hT0 hT4 hm1 ho k)
end Go.Proofs.Ytlihjljdndbpdaa.Ii
