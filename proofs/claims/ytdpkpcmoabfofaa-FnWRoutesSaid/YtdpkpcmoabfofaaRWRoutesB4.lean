/-
  Texts of this claim, laid together: KeSi KfSi KzSi KgSi KhSi KiSi KjSi KnSi KoSi KpSi KvSi KCSi Wa Wf Vp Vq Vu.
  Conditions: as each of them tells.
-/
import Derived.Test.YtdpkpcmoabfofaaRWRoutesB3
import Derived.Scope
import Derived.ScopeJumps
section
namespace Go.Proofs.Ytdpkpcmoabfofaa.Si
open Go.Hp Go.Proofs.Ytdpkpcmoabfofaa
set_option linter.unusedVariables false
set_option linter.unusedSimpArgs false
variable {h0 h : Heap} {Z E : List Rg} {Q : Value → Heap → Prop}
abbrev pp (m : Nat) : Value := ptr m 0
theorem fpv (l : List Nat) : l.flatMap fp = (l.map pp).flatMap fv := by rw [flat_fv]; exact List.map_eq_flatMap.symm

theorem SetOk.succ {tb m : Nat} {iso mn : Int} {ctr : Option Addr} {x : It} (htb : h0.size ≤ tb) (hT0 : (tb, 0, hd0 iso ctr) ∈ Z) (hT4 : (tb, 4, hd4 mn m) ∈ Z) (hm1 : m ≤ 1024) (ho : m % 2 = 1) {k : Nat} (ih : SetOk h0 Z tb m iso x k) : SetOk h0 Z tb m iso x (k + 1) := by
  intro t h E Q pb po lo fl ha hsz g s H
  by_cases hns : ∀ c, t.pt.2[pos lt t.pt.1 x]? = some c → lget lt t.pt.1 x = none → c.splits lt m x = false
  · have hsp : t.pt.splits lt m x = false := by
      cases e : t.pt.splits lt m x with
      | false => rfl
      | true =>
        obtain ⟨_, e2⟩ := PT.splits_len e
        have e2 : lget lt t.pt.1 x = none := e2
        obtain ⟨c, hc, _⟩ := PT.step swo fl ha e2
        rw [PT.splits_kid e2 hc, hns c hc e2] at e
        simp at e
    refine set_noSplit htb hT0 hT4 hm1 ho ih t fl ha hsz g s hns fun t' h' h1 h2 h3 s => ?_
    have := H t' h' (by rw [hsp]; exact h1) h2 h3 s
    rw [hsp] at this; exact this
  have hex : ∃ cp, t.pt.2[pos lt t.pt.1 x]? = some cp ∧ lget lt t.pt.1 x = none ∧ cp.splits lt m x = true := by
    apply Classical.byContradiction
    intro hno
    refine hns fun c h1 h2 => ?_
    cases e : c.splits lt m x with
    | false => rfl
    | true => exact absurd ⟨c, h1, h2, e⟩ hno
  clear hns
  obtain ⟨cp, hcp, hn, hcs⟩ := hex
  obtain ⟨c0, hc0, hcm, hac, hg0, _⟩ := PT.step swo fl ha hn
  have : c0 = cp := Option.some.inj (hc0.symm.trans hcp)
  subst this
  have hgn := PT.splits_get swo (fl.2.2.2 _ hcm) hac hcs
  have hgt : t.pt.get lt x = none := by rw [PT.get_items swo fl ha, hg0, hgn]
  have hgc : c0.get lt x = none := by rw [PT.get_items swo (fl.2.2.2 _ hcm) hac, hgn]
  obtain ⟨md, hmd, _⟩ := PT.halves swo ho (fl.2.2.2 _ hcm) hac hcs
  obtain ⟨d, ts⟩ := t
  obtain ⟨own, n, is', cnt, its, iv, ib, io, isp, kb, kv, krb, kro, ksp⟩ := d
  have w : Own 2 iv its.length ib io (its.flatMap enc) isp := g.wf.1.1
  have wK : Own 1 kv ts.length krb kro ((ts.map GT.id).map fun m => ptr m 0) ksp := g.wf.2.1
  have hkl : ts.length = its.length + 1 := g.wf.2.2.1
  have hidl : (ts.map GT.id).length = ts.length := List.length_map ..
  have hom : own = true := g.mine.1
  have hiso : is' = iso := g.wf.1.2.1 hom
  subst hiso; subst hom
  have hlen : its.length ≤ m := fl.2.1
  have hn : lget lt its x = none := hn
  have hcp : (ts.map GT.pt)[pos lt its x]? = some c0 := hcp
  have ha1 : Asc lt its := asc_of_sub ha (PT.its_sub1 (its, ts.map GT.pt))
  rw [← hidl, mfp] at wK
  have hcn : cnt = (PT.items (h := k + 1) (its, ts.map GT.pt)).length := g.cn.1
  have s : St h0 Z ((pb, po, [ptr n 0]) :: (n, 0, [.int .u64 is', .int .i64 cnt, iv, ptr kb 0]) :: (ib, io, its.flatMap enc ++ isp) :: (kb, 0, [kv]) :: (krb, kro, ((ts.map GT.id).map fun m => ptr m 0) ++ ksp) :: (ts.flatMap (GT.all enc) ++ E)) h := s
  rw [mfp] at s
  refine set_head hT0 ha1 (by omega) w s (fun y h' hy s => by rw [hn] at hy; cases hy) fun t5 t9 h' _ s => ?_
  have hp := pos_le (lt := lt) its x
  obtain ⟨c, hc⟩ : ∃ c, ts[pos lt its x]? = some c := ⟨ts[pos lt its x]'(by omega), List.getElem?_eq_getElem (by omega)⟩
  have : c0 = c.pt := by
    rw [List.getElem?_map, hc] at hcp
    exact (Option.some.inj hcp).symm
  subst this
  have hcmem := List.mem_of_getElem? hc
  have hcsz : c.pt.items.length ≤ 4611686018427387903 := by
    have h1 : (inter its ((ts.map GT.pt).map PT.items)).length = _ := inter_length _ _
    have h2 : (inter its ((ts.map GT.pt).map PT.items)).length ≤ 4611686018427387903 := hsz
    have h3 : c.pt.items.length ≤ (((ts.map GT.pt).map PT.items).map List.length).sum := mem_le_sum (by
      rw [List.map_map, List.map_map]; exact List.mem_map.2 ⟨c, hcmem, rfl⟩)
    omega
  unfold Map_si_nodeSet.j1
  refine St.r_load0 s 0 rfl rfl ?_
  refine leaf_ok (a := some ⟨kb, 0, none⟩) (s.get (k := 3) (j := 3) rfl (by simp)) ?_
  refine r_if (fun e => absurd e (by simp)) (fun _ => ?_)
  unfold Map_si_nodeSet.j2
  refine St.r_load0 s 0 rfl rfl ?_
  refine r_nil ?_
  refine r_fld ?_
  refine St.r_load0 s 3 rfl rfl ?_
  refine r_nil ?_
  refine St.r_load0 s 5 rfl rfl ?_
  refine wK.idx (n := pos lt its x) rfl (by omega) ?_
  refine St.r_loadN0 s 1 rfl (by simp) ?_
  obtain ⟨E', sk, back⟩ := lend_kid (A := (t9, 0, [ptr n 0]) :: (t5, 0, enc x) :: (pb, po, [ptr n 0]) :: (n, 0, [.int .u64 is', .int .i64 cnt, iv, ptr kb 0]) :: (ib, io, its.flatMap enc ++ isp) :: (kb, 0, [kv]) :: []) (E := E) (kb := kb) (kv := kv) hc s
  refine ih c (fl.2.2.2 _ hcm) hac hcsz (g.kid hcmem) sk fun c' h' hc1 hc2 hc3 s => ?_
  rw [hcs, hgc]
  rw [hcs] at hc1
  simp only [↓reduceIte] at hc1
  have s := back c' h' hc2 s
  have s : St h0 Z ((t9, 0, [ptr n 0]) :: (t5, 0, enc x) :: (pb, po, [ptr n 0]) :: (n, 0, [.int .u64 is', .int .i64 cnt, iv, ptr kb 0]) :: (ib, io, its.flatMap enc ++ isp) :: (kb, 0, [kv]) :: (krb, kro, ((ts.set (pos lt its x) c').map GT.id).flatMap fp ++ ksp) :: ((ts.set (pos lt its x) c').flatMap (GT.all enc) ++ E)) h' := s
  have hi := (List.getElem?_eq_some_iff.1 hc).1
  have hc' : (ts.set (pos lt its x) c')[pos lt its x]? = some c' := List.getElem?_set_self hi
  have ept : (ts.set (pos lt its x) c').map GT.pt = ts.map GT.pt := by
    apply List.ext_getElem?
    intro j
    rw [List.map_set, List.getElem?_set]
    split
    · rename_i e; subst e
      simp only [List.length_map, hi, if_true]
      rw [hc1]; exact hcp.symm
    · rfl
  have g1 : Gd is' (k := k + 1) ((⟨true, n, is', cnt, its, iv, ib, io, isp, kb, kv, krb, kro, ksp⟩ : Nd It), ts.set (pos lt its x) c') :=
    Gd.setKid g hc hc2 hc3 (by show cnt = ((PT.items (h := k + 1) (its, (ts.set (pos lt its x) c').map GT.pt)).length : Int); rw [ept]; exact hcn)
  refine r_ext rfl ?_
  refine r_ext rfl ?_
  refine r_ext rfl ?_
  refine r_if (fun _ => ?_) (fun e => absurd e (by simp))
  refine St.r_load0 s 0 rfl rfl ?_
  refine r_nil ?_
  refine r_fld ?_
  refine St.r_load0 s 3 rfl rfl ?_
  refine w.lenV ?_
  refine r_nil ?_
  refine r_fld ?_
  refine s.r_lz hT4 3 rfl rfl ?_
  refine r_cmpI ?_
  refine r_if (fun hfull => ?_) (fun hroom => ?_)
  · have hfull : its.length = m := Int.ofNat_inj.1 (by simpa using hfull)
    have hsp : PT.splits lt m (h := k + 1) (its, ts.map GT.pt) x = true := by rw [PT.splits_kid (t := (its, ts.map GT.pt)) hn hcp, hcs]; simpa using hfull
    refine r_nil ?_
    refine r_fld ?_
    refine r_fld ?_
    refine s.r_lz hT4 0 rfl rfl ?_
    have := H ((⟨true, n, is', cnt, its, iv, ib, io, isp, kb, kv, krb, kro, ksp⟩ : Nd It), ts.set (pos lt its x) c') h' (by
      show (its, (ts.set (pos lt its x) c').map GT.pt) = if PT.splits lt m (h := k + 1) (its, ts.map GT.pt) x = true then _ else _
      rw [hsp, ept]; rfl) rfl g1 (by rw [← mfp] at s; exact s.drop 2)
    change Q (.tuple #[old (PT.get lt (h := k + 1) (its, ts.map GT.pt) x), .bool (PT.get lt (h := k + 1) (its, ts.map GT.pt) x).isSome, .bool (PT.splits lt m (h := k + 1) (its, ts.map GT.pt) x)]) h' at this
    have hgt : PT.get lt (h := k + 1) (its, ts.map GT.pt) x = none := hgt
    rw [hsp, hgt] at this
    exact this
  · have hroom : its.length ≠ m := fun e => by rw [e] at hroom; simp at hroom
    have hsp : PT.splits lt m (h := k + 1) (its, ts.map GT.pt) x = false := by rw [PT.splits_kid (t := (its, ts.map GT.pt)) hn hcp]; simp [hroom]
    obtain ⟨q1, q2, q3, q4, q5⟩ := PT.set_split (t := (its, ts.map GT.pt)) swo ho fl ha hn hcp hcs hmd hroom
    unfold Map_si_nodeSet.j5
    refine St.r_load0 s 0 rfl rfl ?_
    refine r_nil ?_
    refine r_fld ?_
    refine St.r_load0 s 3 rfl rfl ?_
    refine r_nil ?_
    refine St.r_load0 s 5 rfl rfl ?_
    have wk1 : Own 1 kv ((ts.set (pos lt its x) c').map GT.id).length krb kro (((ts.set (pos lt its x) c').map GT.id).flatMap fp) ksp := by rw [set_ids hc hc2]; exact wK
    refine wk1.idx (n := pos lt its x) rfl (by rw [List.length_map, List.length_set]; omega) ?_
    refine r_loadM1 s 6 rfl hc' ?_
    have hcl : c'.pt.its.length = m := by rw [hc1]; exact (PT.splits_len hcs).1
    have etake : (ts.set (pos lt its x) c').take (pos lt its x) = ts.take (pos lt its x) := List.take_set_of_le (Nat.le_refl _)
    have edrop : (ts.set (pos lt its x) c').drop (pos lt its x + 1) = ts.drop (pos lt its x + 1) := List.drop_set_of_lt (by omega)
    refine nodeSplit_ok c' (m := m) (E := (t9, 0, [ptr n 0]) :: (t5, 0, enc x) :: (pb, po, [ptr n 0]) :: (n, 0, [.int .u64 is', .int .i64 cnt, iv, ptr kb 0]) :: (ib, io, its.flatMap enc ++ isp) :: (kb, 0, [kv]) :: (krb, kro, (ts.map GT.id).flatMap fp ++ ksp) :: ((ts.take (pos lt its x)).flatMap (GT.all enc) ++ ((ts.drop (pos lt its x + 1)).flatMap (GT.all enc) ++ E)))
      hT0 hT4 (by omega) (by omega) (by rw [hc1]; exact fl.2.2.2 _ hcm) hcl (by rw [hc1]; omega) hc3 (s.perm ?_) fun l r md' h hmd' hl hr hlid gl gr s => ?_
    · rw [set_ids hc hc2, flat_at3 (GT.all enc) hc', etake, edrop]; ((apply perm_rg; intro f; simp only [List.set_cons_zero, List.set_cons_succ, List.eraseIdx_cons_zero, List.eraseIdx_cons_succ, List.cons_append, List.nil_append, List.map_append, List.map_cons, List.map_nil, List.sum_append, List.sum_cons, List.sum_nil, List.map_flatMap, Nat.add_zero, Nat.zero_add]; ac_rfl))
    have : md' = md := by rw [hc1] at hmd'; exact Option.some.inj (hmd'.symm.trans hmd)
    subst this
    rw [hc1] at hl hr
    have s : St h0 Z ((t9, 0, [ptr n 0]) :: (t5, 0, enc x) :: (pb, po, [ptr n 0]) :: (n, 0, [.int .u64 is', .int .i64 cnt, iv, ptr kb 0]) :: (ib, io, its.flatMap enc ++ isp) :: (kb, 0, [kv]) :: (krb, kro, ((ts.map GT.id).map pp).flatMap fv ++ ksp) :: ((ts.take (pos lt its x) ++ l :: r :: ts.drop (pos lt its x + 1)).flatMap (GT.all enc) ++ E)) h :=
      s.perm (by rw [← fpv, List.flatMap_append, List.flatMap_cons, List.flatMap_cons]; ((apply perm_rg; intro f; simp only [List.set_cons_zero, List.set_cons_succ, List.eraseIdx_cons_zero, List.eraseIdx_cons_succ, List.cons_append, List.nil_append, List.map_append, List.map_cons, List.map_nil, List.sum_append, List.sum_cons, List.sum_nil, List.map_flatMap, Nat.add_zero, Nat.zero_add]; ac_rfl)))
    rw [fpv] at wK
    have hpl : ((ts.map GT.id).map pp).length = ts.length := by rw [List.length_map, List.length_map]
    have elp : (ts.map GT.id).length = ((ts.map GT.id).map pp).length := List.length_map .. |>.symm
    rw [elp] at wK
    generalize hL : (ts.map GT.id).map pp = L at s wK hpl
    refine r_ext rfl ?_
    refine r_ext rfl ?_
    refine s.r_alloc fun t13 h s => ?_
    refine St.r_storeN0 s 0 rfl rfl (by simp) (enc1 _) ?_; intro h s
    refine St.r_load0 s 1 rfl rfl ?_
    refine r_nil ?_
    refine r_fld ?_
    refine St.r_load0 s 4 rfl rfl ?_
    refine St.r_load0 s 1 rfl rfl ?_
    refine r_nil ?_
    refine r_fld ?_
    refine St.r_load0 s 4 rfl rfl ?_
    refine r_nil ?_
    refine St.r_load0 s 6 rfl rfl ?_
    refine St.r_mkSl (sz := 1) (cs := [.pointer none]) s (by ((simp only [fillV, fill1, Value.cells, zeros_succ, zeros_zero, List.size_toArray, List.length_cons, List.length_nil, List.length_append, List.take_succ_cons, List.take_zero, List.take_nil, List.drop_succ_cons, List.drop_zero, List.drop_nil, List.cons_append, List.nil_append, List.append_nil, Nat.reduceAdd, Nat.reduceMul, Nat.reduceLeDiff, Nat.reduceEqDiff, and_self, and_true, true_and, if_true, Nat.le_refl, Nat.zero_add, Nat.add_zero, Nat.zero_mul, reduceIte, if_false] <;> rfl))) rfl fun q h s w1 => ?_
    refine And.intro (by exact St.r_still0 s 2 rfl rfl) ?_
    refine And.intro (by exact St.r_still0 s 5 rfl rfl) ?_
    refine And.intro (by exact St.r_still0 s 2 rfl rfl) ?_
    refine And.intro (by exact St.r_still0 s 5 rfl rfl) ?_
    refine ⟨by refine St.r_still0 s 7 rfl rfl, ?_⟩
    refine St.r_app s 8 (sz := 1) (n := 1) (new := [.pointer none]) rfl wK rfl (w1.rdl s 0 rfl) (by simp [one1]) (by omega) (by omega) fun kv' krb' kro' ksp' h s wk' => ?_
    rw [snoc_fv] at s wk'
    have wk' : Own 1 kv' (L ++ [Value.pointer none]).length krb' kro' ((L ++ [Value.pointer none]).flatMap fv) ksp' := by rw [List.length_append]; exact wk'
    refine And.intro (by exact St.r_still0 s 2 rfl rfl) ?_
    refine And.intro (by exact St.r_still0 s 5 rfl rfl) ?_
    refine r_nil ?_
    refine St.r_store0 s 7 rfl (by simp) wk'.one ?_; intro h s
    refine St.r_load0 s 2 rfl rfl ?_
    refine r_nil ?_
    refine r_fld ?_
    refine St.r_load0 s 5 rfl rfl ?_
    refine r_nil ?_
    refine St.r_load0 s 7 rfl rfl ?_
    refine r_add (z := ((pos lt its x + 1 : Nat) : Int)) (by rw [i64w (by omega) (by omega)]; omega) ?_
    refine wk'.slcLo fvl (i := pos lt its x + 1) rfl (by simp; omega) fun dd wd => ?_
    refine St.r_load0 s 2 rfl rfl ?_
    refine r_nil ?_
    refine r_fld ?_
    refine St.r_load0 s 5 rfl rfl ?_
    refine r_nil ?_
    refine St.r_load0 s 7 rfl rfl ?_
    refine (wk'.rdl s 8 rfl).slcLo fvl (i := pos lt its x) rfl (by simp; omega) fun src rs => ?_
    refine s.r_cpyF fvl 8 (L := L ++ [Value.pointer none]) (M := (L ++ [Value.pointer none]).drop (pos lt its x)) rfl wd (by simp; omega) rs rfl (fun y hy => ?_) fun h s => ?_
    · have hy := List.mem_of_mem_drop hy
      intro z hz
      rw [List.mem_singleton.1 hz]
      rcases List.mem_append.1 hy with e | e
      · rw [← hL] at e; obtain ⟨a, _, rfl⟩ := List.mem_map.1 e; rfl
      · rw [List.mem_singleton.1 e]; rfl
    refine St.r_load0 s 2 rfl rfl ?_
    refine r_nil ?_
    refine r_fld ?_
    refine St.r_load0 s 5 rfl rfl ?_
    refine r_nil ?_
    refine St.r_load0 s 7 rfl rfl ?_
    refine r_add (z := ((pos lt its x + 1 : Nat) : Int)) (by rw [i64w (by omega) (by omega)]; omega) ?_
    refine wk'.idx (n := pos lt its x + 1) rfl (by simp; omega) ?_
    refine s.r_storeV (v := ptr r.id 0) 8 rfl (by simp; omega) rfl fun h s => ?_
    rw [List.set_set, ins_steps2 L (.pointer none) (ptr r.id 0) (by omega)] at s
    refine St.r_load0 s 2 rfl rfl ?_
    refine St.r_load0 s 2 rfl rfl ?_
    refine r_nil ?_
    refine r_fld ?_
    refine St.r_load0 s 5 rfl rfl ?_
    refine r_nil ?_
    refine r_fld ?_
    refine s.r_lzE hT4 0 (enc emp) rfl (by simp) rfl ?_
    refine St.r_mkSl (sz := 2) (cs := enc emp) s (by ((simp only [fillV, fill1, Value.cells, zeros_succ, zeros_zero, List.size_toArray, List.length_cons, List.length_nil, List.length_append, List.take_succ_cons, List.take_zero, List.take_nil, List.drop_succ_cons, List.drop_zero, List.drop_nil, List.cons_append, List.nil_append, List.append_nil, Nat.reduceAdd, Nat.reduceMul, Nat.reduceLeDiff, Nat.reduceEqDiff, and_self, and_true, true_and, if_true, Nat.le_refl, Nat.zero_add, Nat.add_zero, Nat.zero_mul, reduceIte, if_false] <;> rfl))) rfl fun qq h s w2 => ?_
    refine And.intro (by exact St.r_still0 s 3 rfl rfl) ?_
    refine And.intro (by exact St.r_still0 s 3 rfl rfl) ?_
    refine And.intro (by exact St.r_still0 s 6 rfl rfl) ?_
    refine St.r_app s 7 (sz := 2) (n := 1) (new := enc emp) rfl w rfl (w2.rdl s 0 rfl) (enc1 _) (by omega) (by omega) fun iv' ib' io' isp' h s w' => ?_
    rw [snoc_enc] at s w'
    have w' : Own 2 iv' (its ++ [emp]).length ib' io' ((its ++ [emp]).flatMap enc) isp' := by rw [List.length_append]; exact w'
    refine And.intro (by exact St.r_still0 s 3 rfl rfl) ?_
    refine r_nil ?_
    refine r_fld ?_
    refine St.r_store0 s 6 rfl (by simp) w'.one ?_; intro h s
    refine St.r_load0 s 3 rfl rfl ?_
    refine r_nil ?_
    refine r_fld ?_
    refine St.r_load0 s 6 rfl rfl ?_
    refine r_add (z := ((pos lt its x + 1 : Nat) : Int)) (by rw [i64w (by omega) (by omega)]; omega) ?_
    refine w'.slcLo encl (i := pos lt its x + 1) rfl (by simp; omega) fun dd2 wd2 => ?_
    refine St.r_load0 s 3 rfl rfl ?_
    refine r_nil ?_
    refine r_fld ?_
    refine St.r_load0 s 6 rfl rfl ?_
    refine (w'.rdl s 7 rfl).slcLo encl (i := pos lt its x) rfl (by simp; omega) fun src2 rs2 => ?_
    refine s.r_cpyF encl 7 (L := its ++ [emp]) (M := (its ++ [emp]).drop (pos lt its x)) rfl wd2 (by simp; omega) rs2 rfl (fun y _ => enc1 y) fun h s => ?_
    refine St.r_load0 s 3 rfl rfl ?_
    refine r_nil ?_
    refine r_fld ?_
    refine St.r_load0 s 6 rfl rfl ?_
    refine St.r_loadN0 s 2 rfl (by simp) ?_
    refine w'.idx (n := pos lt its x) rfl (by simp; omega) ?_
    refine s.r_storeF (x := md') encl 7 rfl (by simp; omega) (enc1 _) fun h s => ?_
    rw [List.set_set, ins_steps its emp md' hp] at s
    refine St.r_loadN0 s 4 rfl (by simp) ?_
    have hil := ins_length (x := md') hp
    have e8 : ins L (pos lt its x + 1) (ptr r.id 0) = ((ts.take (pos lt its x) ++ l :: r :: ts.drop (pos lt its x + 1)).map GT.id).map pp := by
      have e9 : ts.take (pos lt its x + 1) = ts.take (pos lt its x) ++ [c] := by rw [List.take_add_one, hc]; rfl
      unfold ins
      rw [← hL, ← List.map_take, ← List.map_take, ← List.map_drop, ← List.map_drop, e9]
      simp only [List.map_append, List.map_cons, List.map_nil, List.append_assoc, List.cons_append, List.nil_append, hlid, hc2]
    rw [e8, ← fpv] at s
    have hl2 : ((ts.take (pos lt its x) ++ l :: r :: ts.drop (pos lt its x + 1)).map GT.id).length = (L ++ [Value.pointer none]).length := by simp; omega
    have wk2 : Own 1 kv' (ts.take (pos lt its x) ++ l :: r :: ts.drop (pos lt its x + 1)).length krb' kro' (((ts.take (pos lt its x) ++ l :: r :: ts.drop (pos lt its x + 1)).map GT.id).flatMap fp) ksp' := by
      rw [← hl2, List.length_map] at wk'
      exact wk'.cong (by rw [flat_len fpl, flat_len fvl, hl2])
    have w2' : Own 2 iv' (ins its (pos lt its x) md').length ib' io' ((ins its (pos lt its x) md').flatMap enc) isp' := by
      rw [show (ins its (pos lt its x) md').length = (its ++ [emp]).length by rw [hil]; simp]
      exact w'.cong (by rw [flat_len encl, flat_len encl, hil]; simp)
    have ept2 : (ts.take (pos lt its x) ++ l :: r :: ts.drop (pos lt its x + 1)).map GT.pt = (ts.map GT.pt).take (pos lt its x) ++ c.pt.lo (m / 2) :: c.pt.hi (m / 2) :: (ts.map GT.pt).drop (pos lt its x + 1) := by
      rw [List.map_append, List.map_cons, List.map_cons, List.map_take, List.map_drop, hl, hr]
    have g2 : Gd is' (k := k + 1) ((⟨true, n, is', cnt, ins its (pos lt its x) md', iv', ib', io', isp', kb, kv', krb', kro', ksp'⟩ : Nd It), ts.take (pos lt its x) ++ l :: r :: ts.drop (pos lt its x + 1)) := by
      refine Gd.inner w2' rfl rfl wk2 (by show _ = (ins its (pos lt its x) md').length + 1; rw [hil]; simp; omega) (fun q hq => ?_) ?_
      · rcases List.mem_append.1 hq with e | e
        · exact g.kid (List.mem_of_mem_take e)
        · rcases List.mem_cons.1 e with e | e
          · rw [e]; exact gl
          · rcases List.mem_cons.1 e with e | e
            · rw [e]; exact gr
            · exact g.kid (List.mem_of_mem_drop e)
      · show cnt = ((PT.items (h := k + 1) (ins its (pos lt its x) md', (ts.take (pos lt its x) ++ l :: r :: ts.drop (pos lt its x + 1)).map GT.pt)).length : Int)
        rw [ept2, q1]; exact hcn
    have hpt2 : GT.pt (h := k + 1) ((⟨true, n, is', cnt, ins its (pos lt its x) md', iv', ib', io', isp', kb, kv', krb', kro', ksp'⟩ : Nd It), ts.take (pos lt its x) ++ l :: r :: ts.drop (pos lt its x + 1)) = (ins its (pos lt its x) md', (ts.map GT.pt).take (pos lt its x) ++ c.pt.lo (m / 2) :: c.pt.hi (m / 2) :: (ts.map GT.pt).drop (pos lt its x + 1)) := by
      show (_, _) = _; rw [ept2]
    have s : St h0 Z ((t9, 0, [ptr n 0]) :: ((GT.all enc (h := k + 1) ((⟨true, n, is', cnt, ins its (pos lt its x) md', iv', ib', io', isp', kb, kv', krb', kro', ksp'⟩ : Nd It), ts.take (pos lt its x) ++ l :: r :: ts.drop (pos lt its x + 1))) ++ ((pb, po, [ptr n 0]) :: E))) h := by
      have s1 : St h0 Z ((t9, 0, [ptr n 0]) :: (n, 0, [.int .u64 is', .int .i64 cnt, iv', ptr kb 0]) :: (ib', io', (ins its (pos lt its x) md').flatMap enc ++ isp') :: (kb, 0, [kv']) :: (krb', kro', ((ts.take (pos lt its x) ++ l :: r :: ts.drop (pos lt its x + 1)).map GT.id).flatMap fp ++ ksp') :: ((ts.take (pos lt its x) ++ l :: r :: ts.drop (pos lt its x + 1)).flatMap (GT.all enc) ++ ((pb, po, [ptr n 0]) :: E))) h :=
        (s.perm (E' := (qq, 0, _) :: (q, 0, _) :: (t13, 0, _) :: (t5, 0, _) :: _) (by ((apply perm_rg; intro f; simp only [List.set_cons_zero, List.set_cons_succ, List.eraseIdx_cons_zero, List.eraseIdx_cons_succ, List.cons_append, List.nil_append, List.map_append, List.map_cons, List.map_nil, List.sum_append, List.sum_cons, List.sum_nil, List.map_flatMap, Nat.add_zero, Nat.zero_add]; ac_rfl)))).drop 4
      rw [← mfp] at s1
      exact s1
    refine set_noSplit htb hT0 hT4 hm1 ho ih _ (by rw [hpt2]; exact q2) (by rw [hpt2, q1]; exact ha) (by rw [hpt2, q1]; exact hsz) g2 s (fun c2 h1 h2 => ?_) fun t' h' h1 h2 h3 s => ?_
    · rw [hpt2] at h1
      obtain ⟨c3, h3, h4⟩ := q4
      have : c2 = c3 := Option.some.inj (h1.symm.trans h3)
      rw [this]; exact h4
    · have hgt2 : PT.get lt (GT.pt (h := k + 1) ((⟨true, n, is', cnt, ins its (pos lt its x) md', iv', ib', io', isp', kb, kv', krb', kro', ksp'⟩ : Nd It), ts.take (pos lt its x) ++ l :: r :: ts.drop (pos lt its x + 1))) x = none := by
        rw [hpt2, PT.get_items swo q2 (by rw [q1]; exact ha), q1, ← PT.get_items (h := k + 1) (t := (its, ts.map GT.pt)) swo fl ha]; exact hgt
      rw [hgt2]
      refine r_ext rfl ?_
      refine r_ext rfl ?_
      refine r_ext rfl ?_
      have := H t' h' (by
        show _ = if PT.splits lt m (h := k + 1) (its, ts.map GT.pt) x = true then _ else _
        rw [hsp, h1, hpt2, q5]; rfl) h2 h3 ((s.drop 1).perm List.perm_middle.symm)
      change Q (.tuple #[old (PT.get lt (h := k + 1) (its, ts.map GT.pt) x), .bool (PT.get lt (h := k + 1) (its, ts.map GT.pt) x).isSome, .bool (PT.splits lt m (h := k + 1) (its, ts.map GT.pt) x)]) h' at this
      have hgt : PT.get lt (h := k + 1) (its, ts.map GT.pt) x = none := hgt
      rw [hsp, hgt] at this
      exact this

theorem SetOk.all {tb m : Nat} {iso mn : Int} {ctr : Option Addr} {x : It} (htb : h0.size ≤ tb) (hT0 : (tb, 0, hd0 iso ctr) ∈ Z) (hT4 : (tb, 4, hd4 mn m) ∈ Z) (hm1 : m ≤ 1024) (ho : m % 2 = 1) : ∀ k, SetOk h0 Z tb m iso x k
  | 0 => SetOk.zero htb hT0 hT4 hm1
  | k + 1 => SetOk.succ htb hT0 hT4 hm1 ho (SetOk.all htb hT0 hT4 hm1 ho k)
end Go.Proofs.Ytdpkpcmoabfofaa.Si
end
section
namespace Go.Proofs.Ytdpkpcmoabfofaa.Si
open Go.Hp Go.Proofs.Ytdpkpcmoabfofaa
set_option linter.unusedVariables false
set_option linter.unusedSimpArgs false
variable {h0 h : Heap} {Z E : List Rg} {Q : Value → Heap → Prop}

/-- A map's root: none, or a tree. -/
abbrev Rt := Option ((k : Nat) × GT It k)
def rA : Rt → Option Addr
  | none => none
  | some t => some ⟨t.2.id, 0, none⟩
def rAll : Rt → List Rg
  | none => []
  | some t => t.2.all enc
def rPt : Rt → MT It
  | none => none
  | some t => some ⟨t.1, t.2.pt⟩
def rGd (iso : Int) : Rt → Prop
  | none => True
  | some t => Gd iso t.2

theorem Set_noSplit {tb m : Nat} {iso mn cnt : Int} {ctr : Option Addr} {x : It} (htb : h0.size ≤ tb) (hT0 : (tb, 0, hd0 iso ctr) ∈ Z) (hT4 : (tb, 4, hd4 mn m) ∈ Z) (hm1 : m ≤ 1024) (ho : m % 2 = 1) {k : Nat} (t : GT It k)
    (fl : t.pt.Fl m 1) (ha : Asc lt t.pt.items) (hsz : t.pt.items.length ≤ 4611686018427387903) (g : Gd iso t) (hcnt : cnt = t.pt.items.length) (hsp : t.pt.splits lt m x = false)
    (s : St h0 Z ((tb, 2, [ptr t.id 0]) :: (tb, 3, [.int .i64 cnt]) :: (t.all enc ++ E)) h)
    (H : ∀ (t' : GT It k) h', t'.pt = t.pt.set lt m x → Gd iso t' → St h0 Z ((tb, 2, [ptr t'.id 0]) :: (tb, 3, [.int .i64 t'.pt.items.length]) :: (t'.all enc ++ E)) h' → Q (.tuple #[old (lget lt t.pt.items x), .bool (lget lt t.pt.items x).isSome]) h') :
    Map_si_Set.call #[ptr tb 0, kv x.1, vv x.2] h Q := by
  refine Map_si_Set.body _ _ _ _ _ ?_
  unfold Map_si_Set.sh
  have hset := (PT.set_items swo ho fl ha hsp).1
  have hgi := PT.get_items swo fl ha (x := x)
  (apply r_build; (simp only [fillV, fill1, Value.cells, zeros_succ, zeros_zero, List.size_toArray, List.length_cons, List.length_nil, List.length_append, List.take_succ_cons, List.take_zero, List.take_nil, List.drop_succ_cons, List.drop_zero, List.drop_nil, List.cons_append, List.nil_append, List.append_nil, Nat.reduceAdd, Nat.reduceMul, Nat.reduceLeDiff, Nat.reduceEqDiff, and_self, and_true, true_and, if_true, Nat.le_refl, Nat.zero_add, Nat.add_zero, Nat.zero_mul, reduceIte, if_false] <;> rfl))
  refine s.r_alloc fun t8 h s => ?_
  refine St.r_storeN0 s 0 rfl rfl (by simp) (enc1 x) ?_; intro h s
  refine r_nil ?_
  refine r_fld ?_
  refine s.r_load1 1 (o := 2) (j := 0) rfl rfl ?_
  refine r_eqNilP ?_
  refine r_if (fun e => absurd e (by simp)) (fun _ => ?_)
  unfold Map_si_Set.j1
  refine r_nil ?_
  refine r_fld ?_
  refine St.r_loadN0 s 0 rfl (by simp) ?_
  refine SetOk.all htb hT0 hT4 hm1 ho k t (E := (t8, 0, enc x) :: (tb, 3, [.int .i64 cnt]) :: E) (pb := tb) (po := 2) fl ha hsz g (s.perm (by ((apply perm_rg; intro f; simp only [List.set_cons_zero, List.set_cons_succ, List.eraseIdx_cons_zero, List.eraseIdx_cons_succ, List.cons_append, List.nil_append, List.map_append, List.map_cons, List.map_nil, List.sum_append, List.sum_cons, List.sum_nil, List.map_flatMap, Nat.add_zero, Nat.zero_add]; ac_rfl)))) fun t' h' h1 h2 h3 s => ?_
  rw [hsp] at h1 ⊢
  simp only [Bool.false_eq_true, ↓reduceIte] at h1
  rw [hgi]
  refine r_ext rfl ?_
  refine r_ext rfl ?_
  refine r_ext rfl ?_
  refine r_if (fun e => absurd e (by simp)) (fun _ => ?_)
  unfold Map_si_Set.j2
  have hl : t'.pt.items.length = t.pt.items.length + if (lget lt t.pt.items x).isSome then 0 else 1 := by rw [h1, hset, lput_length]
  refine r_if (fun hr => ?_) (fun hr => ?_)
  · rw [hr] at hl
    have s : St h0 Z ((tb, 2, [ptr t'.id 0]) :: (tb, 3, [.int .i64 t'.pt.items.length]) :: (t'.all enc ++ E)) h' := by
      have e : ((t.pt.items.length + if true = true then 0 else 1 : Nat) : Int) = cnt := by rw [hcnt]; simp
      rw [h2, hl, e]
      exact (s.perm (E' := (t8, 0, enc x) :: (tb, 2, [ptr t.id 0]) :: (tb, 3, [.int .i64 cnt]) :: (t'.all enc ++ E)) (by ((apply perm_rg; intro f; simp only [List.set_cons_zero, List.set_cons_succ, List.eraseIdx_cons_zero, List.eraseIdx_cons_succ, List.cons_append, List.nil_append, List.map_append, List.map_cons, List.map_nil, List.sum_append, List.sum_cons, List.sum_nil, List.map_flatMap, Nat.add_zero, Nat.zero_add]; ac_rfl)))).drop 1
    have := H t' h' h1 h3 s
    rw [hr] at this
    exact this
  · rw [hr] at hl
    have hn : lget lt t.pt.items x = none := by cases e : lget lt t.pt.items x with
      | none => rfl
      | some y => rw [e] at hr; cases hr
    unfold Map_si_Set.j3
    have s : St h0 Z ((tb, 3, [.int .i64 cnt]) :: (tb, 2, [ptr t.id 0]) :: (t8, 0, enc x) :: (t'.all enc ++ E)) h' := s.perm (by ((apply perm_rg; intro f; simp only [List.set_cons_zero, List.set_cons_succ, List.eraseIdx_cons_zero, List.eraseIdx_cons_succ, List.cons_append, List.nil_append, List.map_append, List.map_cons, List.map_nil, List.sum_append, List.sum_cons, List.sum_nil, List.map_flatMap, Nat.add_zero, Nat.zero_add]; ac_rfl)))
    refine r_nil ?_
    refine r_fld ?_
    refine s.r_load1 0 (o := 3) (j := 0) rfl rfl ?_
    refine r_add (z := cnt + 1) (by rw [i64w (by omega) (by omega)]) ?_
    refine r_nil ?_
    refine r_fld ?_
    refine St.r_store1 s 0 (o := 3) (j := 0) rfl (by simp) rfl ?_; intro h s
    refine r_nil ?_
    refine r_fld ?_
    refine r_fld ?_
    refine s.r_lz hT4 0 rfl rfl ?_
    have := H t' h h1 h3 (by
      rw [h2, hl]
      have e : ((t.pt.items.length + if false = true then 0 else 1 : Nat) : Int) = cnt + 1 := by rw [hcnt]; simp
      rw [e]
      exact (s.perm (E' := (t8, 0, enc x) :: (tb, 2, [ptr t.id 0]) :: (tb, 3, [.int .i64 (cnt + 1)]) :: (t'.all enc ++ E)) (by ((apply perm_rg; intro f; simp only [List.set_cons_zero, List.set_cons_succ, List.eraseIdx_cons_zero, List.eraseIdx_cons_succ, List.cons_append, List.nil_append, List.map_append, List.map_cons, List.map_nil, List.sum_append, List.sum_cons, List.sum_nil, List.map_flatMap, Nat.add_zero, Nat.zero_add]; ac_rfl)))).drop 1)
    rw [hn] at this
    exact this

theorem Set_cut {tb m : Nat} {iso mn cnt : Int} {ctr : Option Addr} {x : It} (htb : h0.size ≤ tb) (hT0 : (tb, 0, hd0 iso ctr) ∈ Z) (hT4 : (tb, 4, hd4 mn m) ∈ Z) (hm1 : m ≤ 1024) (hm3 : 3 ≤ m) (ho : m % 2 = 1) {k : Nat} (t : GT It k)
    (fl : t.pt.Fl m 1) (ha : Asc lt t.pt.items) (hsz : t.pt.items.length ≤ 4611686018427387903) (g : Gd iso t) (hcnt : cnt = t.pt.items.length)
    (s : St h0 Z ((tb, 2, [ptr t.id 0]) :: (tb, 3, [.int .i64 cnt]) :: (t.all enc ++ E)) h)
    (H : ∀ (g' : (j : Nat) × GT It j) h', rPt (some g') = MT.set lt m (some ⟨k, t.pt⟩) x → Gd iso g'.2 → St h0 Z ((tb, 2, [ptr g'.2.id 0]) :: (tb, 3, [.int .i64 g'.2.pt.items.length]) :: (g'.2.all enc ++ E)) h' → Q (.tuple #[old (lget lt t.pt.items x), .bool (lget lt t.pt.items x).isSome]) h') :
    Map_si_Set.call #[ptr tb 0, kv x.1, vv x.2] h Q := by
  have hi : ∀ {E h}, St h0 Z E h → cl h tb 0 = some (.int .u64 iso) := fun s => by have := s.getZ hT0 (j := 0) (by simp); simpa using this
  cases hsp : t.pt.splits lt m x with
  | false =>
    refine Set_noSplit htb hT0 hT4 hm1 ho t fl ha hsz g hcnt hsp s fun t' h' h1 h3 s => H ⟨k, t'⟩ h' ?_ h3 s
    show some (⟨k, t'.pt⟩ : (j : Nat) × PT It j) = _
    unfold MT.set
    simp only [hsp, Bool.false_eq_true, ↓reduceIte, h1]
  | true =>
    obtain ⟨md, hmd, _, fll', fh, _, _, _, _, _⟩ := PT.halves swo ho fl ha hsp
    obtain ⟨g1, g2, g3, g4⟩ := PT.grow_ok swo ho hm3 fl ha hsp
    have hgn : lget lt t.pt.items x = none := PT.splits_get swo fl ha hsp
    have egrow : t.pt.grow m = (([md], [t.pt.lo (m / 2), t.pt.hi (m / 2)]) : List It × List (PT It k)) := by unfold PT.grow; rw [hmd]; rfl
    refine Map_si_Set.body _ _ _ _ _ ?_
    unfold Map_si_Set.sh
    (apply r_build; (simp only [fillV, fill1, Value.cells, zeros_succ, zeros_zero, List.size_toArray, List.length_cons, List.length_nil, List.length_append, List.take_succ_cons, List.take_zero, List.take_nil, List.drop_succ_cons, List.drop_zero, List.drop_nil, List.cons_append, List.nil_append, List.append_nil, Nat.reduceAdd, Nat.reduceMul, Nat.reduceLeDiff, Nat.reduceEqDiff, and_self, and_true, true_and, if_true, Nat.le_refl, Nat.zero_add, Nat.add_zero, Nat.zero_mul, reduceIte, if_false] <;> rfl))
    refine s.r_alloc fun t8 h s => ?_
    refine St.r_storeN0 s 0 rfl rfl (by simp) (enc1 x) ?_; intro h s
    refine r_nil ?_
    refine r_fld ?_
    refine s.r_load1 1 (o := 2) (j := 0) rfl rfl ?_
    refine r_eqNilP ?_
    refine r_if (fun e => absurd e (by simp)) (fun _ => ?_)
    unfold Map_si_Set.j1
    refine r_nil ?_
    refine r_fld ?_
    refine St.r_loadN0 s 0 rfl (by simp) ?_
    refine SetOk.all htb hT0 hT4 hm1 ho k t (E := (t8, 0, enc x) :: (tb, 3, [.int .i64 cnt]) :: E) (pb := tb) (po := 2) fl ha hsz g (s.perm (by ((apply perm_rg; intro f; simp only [List.set_cons_zero, List.set_cons_succ, List.eraseIdx_cons_zero, List.eraseIdx_cons_succ, List.cons_append, List.nil_append, List.map_append, List.map_cons, List.map_nil, List.sum_append, List.sum_cons, List.sum_nil, List.map_flatMap, Nat.add_zero, Nat.zero_add]; ac_rfl)))) fun t' h' h1 h2 h3 s => ?_
    rw [hsp] at h1 ⊢
    simp only [↓reduceIte] at h1
    refine r_ext rfl ?_
    refine r_ext rfl ?_
    refine r_ext rfl ?_
    refine r_if (fun _ => ?_) (fun e => absurd e (by simp))
    refine r_nil ?_
    refine r_fld ?_
    refine s.r_load1 0 (o := 2) (j := 0) rfl rfl ?_
    rw [← h2]
    refine nodeSplit_ok t' (m := m) (E := (tb, 2, [ptr t.id 0]) :: (t8, 0, enc x) :: (tb, 3, [.int .i64 cnt]) :: E) hT0 hT4 (by omega) (by omega) (by rw [h1]; exact fl) (by rw [h1]; exact (PT.splits_len hsp).1) (by rw [h1]; omega) h3 (s.perm (by ((apply perm_rg; intro f; simp only [List.set_cons_zero, List.set_cons_succ, List.eraseIdx_cons_zero, List.eraseIdx_cons_succ, List.cons_append, List.nil_append, List.map_append, List.map_cons, List.map_nil, List.sum_append, List.sum_cons, List.sum_nil, List.map_flatMap, Nat.add_zero, Nat.zero_add]; ac_rfl)))) fun l r md' h hmd' hl hr hlid gl gr s => ?_
    have : md' = md := by rw [h1] at hmd'; exact Option.some.inj (hmd'.symm.trans hmd)
    subst this
    rw [h1] at hl hr
    have s : St h0 Z ((tb, 2, [ptr t.id 0]) :: (t8, 0, enc x) :: (tb, 3, [.int .i64 cnt]) :: (l.all enc ++ (r.all enc ++ E))) h := s.perm (by ((apply perm_rg; intro f; simp only [List.set_cons_zero, List.set_cons_succ, List.eraseIdx_cons_zero, List.eraseIdx_cons_succ, List.cons_append, List.nil_append, List.map_append, List.map_cons, List.map_nil, List.sum_append, List.sum_cons, List.sum_nil, List.map_flatMap, Nat.add_zero, Nat.zero_add]; ac_rfl)))
    refine r_ext rfl ?_
    refine r_ext rfl ?_
    refine s.r_alloc fun t14 h s => ?_
    refine St.r_storeN0 s 0 rfl rfl (by simp) (enc1 _) ?_; intro h s
    refine newNode_inner (hi s) fun n' kb' h s1 => ?_
    have s := s.join s1
    have s : St h0 Z ((n', 0, [.int .u64 iso, .int .i64 0, .slice none 0 0, ptr kb' 0]) :: (kb', 0, [.slice none 0 0]) :: (t14, 0, enc md') :: (tb, 2, [ptr t.id 0]) :: (t8, 0, enc x) :: (tb, 3, [.int .i64 cnt]) :: (l.all enc ++ (r.all enc ++ E))) h := s
    refine r_nil ?_
    refine r_fld ?_
    refine St.r_store1 s 3 (o := 2) (j := 0) rfl (by simp) rfl ?_; intro h s
    refine r_nil ?_
    refine r_fld ?_
    refine s.r_load1 3 (o := 2) (j := 0) rfl rfl ?_
    refine r_nil ?_
    refine r_fld ?_
    refine St.r_load0 s 0 rfl rfl ?_
    refine r_nil ?_
    refine r_fld ?_
    refine s.r_lz hT4 3 rfl rfl ?_
    refine r_add (z := ((m + 1 : Nat) : Int)) (by rw [i64w (by omega) (by omega)]; omega) ?_
    refine s.r_mks (n := 0) rfl (by omega) (by omega) (by omega) fun v b h s w0 => ?_
    refine ⟨s.r_still1 4 (o := 2) (j := 0) rfl rfl, by (first | exact St.r_still0 s 0 rfl rfl | exact St.r_still0 s 1 rfl rfl | exact St.r_still0 s 2 rfl rfl | exact St.r_still0 s 3 rfl rfl | exact St.r_still0 s 4 rfl rfl | exact St.r_still0 s 5 rfl rfl | exact St.r_still0 s 6 rfl rfl), ?_⟩
    refine r_nil ?_
    refine St.r_store0 s 2 rfl (by simp) w0.one ?_; intro h s
    refine r_nil ?_
    refine r_fld ?_
    refine s.r_load1 4 (o := 2) (j := 0) rfl rfl ?_
    refine r_nil ?_
    refine r_fld ?_
    refine St.r_load0 s 1 rfl rfl ?_
    have s : St h0 Z ((n', 0, [.int .u64 iso, .int .i64 0, .slice none 0 0, ptr kb' 0]) :: (kb', 0, [v]) :: (t14, 0, enc md') :: (tb, 2, [ptr n' 0]) :: (t8, 0, enc x) :: (tb, 3, [.int .i64 cnt]) :: (l.all enc ++ (r.all enc ++ E))) h := s.drop 1
    -- what follows the items
    have fin : ∀ {iv kv : Value} {ib io rb ro : Nat} {isp ksp : List Value} {h : Heap}, Own 2 iv 1 ib io (enc md') isp → Own 1 kv 2 rb ro (fp l.id ++ fp r.id) ksp →
        St h0 Z ((n', 0, [.int .u64 iso, .int .i64 0, iv, ptr kb' 0]) :: (ib, io, enc md' ++ isp) :: (kb', 0, [kv]) :: (rb, ro, (fp l.id ++ fp r.id) ++ ksp) :: (tb, 2, [ptr n' 0]) :: (t8, 0, enc x) :: (tb, 3, [.int .i64 cnt]) :: (l.all enc ++ (r.all enc ++ E))) h →
        (nilck (ptr tb 0) fun t118 => fld 2 t118 fun t119 => load1 t119 h fun t120 => mapNode_si_updateCount.call #[t120] h fun t121 h => fld 1 (ptr t8 0) fun t123 => load1 t123 h fun t124 =>
          fld 0 (ptr t8 0) fun t125 => load1 t125 h fun t126 => Map_si_Set.call #[ptr tb 0, t124, t126] h fun t127 h => extr 0 t127 fun t128 => extr 1 t127 fun t129 => Q (.tuple #[t128, t129]) h) := by
      intro iv kv ib io rb ro isp ksp h wi wkk s
      have s : St h0 Z ((n', 0, [.int .u64 iso, .int .i64 0, iv, ptr kb' 0]) :: (kb', 0, [kv]) :: (rb, ro, ([l, r].map GT.id).flatMap fp ++ ksp) :: (tb, 2, [ptr n' 0]) :: (ib, io, enc md' ++ isp) :: (t8, 0, enc x) :: (tb, 3, [.int .i64 cnt]) :: (l.all enc ++ (r.all enc ++ E))) h := s.perm (by
        show ((n', 0, [.int .u64 iso, .int .i64 0, iv, ptr kb' 0]) :: (kb', 0, [kv]) :: (rb, ro, (fp l.id ++ fp r.id) ++ ksp) :: _ :: _ :: _ :: _ :: _).Perm _
        ((apply perm_rg; intro f; simp only [List.set_cons_zero, List.set_cons_succ, List.eraseIdx_cons_zero, List.eraseIdx_cons_succ, List.cons_append, List.nil_append, List.map_append, List.map_cons, List.map_nil, List.sum_append, List.sum_cons, List.sum_nil, List.map_flatMap, Nat.add_zero, Nat.zero_add]; ac_rfl)))
      have wkk : Own 1 kv ([l, r].map GT.id).length rb ro (([l, r].map GT.id).flatMap fp) ksp := wkk
      refine r_nil ?_
      refine r_fld ?_
      refine s.r_load1 3 (o := 2) (j := 0) rfl rfl ?_
      have hlr : l.pt.items.length + r.pt.items.length + 1 = t.pt.items.length := by
        rw [hl, hr, PT.cut_items fl hmd, List.length_append, List.length_cons]; omega
      refine updateCount_kids (ts := [l, r]) (len := 1) s wi wkk (fun q hq => ?_) (fun q hq z hz => ?_) (by simp) (by simp; omega) fun h s => ?_
      · simp at hq; rcases hq with e | e <;> subst e
        · exact gl.cn
        · exact gr.cn
      · simp at hq
        simp only [List.mem_cons, List.mem_append]
        rcases hq with e | e <;> subst e
        · exact .inr (.inr (.inr (.inr (.inl hz))))
        · exact .inr (.inr (.inr (.inr (.inr (.inl hz)))))
      · have hcc : 1 + ([l, r].map fun t => t.pt.items.length).sum = t.pt.items.length := by simp; omega
        rw [hcc] at s
        refine r_fld ?_
        refine St.r_load0 s 5 rfl rfl ?_
        refine r_fld ?_
        refine St.r_load0 s 5 rfl rfl ?_
        let tn : GT It (k + 1) := ((⟨true, n', iso, (t.pt.items.length : Int), [md'], iv, ib, io, isp, kb', kv, rb, ro, ksp⟩ : Nd It), [l, r])
        have hpn : tn.pt = t.pt.grow m := by
          rw [egrow]
          show ([md'], [l, r].map GT.pt) = _
          rw [List.map_cons, List.map_cons, List.map_nil, hl, hr]
        have gn : Gd iso tn := Gd.inner (by show Own 2 iv [md'].length ib io ([md'].flatMap enc) isp; simpa using wi) rfl rfl (by simpa using wkk) rfl (fun c hc => by
          have hc : c ∈ [l, r] := hc
          simp at hc; rcases hc with e | e <;> subst e
          · exact gl
          · exact gr) (by show (t.pt.items.length : Int) = (tn.pt.items.length : Int); rw [hpn, g1])
        have s : St h0 Z ((tb, 2, [ptr tn.id 0]) :: (tb, 3, [.int .i64 cnt]) :: (tn.all enc ++ ((t8, 0, enc x) :: E))) h := by
          have s1 : St h0 Z ((tb, 2, [ptr n' 0]) :: (tb, 3, [.int .i64 cnt]) :: (n', 0, [.int .u64 iso, .int .i64 t.pt.items.length, iv, ptr kb' 0]) :: (ib, io, [md'].flatMap enc ++ isp) :: (kb', 0, [kv]) :: (rb, ro, (([l, r].map GT.id).map fun m => ptr m 0) ++ ksp) :: ([l, r].flatMap (GT.all enc) ++ ((t8, 0, enc x) :: E))) h := by
            rw [mfp]
            exact s.perm (by
              rw [List.flatMap_singleton, List.flatMap_cons, List.flatMap_cons, List.flatMap_nil, List.append_nil]; ((apply perm_rg; intro f; simp only [List.set_cons_zero, List.set_cons_succ, List.eraseIdx_cons_zero, List.eraseIdx_cons_succ, List.cons_append, List.nil_append, List.map_append, List.map_cons, List.map_nil, List.sum_append, List.sum_cons, List.sum_nil, List.map_flatMap, Nat.add_zero, Nat.zero_add]; ac_rfl)))
          exact s1
        refine Set_noSplit htb hT0 hT4 hm1 ho tn (by rw [hpn]; exact g2) (by rw [hpn, g1]; exact ha) (by rw [hpn, g1]; exact hsz) gn (by rw [hpn, g1]; exact hcnt) (by rw [hpn]; exact g3) s fun t2 h' e1 e2 s => ?_
        rw [hpn, g1, hgn]
        refine r_ext rfl ?_
        refine r_ext rfl ?_
        have := H ⟨k + 1, t2⟩ h' (by
          show some (⟨k + 1, t2.pt⟩ : (j : Nat) × PT It j) = _
          unfold MT.set
          simp only [hsp, ↓reduceIte, e1, hpn]) e2 ((s.perm (E' := (t8, 0, enc x) :: (tb, 2, [ptr t2.id 0]) :: (tb, 3, [.int .i64 t2.pt.items.length]) :: (t2.all enc ++ E)) (by ((apply perm_rg; intro f; simp only [List.set_cons_zero, List.set_cons_succ, List.eraseIdx_cons_zero, List.eraseIdx_cons_succ, List.cons_append, List.nil_append, List.map_append, List.map_cons, List.map_nil, List.sum_append, List.sum_cons, List.sum_nil, List.map_flatMap, Nat.add_zero, Nat.zero_add]; ac_rfl)))).drop 1)
        rw [hgn] at this
        exact this
    -- what follows the children
    have tail : ∀ {kv : Value} {rb ro : Nat} {ksp : List Value} {h : Heap}, Own 1 kv 2 rb ro (fp l.id ++ fp r.id) ksp →
        St h0 Z ((n', 0, [.int .u64 iso, .int .i64 0, .slice none 0 0, ptr kb' 0]) :: (kb', 0, [kv]) :: (rb, ro, (fp l.id ++ fp r.id) ++ ksp) :: (t14, 0, enc md') :: (tb, 2, [ptr n' 0]) :: (t8, 0, enc x) :: (tb, 3, [.int .i64 cnt]) :: (l.all enc ++ (r.all enc ++ E))) h →
        (nilck (ptr tb 0) fun t108 => fld 2 t108 fun t109 => load1 t109 h fun t110 => loadN 2 (ptr t14 0) h fun t112 =>
          (mkSl (if 0 * 2 = 0 then [] else zeros (enc emp) 0) 0 [] 223 h fun t111 h => still1 t109 t110 h ∧ stillN 2 (ptr t14 0) t112 h ∧ mkSl (if 1 * 2 = 0 then [] else zeros (enc emp) 1) 1 [(0 * 2, 2, t112)] 223 h fun t113 h =>
            still1 t109 t110 h ∧ app 223 2 24 (enc emp) t111 t113 h fun t114 h => still1 t109 t110 h ∧ nilck t110 fun t115 => fld 2 t115 fun t116 => store1 t116 t114 h fun h =>
            nilck (ptr tb 0) fun t118 => fld 2 t118 fun t119 => load1 t119 h fun t120 => mapNode_si_updateCount.call #[t120] h fun t121 h => fld 1 (ptr t8 0) fun t123 => load1 t123 h fun t124 =>
            fld 0 (ptr t8 0) fun t125 => load1 t125 h fun t126 => Map_si_Set.call #[ptr tb 0, t124, t126] h fun t127 h => extr 0 t127 fun t128 => extr 1 t127 fun t129 => Q (.tuple #[t128, t129]) h) ∧
          (mkSl (if 1 * 2 = 0 then [] else zeros (enc emp) 1) 1 [(0 * 2, 2, t112)] 223 h fun t113 h => still1 t109 t110 h ∧ mkSl (if 0 * 2 = 0 then [] else zeros (enc emp) 0) 0 [] 223 h fun t111 h =>
            still1 t109 t110 h ∧ app 223 2 24 (enc emp) t111 t113 h fun t114 h => still1 t109 t110 h ∧ nilck t110 fun t115 => fld 2 t115 fun t116 => store1 t116 t114 h fun h =>
            nilck (ptr tb 0) fun t118 => fld 2 t118 fun t119 => load1 t119 h fun t120 => mapNode_si_updateCount.call #[t120] h fun t121 h => fld 1 (ptr t8 0) fun t123 => load1 t123 h fun t124 =>
            fld 0 (ptr t8 0) fun t125 => load1 t125 h fun t126 => Map_si_Set.call #[ptr tb 0, t124, t126] h fun t127 h => extr 0 t127 fun t128 => extr 1 t127 fun t129 => Q (.tuple #[t128, t129]) h)) := by
      intro kv rb ro ksp h wkk s
      refine r_nil ?_
      refine r_fld ?_
      refine s.r_load1 4 (o := 2) (j := 0) rfl rfl ?_
      refine St.r_loadN0 s 3 rfl (by simp) ?_
      constructor
      · refine St.r_mkSl (sz := 2) (cs := []) s (by ((simp only [fillV, fill1, Value.cells, zeros_succ, zeros_zero, List.size_toArray, List.length_cons, List.length_nil, List.length_append, List.take_succ_cons, List.take_zero, List.take_nil, List.drop_succ_cons, List.drop_zero, List.drop_nil, List.cons_append, List.nil_append, List.append_nil, Nat.reduceAdd, Nat.reduceMul, Nat.reduceLeDiff, Nat.reduceEqDiff, and_self, and_true, true_and, if_true, Nat.le_refl, Nat.zero_add, Nat.add_zero, Nat.zero_mul, reduceIte, if_false] <;> rfl))) rfl fun q1 h s w1 => ?_
        refine ⟨s.r_still1 5 (o := 2) (j := 0) rfl rfl, St.r_stillN0 s 4 rfl (by simp) rfl, ?_⟩
        refine St.r_mkSl (sz := 2) (cs := enc md') s (by ((simp only [fillV, fill1, Value.cells, zeros_succ, zeros_zero, List.size_toArray, List.length_cons, List.length_nil, List.length_append, List.take_succ_cons, List.take_zero, List.take_nil, List.drop_succ_cons, List.drop_zero, List.drop_nil, List.cons_append, List.nil_append, List.append_nil, Nat.reduceAdd, Nat.reduceMul, Nat.reduceLeDiff, Nat.reduceEqDiff, and_self, and_true, true_and, if_true, Nat.le_refl, Nat.zero_add, Nat.add_zero, Nat.zero_mul, reduceIte, if_false] <;> rfl))) rfl fun q2 h s w2 => ?_
        refine ⟨s.r_still1 6 (o := 2) (j := 0) rfl rfl, ?_⟩
        refine St.r_app s 1 (sz := 2) (n := 1) (new := enc md') rfl w1 rfl (w2.rdl s 0 rfl) (enc1 _) (by omega) (by omega) fun iv ib io isp h s wi => ?_
        refine ⟨s.r_still1 6 (o := 2) (j := 0) rfl rfl, ?_⟩
        refine r_nil ?_
        refine r_fld ?_
        refine St.r_store0 s 2 rfl (by simp) wi.one ?_; intro h s
        exact fin wi wkk ((s.perm (E' := (q2, 0, enc md' ++ []) :: (t14, 0, enc md') :: _) (by simp; ((apply perm_rg; intro f; simp only [List.set_cons_zero, List.set_cons_succ, List.eraseIdx_cons_zero, List.eraseIdx_cons_succ, List.cons_append, List.nil_append, List.map_append, List.map_cons, List.map_nil, List.sum_append, List.sum_cons, List.sum_nil, List.map_flatMap, Nat.add_zero, Nat.zero_add]; ac_rfl)))).drop 2)
      · refine St.r_mkSl (sz := 2) (cs := enc md') s (by ((simp only [fillV, fill1, Value.cells, zeros_succ, zeros_zero, List.size_toArray, List.length_cons, List.length_nil, List.length_append, List.take_succ_cons, List.take_zero, List.take_nil, List.drop_succ_cons, List.drop_zero, List.drop_nil, List.cons_append, List.nil_append, List.append_nil, Nat.reduceAdd, Nat.reduceMul, Nat.reduceLeDiff, Nat.reduceEqDiff, and_self, and_true, true_and, if_true, Nat.le_refl, Nat.zero_add, Nat.add_zero, Nat.zero_mul, reduceIte, if_false] <;> rfl))) rfl fun q2 h s w2 => ?_
        refine ⟨s.r_still1 5 (o := 2) (j := 0) rfl rfl, ?_⟩
        refine St.r_mkSl (sz := 2) (cs := []) s (by ((simp only [fillV, fill1, Value.cells, zeros_succ, zeros_zero, List.size_toArray, List.length_cons, List.length_nil, List.length_append, List.take_succ_cons, List.take_zero, List.take_nil, List.drop_succ_cons, List.drop_zero, List.drop_nil, List.cons_append, List.nil_append, List.append_nil, Nat.reduceAdd, Nat.reduceMul, Nat.reduceLeDiff, Nat.reduceEqDiff, and_self, and_true, true_and, if_true, Nat.le_refl, Nat.zero_add, Nat.add_zero, Nat.zero_mul, reduceIte, if_false] <;> rfl))) rfl fun q1 h s w1 => ?_
        refine ⟨s.r_still1 6 (o := 2) (j := 0) rfl rfl, ?_⟩
        refine St.r_app s 0 (sz := 2) (n := 1) (new := enc md') rfl w1 rfl (w2.rdl s 1 rfl) (enc1 _) (by omega) (by omega) fun iv ib io isp h s wi => ?_
        refine ⟨s.r_still1 6 (o := 2) (j := 0) rfl rfl, ?_⟩
        refine r_nil ?_
        refine r_fld ?_
        refine St.r_store0 s 2 rfl (by simp) wi.one ?_; intro h s
        exact fin wi wkk ((s.perm (E' := (q2, 0, enc md' ++ []) :: (t14, 0, enc md') :: _) (by simp; ((apply perm_rg; intro f; simp only [List.set_cons_zero, List.set_cons_succ, List.eraseIdx_cons_zero, List.eraseIdx_cons_succ, List.cons_append, List.nil_append, List.map_append, List.map_cons, List.map_nil, List.sum_append, List.sum_cons, List.sum_nil, List.map_flatMap, Nat.add_zero, Nat.zero_add]; ac_rfl)))).drop 2)
    constructor
    · refine St.r_mkSl (sz := 1) (cs := []) s (by ((simp only [fillV, fill1, Value.cells, zeros_succ, zeros_zero, List.size_toArray, List.length_cons, List.length_nil, List.length_append, List.take_succ_cons, List.take_zero, List.take_nil, List.drop_succ_cons, List.drop_zero, List.drop_nil, List.cons_append, List.nil_append, List.append_nil, Nat.reduceAdd, Nat.reduceMul, Nat.reduceLeDiff, Nat.reduceEqDiff, and_self, and_true, true_and, if_true, Nat.le_refl, Nat.zero_add, Nat.add_zero, Nat.zero_mul, reduceIte, if_false] <;> rfl))) rfl fun q1 h s w1 => ?_
      refine ⟨s.r_still1 4 (o := 2) (j := 0) rfl rfl, by (first | exact St.r_still0 s 0 rfl rfl | exact St.r_still0 s 1 rfl rfl | exact St.r_still0 s 2 rfl rfl | exact St.r_still0 s 3 rfl rfl | exact St.r_still0 s 4 rfl rfl | exact St.r_still0 s 5 rfl rfl | exact St.r_still0 s 6 rfl rfl), ?_⟩
      refine St.r_mkSl (sz := 1) (cs := fp l.id ++ fp r.id) s (by rw [hlid]; ((simp only [fillV, fill1, Value.cells, zeros_succ, zeros_zero, List.size_toArray, List.length_cons, List.length_nil, List.length_append, List.take_succ_cons, List.take_zero, List.take_nil, List.drop_succ_cons, List.drop_zero, List.drop_nil, List.cons_append, List.nil_append, List.append_nil, Nat.reduceAdd, Nat.reduceMul, Nat.reduceLeDiff, Nat.reduceEqDiff, and_self, and_true, true_and, if_true, Nat.le_refl, Nat.zero_add, Nat.add_zero, Nat.zero_mul, reduceIte, if_false] <;> rfl))) rfl fun q2 h s w2 => ?_
      refine ⟨s.r_still1 5 (o := 2) (j := 0) rfl rfl, by (first | exact St.r_still0 s 0 rfl rfl | exact St.r_still0 s 1 rfl rfl | exact St.r_still0 s 2 rfl rfl | exact St.r_still0 s 3 rfl rfl | exact St.r_still0 s 4 rfl rfl | exact St.r_still0 s 5 rfl rfl | exact St.r_still0 s 6 rfl rfl), ?_⟩
      refine St.r_app s 1 (sz := 1) (n := 2) (new := fp l.id ++ fp r.id) rfl w1 rfl (w2.rdl s 0 rfl) (by simp [one1]) (by omega) (by omega) fun kv rb ro ksp h s wkk => ?_
      refine ⟨s.r_still1 5 (o := 2) (j := 0) rfl rfl, by (first | exact St.r_still0 s 0 rfl rfl | exact St.r_still0 s 1 rfl rfl | exact St.r_still0 s 2 rfl rfl | exact St.r_still0 s 3 rfl rfl | exact St.r_still0 s 4 rfl rfl | exact St.r_still0 s 5 rfl rfl | exact St.r_still0 s 6 rfl rfl), ?_⟩
      refine r_nil ?_
      refine St.r_store0 s 3 rfl (by simp) wkk.one ?_; intro h s
      exact tail wkk ((s.perm (E' := (q2, 0, fp l.id ++ fp r.id ++ []) :: _) (by simp; ((apply perm_rg; intro f; simp only [List.set_cons_zero, List.set_cons_succ, List.eraseIdx_cons_zero, List.eraseIdx_cons_succ, List.cons_append, List.nil_append, List.map_append, List.map_cons, List.map_nil, List.sum_append, List.sum_cons, List.sum_nil, List.map_flatMap, Nat.add_zero, Nat.zero_add]; ac_rfl)))).drop 1)
    · refine St.r_mkSl (sz := 1) (cs := fp l.id ++ fp r.id) s (by rw [hlid]; ((simp only [fillV, fill1, Value.cells, zeros_succ, zeros_zero, List.size_toArray, List.length_cons, List.length_nil, List.length_append, List.take_succ_cons, List.take_zero, List.take_nil, List.drop_succ_cons, List.drop_zero, List.drop_nil, List.cons_append, List.nil_append, List.append_nil, Nat.reduceAdd, Nat.reduceMul, Nat.reduceLeDiff, Nat.reduceEqDiff, and_self, and_true, true_and, if_true, Nat.le_refl, Nat.zero_add, Nat.add_zero, Nat.zero_mul, reduceIte, if_false] <;> rfl))) rfl fun q2 h s w2 => ?_
      refine ⟨s.r_still1 4 (o := 2) (j := 0) rfl rfl, by (first | exact St.r_still0 s 0 rfl rfl | exact St.r_still0 s 1 rfl rfl | exact St.r_still0 s 2 rfl rfl | exact St.r_still0 s 3 rfl rfl | exact St.r_still0 s 4 rfl rfl | exact St.r_still0 s 5 rfl rfl | exact St.r_still0 s 6 rfl rfl), ?_⟩
      refine St.r_mkSl (sz := 1) (cs := []) s (by ((simp only [fillV, fill1, Value.cells, zeros_succ, zeros_zero, List.size_toArray, List.length_cons, List.length_nil, List.length_append, List.take_succ_cons, List.take_zero, List.take_nil, List.drop_succ_cons, List.drop_zero, List.drop_nil, List.cons_append, List.nil_append, List.append_nil, Nat.reduceAdd, Nat.reduceMul, Nat.reduceLeDiff, Nat.reduceEqDiff, and_self, and_true, true_and, if_true, Nat.le_refl, Nat.zero_add, Nat.add_zero, Nat.zero_mul, reduceIte, if_false] <;> rfl))) rfl fun q1 h s w1 => ?_
      refine ⟨s.r_still1 5 (o := 2) (j := 0) rfl rfl, by (first | exact St.r_still0 s 0 rfl rfl | exact St.r_still0 s 1 rfl rfl | exact St.r_still0 s 2 rfl rfl | exact St.r_still0 s 3 rfl rfl | exact St.r_still0 s 4 rfl rfl | exact St.r_still0 s 5 rfl rfl | exact St.r_still0 s 6 rfl rfl), ?_⟩
      refine St.r_app s 0 (sz := 1) (n := 2) (new := fp l.id ++ fp r.id) rfl w1 rfl (w2.rdl s 1 rfl) (by simp [one1]) (by omega) (by omega) fun kv rb ro ksp h s wkk => ?_
      refine ⟨s.r_still1 5 (o := 2) (j := 0) rfl rfl, by (first | exact St.r_still0 s 0 rfl rfl | exact St.r_still0 s 1 rfl rfl | exact St.r_still0 s 2 rfl rfl | exact St.r_still0 s 3 rfl rfl | exact St.r_still0 s 4 rfl rfl | exact St.r_still0 s 5 rfl rfl | exact St.r_still0 s 6 rfl rfl), ?_⟩
      refine r_nil ?_
      refine St.r_store0 s 3 rfl (by simp) wkk.one ?_; intro h s
      exact tail wkk ((s.perm (E' := (q2, 0, fp l.id ++ fp r.id ++ []) :: _) (by simp; ((apply perm_rg; intro f; simp only [List.set_cons_zero, List.set_cons_succ, List.eraseIdx_cons_zero, List.eraseIdx_cons_succ, List.cons_append, List.nil_append, List.map_append, List.map_cons, List.map_nil, List.sum_append, List.sum_cons, List.sum_nil, List.map_flatMap, Nat.add_zero, Nat.zero_add]; ac_rfl)))).drop 1)
end Go.Proofs.Ytdpkpcmoabfofaa.Si
end
section
namespace Go.Proofs.Ytdpkpcmoabfofaa
open Go.Hp
set_option linter.unusedVariables false
set_option linter.unusedSimpArgs false
theorem degree_ok {h : Heap} {Q : Value → Heap → Prop} {d : Int} (h1 : 2 ≤ d) (h2 : d ≤ 1073741824) (H : Q (.tuple #[.int .i64 (d - 1), .int .i64 (2 * d - 1)]) h) : degreeToMinMax.call #[.int .i64 d] h Q := by
  refine degreeToMinMax.body _ _ _ ?_
  unfold degreeToMinMax.sh
  simp only [w_load1, w_loadN, w_nil, w_fld, w_idx, w_len, w_lenStr, w_cap, w_arith, w_divi, w_remi, w_cmpI, w_cmpS, w_not, w_ext, w_eqNilP, w_neNilP, w_eqB, w_pick, w_max, w_ifV, w_br, w_store1, w_storeN, w_alloc, w_box, add_mk, Nat.zero_add, Nat.add_zero, Option.some.injEq, exists_eq_left', List.getElem?_cons_zero, List.getElem?_cons_succ, List.getD_cons_zero, List.getD_cons_succ]
  refine ⟨fun e => absurd e (by simp; omega), fun _ => ⟨fun e => absurd e (by simp; omega), fun _ => ?_⟩⟩
  unfold degreeToMinMax.j1
  simp only [w_load1, w_loadN, w_nil, w_fld, w_idx, w_len, w_lenStr, w_cap, w_arith, w_divi, w_remi, w_cmpI, w_cmpS, w_not, w_ext, w_eqNilP, w_neNilP, w_eqB, w_pick, w_max, w_ifV, w_br, w_store1, w_storeN, w_alloc, w_box, add_mk, Nat.zero_add, Nat.add_zero, Option.some.injEq, exists_eq_left', List.getElem?_cons_zero, List.getElem?_cons_succ, List.getD_cons_zero, List.getD_cons_succ]
  rw [i64w (n := d * 2) (by omega) (by omega), i64w (n := d * 2 - 1) (by omega) (by omega)]
  have hd : (d * 2 - 1).tdiv 2 = d - 1 := by rw [Int.tdiv_eq_ediv_of_nonneg (by omega)]; omega
  rw [hd, i64w (n := d - 1) (by omega) (by omega), show d * 2 - 1 = 2 * d - 1 by omega]
  exact ⟨by decide, H⟩
end Go.Proofs.Ytdpkpcmoabfofaa
end
section
namespace Go.Proofs.Ytdpkpcmoabfofaa.Si
open Go.Hp Go.Proofs.Ytdpkpcmoabfofaa
set_option linter.unusedVariables false
set_option linter.unusedSimpArgs false
variable {h0 h : Heap} {Z E : List Rg} {Q : Value → Heap → Prop}

structure MapOk (m : Nat) (iso : Int) (g : Rt) : Prop where
  gd : rGd iso g
  fl : (rPt g).Fl m
  asc : Asc lt (rPt g).items
  m3 : 3 ≤ m
  m1 : m ≤ 1024
  odd : m % 2 = 1
theorem MapOk.none {m : Nat} {iso : Int} (m3 : 3 ≤ m) (m1 : m ≤ 1024) (odd : m % 2 = 1) : MapOk m iso none := ⟨trivial, trivial, List.Pairwise.nil, m3, m1, odd⟩

theorem init_skip {tb : Nat} {d iso cnt mn mx : Int} {ctr root : Option Addr} (s : St h0 Z ((tb, 0, hdr iso ctr root cnt mn mx) :: E) h) (hmn : mn ≠ 0) (H : Q (.tuple #[]) h) : Map_si_init.call #[ptr tb 0, .int .i64 d] h Q := by
  refine Map_si_init.body _ _ _ _ ?_
  unfold Map_si_init.sh
  refine r_nil ?_
  refine r_fld ?_
  refine St.r_load0 s 0 rfl rfl ?_
  refine r_cmpI ?_
  exact r_if (fun _ => H) (fun e => absurd e (by simpa using hmn))
theorem init_set {tb : Nat} {d a b iso cnt : Int} {ctr root : Option Addr} (s : St h0 Z ((tb, 0, hdr iso ctr root cnt 0 0) :: E) h) (hd : ∀ {h : Heap} {Q : Value → Heap → Prop}, Q (.tuple #[.int .i64 a, .int .i64 b]) h → degreeToMinMax.call #[.int .i64 d] h Q)
    (H : ∀ h', St h0 Z ((tb, 0, hdr iso ctr root cnt a b) :: E) h' → Q (.tuple #[]) h') : Map_si_init.call #[ptr tb 0, .int .i64 d] h Q := by
  refine Map_si_init.body _ _ _ _ ?_
  unfold Map_si_init.sh
  refine r_nil ?_
  refine r_fld ?_
  refine St.r_load0 s 0 rfl rfl ?_
  refine r_cmpI ?_
  refine r_if (fun e => absurd e (by decide)) (fun _ => ?_)
  unfold Map_si_init.j1
  refine hd ?_
  refine r_ext rfl ?_
  refine r_ext rfl ?_
  refine r_nil ?_
  refine r_fld ?_
  refine St.r_store0 s 0 rfl (by simp) rfl ?_
  intro h s
  try simp only [List.set_cons_zero, List.set_cons_succ] at s
  refine r_nil ?_
  refine r_fld ?_
  refine St.r_store0 s 0 rfl (by simp) rfl ?_
  intro h s
  try simp only [List.set_cons_zero, List.set_cons_succ] at s
  refine r_nil ?_
  refine r_fld ?_
  refine r_fld ?_
  refine St.r_load0 s 0 rfl rfl ?_
  refine r_ext rfl ?_
  refine r_ext rfl ?_
  refine r_nil ?_
  refine r_fld ?_
  refine St.r_store0 s 0 rfl (by simp) rfl ?_
  intro h s
  try simp only [List.set_cons_zero, List.set_cons_succ] at s
  refine r_nil ?_
  refine r_fld ?_
  refine St.r_load0 s 0 rfl rfl ?_
  refine r_not ?_
  refine r_if (fun _ => ?_) (fun e => absurd e (by decide))
  refine r_nil ?_
  refine r_fld ?_
  refine r_fld ?_
  refine St.r_load0 s 0 rfl rfl ?_
  refine r_ext rfl ?_
  refine r_ext rfl ?_
  refine r_nil ?_
  refine r_fld ?_
  refine St.r_store0 s 0 rfl (by simp) rfl ?_
  intro h s
  try simp only [List.set_cons_zero, List.set_cons_succ] at s
  exact H _ s

/-- The first item of a map. -/
theorem Set_first {tb : Nat} {iso mn mx mn' mx' : Int} {ctr : Option Addr} {x : It} (s : St h0 Z ((tb, 0, hdr iso ctr none 0 mn mx) :: E) h)
    (hin : ∀ {E : List Rg} {h : Heap} {Q : Value → Heap → Prop}, St h0 Z ((tb, 0, hdr iso ctr none 0 mn mx) :: E) h → (∀ h', St h0 Z ((tb, 0, hdr iso ctr none 0 mn' mx') :: E) h' → Q (.tuple #[]) h') → Map_si_init.call #[ptr tb 0, .int .i64 0] h Q)
    (H : ∀ (t : GT It 0) h', t.pt = ([x] : List It) → Gd iso t → St h0 Z ((tb, 0, hdr iso ctr (some ⟨t.id, 0, none⟩) 1 mn' mx') :: (t.all enc ++ E)) h' → Q (.tuple #[old none, .bool false]) h') :
    Map_si_Set.call #[ptr tb 0, kv x.1, vv x.2] h Q := by
  refine Map_si_Set.body _ _ _ _ _ ?_
  unfold Map_si_Set.sh
  (apply r_build; (simp only [fillV, fill1, Value.cells, zeros_succ, zeros_zero, List.size_toArray, List.length_cons, List.length_nil, List.length_append, List.take_succ_cons, List.take_zero, List.take_nil, List.drop_succ_cons, List.drop_zero, List.drop_nil, List.cons_append, List.nil_append, List.append_nil, Nat.reduceAdd, Nat.reduceMul, Nat.reduceLeDiff, Nat.reduceEqDiff, and_self, and_true, true_and, if_true, Nat.le_refl, Nat.zero_add, Nat.add_zero, Nat.zero_mul, reduceIte, if_false] <;> rfl))
  refine s.r_alloc fun t8 h s => ?_
  refine St.r_storeN0 s 0 rfl rfl (by simp) (enc1 x) ?_; intro h s
  refine r_nil ?_
  refine r_fld ?_
  refine St.r_load0 s 1 rfl rfl ?_
  refine r_eqNilP ?_
  refine r_if (fun _ => ?_) (fun e => absurd e (by simp))
  refine hin (s.front 1 rfl) fun h s => ?_
  refine newNode_leaf (iso := iso) (by have := s.get (k := 0) (j := 0) rfl (by simp); simpa using this) fun n h s1 => ?_
  have s := s.join s1
  have s : St h0 Z ((n, 0, [.int .u64 iso, .int .i64 0, .slice none 0 0, .pointer none]) :: (tb, 0, hdr iso ctr none 0 mn' mx') :: (t8, 0, enc x) :: E) h := s
  refine r_nil ?_
  refine r_fld ?_
  refine St.r_store0 s 1 rfl (by simp) rfl ?_
  intro h s
  try simp only [List.set_cons_zero, List.set_cons_succ] at s
  refine r_nil ?_
  refine r_fld ?_
  refine St.r_load0 s 1 rfl rfl ?_
  refine St.r_loadN0 s 2 rfl (by simp) ?_
  have fin : ∀ {iv : Value} {ib io : Nat} {isp : List Value} {h : Heap}, Own 2 iv 1 ib io (enc x) isp →
      St h0 Z ((n, 0, [.int .u64 iso, .int .i64 0, iv, .pointer none]) :: (tb, 0, hdr iso ctr (some ⟨n, 0, none⟩) 0 mn' mx') :: (ib, io, enc x ++ isp) :: (t8, 0, enc x) :: E) h →
      (nilck (ptr tb 0) fun t41 => fld 2 t41 fun t42 => load1 t42 h fun t43 => nilck t43 fun t44 => fld 1 t44 fun t45 => store1 t45 (.int .i64 1) h fun h => nilck (ptr tb 0) fun t47 => fld 3 t47 fun t48 => store1 t48 (.int .i64 1) h fun h =>
        nilck (ptr tb 0) fun t50 => fld 4 t50 fun t51 =>
        fld 0 t51 fun t52 => load1 t52 h fun t53 => Q (.tuple #[t53, (.bool false)]) h) := by
    intro iv ib io isp h wi s
    refine r_nil ?_
    refine r_fld ?_
    refine St.r_load0 s 1 rfl rfl ?_
    refine r_nil ?_
    refine r_fld ?_
    refine St.r_store0 s 0 rfl (by simp) rfl ?_
    intro h s
    try simp only [List.set_cons_zero, List.set_cons_succ] at s
    refine r_nil ?_
    refine r_fld ?_
    refine St.r_store0 s 1 rfl (by simp) rfl ?_
    intro h s
    try simp only [List.set_cons_zero, List.set_cons_succ] at s
    refine r_nil ?_
    refine r_fld ?_
    refine r_fld ?_
    refine St.r_load0 s 1 rfl rfl ?_
    exact H (⟨true, n, iso, 1, [x], iv, ib, io, isp, 0, .pointer none, 0, 0, []⟩ : Nd It) h rfl (Gd.leaf (by show Own 2 iv [x].length ib io ([x].flatMap enc) isp; simpa using wi) rfl rfl rfl)
      ((s.perm (E' := (t8, 0, enc x) :: (tb, 0, hdr iso ctr (some ⟨n, 0, none⟩) 1 mn' mx') :: (n, 0, [.int .u64 iso, .int .i64 1, iv, .pointer none]) :: (ib, io, [x].flatMap enc ++ isp) :: E) (by rw [List.flatMap_singleton]; ((apply perm_rg; intro f; simp only [List.set_cons_zero, List.set_cons_succ, List.eraseIdx_cons_zero, List.eraseIdx_cons_succ, List.cons_append, List.nil_append, List.map_append, List.map_cons, List.map_nil, List.sum_append, List.sum_cons, List.sum_nil, List.map_flatMap, Nat.add_zero, Nat.zero_add]; ac_rfl)))).drop 1)
  constructor
  · refine St.r_mkSl (sz := 2) (cs := []) s (by ((simp only [fillV, fill1, Value.cells, zeros_succ, zeros_zero, List.size_toArray, List.length_cons, List.length_nil, List.length_append, List.take_succ_cons, List.take_zero, List.take_nil, List.drop_succ_cons, List.drop_zero, List.drop_nil, List.cons_append, List.nil_append, List.append_nil, Nat.reduceAdd, Nat.reduceMul, Nat.reduceLeDiff, Nat.reduceEqDiff, and_self, and_true, true_and, if_true, Nat.le_refl, Nat.zero_add, Nat.add_zero, Nat.zero_mul, reduceIte, if_false] <;> rfl))) rfl fun q1 h s w1 => ?_
    refine ⟨by (first | exact St.r_still0 s 0 rfl rfl | exact St.r_still0 s 1 rfl rfl | exact St.r_still0 s 2 rfl rfl | exact St.r_still0 s 3 rfl rfl | exact St.r_still0 s 4 rfl rfl | exact St.r_still0 s 5 rfl rfl | exact St.r_still0 s 6 rfl rfl), St.r_stillN0 s 3 rfl (by simp) rfl, ?_⟩
    refine St.r_mkSl (sz := 2) (cs := enc x) s (by ((simp only [fillV, fill1, Value.cells, zeros_succ, zeros_zero, List.size_toArray, List.length_cons, List.length_nil, List.length_append, List.take_succ_cons, List.take_zero, List.take_nil, List.drop_succ_cons, List.drop_zero, List.drop_nil, List.cons_append, List.nil_append, List.append_nil, Nat.reduceAdd, Nat.reduceMul, Nat.reduceLeDiff, Nat.reduceEqDiff, and_self, and_true, true_and, if_true, Nat.le_refl, Nat.zero_add, Nat.add_zero, Nat.zero_mul, reduceIte, if_false] <;> rfl))) rfl fun q2 h s w2 => ?_
    refine ⟨by (first | exact St.r_still0 s 0 rfl rfl | exact St.r_still0 s 1 rfl rfl | exact St.r_still0 s 2 rfl rfl | exact St.r_still0 s 3 rfl rfl | exact St.r_still0 s 4 rfl rfl | exact St.r_still0 s 5 rfl rfl | exact St.r_still0 s 6 rfl rfl), ?_⟩
    refine St.r_app s 1 (sz := 2) (n := 1) (new := enc x) rfl w1 rfl (w2.rdl s 0 rfl) (enc1 _) (by omega) (by omega) fun iv ib io isp h s wi => ?_
    refine ⟨by (first | exact St.r_still0 s 0 rfl rfl | exact St.r_still0 s 1 rfl rfl | exact St.r_still0 s 2 rfl rfl | exact St.r_still0 s 3 rfl rfl | exact St.r_still0 s 4 rfl rfl | exact St.r_still0 s 5 rfl rfl | exact St.r_still0 s 6 rfl rfl), ?_⟩
    refine r_nil ?_
    refine r_fld ?_
    refine St.r_store0 s 2 rfl (by simp) wi.one ?_; intro h s
    exact fin wi ((s.perm (E' := (q2, 0, enc x ++ []) :: _) (by simp; ((apply perm_rg; intro f; simp only [List.set_cons_zero, List.set_cons_succ, List.eraseIdx_cons_zero, List.eraseIdx_cons_succ, List.cons_append, List.nil_append, List.map_append, List.map_cons, List.map_nil, List.sum_append, List.sum_cons, List.sum_nil, List.map_flatMap, Nat.add_zero, Nat.zero_add]; ac_rfl)))).drop 1)
  · refine St.r_mkSl (sz := 2) (cs := enc x) s (by ((simp only [fillV, fill1, Value.cells, zeros_succ, zeros_zero, List.size_toArray, List.length_cons, List.length_nil, List.length_append, List.take_succ_cons, List.take_zero, List.take_nil, List.drop_succ_cons, List.drop_zero, List.drop_nil, List.cons_append, List.nil_append, List.append_nil, Nat.reduceAdd, Nat.reduceMul, Nat.reduceLeDiff, Nat.reduceEqDiff, and_self, and_true, true_and, if_true, Nat.le_refl, Nat.zero_add, Nat.add_zero, Nat.zero_mul, reduceIte, if_false] <;> rfl))) rfl fun q2 h s w2 => ?_
    refine ⟨by (first | exact St.r_still0 s 0 rfl rfl | exact St.r_still0 s 1 rfl rfl | exact St.r_still0 s 2 rfl rfl | exact St.r_still0 s 3 rfl rfl | exact St.r_still0 s 4 rfl rfl | exact St.r_still0 s 5 rfl rfl | exact St.r_still0 s 6 rfl rfl), ?_⟩
    refine St.r_mkSl (sz := 2) (cs := []) s (by ((simp only [fillV, fill1, Value.cells, zeros_succ, zeros_zero, List.size_toArray, List.length_cons, List.length_nil, List.length_append, List.take_succ_cons, List.take_zero, List.take_nil, List.drop_succ_cons, List.drop_zero, List.drop_nil, List.cons_append, List.nil_append, List.append_nil, Nat.reduceAdd, Nat.reduceMul, Nat.reduceLeDiff, Nat.reduceEqDiff, and_self, and_true, true_and, if_true, Nat.le_refl, Nat.zero_add, Nat.add_zero, Nat.zero_mul, reduceIte, if_false] <;> rfl))) rfl fun q1 h s w1 => ?_
    refine ⟨by (first | exact St.r_still0 s 0 rfl rfl | exact St.r_still0 s 1 rfl rfl | exact St.r_still0 s 2 rfl rfl | exact St.r_still0 s 3 rfl rfl | exact St.r_still0 s 4 rfl rfl | exact St.r_still0 s 5 rfl rfl | exact St.r_still0 s 6 rfl rfl), ?_⟩
    refine St.r_app s 0 (sz := 2) (n := 1) (new := enc x) rfl w1 rfl (w2.rdl s 1 rfl) (enc1 _) (by omega) (by omega) fun iv ib io isp h s wi => ?_
    refine ⟨by (first | exact St.r_still0 s 0 rfl rfl | exact St.r_still0 s 1 rfl rfl | exact St.r_still0 s 2 rfl rfl | exact St.r_still0 s 3 rfl rfl | exact St.r_still0 s 4 rfl rfl | exact St.r_still0 s 5 rfl rfl | exact St.r_still0 s 6 rfl rfl), ?_⟩
    refine r_nil ?_
    refine r_fld ?_
    refine St.r_store0 s 2 rfl (by simp) wi.one ?_; intro h s
    exact fin wi ((s.perm (E' := (q2, 0, enc x ++ []) :: _) (by simp; ((apply perm_rg; intro f; simp only [List.set_cons_zero, List.set_cons_succ, List.eraseIdx_cons_zero, List.eraseIdx_cons_succ, List.cons_append, List.nil_append, List.map_append, List.map_cons, List.map_nil, List.sum_append, List.sum_cons, List.sum_nil, List.map_flatMap, Nat.add_zero, Nat.zero_add]; ac_rfl)))).drop 1)

/-- A map's head in parts. -/
theorem hdr_cut {tb : Nat} {iso cnt mn mx : Int} {ctr root : Option Addr} (s : St h0 Z ((tb, 0, hdr iso ctr root cnt mn mx) :: E) h) : St h0 Z ((tb, 0, hd0 iso ctr) :: (tb, 4, hd4 mn mx) :: (tb, 2, [.pointer root]) :: (tb, 3, [.int .i64 cnt]) :: E) h := by
  have s1 : St h0 Z ((tb, 0, hd0 iso ctr ++ ([.pointer root] ++ ([.int .i64 cnt] ++ hd4 mn mx))) :: E) h := s
  have s2 := s1.cut
  have s3 := (s2.front 1 rfl).cut
  have s4 := (s3.front 1 rfl).cut
  exact s4.perm (E' := (tb, 0, hd0 iso ctr) :: (tb, 4, hd4 mn mx) :: (tb, 2, [.pointer root]) :: (tb, 3, [.int .i64 cnt]) :: E) (by
    show ((tb, 0, hd0 iso ctr) :: (tb, 4, hd4 mn mx) :: (tb, 2, [.pointer root]) :: (tb, 3, [.int .i64 cnt]) :: E).Perm ((tb, 3, [.int .i64 cnt]) :: (tb, 4, hd4 mn mx) :: (tb, 2, [.pointer root]) :: (tb, 0, hd0 iso ctr) :: E)
    ((apply perm_rg; intro f; simp only [List.set_cons_zero, List.set_cons_succ, List.eraseIdx_cons_zero, List.eraseIdx_cons_succ, List.cons_append, List.nil_append, List.map_append, List.map_cons, List.map_nil, List.sum_append, List.sum_cons, List.sum_nil, List.map_flatMap, Nat.add_zero, Nat.zero_add]; ac_rfl)))
theorem hdr_glue {tb : Nat} {iso cnt mn mx : Int} {ctr root : Option Addr} (s : St h0 Z ((tb, 0, hd0 iso ctr) :: (tb, 4, hd4 mn mx) :: (tb, 2, [.pointer root]) :: (tb, 3, [.int .i64 cnt]) :: E) h) : St h0 Z ((tb, 0, hdr iso ctr root cnt mn mx) :: E) h := by
  have s1 : St h0 Z ((tb, 3, [.int .i64 cnt]) :: (tb, 3 + [Value.int .i64 cnt].length, hd4 mn mx) :: (tb, 2, [.pointer root]) :: (tb, 0, hd0 iso ctr) :: E) h := s.perm (by
    show ((tb, 3, [.int .i64 cnt]) :: (tb, 4, hd4 mn mx) :: (tb, 2, [.pointer root]) :: (tb, 0, hd0 iso ctr) :: E).Perm _
    ((apply perm_rg; intro f; simp only [List.set_cons_zero, List.set_cons_succ, List.eraseIdx_cons_zero, List.eraseIdx_cons_succ, List.cons_append, List.nil_append, List.map_append, List.map_cons, List.map_nil, List.sum_append, List.sum_cons, List.sum_nil, List.map_flatMap, Nat.add_zero, Nat.zero_add]; ac_rfl)))
  have s2 := s1.glue
  have s3 : St h0 Z ((tb, 2, [.pointer root]) :: (tb, 2 + [Value.pointer root].length, [.int .i64 cnt] ++ hd4 mn mx) :: (tb, 0, hd0 iso ctr) :: E) h := s2.perm (by
    show ((tb, 2, [.pointer root]) :: (tb, 3, [.int .i64 cnt] ++ hd4 mn mx) :: (tb, 0, hd0 iso ctr) :: E).Perm _
    exact List.Perm.swap _ _ _)
  have s4 := s3.glue
  have s5 : St h0 Z ((tb, 0, hd0 iso ctr) :: (tb, 0 + (hd0 iso ctr).length, [.pointer root] ++ ([.int .i64 cnt] ++ hd4 mn mx)) :: E) h := s4.perm (by
    show ((tb, 0, hd0 iso ctr) :: (tb, 2, [.pointer root] ++ ([.int .i64 cnt] ++ hd4 mn mx)) :: E).Perm _
    exact List.Perm.swap _ _ _)
  exact s5.glue

theorem Set_ok {tb m : Nat} {iso mn : Int} {ctr : Option Addr} {g : Rt} {x : It} (M : MapOk m iso g) (hmn : mn ≠ 0) (hsz : (rPt g).items.length ≤ 4611686018427387903) (s : St h0 Z ((tb, 0, hdr iso ctr (rA g) (rPt g).items.length mn m) :: (rAll g ++ E)) h)
    (H : ∀ (g' : Rt) h', rPt g' = (rPt g).set lt m x → MapOk m iso g' → St h0 Z ((tb, 0, hdr iso ctr (rA g') (rPt g').items.length mn m) :: (rAll g' ++ E)) h' → Q (.tuple #[old (lget lt (rPt g).items x), .bool (lget lt (rPt g).items x).isSome]) h') :
    Map_si_Set.call #[ptr tb 0, kv x.1, vv x.2] h Q := by
  have key : ∀ g' : Rt, rPt g' = (rPt g).set lt m x → rGd iso g' → MapOk m iso g' := fun g' e gd => by
    obtain ⟨e1, e2⟩ := MT.set_items (x := x) swo M.odd M.m3 M.fl M.asc
    exact ⟨gd, by rw [e]; exact e2, by rw [e, e1]; exact asc_lput swo M.asc, M.m3, M.m1, M.odd⟩
  cases g with
  | none =>
    refine Set_first (E := E) (mn' := mn) (mx' := m) s (fun s K => init_skip s hmn (K _ s)) fun t h' e gd s => ?_
    refine H (some ⟨0, t⟩) h' ?_ ?_ ?_
    · show some (⟨0, t.pt⟩ : (j : Nat) × PT It j) = some ⟨0, ([x] : List It)⟩; rw [e]
    · refine key (some ⟨0, t⟩) ?_ gd
      show some (⟨0, t.pt⟩ : (j : Nat) × PT It j) = some ⟨0, ([x] : List It)⟩; rw [e]
    · show St h0 Z ((tb, 0, hdr iso ctr (some ⟨t.id, 0, none⟩) t.pt.items.length mn m) :: (t.all enc ++ E)) h'
      have : t.pt.items.length = 1 := by rw [e]; rfl
      rw [this]; exact s
  | some t =>
    obtain ⟨k, t⟩ := t
    have htb : h0.size ≤ tb := (s.e _ (List.mem_cons_self ..)).2 (by simp)
    have s := hdr_cut s
    obtain ⟨s1, back⟩ := St.borrow (A := [(tb, 0, hd0 iso ctr), (tb, 4, hd4 mn m)]) (E := (tb, 2, [ptr t.id 0]) :: (tb, 3, [.int .i64 t.pt.items.length]) :: (t.all enc ++ E)) s
    refine Set_cut htb (List.mem_cons_self ..) (List.mem_cons_of_mem _ (List.mem_cons_self ..)) M.m1 M.m3 M.odd t M.fl M.asc hsz M.gd rfl s1 fun g' h' e1 e2 s2 => ?_
    refine H (some g') h' e1 (key (some g') e1 e2) ?_
    exact hdr_glue (back _ h' s2)
theorem NewMap_ok (s : St h0 Z E h) {d : Nat} (h1 : 2 ≤ d) (h2 : d ≤ 512) (H : ∀ b h', St h0 Z ((b, 0, hdr 0 none none 0 ((d - 1 : Nat) : Int) ((2 * d - 1 : Nat) : Int)) :: E) h' → Q (ptr b 0) h') : NewMap_si.call #[.int .i64 d] h Q := by
  refine NewMap_si.body _ _ _ ?_
  unfold NewMap_si.sh
  refine s.r_alloc fun b h s => ?_
  refine init_set s (fun K => degree_ok (d := d) (by omega) (by omega) K) fun h' s => ?_
  have e1 : (d : Int) - 1 = ((d - 1 : Nat) : Int) := by omega
  have e2 : 2 * (d : Int) - 1 = ((2 * d - 1 : Nat) : Int) := by omega
  rw [e1, e2] at s
  exact H b h' s
end Go.Proofs.Ytdpkpcmoabfofaa.Si
end
section
namespace Go.Proofs.Ytdpkpcmoabfofaa.Si
open Go.Hp Go.Proofs.Ytdpkpcmoabfofaa
set_option linter.unusedVariables false
set_option linter.unusedSimpArgs false
variable {h0 h : Heap} {Z E : List Rg} {Q : Value → Heap → Prop}

theorem isoLoad_ro {tr : Value} {pb po n : Nat} (hp : cl h pb po = some (ptr n 0)) (H : Q (ptr n 0) h) : Map_si_isoLoad.call #[tr, ptr pb po, .bool false] h Q := by
  refine Map_si_isoLoad.body _ _ _ _ _ ?_
  unfold Map_si_isoLoad.sh
  refine r_br (fun e => absurd e (by decide)) (fun _ => ?_)
  unfold Map_si_isoLoad.j1
  refine r_nil ?_
  exact r_ld hp H
theorem allZ_leaf {d : Nd It} (hz : ∀ r ∈ GT.all enc (h := 0) d, r ∈ Z) : (d.n, 0, [.int .u64 d.iso, .int .i64 d.cnt, d.iv, .pointer none]) ∈ Z ∧ (d.ib, d.io, d.its.flatMap enc ++ d.isp) ∈ Z := by
  have hz : ∀ r ∈ d.leaf enc, r ∈ Z := hz
  exact ⟨hz _ (List.mem_cons_self ..), hz _ (List.mem_cons_of_mem _ (List.mem_cons_self ..))⟩
theorem allZ_inner {k : Nat} {d : Nd It} {ts : List (GT It k)} (hz : ∀ r ∈ GT.all enc (h := k + 1) (d, ts), r ∈ Z) :
    (d.n, 0, [.int .u64 d.iso, .int .i64 d.cnt, d.iv, ptr d.kb 0]) ∈ Z ∧ (d.ib, d.io, d.its.flatMap enc ++ d.isp) ∈ Z ∧ (d.kb, 0, [d.kv]) ∈ Z ∧ (d.krb, d.kro, (ts.map GT.id).flatMap fp ++ d.ksp) ∈ Z ∧ ∀ c ∈ ts, ∀ r ∈ c.all enc, r ∈ Z := by
  have hz : ∀ r ∈ d.inner enc (ts.map GT.id) ++ ts.flatMap (GT.all enc), r ∈ Z := hz
  have h1 : ∀ r ∈ d.inner enc (ts.map GT.id), r ∈ Z := fun r hr => hz r (List.mem_append.2 (.inl hr))
  refine ⟨h1 _ (List.mem_cons_self ..), h1 _ (List.mem_cons_of_mem _ (List.mem_cons_self ..)), h1 _ (List.mem_cons_of_mem _ (List.mem_cons_of_mem _ (List.mem_cons_self ..))), ?_, fun c hc r hr => hz r (List.mem_append.2 (.inr (List.mem_flatMap.2 ⟨c, hc, hr⟩)))⟩
  have := h1 _ (List.mem_cons_of_mem _ (List.mem_cons_of_mem _ (List.mem_cons_of_mem _ (List.mem_cons_self ..))))
  rw [mfp] at this; exact this
/-- The kid's cell. -/
theorem kidcell {k : Nat} {ts : List (GT It k)} {krb kro i : Nat} {ksp : List Value} {c : GT It k} (hk : (krb, kro, (ts.map GT.id).flatMap fp ++ ksp) ∈ Z) (hc : ts[i]? = some c) (s : St h0 Z E h) : cl h krb (kro + i * 1) = some (ptr c.id 0) := by
  have hi : i < (ts.map GT.id).length := by rw [List.length_map]; exact (List.getElem?_eq_some_iff.1 hc).1
  refine s.clz hk (i * 1) rfl ?_
  rw [List.getElem?_append_left (by rw [flat_len fpl]; omega)]
  have := flat_get (f := fp) fpl (ts.map GT.id) i hi 0 (by decide)
  rw [Nat.add_zero] at this
  rw [this]
  have e : (ts.map GT.id)[i] = c.id := by
    have : (ts.map GT.id)[i]? = some c.id := by rw [List.getElem?_map, hc]; rfl
    exact (List.getElem?_eq_some_iff.1 this).2
  rw [e]; rfl

theorem nodeScan_ok {cont : List It → Bool} {f tr : Value} {J : List It → Heap → Prop} {iso : Int} {m N : Nat} (hm : m ≤ 1024) (hJ : ∀ p h, J p h → ∃ E, St h0 Z E h)
    (cb : ∀ (p : List It) (x : It) (h : Heap) (K : Value → Heap → Prop), p.length < N → J p h → (∀ h', J (p ++ [x]) h' → K (.bool (cont (p ++ [x]))) h') → callV Try.prog f #[kv x.1, vv x.2] h K) :
    ∀ {k : Nat} (t : GT It k) {lo : Nat} (g : Gd iso t) (fl : t.pt.Fl m lo) (hz : ∀ r ∈ t.all enc, r ∈ Z) (hzb : ∀ r ∈ t.all enc, r.2.2 ≠ [] → h0.size ≤ r.1) {pb po : Nat} (hp : ∀ E h, St h0 Z E h → cl h pb po = some (ptr t.id 0)) {p : List It} {h : Heap} {Q : Value → Heap → Prop}, p.length + t.pt.items.length ≤ N → J p h →
      (∀ h', J (feed cont p t.pt.items).1 h' → Q (.bool (feed cont p t.pt.items).2) h') → Map_si_nodeScan.call #[tr, ptr pb po, f, .bool false] h Q
  | 0, (d : Nd It), lo, g, fl, hz, hzb, pb, po, hp, p, h, Q, hN, hj, H => by
    obtain ⟨own, n, is', cnt, its, iv, ib, io, isp, kb, kv', krb, kro, ksp⟩ := d
    obtain ⟨z1, z2⟩ := allZ_leaf hz
    have w : Own 2 iv its.length ib io (its.flatMap enc) isp := g.wf.1
    have hl : its.length ≤ m := fl.2
    have hp : ∀ E h, St h0 Z E h → cl h pb po = some (ptr n 0) := hp
    have hN : p.length + its.length ≤ N := hN
    have H : ∀ h', J (feed cont p its).1 h' → Q (.bool (feed cont p its).2) h' := H
    refine Map_si_nodeScan.body _ _ _ _ _ _ ?_
    unfold Map_si_nodeScan.sh
    obtain ⟨E, s⟩ := hJ p h hj
    refine isoLoad_ro (hp E h s) ?_
    refine leaf_ok (a := none) (s.clz z1 3 rfl rfl) ?_
    refine r_if (fun _ => ?_) (fun e => absurd e (by simp))
    refine loop_up (n := its.length) (fun j => [.int .i64 j]) (fun j h => (feed cont p (its.take j)).2 = true ∧ J (feed cont p (its.take j)).1 h) ⟨rfl, hj⟩ ?_
    rintro j h hjl ⟨hf, hj⟩ K HK
    obtain ⟨E, s⟩ := hJ _ h hj
    unfold Map_si_nodeScan.l8.b
    refine r_nil ?_
    refine r_fld ?_
    refine s.r_lz0 z1 (j := 2) rfl ?_
    refine w.lenV ?_
    refine r_cmpI ?_
    refine r_if (fun hlt => ?_) (fun hge => ?_)
    · have hlt : j < its.length := by simpa using hlt
      have hx : its[j]? = some its[j] := List.getElem?_eq_getElem hlt
      unfold Map_si_nodeScan.j9
      refine r_nil ?_
      refine r_fld ?_
      refine s.r_lz0 z1 (j := 2) rfl ?_
      refine w.idx (n := j) rfl hlt ?_
      refine r_fld ?_
      refine s.r_load1FZ encl (r := 1) z2 hx rfl ?_
      refine r_nil ?_
      refine r_fld ?_
      refine s.r_lz0 z1 (j := 2) rfl ?_
      refine w.idx (n := j) rfl hlt ?_
      refine r_fld ?_
      refine s.r_load1FZ encl (r := 0) z2 hx rfl ?_
      have hfl := feed_len (cont := cont) (its.take j) p
      rw [List.length_take] at hfl
      refine cb _ its[j] h _ (by omega) hj fun h' hj' => ?_
      refine r_not ?_
      have et : its.take (j + 1) = its.take j ++ [its[j]] := List.take_succ_eq_append_getElem hlt
      have ef : feed cont p (its.take (j + 1)) = ((feed cont p (its.take j)).1 ++ [its[j]], cont ((feed cont p (its.take j)).1 ++ [its[j]])) := by rw [et, feed_step hf, feed_one]
      refine r_if (fun hc => ?_) (fun hc => ?_)
      · have hc : cont ((feed cont p (its.take j)).1 ++ [its[j]]) = false := by simpa using hc
        have ea : feed cont p its = ((feed cont p (its.take j)).1 ++ [its[j]], false) := by
          have e0 := feed_stop (cont := cont) (p := p) (a := its.take (j + 1)) (b := its.drop (j + 1)) (by rw [ef]; exact hc)
          rw [List.take_append_drop, ef] at e0
          exact e0
        have := H h' (by rw [ea]; exact hj')
        rw [ea] at this; exact this
      · have hc : cont ((feed cont p (its.take j)).1 ++ [its[j]]) = true := by simpa using hc
        unfold Map_si_nodeScan.j10
        refine r_add (z := ((j + 1 : Nat) : Int)) (by rw [i64w (by omega) (by omega)]; omega) ?_
        exact HK h' hlt ⟨by rw [ef]; exact hc, by rw [ef]; exact hj'⟩
    · have hge : j = its.length := by simp at hge; omega
      subst hge
      rw [List.take_length] at hf hj
      unfold Map_si_nodeScan.j7
      have := H h hj
      rw [hf] at this; exact this
  | k + 1, t, lo, g, fl, hz, hzb, pb, po, hp, p, h, Q, hN, hj, H => by
    obtain ⟨d, ts⟩ := t
    obtain ⟨own, n, is', cnt, its, iv, ib, io, isp, kb, kv', krb, kro, ksp⟩ := d
    obtain ⟨z1, z2, z3, z4, z5⟩ := allZ_inner hz
    have w : Own 2 iv its.length ib io (its.flatMap enc) isp := g.wf.1.1
    have wK : Own 1 kv' ts.length krb kro ((ts.map GT.id).map fun m => ptr m 0) ksp := g.wf.2.1
    have hkl : ts.length = its.length + 1 := g.wf.2.2.1
    have hl : its.length ≤ m := fl.2.1
    have hp : ∀ E h, St h0 Z E h → cl h pb po = some (ptr n 0) := hp
    have hpl : ∀ i, ((ts.take i).map fun t => t.pt.items) = (((ts.map GT.pt).take i).map PT.items) := fun i => by rw [← List.map_take, List.map_map]; rfl
    have hsplit : ∀ i (hi : i ≤ its.length) c, ts[i]? = some c → PT.items (h := k + 1) (its, ts.map GT.pt) = lz (its.take i) ((ts.take i).map fun t => t.pt.items) ++ (c.pt.items ++ rz (its.drop i) (((ts.map GT.pt).drop (i + 1)).map PT.items)) := by
      intro i hi c hc
      obtain ⟨c', hc', _, e⟩ := PT.around (t := ((its, ts.map GT.pt) : PT It (k + 1))) fl hi
      have hc' : (ts.map GT.pt)[i]? = some c' := hc'
      rw [List.getElem?_map, hc] at hc'
      have : c' = c.pt := (Option.some.inj hc').symm
      subst this
      rw [hpl]; exact e
    have hN : p.length + (PT.items (h := k + 1) (its, ts.map GT.pt)).length ≤ N := hN
    have H : ∀ h', J (feed cont p (PT.items (h := k + 1) (its, ts.map GT.pt))).1 h' → Q (.bool (feed cont p (PT.items (h := k + 1) (its, ts.map GT.pt))).2) h' := H
    refine Map_si_nodeScan.body _ _ _ _ _ _ ?_
    unfold Map_si_nodeScan.sh
    obtain ⟨E, s⟩ := hJ p h hj
    refine isoLoad_ro (hp E h s) ?_
    refine leaf_ok (a := some ⟨kb, 0, Option.none⟩) (s.clz z1 3 rfl rfl) ?_
    refine r_if (fun e => absurd e (by simp)) (fun _ => ?_)
    unfold Map_si_nodeScan.j1
    refine loop_up (n := its.length) (fun j => [.int .i64 j]) (fun j h => (feed cont p (lz (its.take j) ((ts.take j).map fun t => t.pt.items))).2 = true ∧ J (feed cont p (lz (its.take j) ((ts.take j).map fun t => t.pt.items))).1 h) ⟨rfl, hj⟩ ?_
    rintro j h hjl ⟨hf, hj⟩ K HK
    obtain ⟨E, s⟩ := hJ _ h hj
    obtain ⟨c, hc⟩ : ∃ c, ts[j]? = some c := ⟨ts[j]'(by omega), List.getElem?_eq_getElem (by omega)⟩
    have hcm := List.mem_of_getElem? hc
    have hfc : PT.Fl m (m / 2) c.pt := fl.2.2.2 _ (List.mem_map.2 ⟨c, hcm, rfl⟩)
    unfold Map_si_nodeScan.l3.b
    refine r_nil ?_
    refine r_fld ?_
    refine s.r_lz0 z1 (j := 2) rfl ?_
    refine w.lenV ?_
    refine r_cmpI ?_
    refine r_if (fun hlt => ?_) (fun hge => ?_)
    · have hlt : j < its.length := by simpa using hlt
      have hx : its[j]? = some its[j] := List.getElem?_eq_getElem hlt
      have et : its.take (j + 1) = its.take j ++ [its[j]] := List.take_succ_eq_append_getElem hlt
      have ek : ts.take (j + 1) = ts.take j ++ [c] := by rw [List.take_add_one, hc]; rfl
      have ez : lz (its.take (j + 1)) ((ts.take (j + 1)).map fun t => t.pt.items) = lz (its.take j) ((ts.take j).map fun t => t.pt.items) ++ (c.pt.items ++ [its[j]]) := by
        rw [et, ek, List.map_append, List.map_cons, List.map_nil, lz_snoc _ _ _ _ (by simp; omega)]
      obtain ⟨rest, hrest⟩ : ∃ rest, rz (its.drop j) (((ts.map GT.pt).drop (j + 1)).map PT.items) = its[j] :: rest := by
        have e1 : its.drop j = its[j] :: its.drop (j + 1) := List.drop_eq_getElem_cons hlt
        have e2 : (ts.map GT.pt).drop (j + 1) = (ts.map GT.pt)[j + 1]'(by simp; omega) :: (ts.map GT.pt).drop (j + 1 + 1) := List.drop_eq_getElem_cons (by simp; omega)
        rw [e1, e2, List.map_cons, rz_cons]; exact ⟨_, rfl⟩
      have hs := hsplit j hjl c hc
      rw [hrest] at hs
      have hsl := congrArg List.length hs
      simp only [List.length_append, List.length_cons] at hsl
      have hfl := feed_len (cont := cont) (lz (its.take j) ((ts.take j).map fun t => t.pt.items)) p
      have hfl2 := feed_len (cont := cont) (lz (its.take j) ((ts.take j).map fun t => t.pt.items) ++ c.pt.items) p
      rw [List.length_append] at hfl2
      unfold Map_si_nodeScan.j4
      refine r_nil ?_
      refine r_fld ?_
      refine s.r_lz0 z1 (j := 3) rfl ?_
      refine r_nil ?_
      refine s.r_lz0 z3 (j := 0) rfl ?_
      refine wK.idx (n := j) rfl (by omega) ?_
      refine nodeScan_ok hm hJ cb c (g.kid hcm) hfc (z5 c hcm) (fun r hr => hzb r (List.mem_append.2 (.inr (List.mem_flatMap.2 ⟨c, hcm, hr⟩)))) (fun E h s => kidcell z4 hc s) (by omega) hj fun h' hj' => ?_
      refine r_not ?_
      refine r_if (fun hr => ?_) (fun hr => ?_)
      · have hr : (feed cont (feed cont p (lz (its.take j) ((ts.take j).map fun t => t.pt.items))).1 c.pt.items).2 = false := by simpa using hr
        have ea : feed cont p (PT.items (h := k + 1) (its, ts.map GT.pt)) = ((feed cont (feed cont p (lz (its.take j) ((ts.take j).map fun t => t.pt.items))).1 c.pt.items).1, false) := by
          rw [hs, feed_step hf, feed_stop hr]
        have := H h' (by rw [ea]; exact hj')
        rw [ea] at this; exact this
      · have hr : (feed cont (feed cont p (lz (its.take j) ((ts.take j).map fun t => t.pt.items))).1 c.pt.items).2 = true := by simpa using hr
        have hf1 : feed cont p (lz (its.take j) ((ts.take j).map fun t => t.pt.items) ++ c.pt.items) = feed cont (feed cont p (lz (its.take j) ((ts.take j).map fun t => t.pt.items))).1 c.pt.items := feed_step hf
        rw [← hf1] at hr hj'
        have ef : feed cont p (lz (its.take (j + 1)) ((ts.take (j + 1)).map fun t => t.pt.items)) = ((feed cont p (lz (its.take j) ((ts.take j).map fun t => t.pt.items) ++ c.pt.items)).1 ++ [its[j]], cont ((feed cont p (lz (its.take j) ((ts.take j).map fun t => t.pt.items) ++ c.pt.items)).1 ++ [its[j]])) := by
          rw [ez, ← List.append_assoc, feed_step hr, feed_one]
        obtain ⟨E, s⟩ := hJ _ h' hj'
        unfold Map_si_nodeScan.j6
        refine r_nil ?_
        refine r_fld ?_
        refine s.r_lz0 z1 (j := 2) rfl ?_
        refine w.idx (n := j) rfl hlt ?_
        refine r_fld ?_
        refine s.r_load1FZ encl (r := 1) z2 hx rfl ?_
        refine r_nil ?_
        refine r_fld ?_
        refine s.r_lz0 z1 (j := 2) rfl ?_
        refine w.idx (n := j) rfl hlt ?_
        refine r_fld ?_
        refine s.r_load1FZ encl (r := 0) z2 hx rfl ?_
        refine cb _ its[j] h' _ (by omega) hj' fun h2 hj2 => ?_
        refine r_not ?_
        refine r_if (fun hb => ?_) (fun hb => ?_)
        · have hb : cont ((feed cont p (lz (its.take j) ((ts.take j).map fun t => t.pt.items) ++ c.pt.items)).1 ++ [its[j]]) = false := by simpa using hb
          have ea : feed cont p (PT.items (h := k + 1) (its, ts.map GT.pt)) = ((feed cont p (lz (its.take j) ((ts.take j).map fun t => t.pt.items) ++ c.pt.items)).1 ++ [its[j]], false) := by
            rw [hs, ← List.append_assoc, feed_step hr]; simp only [feed, hb, Bool.false_eq_true, if_false]
          have := H h2 (by rw [ea]; exact hj2)
          rw [ea] at this; exact this
        · have hb : cont ((feed cont p (lz (its.take j) ((ts.take j).map fun t => t.pt.items) ++ c.pt.items)).1 ++ [its[j]]) = true := by simpa using hb
          unfold Map_si_nodeScan.j5
          refine r_add (z := ((j + 1 : Nat) : Int)) (by rw [i64w (by omega) (by omega)]; omega) ?_
          exact HK h2 hlt ⟨by rw [ef]; exact hb, by rw [ef]; exact hj2⟩
    · have hge : j = its.length := by simp at hge; omega
      subst hge
      have hs := hsplit its.length hjl c hc
      have hr0 : rz (its.drop its.length) (((ts.map GT.pt).drop (its.length + 1)).map PT.items) = [] := by rw [List.drop_length]; rfl
      rw [hr0, List.append_nil] at hs
      have hsl := congrArg List.length hs
      simp only [List.length_append] at hsl
      have hfl := feed_len (cont := cont) (lz (its.take its.length) ((ts.take its.length).map fun t => t.pt.items)) p
      unfold Map_si_nodeScan.j2
      refine r_nil ?_
      refine r_fld ?_
      refine s.r_lz0 z1 (j := 3) rfl ?_
      refine r_nil ?_
      refine s.r_lz0 z3 (j := 0) rfl ?_
      refine r_nil ?_
      refine r_fld ?_
      refine s.r_lz0 z1 (j := 3) rfl ?_
      refine r_nil ?_
      refine s.r_lz0 z3 (j := 0) rfl ?_
      refine wK.lenV ?_
      refine r_sub (z := ((its.length : Nat) : Int)) (by rw [i64w (by omega) (by omega)]; omega) ?_
      refine wK.idx (n := its.length) rfl (by omega) ?_
      refine nodeScan_ok hm hJ cb c (g.kid hcm) hfc (z5 c hcm) (fun r hr => hzb r (List.mem_append.2 (.inr (List.mem_flatMap.2 ⟨c, hcm, hr⟩)))) (fun E h s => kidcell z4 hc s) (by omega) hj fun h' hj' => ?_
      have ea : feed cont p (PT.items (h := k + 1) (its, ts.map GT.pt)) = feed cont (feed cont p (lz (its.take its.length) ((ts.take its.length).map fun t => t.pt.items))).1 c.pt.items := by rw [hs, feed_step hf]
      have := H h' (by rw [ea]; exact hj')
      rw [ea] at this; exact this
end Go.Proofs.Ytdpkpcmoabfofaa.Si
end
section
namespace Go.Proofs.Ytdpkpcmoabfofaa.Si
open Go.Hp Go.Proofs.Ytdpkpcmoabfofaa
set_option linter.unusedVariables false
set_option linter.unusedSimpArgs false
variable {h0 h : Heap} {Z E : List Rg} {Q : Value → Heap → Prop}

theorem grow_ok {l : List It} {v : Value} {d : Nat} (hr : Rdl 2 h v l.length (l.flatMap encA)) (hl : l.length ≤ 2147483647) (h1 : 2 ≤ d) (h2 : d ≤ 512)
    (H : ∀ (g : Rt) tb h', rPt g = grown (2 * d - 1) l → (rPt g).items = setAll l → MapOk (2 * d - 1) 0 g → St h [] ((tb, 0, hdr 0 none (rA g) (rPt g).items.length ((d - 1 : Nat) : Int) ((2 * d - 1 : Nat) : Int)) :: rAll g) h' → Q (ptr tb 0) h') : i_growWords.call #[.int .i64 d, v] h Q := by
  refine i_growWords.body _ _ _ _ ?_
  unfold i_growWords.sh
  have s := St.start h
  refine NewMap_ok s h1 h2 fun tb h s => ?_
  refine hr.lenV ?_
  refine loop_up (n := l.length) (fun j => [.int .i64 j]) (fun j h' => ∃ (g : Rt) (R : List Rg), rPt g = grown (2 * d - 1) (l.take j) ∧ (rPt g).items = setAll (l.take j) ∧ MapOk (2 * d - 1) 0 g ∧ St _ [] ((tb, 0, hdr 0 none (rA g) (rPt g).items.length ((d - 1 : Nat) : Int) ((2 * d - 1 : Nat) : Int)) :: (rAll g ++ R)) h')
    ⟨none, [], rfl, rfl, MapOk.none (by omega) (by omega) (by omega), s⟩ ?_
  rintro j h hj ⟨g, R, e0, e, M, s⟩ K HK
  unfold i_growWords.l2.b
  refine r_cmpI ?_
  refine r_if (fun hlt => ?_) (fun hge => ?_)
  · have hlt : j < l.length := by simpa using hlt
    unfold i_growWords.j3
    refine (hr.st s).at (n := j) rfl encAl rfl rfl hlt fun b o hb => ?_
    refine hb.loadN rfl ?_
    refine s.r_alloc fun t7 h s => ?_
    refine St.r_storeN0 s 0 rfl rfl (by simp) (encA1 _) ?_; intro h s
    refine r_fld ?_
    refine St.r_load0 s 0 rfl rfl ?_
    refine r_fld ?_
    refine St.r_load0 s 0 rfl rfl ?_
    have hle := setAll_len (l.take j)
    rw [List.length_take] at hle
    refine Set_ok (mn := ((d - 1 : Nat) : Int)) (x := l[j]) (E := (t7, 0, encA l[j]) :: R) M (by omega) (by rw [e]; omega) (s.perm (by ((apply perm_rg; intro f; simp only [List.set_cons_zero, List.set_cons_succ, List.eraseIdx_cons_zero, List.eraseIdx_cons_succ, List.cons_append, List.nil_append, List.map_append, List.map_cons, List.map_nil, List.sum_append, List.sum_cons, List.sum_nil, List.map_flatMap, Nat.add_zero, Nat.zero_add]; ac_rfl)))) fun g' h' e1 M' s => ?_
    unfold i_growWords.j4
    refine r_add (z := ((j + 1 : Nat) : Int)) (by rw [i64w (by omega) (by omega)]; omega) ?_
    have et : l.take (j + 1) = l.take j ++ [l[j]] := List.take_succ_eq_append_getElem hlt
    refine HK h' hlt ⟨g', _, ?_, ?_, M', s⟩
    · rw [e1, e0, et, grown_snoc]
    · rw [e1, et, setAll_snoc, ← e]
      exact (MT.set_items swo M.odd M.m3 M.fl M.asc).1
  · have hge : j = l.length := by simp at hge; omega
    subst hge
    rw [List.take_length] at e e0
    unfold i_growWords.j1
    exact H g tb h e0 e M (s.sub (List.Sublist.cons_cons _ (List.sublist_append_left _ _)))

theorem Scan_ok {cont : List It → Bool} {f : Value} {J : List It → Heap → Prop} {g : Rt} {tb m N : Nat} {iso cnt mn mx : Int} {ctr : Option Addr} (M : MapOk m iso g) (hT : (tb, 0, hdr iso ctr (rA g) cnt mn mx) ∈ Z) (hz : ∀ r ∈ rAll g, r ∈ Z) (hzb : ∀ r ∈ rAll g, r.2.2 ≠ [] → h0.size ≤ r.1)
    (hJ : ∀ p h, J p h → ∃ E, St h0 Z E h)
    (cb : ∀ (p : List It) (x : It) (h : Heap) (K : Value → Heap → Prop), p.length < N → J p h → (∀ h', J (p ++ [x]) h' → K (.bool (cont (p ++ [x]))) h') → callV Try.prog f #[kv x.1, vv x.2] h K)
    (hN : (rPt g).items.length ≤ N) (hj : J [] h) (H : ∀ h', J (feed cont [] (rPt g).items).1 h' → Q (.tuple #[]) h') : Map_si_Scan.call #[ptr tb 0, f] h Q := by
  refine Map_si_Scan.body _ _ _ _ ?_
  unfold Map_si_Scan.sh
  refine Map_si_scan.body _ _ _ _ _ ?_
  unfold Map_si_scan.sh
  obtain ⟨E, s⟩ := hJ [] h hj
  refine r_nil ?_
  refine r_fld ?_
  refine s.r_lz0 hT (j := 2) rfl ?_
  refine r_eqNilP ?_
  cases g with
  | none =>
    refine r_if (fun _ => ?_) (fun e => absurd e (by simp [rA]))
    exact H h hj
  | some t =>
    refine r_if (fun e => absurd e (by simp [rA])) (fun _ => ?_)
    unfold Map_si_scan.j1
    refine r_nil ?_
    refine r_fld ?_
    refine nodeScan_ok M.m1 hJ cb t.2 M.gd M.fl hz hzb (fun E h s => ?_) (by rw [List.length_nil, Nat.zero_add]; exact hN) hj fun h' hj' => H h' hj'
    exact s.clz hT 2 rfl rfl

theorem pairs_hasBody : hasBody Try.prog 220 := ⟨_, Try.func220, rfl, rfl⟩
theorem take_hasBody : hasBody Try.prog 241 := ⟨_, Try.func241, rfl, rfl⟩
/-- The function that keeps what is handed to it. -/
def keepF (t5 : Nat) : Value := .func (.func 220) #[] #[ptr t5 0]
def KeepJ (h0 : Heap) (Z E : List Rg) (t2 t3 t5 t7 : Nat) (n : Int) (p : List It) (h : Heap) : Prop :=
  ∃ v b o sp, Own 2 v p.length b o (p.flatMap encA) sp ∧ St h0 Z ((t5, 0, [.func (.func 241) #[] #[ptr t2 0, ptr t3 0]]) :: (t2, 0, [ptr t7 0]) :: (t3, 0, [.int .i64 n]) :: (t7, 0, [v]) :: (b, o, p.flatMap encA ++ sp) :: E) h
theorem keep_cb {t2 t3 t5 t7 : Nat} {n : Int} (p : List It) (x : It) (h : Heap) (K : Value → Heap → Prop) (hp : p.length < 4294967296) (hj : KeepJ h0 Z E t2 t3 t5 t7 n p h) (HK : ∀ h', KeepJ h0 Z E t2 t3 t5 t7 n (p ++ [x]) h' → K (.bool (upTo n (p ++ [x]))) h') :
    callV Try.prog (keepF t5) #[kv x.1, vv x.2] h K := by
  obtain ⟨v, b, o, sp, w, s⟩ := hj
  refine r_callV pairs_hasBody ?_
  refine i_words_c1.body _ _ _ _ _ ?_
  unfold i_words_c1.sh
  refine St.r_load0 s 0 rfl rfl ?_
  (apply r_build; (simp only [fillV, fill1, Value.cells, zeros_succ, zeros_zero, List.size_toArray, List.length_cons, List.length_nil, List.length_append, List.take_succ_cons, List.take_zero, List.take_nil, List.drop_succ_cons, List.drop_zero, List.drop_nil, List.cons_append, List.nil_append, List.append_nil, Nat.reduceAdd, Nat.reduceMul, Nat.reduceLeDiff, Nat.reduceEqDiff, and_self, and_true, true_and, if_true, Nat.le_refl, Nat.zero_add, Nat.add_zero, Nat.zero_mul, reduceIte, if_false] <;> rfl))
  refine r_callV take_hasBody ?_
  refine i_taker_implWord_c1.body _ _ _ _ _ ?_
  unfold i_taker_implWord_c1.sh
  refine St.r_box (cs := encA x) s fun t3' h s => ?_
  refine St.r_load0 s 2 rfl rfl ?_
  refine St.r_load0 s 2 rfl rfl ?_
  refine r_nil ?_
  refine St.r_load0 s 4 rfl rfl ?_
  refine St.r_loadN0 s 0 rfl (by simp) ?_
  refine St.r_mkSl (sz := 2) (cs := encA x) s (by ((simp only [fillV, fill1, Value.cells, zeros_succ, zeros_zero, List.size_toArray, List.length_cons, List.length_nil, List.length_append, List.take_succ_cons, List.take_zero, List.take_nil, List.drop_succ_cons, List.drop_zero, List.drop_nil, List.cons_append, List.nil_append, List.append_nil, Nat.reduceAdd, Nat.reduceMul, Nat.reduceLeDiff, Nat.reduceEqDiff, and_self, and_true, true_and, if_true, Nat.le_refl, Nat.zero_add, Nat.add_zero, Nat.zero_mul, reduceIte, if_false] <;> rfl))) rfl fun q h s w1 => ?_
  refine And.intro (by exact St.r_still0 s 3 rfl rfl) ?_
  refine And.intro (by exact St.r_still0 s 3 rfl rfl) ?_
  refine And.intro (by exact St.r_still0 s 5 rfl rfl) ?_
  refine St.r_app s 6 (sz := 2) (n := 1) (new := encA x) rfl w rfl (w1.rdl s 0 rfl) (encA1 _) (by omega) (by omega) fun v' b' o' sp' h s w' => ?_
  have ex : p.flatMap encA ++ encA x = (p ++ [x]).flatMap encA := by rw [List.flatMap_append, List.flatMap_singleton]
  rw [ex] at s w'
  have w' : Own 2 v' (p ++ [x]).length b' o' ((p ++ [x]).flatMap encA) sp' := by rw [List.length_append]; exact w'
  refine And.intro (by exact St.r_still0 s 3 rfl rfl) ?_
  refine r_nil ?_
  refine St.r_store0 s 5 rfl (by simp) w'.one ?_; intro h s
  refine St.r_load0 s 4 rfl rfl ?_
  refine r_cmpI ?_
  have J' : KeepJ h0 Z E t2 t3 t5 t7 n (p ++ [x]) h := ⟨v', b', o', sp', w', s.drop 2⟩
  refine r_br (fun hb => ?_) (fun hb => ?_)
  · have hb : ¬ n < 1 := by simpa using hb
    refine St.r_load0 s 3 rfl rfl ?_
    refine r_nil ?_
    refine St.r_load0 s 5 rfl rfl ?_
    refine w'.lenV ?_
    refine St.r_load0 s 4 rfl rfl ?_
    refine r_cmpI ?_
    have := HK h J'
    have e : upTo n (p ++ [x]) = decide (((p ++ [x]).length : Int) < n) := by simp [upTo, hb]
    rw [e] at this
    exact this
  · have hb : n < 1 := by simpa using hb
    have := HK h J'
    have e : upTo n (p ++ [x]) = true := by simp [upTo, hb]
    rw [e] at this
    exact this
theorem pairs_ok {t7 : Nat} {n : Int} (s : St h0 Z E h) (H : ∀ t2 t3 t5 h', St h0 Z ((t5, 0, [.func (.func 241) #[] #[ptr t2 0, ptr t3 0]]) :: (t2, 0, [ptr t7 0]) :: (t3, 0, [.int .i64 n]) :: E) h' → Q (keepF t5) h') : i_words.call #[ptr t7 0, .int .i64 n] h Q := by
  refine i_words.body _ _ _ _ ?_
  unfold i_words.sh
  refine i_taker_implWord.body _ _ _ _ ?_
  unfold i_taker_implWord.sh
  refine St.r_box1 s rfl fun t2 h s => ?_
  refine St.r_box1 s rfl fun t3 h s => ?_
  refine s.r_alloc fun t5 h s => ?_
  refine St.r_store0 s 0 rfl (by simp) rfl ?_
  intro h s
  try simp only [List.set_cons_zero, List.set_cons_succ] at s
  exact H t2 t3 t5 h (s.perm (by ((apply perm_rg; intro f; simp only [List.set_cons_zero, List.set_cons_succ, List.eraseIdx_cons_zero, List.eraseIdx_cons_succ, List.cons_append, List.nil_append, List.map_append, List.map_cons, List.map_nil, List.sum_append, List.sum_cons, List.sum_nil, List.map_flatMap, Nat.add_zero, Nat.zero_add]; ac_rfl))))
/-- All that a map hands on, up to the n-th. -/
theorem kept_ok {g : Rt} {tb t7 m : Nat} {n iso cnt mn mx : Int} {ctr : Option Addr} (M : MapOk m iso g) (hl : (rPt g).items.length ≤ 4294967295)
    (s : St h0 Z ((t7, 0, [.slice none 0 0]) :: (((tb, 0, hdr iso ctr (rA g) cnt mn mx) :: rAll g) ++ E)) h)
    (H : ∀ v b o sp h', Own 2 v (firstN (rPt g).items n).length b o ((firstN (rPt g).items n).flatMap encA) sp → St h0 Z ((t7, 0, [v]) :: (b, o, (firstN (rPt g).items n).flatMap encA ++ sp) :: (((tb, 0, hdr iso ctr (rA g) cnt mn mx) :: rAll g) ++ E)) h' → Q (.tuple #[]) h') :
    i_words.call #[ptr t7 0, .int .i64 n] h fun t12 h => Map_si_Scan.call #[ptr tb 0, t12] h Q := by
  refine pairs_ok s fun t2 t3 t5 h s => ?_
  have s0 : St h0 Z (((tb, 0, hdr iso ctr (rA g) cnt mn mx) :: rAll g) ++ ((t5, 0, [.func (.func 241) #[] #[ptr t2 0, ptr t3 0]]) :: (t2, 0, [ptr t7 0]) :: (t3, 0, [.int .i64 n]) :: (t7, 0, [.slice none 0 0]) :: (0, 0, ([] : List It).flatMap encA ++ []) :: E)) h := (s.empty 0 0).perm (by ((apply perm_rg; intro f; simp only [List.set_cons_zero, List.set_cons_succ, List.eraseIdx_cons_zero, List.eraseIdx_cons_succ, List.cons_append, List.nil_append, List.map_append, List.map_cons, List.map_nil, List.sum_append, List.sum_cons, List.sum_nil, List.map_flatMap, Nat.add_zero, Nat.zero_add]; ac_rfl)))
  obtain ⟨s1, back⟩ := s0.borrow
  refine Scan_ok (J := KeepJ h0 (((tb, 0, hdr iso ctr (rA g) cnt mn mx) :: rAll g) ++ Z) E t2 t3 t5 t7 n) (cont := upTo n) (N := 4294967296) M (List.mem_append.2 (.inl (List.mem_cons_self ..))) (fun r hr => List.mem_append.2 (.inl (List.mem_cons_of_mem _ hr))) (fun r hr => (s0.e r (List.mem_append.2 (.inl (List.mem_cons_of_mem _ hr)))).2)
    (fun p h hj => by obtain ⟨v, b, o, sp, w, s⟩ := hj; exact ⟨_, s⟩) (fun p x h K hp hj HK => keep_cb p x h K hp hj HK) (by omega) ⟨_, 0, 0, [], Own.nil 2 0 0, s1⟩ fun h' hj => ?_
  rw [feed_first] at hj
  obtain ⟨v, b, o, sp, w, s⟩ := hj
  have s := back _ h' s
  exact H v b o sp h' w ((s.perm (E' := (t5, 0, _) :: (t2, 0, _) :: (t3, 0, _) :: (t7, 0, [v]) :: (b, o, _) :: (((tb, 0, hdr iso ctr (rA g) cnt mn mx) :: rAll g) ++ E)) (by ((apply perm_rg; intro f; simp only [List.set_cons_zero, List.set_cons_succ, List.eraseIdx_cons_zero, List.eraseIdx_cons_succ, List.cons_append, List.nil_append, List.map_append, List.map_cons, List.map_nil, List.sum_append, List.sum_cons, List.sum_nil, List.map_flatMap, Nat.add_zero, Nat.zero_add]; ac_rfl)))).drop 3)
end Go.Proofs.Ytdpkpcmoabfofaa.Si
end
section
namespace Go.Proofs.Ytdpkpcmoabfofaa.Si
open Go.Hp Go.Proofs.Ytdpkpcmoabfofaa
set_option linter.unusedVariables false
set_option linter.unusedSimpArgs false
variable {h0 h : Heap} {Z E : List Rg} {Q : Value → Heap → Prop}

theorem nodeKeys_ok {m : Nat} {iso : Int} (hm : m ≤ 1024) : ∀ {k : Nat} (t : GT It k) {lo : Nat} (g : Gd iso t) (fl : t.pt.Fl m lo) (hz : ∀ r ∈ t.all enc, r ∈ Z) {L : List KT} {v : Value} {b o : Nat} {sp : List Value} {E : List Rg} {h : Heap} {Q : Value → Heap → Prop},
    L.length + t.pt.items.length ≤ 4294967295 → Own 1 v L.length b o (L.flatMap fk) sp → St h0 Z ((b, o, L.flatMap fk ++ sp) :: E) h →
    (∀ v' b' o' sp' h', Own 1 v' (L ++ t.pt.items.map (·.1)).length b' o' ((L ++ t.pt.items.map (·.1)).flatMap fk) sp' → St h0 Z ((b', o', (L ++ t.pt.items.map (·.1)).flatMap fk ++ sp') :: E) h' → Q v' h') → mapNode_si_keys.call #[ptr t.id 0, v] h Q
  | 0, (d : Nd It), lo, g, fl, hz, L, v, b, o, sp, E, h, Q, hN, wv, s, H => by
    obtain ⟨own, n, is', cnt, its, iv, ib, io, isp, kb, kv', krb, kro, ksp⟩ := d
    obtain ⟨z1, z2⟩ := allZ_leaf hz
    have w : Own 2 iv its.length ib io (its.flatMap enc) isp := g.wf.1
    have hl : its.length ≤ m := fl.2
    have hN : L.length + its.length ≤ 4294967295 := hN
    have H : ∀ v' b' o' sp' h', Own 1 v' (L ++ its.map (·.1)).length b' o' ((L ++ its.map (·.1)).flatMap fk) sp' → St h0 Z ((b', o', (L ++ its.map (·.1)).flatMap fk ++ sp') :: E) h' → Q v' h' := H
    show mapNode_si_keys.call #[ptr n 0, v] h Q
    refine mapNode_si_keys.body _ _ _ _ ?_
    unfold mapNode_si_keys.sh
    refine leaf_ok (a := none) (s.clz z1 3 rfl rfl) ?_
    refine r_if (fun _ => ?_) (fun e => absurd e (by simp))
    refine loop_ghost (fun k st h => ∃ j v b o sp, k = its.length - j ∧ j ≤ its.length ∧ st = [v, .int .i64 (j : Nat)] ∧ Own 1 v (L ++ (its.take j).map (·.1)).length b o ((L ++ (its.take j).map (·.1)).flatMap fk) sp ∧ St h0 Z ((b, o, (L ++ (its.take j).map (·.1)).flatMap fk ++ sp) :: E) h)
      (n0 := its.length) ⟨0, v, b, o, sp, rfl, Nat.zero_le _, rfl, by simpa using wv, by simpa using s⟩ ?_
    rintro k st h ⟨j, v, b, o, sp, rfl, hj, rfl, wv, s⟩ K HK
    unfold mapNode_si_keys.l7.b
    refine r_nil ?_
    refine r_fld ?_
    refine s.r_lz0 z1 (j := 2) rfl ?_
    refine w.lenV ?_
    refine r_cmpI ?_
    refine r_if (fun hlt => ?_) (fun hge => ?_)
    · have hlt : j < its.length := by simpa using hlt
      have hx : its[j]? = some its[j] := List.getElem?_eq_getElem hlt
      unfold mapNode_si_keys.j8
      refine r_nil ?_
      refine r_fld ?_
      refine s.r_lz0 z1 (j := 2) rfl ?_
      refine w.idx (n := j) rfl hlt ?_
      refine r_fld ?_
      refine s.r_load1FZ encl (r := 1) z2 hx rfl ?_
      refine St.r_mkSl (sz := 1) (cs := [kv its[j].1]) s (by ((simp only [fillV, fill1, Value.cells, zeros_succ, zeros_zero, List.size_toArray, List.length_cons, List.length_nil, List.length_append, List.take_succ_cons, List.take_zero, List.take_nil, List.drop_succ_cons, List.drop_zero, List.drop_nil, List.cons_append, List.nil_append, List.append_nil, Nat.reduceAdd, Nat.reduceMul, Nat.reduceLeDiff, Nat.reduceEqDiff, and_self, and_true, true_and, if_true, Nat.le_refl, Nat.zero_add, Nat.add_zero, Nat.zero_mul, reduceIte, if_false] <;> rfl))) rfl fun q h s w1 => ?_
      refine St.r_app s 1 (sz := 1) (n := 1) (new := [kv its[j].1]) rfl wv rfl (w1.rdl s 0 rfl) (by simp [one1]) (by simp; omega) (by simp; omega) fun v' b' o' sp' h s w' => ?_
      rw [snoc_fk] at s w'
      have et : (L ++ (its.take j).map (·.1)) ++ [its[j].1] = L ++ (its.take (j + 1)).map (·.1) := by
        rw [List.take_succ_eq_append_getElem hlt, List.map_append, List.append_assoc]; rfl
      have w' : Own 1 v' ((L ++ (its.take j).map (·.1)) ++ [its[j].1]).length b' o' (((L ++ (its.take j).map (·.1)) ++ [its[j].1]).flatMap fk) sp' := by rw [List.length_append]; exact w'
      rw [et] at s w'
      unfold mapNode_si_keys.j9
      refine r_add (z := ((j + 1 : Nat) : Int)) (by rw [i64w (by omega) (by omega)]; omega) ?_
      exact HK (its.length - (j + 1)) _ _ (by omega) ⟨j + 1, v', b', o', sp', rfl, hlt, rfl, w', s.drop 1⟩
    · have hge : j = its.length := by simp at hge; omega
      subst hge
      rw [List.take_length] at s wv
      unfold mapNode_si_keys.j6
      exact H v b o sp h wv s
  | k + 1, t, lo, g, fl, hz, L, v, b, o, sp, E, h, Q, hN, wv, s, H => by
    obtain ⟨d, ts⟩ := t
    obtain ⟨own, n, is', cnt, its, iv, ib, io, isp, kb, kv', krb, kro, ksp⟩ := d
    obtain ⟨z1, z2, z3, z4, z5⟩ := allZ_inner hz
    have w : Own 2 iv its.length ib io (its.flatMap enc) isp := g.wf.1.1
    have wK : Own 1 kv' ts.length krb kro ((ts.map GT.id).map fun m => ptr m 0) ksp := g.wf.2.1
    have hkl : ts.length = its.length + 1 := g.wf.2.2.1
    have hl : its.length ≤ m := fl.2.1
    have hpl : ∀ i, ((ts.take i).map fun t => t.pt.items) = (((ts.map GT.pt).take i).map PT.items) := fun i => by rw [← List.map_take, List.map_map]; rfl
    have hsplit : ∀ i (hi : i ≤ its.length) c, ts[i]? = some c → PT.items (h := k + 1) (its, ts.map GT.pt) = lz (its.take i) ((ts.take i).map fun t => t.pt.items) ++ (c.pt.items ++ rz (its.drop i) (((ts.map GT.pt).drop (i + 1)).map PT.items)) := by
      intro i hi c hc
      obtain ⟨c', hc', _, e⟩ := PT.around (t := ((its, ts.map GT.pt) : PT It (k + 1))) fl hi
      have hc' : (ts.map GT.pt)[i]? = some c' := hc'
      rw [List.getElem?_map, hc] at hc'
      have : c' = c.pt := (Option.some.inj hc').symm
      subst this
      rw [hpl]; exact e
    have hN : L.length + (PT.items (h := k + 1) (its, ts.map GT.pt)).length ≤ 4294967295 := hN
    have H : ∀ v' b' o' sp' h', Own 1 v' (L ++ (PT.items (h := k + 1) (its, ts.map GT.pt)).map (·.1)).length b' o' ((L ++ (PT.items (h := k + 1) (its, ts.map GT.pt)).map (·.1)).flatMap fk) sp' → St h0 Z ((b', o', (L ++ (PT.items (h := k + 1) (its, ts.map GT.pt)).map (·.1)).flatMap fk ++ sp') :: E) h' → Q v' h' := H
    show mapNode_si_keys.call #[ptr n 0, v] h Q
    refine mapNode_si_keys.body _ _ _ _ ?_
    unfold mapNode_si_keys.sh
    refine leaf_ok (a := some ⟨kb, 0, Option.none⟩) (s.clz z1 3 rfl rfl) ?_
    refine r_if (fun e => absurd e (by simp)) (fun _ => ?_)
    unfold mapNode_si_keys.j1
    refine loop_ghost (fun q st h => ∃ j v b o sp, q = its.length - j ∧ j ≤ its.length ∧ st = [v, .int .i64 (j : Nat)] ∧ Own 1 v (L ++ (lz (its.take j) ((ts.take j).map fun t => t.pt.items)).map (·.1)).length b o ((L ++ (lz (its.take j) ((ts.take j).map fun t => t.pt.items)).map (·.1)).flatMap fk) sp ∧ St h0 Z ((b, o, (L ++ (lz (its.take j) ((ts.take j).map fun t => t.pt.items)).map (·.1)).flatMap fk ++ sp) :: E) h)
      (n0 := its.length) ⟨0, v, b, o, sp, rfl, Nat.zero_le _, rfl, by simpa [lz] using wv, by simpa [lz] using s⟩ ?_
    rintro q st h ⟨j, v, b, o, sp, rfl, hj, rfl, wv, s⟩ K HK
    obtain ⟨c, hc⟩ : ∃ c, ts[j]? = some c := ⟨ts[j]'(by omega), List.getElem?_eq_getElem (by omega)⟩
    have hcm := List.mem_of_getElem? hc
    have hfc : PT.Fl m (m / 2) c.pt := fl.2.2.2 _ (List.mem_map.2 ⟨c, hcm, rfl⟩)
    have hs := hsplit j hj c hc
    have hsl := congrArg List.length hs
    simp only [List.length_append] at hsl
    unfold mapNode_si_keys.l3.b
    refine r_nil ?_
    refine r_fld ?_
    refine s.r_lz0 z1 (j := 2) rfl ?_
    refine w.lenV ?_
    refine r_cmpI ?_
    refine r_if (fun hlt => ?_) (fun hge => ?_)
    · have hlt : j < its.length := by simpa using hlt
      have hx : its[j]? = some its[j] := List.getElem?_eq_getElem hlt
      have et : its.take (j + 1) = its.take j ++ [its[j]] := List.take_succ_eq_append_getElem hlt
      have ek : ts.take (j + 1) = ts.take j ++ [c] := by rw [List.take_add_one, hc]; rfl
      have ez : lz (its.take (j + 1)) ((ts.take (j + 1)).map fun t => t.pt.items) = lz (its.take j) ((ts.take j).map fun t => t.pt.items) ++ (c.pt.items ++ [its[j]]) := by
        rw [et, ek, List.map_append, List.map_cons, List.map_nil, lz_snoc _ _ _ _ (by simp; omega)]
      obtain ⟨rest, hrest⟩ : ∃ rest, rz (its.drop j) (((ts.map GT.pt).drop (j + 1)).map PT.items) = its[j] :: rest := by
        have e1 : its.drop j = its[j] :: its.drop (j + 1) := List.drop_eq_getElem_cons hlt
        have e2 : (ts.map GT.pt).drop (j + 1) = (ts.map GT.pt)[j + 1]'(by simp; omega) :: (ts.map GT.pt).drop (j + 1 + 1) := List.drop_eq_getElem_cons (by simp; omega)
        rw [e1, e2, List.map_cons, rz_cons]; exact ⟨_, rfl⟩
      rw [hrest, List.length_cons] at hsl
      unfold mapNode_si_keys.j4
      refine r_nil ?_
      refine r_fld ?_
      refine s.r_lz0 z1 (j := 3) rfl ?_
      refine r_nil ?_
      refine s.r_lz0 z3 (j := 0) rfl ?_
      refine wK.idx (n := j) rfl (by omega) ?_
      refine r_ld (kidcell z4 hc s) ?_
      refine nodeKeys_ok hm c (g.kid hcm) hfc (z5 c hcm) (by rw [List.length_append, List.length_map]; omega) wv s fun v2 b2 o2 sp2 h s2 s => ?_
      refine r_nil ?_
      refine r_fld ?_
      refine s.r_lz0 z1 (j := 2) rfl ?_
      refine w.idx (n := j) rfl hlt ?_
      refine r_fld ?_
      refine s.r_load1FZ encl (r := 1) z2 hx rfl ?_
      refine St.r_mkSl (sz := 1) (cs := [kv its[j].1]) s (by ((simp only [fillV, fill1, Value.cells, zeros_succ, zeros_zero, List.size_toArray, List.length_cons, List.length_nil, List.length_append, List.take_succ_cons, List.take_zero, List.take_nil, List.drop_succ_cons, List.drop_zero, List.drop_nil, List.cons_append, List.nil_append, List.append_nil, Nat.reduceAdd, Nat.reduceMul, Nat.reduceLeDiff, Nat.reduceEqDiff, and_self, and_true, true_and, if_true, Nat.le_refl, Nat.zero_add, Nat.add_zero, Nat.zero_mul, reduceIte, if_false] <;> rfl))) rfl fun q h s w1 => ?_
      refine St.r_app s 1 (sz := 1) (n := 1) (new := [kv its[j].1]) rfl s2 rfl (w1.rdl s 0 rfl) (by simp [one1]) (by simp only [List.length_append, List.length_map]; omega) (by simp only [List.length_append, List.length_map]; omega) fun v' b' o' sp' h s w' => ?_
      rw [snoc_fk] at s w'
      have e9 : (L ++ (lz (its.take j) ((ts.take j).map fun t => t.pt.items)).map (·.1) ++ c.pt.items.map (·.1)) ++ [its[j].1] = L ++ (lz (its.take (j + 1)) ((ts.take (j + 1)).map fun t => t.pt.items)).map (·.1) := by
        rw [ez]; simp
      have w' : Own 1 v' ((L ++ (lz (its.take j) ((ts.take j).map fun t => t.pt.items)).map (·.1) ++ c.pt.items.map (·.1)) ++ [its[j].1]).length b' o' (((L ++ (lz (its.take j) ((ts.take j).map fun t => t.pt.items)).map (·.1) ++ c.pt.items.map (·.1)) ++ [its[j].1]).flatMap fk) sp' := by rw [List.length_append]; exact w'
      rw [e9] at s w'
      unfold mapNode_si_keys.j5
      refine r_add (z := ((j + 1 : Nat) : Int)) (by rw [i64w (by omega) (by omega)]; omega) ?_
      exact HK (its.length - (j + 1)) _ _ (by omega) ⟨j + 1, v', b', o', sp', rfl, hlt, rfl, w', s.drop 1⟩
    · have hge : j = its.length := by simp at hge; omega
      subst hge
      have hr0 : rz (its.drop its.length) (((ts.map GT.pt).drop (its.length + 1)).map PT.items) = [] := by rw [List.drop_length]; rfl
      rw [hr0, List.append_nil] at hs
      unfold mapNode_si_keys.j2
      refine r_nil ?_
      refine r_fld ?_
      refine s.r_lz0 z1 (j := 3) rfl ?_
      refine r_nil ?_
      refine s.r_lz0 z3 (j := 0) rfl ?_
      refine r_nil ?_
      refine r_fld ?_
      refine s.r_lz0 z1 (j := 3) rfl ?_
      refine r_nil ?_
      refine s.r_lz0 z3 (j := 0) rfl ?_
      refine wK.lenV ?_
      refine r_sub (z := ((its.length : Nat) : Int)) (by rw [i64w (by omega) (by omega)]; omega) ?_
      refine wK.idx (n := its.length) rfl (by omega) ?_
      refine r_ld (kidcell z4 hc s) ?_
      refine nodeKeys_ok hm c (g.kid hcm) hfc (z5 c hcm) (by rw [List.length_append, List.length_map]; omega) wv s fun v2 b2 o2 sp2 h s2 s => ?_
      have e9 : L ++ (lz (its.take its.length) ((ts.take its.length).map fun t => t.pt.items)).map (·.1) ++ c.pt.items.map (·.1) = L ++ (PT.items (h := k + 1) (its, ts.map GT.pt)).map (·.1) := by rw [hs]; simp
      rw [e9] at s s2
      exact H v2 b2 o2 sp2 h s2 s

theorem Keys_ok {g : Rt} {tb m : Nat} {iso mn mx : Int} {ctr : Option Addr} (M : MapOk m iso g) (hl : (rPt g).items.length ≤ 4294967295) (s : St h0 Z (((tb, 0, hdr iso ctr (rA g) (rPt g).items.length mn mx) :: rAll g) ++ E) h)
    (H : ∀ v b o sp h', Own 1 v ((rPt g).items.map (·.1)).length b o (((rPt g).items.map (·.1)).flatMap fk) sp → St h0 Z ((b, o, ((rPt g).items.map (·.1)).flatMap fk ++ sp) :: (((tb, 0, hdr iso ctr (rA g) (rPt g).items.length mn mx) :: rAll g) ++ E)) h' → Q v h') :
    Map_si_Keys.call #[ptr tb 0] h Q := by
  refine Map_si_Keys.body _ _ _ ?_
  unfold Map_si_Keys.sh
  refine Map_si_Len.body _ _ _ ?_
  unfold Map_si_Len.sh
  have s : St h0 Z ((tb, 0, hdr iso ctr (rA g) (rPt g).items.length mn mx) :: (rAll g ++ E)) h := s
  refine r_nil ?_
  refine r_fld ?_
  refine St.r_load0 s 0 rfl rfl ?_
  refine s.r_mks (n := 0) (sz := 1) rfl (by omega) (by omega) (by omega) fun v b h s w => ?_
  rw [zeros_zero] at s w
  refine r_nil ?_
  refine r_fld ?_
  refine St.r_load0 s 1 rfl rfl ?_
  refine r_neNilP ?_
  cases g with
  | none =>
    refine r_if (fun e => absurd e (by simp [rA])) (fun _ => ?_)
    unfold Map_si_Keys.j1
    exact H _ b 0 _ h w s
  | some t =>
    refine r_if (fun _ => ?_) (fun e => absurd e (by simp [rA]))
    refine r_nil ?_
    refine r_fld ?_
    refine St.r_load0 s 1 rfl rfl ?_
    have s0 : St h0 Z (((tb, 0, hdr iso ctr (rA (some t)) (rPt (some t)).items.length mn mx) :: rAll (some t)) ++ ((b, 0, ([] : List KT).flatMap fk ++ zeros [kv emp.1] ((rPt (some t)).items.length - 0)) :: E)) h := s.perm (by ((apply perm_rg; intro f; simp only [List.set_cons_zero, List.set_cons_succ, List.eraseIdx_cons_zero, List.eraseIdx_cons_succ, List.cons_append, List.nil_append, List.map_append, List.map_cons, List.map_nil, List.sum_append, List.sum_cons, List.sum_nil, List.map_flatMap, Nat.add_zero, Nat.zero_add]; ac_rfl)))
    obtain ⟨s1, back⟩ := s0.borrow
    refine nodeKeys_ok M.m1 t.2 M.gd M.fl (fun r hr => List.mem_append.2 (.inl (List.mem_cons_of_mem _ hr))) (L := []) (by rw [List.length_nil, Nat.zero_add]; exact hl) w s1 fun v' b' o' sp' h' w' s => ?_
    have s := back _ h' s
    unfold Map_si_Keys.j1
    exact H v' b' o' sp' h' w' (s.perm (by ((apply perm_rg; intro f; simp only [List.set_cons_zero, List.set_cons_succ, List.eraseIdx_cons_zero, List.eraseIdx_cons_succ, List.cons_append, List.nil_append, List.map_append, List.map_cons, List.map_nil, List.sum_append, List.sum_cons, List.sum_nil, List.map_flatMap, Nat.add_zero, Nat.zero_add]; ac_rfl))))
end Go.Proofs.Ytdpkpcmoabfofaa.Si
end
section
namespace Go.Proofs.Ytdpkpcmoabfofaa.Si
open Go.Hp Go.Proofs.Ytdpkpcmoabfofaa
set_option linter.unusedVariables false
set_option linter.unusedSimpArgs false
variable {h0 h : Heap} {Z E : List Rg} {Q : Value → Heap → Prop}

theorem nodeAscend_ok {cont : List It → Bool} {f tr : Value} {J : List It → Heap → Prop} {iso : Int} {m N : Nat} {x : It} (hm : m ≤ 1024) (hJ : ∀ p h, J p h → ∃ E, St h0 Z E h)
    (cb : ∀ (p : List It) (x : It) (h : Heap) (K : Value → Heap → Prop), p.length < N → J p h → (∀ h', J (p ++ [x]) h' → K (.bool (cont (p ++ [x]))) h') → callV Try.prog f #[kv x.1, vv x.2] h K) :
    ∀ {k : Nat} (t : GT It k) {lo : Nat} (g : Gd iso t) (fl : t.pt.Fl m lo) (ha : Asc lt t.pt.items) (hz : ∀ r ∈ t.all enc, r ∈ Z) (hzb : ∀ r ∈ t.all enc, r.2.2 ≠ [] → h0.size ≤ r.1) {pb po : Nat} (hp : ∀ E h, St h0 Z E h → cl h pb po = some (ptr t.id 0)) {p : List It} {h : Heap} {Q : Value → Heap → Prop}, p.length + t.pt.items.length ≤ N → J p h →
      (∀ h', J (feed cont p (t.pt.items.drop (pos lt t.pt.items x))).1 h' → Q (.bool (feed cont p (t.pt.items.drop (pos lt t.pt.items x))).2) h') → Map_si_nodeAscend.call #[tr, ptr pb po, kv x.1, f, .bool false] h Q
  | 0, (d : Nd It), lo, g, fl, ha, hz, hzb, pb, po, hp, p, h, Q, hN, hj, H => by
    obtain ⟨own, n, is', cnt, its, iv, ib, io, isp, kb, kv', krb, kro, ksp⟩ := d
    obtain ⟨z1, z2⟩ := allZ_leaf hz
    have w : Own 2 iv its.length ib io (its.flatMap enc) isp := g.wf.1
    have hl : its.length ≤ m := fl.2
    have ha : Asc lt its := ha
    have hN : p.length + its.length ≤ N := hN
    have hp : ∀ E h, St h0 Z E h → cl h pb po = some (ptr n 0) := hp
    have H : ∀ h', J (feed cont p (its.drop (pos lt its x))).1 h' → Q (.bool (feed cont p (its.drop (pos lt its x))).2) h' := H
    have hpl := pos_le (lt := lt) its x
    refine Map_si_nodeAscend.body _ _ _ _ _ _ _ ?_
    unfold Map_si_nodeAscend.sh
    obtain ⟨E, s⟩ := hJ p h hj
    refine isoLoad_ro (hp E h s) ?_
    refine search_ok (x := x) ha (by omega) (s.clz z1 2 rfl rfl) (w.rdlZ s z2) ?_
    refine r_ext rfl ?_
    refine r_ext rfl ?_
    refine r_not ?_
    have main : Map_si_nodeAscend.j1 tr f (.bool false) (ptr n 0) (.int .i64 (pos lt its x)) h Q := by
      unfold Map_si_nodeAscend.j1
      refine loop_up (n := its.length - pos lt its x) (fun j => [.int .i64 ((pos lt its x + j : Nat) : Int)]) (fun j h => (feed cont p ((its.drop (pos lt its x)).take j)).2 = true ∧ J (feed cont p ((its.drop (pos lt its x)).take j)).1 h) ⟨rfl, hj⟩ ?_
      rintro j h hjl ⟨hf, hj⟩ K HK
      obtain ⟨E, s⟩ := hJ _ h hj
      unfold Map_si_nodeAscend.l3.b
      refine r_nil ?_
      refine r_fld ?_
      refine s.r_lz0 z1 (j := 2) rfl ?_
      refine w.lenV ?_
      refine r_cmpI ?_
      refine r_if (fun hlt => ?_) (fun hge => ?_)
      · have hlt : pos lt its x + j < its.length := by have : ((pos lt its x + j : Nat) : Int) < its.length := by simpa using hlt
                                                       omega
        have hx : its[pos lt its x + j]? = some its[pos lt its x + j] := List.getElem?_eq_getElem hlt
        unfold Map_si_nodeAscend.j4
        refine r_nil ?_
        refine r_fld ?_
        refine s.r_lz0 z1 (j := 2) rfl ?_
        refine w.idx (n := pos lt its x + j) rfl hlt ?_
        refine r_fld ?_
        refine s.r_load1FZ encl (r := 1) z2 hx rfl ?_
        refine r_nil ?_
        refine r_fld ?_
        refine s.r_lz0 z1 (j := 2) rfl ?_
        refine w.idx (n := pos lt its x + j) rfl hlt ?_
        refine r_fld ?_
        refine s.r_load1FZ encl (r := 0) z2 hx rfl ?_
        have hfl := feed_len (cont := cont) ((its.drop (pos lt its x)).take j) p
        rw [List.length_take, List.length_drop] at hfl
        have hd : j < (its.drop (pos lt its x)).length := by rw [List.length_drop]; omega
        have et : (its.drop (pos lt its x)).take (j + 1) = (its.drop (pos lt its x)).take j ++ [its[pos lt its x + j]] := by
          rw [List.take_succ_eq_append_getElem hd, List.getElem_drop]
        have ef : feed cont p ((its.drop (pos lt its x)).take (j + 1)) = ((feed cont p ((its.drop (pos lt its x)).take j)).1 ++ [its[pos lt its x + j]], cont ((feed cont p ((its.drop (pos lt its x)).take j)).1 ++ [its[pos lt its x + j]])) := by rw [et, feed_step hf, feed_one]
        refine cb _ its[pos lt its x + j] h _ (by omega) hj fun h' hj' => ?_
        refine r_not ?_
        refine r_if (fun hc => ?_) (fun hc => ?_)
        · have hc : cont ((feed cont p ((its.drop (pos lt its x)).take j)).1 ++ [its[pos lt its x + j]]) = false := by simpa using hc
          have ea : feed cont p (its.drop (pos lt its x)) = ((feed cont p ((its.drop (pos lt its x)).take j)).1 ++ [its[pos lt its x + j]], false) := by
            have e0 := feed_stop (cont := cont) (p := p) (a := (its.drop (pos lt its x)).take (j + 1)) (b := (its.drop (pos lt its x)).drop (j + 1)) (by rw [ef]; exact hc)
            rw [List.take_append_drop, ef] at e0
            exact e0
          have := H h' (by rw [ea]; exact hj')
          rw [ea] at this; exact this
        · have hc : cont ((feed cont p ((its.drop (pos lt its x)).take j)).1 ++ [its[pos lt its x + j]]) = true := by simpa using hc
          unfold Map_si_nodeAscend.j6
          obtain ⟨E2, s2⟩ := hJ _ h' hj'
          refine leaf_ok (a := none) (s2.clz z1 3 rfl rfl) ?_
          refine r_not ?_
          refine r_if (fun e => absurd e (by simp)) (fun _ => ?_)
          unfold Map_si_nodeAscend.j5
          refine r_add (z := ((pos lt its x + (j + 1) : Nat) : Int)) (by rw [i64w (by omega) (by omega)]; omega) ?_
          exact HK h' (by omega) ⟨by rw [ef]; exact hc, by rw [ef]; exact hj'⟩
      · have hge : its.length ≤ pos lt its x + j := by have : ¬ ((pos lt its x + j : Nat) : Int) < its.length := by simpa using hge
                                                       omega
        rw [List.take_of_length_le (by rw [List.length_drop]; omega)] at hf hj
        unfold Map_si_nodeAscend.j2
        have := H h hj
        rw [hf] at this; exact this
    refine r_if (fun _ => ?_) (fun _ => main)
    refine leaf_ok (a := none) (s.clz z1 3 rfl rfl) ?_
    refine r_not ?_
    refine r_if (fun e => absurd e (by simp)) (fun _ => main)
  | k + 1, t, lo, g, fl, ha, hz, hzb, pb, po, hp, p, h, Q, hN, hj, H => by
    obtain ⟨d, ts⟩ := t
    obtain ⟨own, n, is', cnt, its, iv, ib, io, isp, kb, kv', krb, kro, ksp⟩ := d
    obtain ⟨z1, z2, z3, z4, z5⟩ := allZ_inner hz
    have w : Own 2 iv its.length ib io (its.flatMap enc) isp := g.wf.1.1
    have wK : Own 1 kv' ts.length krb kro ((ts.map GT.id).map fun m => ptr m 0) ksp := g.wf.2.1
    have hkl : ts.length = its.length + 1 := g.wf.2.2.1
    have hl : its.length ≤ m := fl.2.1
    have hp : ∀ E h, St h0 Z E h → cl h pb po = some (ptr n 0) := hp
    have ha : Asc lt (PT.items (h := k + 1) (its, ts.map GT.pt)) := ha
    have hN : p.length + (PT.items (h := k + 1) (its, ts.map GT.pt)).length ≤ N := hN
    have H : ∀ h', J (feed cont p ((PT.items (h := k + 1) (its, ts.map GT.pt)).drop (pos lt (PT.items (h := k + 1) (its, ts.map GT.pt)) x))).1 h' → Q (.bool (feed cont p ((PT.items (h := k + 1) (its, ts.map GT.pt)).drop (pos lt (PT.items (h := k + 1) (its, ts.map GT.pt)) x))).2) h' := H
    have hpl := pos_le (lt := lt) its x
    have ha1 : Asc lt its := asc_of_sub ha (PT.its_sub1 ((its, ts.map GT.pt) : PT It (k + 1)))
    obtain ⟨c, hc⟩ : ∃ c, ts[pos lt its x]? = some c := ⟨ts[pos lt its x]'(by omega), List.getElem?_eq_getElem (by omega)⟩
    have hcm := List.mem_of_getElem? hc
    have hfc : PT.Fl m (m / 2) c.pt := fl.2.2.2 _ (List.mem_map.2 ⟨c, hcm, rfl⟩)
    have hcp : (ts.map GT.pt)[pos lt its x]? = some c.pt := by rw [List.getElem?_map, hc]; rfl
    obtain ⟨c0, hc0, _, eit⟩ := PT.around (t := ((its, ts.map GT.pt) : PT It (k + 1))) fl hpl
    have : c0 = c.pt := Option.some.inj (hc0.symm.trans hcp)
    subst this
    have eit : PT.items (h := k + 1) (its, ts.map GT.pt) = lz (its.take (pos lt its x)) (((ts.map GT.pt).take (pos lt its x)).map PT.items) ++ (c.pt.items ++ rz (its.drop (pos lt its x)) (((ts.map GT.pt).drop (pos lt its x + 1)).map PT.items)) := eit
    have hb : ∀ y ∈ lz (its.take (pos lt its x)) (((ts.map GT.pt).take (pos lt its x)).map PT.items), lt y x = true := by
      have ha2 := ha
      rw [eit] at ha2
      exact lz_before swo (by simp; omega) ha2 (fun y hy => (asc_pos (x := x) swo ha1).1 y hy)
    have hac : Asc lt c.pt.items := by rw [eit] at ha; exact (asc_app (asc_app ha).2.1).1
    generalize hB : rz (its.drop (pos lt its x)) (((ts.map GT.pt).drop (pos lt its x + 1)).map PT.items) = B at eit
    have hsl := congrArg List.length eit
    simp only [List.length_append] at hsl
    refine Map_si_nodeAscend.body _ _ _ _ _ _ _ ?_
    unfold Map_si_nodeAscend.sh
    obtain ⟨E, s⟩ := hJ p h hj
    refine isoLoad_ro (hp E h s) ?_
    refine search_ok (x := x) ha1 (by omega) (s.clz z1 2 rfl rfl) (w.rdlZ s z2) ?_
    refine r_ext rfl ?_
    refine r_ext rfl ?_
    refine r_not ?_
    -- from the node's own item on
    have main : ∀ (q : List It) (h : Heap), q.length + B.length ≤ N → J q h → (∀ h', J (feed cont q B).1 h' → Q (.bool (feed cont q B).2) h') → Map_si_nodeAscend.j1 tr f (.bool false) (ptr n 0) (.int .i64 (pos lt its x)) h Q := by
      intro q h hqN hj H
      have hkk : ∀ j, pos lt its x + 1 + j < ts.length → (((ts.map GT.pt).drop (pos lt its x + 1)).map PT.items)[j]? = (ts[pos lt its x + 1 + j]?).map fun t => t.pt.items := fun j hj => by
        rw [List.getElem?_map, List.getElem?_drop, List.getElem?_map, Option.map_map]; rfl
      unfold Map_si_nodeAscend.j1
      refine loop_up (n := its.length - pos lt its x) (fun j => [.int .i64 ((pos lt its x + j : Nat) : Int)]) (fun j h => (feed cont q (rz ((its.drop (pos lt its x)).take j) ((((ts.map GT.pt).drop (pos lt its x + 1)).map PT.items).take j))).2 = true ∧ J (feed cont q (rz ((its.drop (pos lt its x)).take j) ((((ts.map GT.pt).drop (pos lt its x + 1)).map PT.items).take j))).1 h) ⟨rfl, hj⟩ ?_
      rintro j h hjl ⟨hf, hj⟩ K HK
      obtain ⟨E, s⟩ := hJ _ h hj
      have eB := rz_drop (b := its.drop (pos lt its x)) (kb := ((ts.map GT.pt).drop (pos lt its x + 1)).map PT.items) j
      rw [hB] at eB
      generalize hA : rz ((its.drop (pos lt its x)).take j) ((((ts.map GT.pt).drop (pos lt its x + 1)).map PT.items).take j) = A at hf hj eB
      unfold Map_si_nodeAscend.l3.b
      refine r_nil ?_
      refine r_fld ?_
      refine s.r_lz0 z1 (j := 2) rfl ?_
      refine w.lenV ?_
      refine r_cmpI ?_
      refine r_if (fun hlt => ?_) (fun hge => ?_)
      · have hlt : pos lt its x + j < its.length := by have : ((pos lt its x + j : Nat) : Int) < its.length := by simpa using hlt
                                                       omega
        have hx : its[pos lt its x + j]? = some its[pos lt its x + j] := List.getElem?_eq_getElem hlt
        obtain ⟨c2, hc2⟩ : ∃ c2, ts[pos lt its x + j + 1]? = some c2 := ⟨ts[pos lt its x + j + 1]'(by omega), List.getElem?_eq_getElem (by omega)⟩
        have hcm2 := List.mem_of_getElem? hc2
        have hfc2 : PT.Fl m (m / 2) c2.pt := fl.2.2.2 _ (List.mem_map.2 ⟨c2, hcm2, rfl⟩)
        have l1 : j < (its.drop (pos lt its x)).length := by rw [List.length_drop]; omega
        have l2 : j < (((ts.map GT.pt).drop (pos lt its x + 1)).map PT.items).length := by rw [List.length_map, List.length_drop, List.length_map]; omega
        have g1 : (its.drop (pos lt its x))[j] = its[pos lt its x + j] := List.getElem_drop ..
        have g2 : (((ts.map GT.pt).drop (pos lt its x + 1)).map PT.items)[j] = c2.pt.items := by
          have := hkk j (by omega)
          rw [List.getElem?_eq_getElem l2, show pos lt its x + 1 + j = pos lt its x + j + 1 by omega, hc2] at this
          exact Option.some.inj this
        have et := rz_take l1 l2
        rw [hA, g1, g2] at et
        have eB2 := rz_drop (b := its.drop (pos lt its x)) (kb := ((ts.map GT.pt).drop (pos lt its x + 1)).map PT.items) (j + 1)
        rw [hB, et] at eB2
        have hbl := congrArg List.length eB2
        simp only [List.length_append, List.length_cons] at hbl
        have hfl := feed_len (cont := cont) A q
        have hfl2 := feed_len (cont := cont) (A ++ [its[pos lt its x + j]]) q
        rw [List.length_append, List.length_singleton] at hfl2
        unfold Map_si_nodeAscend.j4
        refine r_nil ?_
        refine r_fld ?_
        refine s.r_lz0 z1 (j := 2) rfl ?_
        refine w.idx (n := pos lt its x + j) rfl hlt ?_
        refine r_fld ?_
        refine s.r_load1FZ encl (r := 1) z2 hx rfl ?_
        refine r_nil ?_
        refine r_fld ?_
        refine s.r_lz0 z1 (j := 2) rfl ?_
        refine w.idx (n := pos lt its x + j) rfl hlt ?_
        refine r_fld ?_
        refine s.r_load1FZ encl (r := 0) z2 hx rfl ?_
        have ef1 : feed cont q (A ++ [its[pos lt its x + j]]) = ((feed cont q A).1 ++ [its[pos lt its x + j]], cont ((feed cont q A).1 ++ [its[pos lt its x + j]])) := by rw [feed_step hf, feed_one]
        refine cb _ its[pos lt its x + j] h _ (by omega) hj fun h' hj' => ?_
        refine r_not ?_
        refine r_if (fun hc => ?_) (fun hc => ?_)
        · have hc : cont ((feed cont q A).1 ++ [its[pos lt its x + j]]) = false := by simpa using hc
          have ea : feed cont q B = ((feed cont q A).1 ++ [its[pos lt its x + j]], false) := by
            have e0 := feed_stop (cont := cont) (p := q) (a := A ++ [its[pos lt its x + j]]) (b := c2.pt.items ++ rz ((its.drop (pos lt its x)).drop (j + 1)) ((((ts.map GT.pt).drop (pos lt its x + 1)).map PT.items).drop (j + 1))) (by rw [ef1]; exact hc)
            rw [ef1] at e0
            rw [eB2, ← e0]; simp
          have := H h' (by rw [ea]; exact hj')
          rw [ea] at this; exact this
        · have hc : cont ((feed cont q A).1 ++ [its[pos lt its x + j]]) = true := by simpa using hc
          rw [hc] at ef1
          have hf1 : (feed cont q (A ++ [its[pos lt its x + j]])).2 = true := by rw [ef1]
          have hj1 : J (feed cont q (A ++ [its[pos lt its x + j]])).1 h' := by rw [ef1]; exact hj'
          unfold Map_si_nodeAscend.j6
          obtain ⟨E2, s⟩ := hJ _ h' hj'
          refine leaf_ok (a := some ⟨kb, 0, Option.none⟩) (s.clz z1 3 rfl rfl) ?_
          refine r_not ?_
          refine r_if (fun _ => ?_) (fun e => absurd e (by simp))
          refine r_nil ?_
          refine r_fld ?_
          refine s.r_lz0 z1 (j := 3) rfl ?_
          refine r_nil ?_
          refine s.r_lz0 z3 (j := 0) rfl ?_
          refine r_add (z := ((pos lt its x + j + 1 : Nat) : Int)) (by rw [i64w (by omega) (by omega)]; omega) ?_
          refine wK.idx (n := pos lt its x + j + 1) rfl (by omega) ?_
          have ef2 : feed cont q (A ++ (its[pos lt its x + j] :: c2.pt.items)) = feed cont (feed cont q (A ++ [its[pos lt its x + j]])).1 c2.pt.items := by
            rw [← feed_step hf1]; simp
          refine nodeScan_ok hm hJ cb c2 (g.kid hcm2) hfc2 (z5 c2 hcm2) (fun r hr => hzb r (List.mem_append.2 (.inr (List.mem_flatMap.2 ⟨c2, hcm2, hr⟩)))) (fun E h s => kidcell z4 hc2 s) (by omega) hj1 fun h2 hj2 => ?_
          refine r_not ?_
          refine r_if (fun hr => ?_) (fun hr => ?_)
          · have hr : (feed cont (feed cont q (A ++ [its[pos lt its x + j]])).1 c2.pt.items).2 = false := by simpa using hr
            have ea : feed cont q B = ((feed cont (feed cont q (A ++ [its[pos lt its x + j]])).1 c2.pt.items).1, false) := by
              rw [eB2, feed_stop (by rw [ef2]; exact hr), ef2]
            have := H h2 (by rw [ea]; exact hj2)
            rw [ea] at this; exact this
          · have hr : (feed cont (feed cont q (A ++ [its[pos lt its x + j]])).1 c2.pt.items).2 = true := by simpa using hr
            unfold Map_si_nodeAscend.j5
            refine r_add (z := ((pos lt its x + (j + 1) : Nat) : Int)) (by rw [i64w (by omega) (by omega)]; omega) ?_
            refine HK h2 (by omega) ⟨?_, ?_⟩
            · rw [et, ef2]; exact hr
            · rw [et, ef2]; exact hj2
      · have hge : its.length ≤ pos lt its x + j := by have : ¬ ((pos lt its x + j : Nat) : Int) < its.length := by simpa using hge
                                                       omega
        have e0 : (its.drop (pos lt its x)).drop j = [] := List.drop_of_length_le (by rw [List.length_drop]; omega)
        rw [e0] at eB
        have eB : B = A := by rw [eB]; simp [rz]
        unfold Map_si_nodeAscend.j2
        have := H h (by rw [eB]; exact hj)
        rw [eB, hf] at this; exact this
    refine r_if (fun hnf => ?_) (fun hfd => ?_)
    · have hn : lget lt its x = none := by cases e : lget lt its x with
        | none => rfl
        | some y => rw [e] at hnf; simp at hnf
      have hhd : ∀ y, B.head? = some y → lt x y = true := by
        rw [← hB, rz_head (by simp; omega)]; exact lget_none_head hn
      have hpi : pos lt (PT.items (h := k + 1) (its, ts.map GT.pt)) x = (lz (its.take (pos lt its x)) (((ts.map GT.pt).take (pos lt its x)).map PT.items)).length + pos lt c.pt.items x := by
        rw [eit, pos_app hb, pos_app2 (fun y hy => swo.asym (hhd y hy))]
      have hdi : (PT.items (h := k + 1) (its, ts.map GT.pt)).drop (pos lt (PT.items (h := k + 1) (its, ts.map GT.pt)) x) = c.pt.items.drop (pos lt c.pt.items x) ++ B := by
        rw [hpi]
        conv => lhs; rw [eit]
        rw [List.drop_length_add_append, List.drop_append_of_le_length (pos_le _ _)]
      rw [hdi] at H
      refine leaf_ok (a := some ⟨kb, 0, Option.none⟩) (s.clz z1 3 rfl rfl) ?_
      refine r_not ?_
      refine r_if (fun _ => ?_) (fun e => absurd e (by simp))
      refine r_nil ?_
      refine r_fld ?_
      refine s.r_lz0 z1 (j := 3) rfl ?_
      refine r_nil ?_
      refine s.r_lz0 z3 (j := 0) rfl ?_
      refine wK.idx (n := pos lt its x) rfl (by omega) ?_
      refine nodeAscend_ok hm hJ cb c (g.kid hcm) hfc hac (z5 c hcm) (fun r hr => hzb r (List.mem_append.2 (.inr (List.mem_flatMap.2 ⟨c, hcm, hr⟩)))) (fun E h s => kidcell z4 hc s) (by omega) hj fun h' hj' => ?_
      have hfl := feed_len (cont := cont) (c.pt.items.drop (pos lt c.pt.items x)) p
      rw [List.length_drop] at hfl
      refine r_not ?_
      refine r_if (fun hr => ?_) (fun hr => ?_)
      · have hr : (feed cont p (c.pt.items.drop (pos lt c.pt.items x))).2 = false := by simpa using hr
        have ea := feed_stop (b := B) hr
        have := H h' (by rw [ea]; exact hj')
        rw [ea] at this; exact this
      · have hr : (feed cont p (c.pt.items.drop (pos lt c.pt.items x))).2 = true := by simpa using hr
        refine main _ h' (by omega) hj' fun h2 hj2 => ?_
        have ea := feed_step (b := B) hr
        have := H h2 (by rw [ea]; exact hj2)
        rw [ea] at this; exact this
    · obtain ⟨y, hy⟩ : ∃ y, lget lt its x = some y := by
        cases e : lget lt its x with
        | some y => exact ⟨y, rfl⟩
        | none => rw [e] at hfd; simp at hfd
      obtain ⟨hpp, hyy, h3, h4⟩ := lget_some hy
      obtain ⟨rest, hrest⟩ : ∃ rest, B = y :: rest := by
        have e1 : its.drop (pos lt its x) = y :: its.drop (pos lt its x + 1) := by rw [← hyy]; exact List.drop_eq_getElem_cons hpp
        have e2 : (ts.map GT.pt).drop (pos lt its x + 1) = (ts.map GT.pt)[pos lt its x + 1]'(by simp; omega) :: (ts.map GT.pt).drop (pos lt its x + 1 + 1) := List.drop_eq_getElem_cons (by simp; omega)
        rw [← hB, e1, e2, List.map_cons, rz_cons]; exact ⟨_, rfl⟩
      have hb2 : ∀ z ∈ lz (its.take (pos lt its x)) (((ts.map GT.pt).take (pos lt its x)).map PT.items) ++ c.pt.items, lt z x = true := fun z hz => by
        have ha2 := ha
        rw [eit, hrest, ← List.append_assoc] at ha2
        exact swo.tr1 ((asc_app ha2).2.2 z hz y (by simp)) h4
      have hpi : pos lt (PT.items (h := k + 1) (its, ts.map GT.pt)) x = (lz (its.take (pos lt its x)) (((ts.map GT.pt).take (pos lt its x)).map PT.items) ++ c.pt.items).length := by
        have p0 : pos lt (y :: rest) x = 0 := pos_zero (s := y :: rest) (fun z hz => by simp at hz; subst hz; exact h3)
        rw [eit, ← List.append_assoc, pos_app hb2, hrest, p0, Nat.add_zero]
      have hdi : (PT.items (h := k + 1) (its, ts.map GT.pt)).drop (pos lt (PT.items (h := k + 1) (its, ts.map GT.pt)) x) = B := by
        rw [hpi]
        conv => lhs; rw [eit, ← List.append_assoc]
        exact List.drop_left ..
      rw [hdi] at H
      exact main p h (by omega) hj H
end Go.Proofs.Ytdpkpcmoabfofaa.Si
end
section
namespace Go.Proofs.Ytdpkpcmoabfofaa.Si
open Go.Hp Go.Proofs.Ytdpkpcmoabfofaa
set_option linter.unusedVariables false
set_option linter.unusedSimpArgs false
variable {h0 h : Heap} {Z E : List Rg} {Q : Value → Heap → Prop}

theorem nodeReverse_ok {cont : List It → Bool} {f tr : Value} {J : List It → Heap → Prop} {iso : Int} {m N : Nat} (hm : m ≤ 1024) (hJ : ∀ p h, J p h → ∃ E, St h0 Z E h)
    (cb : ∀ (p : List It) (x : It) (h : Heap) (K : Value → Heap → Prop), p.length < N → J p h → (∀ h', J (p ++ [x]) h' → K (.bool (cont (p ++ [x]))) h') → callV Try.prog f #[kv x.1, vv x.2] h K) :
    ∀ {k : Nat} (t : GT It k) {lo : Nat} (g : Gd iso t) (fl : t.pt.Fl m lo) (hz : ∀ r ∈ t.all enc, r ∈ Z) (hzb : ∀ r ∈ t.all enc, r.2.2 ≠ [] → h0.size ≤ r.1) {pb po : Nat} (hp : ∀ E h, St h0 Z E h → cl h pb po = some (ptr t.id 0)) {p : List It} {h : Heap} {Q : Value → Heap → Prop}, p.length + t.pt.items.length ≤ N → J p h →
      (∀ h', J (feed cont p t.pt.items.reverse).1 h' → Q (.bool (feed cont p t.pt.items.reverse).2) h') → Map_si_nodeReverse.call #[tr, ptr pb po, f, .bool false] h Q
  | 0, (d : Nd It), lo, g, fl, hz, hzb, pb, po, hp, p, h, Q, hN, hj, H => by
    obtain ⟨own, n, is', cnt, its, iv, ib, io, isp, kb, kv', krb, kro, ksp⟩ := d
    obtain ⟨z1, z2⟩ := allZ_leaf hz
    have w : Own 2 iv its.length ib io (its.flatMap enc) isp := g.wf.1
    have hl : its.length ≤ m := fl.2
    have hp : ∀ E h, St h0 Z E h → cl h pb po = some (ptr n 0) := hp
    have hN : p.length + its.length ≤ N := hN
    have H : ∀ h', J (feed cont p its.reverse).1 h' → Q (.bool (feed cont p its.reverse).2) h' := H
    refine Map_si_nodeReverse.body _ _ _ _ _ _ ?_
    unfold Map_si_nodeReverse.sh
    obtain ⟨E, s⟩ := hJ p h hj
    refine isoLoad_ro (hp E h s) ?_
    refine leaf_ok (a := none) (s.clz z1 3 rfl rfl) ?_
    refine r_if (fun _ => ?_) (fun e => absurd e (by simp))
    refine r_nil ?_
    refine r_fld ?_
    refine s.r_lz0 z1 (j := 2) rfl ?_
    refine w.lenV ?_
    refine r_sub (z := (its.length : Int) - 1 - (0 : Nat)) (by rw [i64w (by omega) (by omega)]; omega) ?_
    refine loop_up (n := its.length) (fun j => [.int .i64 ((its.length : Int) - 1 - (j : Nat))]) (fun j h => (feed cont p (its.drop (its.length - j)).reverse).2 = true ∧ J (feed cont p (its.drop (its.length - j)).reverse).1 h) ⟨by rw [Nat.sub_zero, List.drop_length]; rfl, by rw [Nat.sub_zero, List.drop_length]; exact hj⟩ ?_
    rintro j h hjl ⟨hf, hj⟩ K HK
    obtain ⟨E, s⟩ := hJ _ h hj
    unfold Map_si_nodeReverse.l9.b
    refine r_cmpI ?_
    refine r_if (fun hlt => ?_) (fun hge => ?_)
    · have hlt : j < its.length := by have : (0 : Int) ≤ (its.length : Int) - 1 - (j : Nat) := by simpa using hlt
                                      omega
      obtain ⟨i, hi⟩ : ∃ i, i + 1 = its.length - j := ⟨its.length - j - 1, by omega⟩
      have hi2 : its.length - (j + 1) = i := by omega
      have hlt : i < its.length := by omega
      have ei : (its.length : Int) - 1 - (j : Nat) = ((i : Nat) : Int) := by omega
      have hx : its[i]? = some its[i] := List.getElem?_eq_getElem hlt
      rw [← hi] at hf hj
      have et : (its.drop i).reverse = (its.drop (i + 1)).reverse ++ [its[i]] := by rw [List.drop_eq_getElem_cons hlt, List.reverse_cons]
      rw [ei]
      unfold Map_si_nodeReverse.j10
      refine r_nil ?_
      refine r_fld ?_
      refine s.r_lz0 z1 (j := 2) rfl ?_
      refine w.idx (n := i) rfl hlt ?_
      refine r_fld ?_
      refine s.r_load1FZ encl (r := 1) z2 hx rfl ?_
      refine r_nil ?_
      refine r_fld ?_
      refine s.r_lz0 z1 (j := 2) rfl ?_
      refine w.idx (n := i) rfl hlt ?_
      refine r_fld ?_
      refine s.r_load1FZ encl (r := 0) z2 hx rfl ?_
      have hfl := feed_len (cont := cont) (its.drop (i + 1)).reverse p
      rw [List.length_reverse, List.length_drop] at hfl
      refine cb _ its[i] h _ (by omega) hj fun h' hj' => ?_
      refine r_not ?_
      have ef : feed cont p (its.drop i).reverse = ((feed cont p (its.drop (i + 1)).reverse).1 ++ [its[i]], cont ((feed cont p (its.drop (i + 1)).reverse).1 ++ [its[i]])) := by rw [et, feed_step hf, feed_one]
      refine r_if (fun hc => ?_) (fun hc => ?_)
      · have hc : cont ((feed cont p (its.drop (i + 1)).reverse).1 ++ [its[i]]) = false := by simpa using hc
        have ea : feed cont p its.reverse = ((feed cont p (its.drop (i + 1)).reverse).1 ++ [its[i]], false) := by
          have e0 := feed_stop (cont := cont) (p := p) (a := (its.drop i).reverse) (b := (its.take i).reverse) (by rw [ef]; exact hc)
          rw [← List.reverse_append, List.take_append_drop, ef] at e0
          exact e0
        have := H h' (by rw [ea]; exact hj')
        rw [ea] at this; exact this
      · have hc : cont ((feed cont p (its.drop (i + 1)).reverse).1 ++ [its[i]]) = true := by simpa using hc
        unfold Map_si_nodeReverse.j11
        refine r_sub (z := (its.length : Int) - 1 - (j + 1 : Nat)) (by rw [i64w (by omega) (by omega)]; omega) ?_
        exact HK h' (by omega) ⟨by rw [hi2, ef]; exact hc, by rw [hi2, ef]; exact hj'⟩
    · have hge : j = its.length := by have : ¬ (0 : Int) ≤ (its.length : Int) - 1 - (j : Nat) := by simpa using hge
                                      omega
      subst hge
      rw [Nat.sub_self, List.drop_zero] at hf hj
      unfold Map_si_nodeReverse.j8
      have := H h hj
      rw [hf] at this; exact this
  | k + 1, t, lo, g, fl, hz, hzb, pb, po, hp, p, h, Q, hN, hj, H => by
    obtain ⟨d, ts⟩ := t
    obtain ⟨own, n, is', cnt, its, iv, ib, io, isp, kb, kv', krb, kro, ksp⟩ := d
    obtain ⟨z1, z2, z3, z4, z5⟩ := allZ_inner hz
    have w : Own 2 iv its.length ib io (its.flatMap enc) isp := g.wf.1.1
    have wK : Own 1 kv' ts.length krb kro ((ts.map GT.id).map fun m => ptr m 0) ksp := g.wf.2.1
    have hkl : ts.length = its.length + 1 := g.wf.2.2.1
    have hl : its.length ≤ m := fl.2.1
    have hp : ∀ E h, St h0 Z E h → cl h pb po = some (ptr n 0) := hp
    have hpl : ∀ i, ((ts.take i).map fun t => t.pt.items) = (((ts.map GT.pt).take i).map PT.items) := fun i => by rw [← List.map_take, List.map_map]; rfl
    obtain ⟨D, hD⟩ : ∃ D : Nat → List It, ∀ i c, ts[i]? = some c → D i = c.pt.items ++ rz (its.drop i) (((ts.map GT.pt).drop (i + 1)).map PT.items) := ⟨fun i => match ts[i]? with | some c => c.pt.items ++ rz (its.drop i) (((ts.map GT.pt).drop (i + 1)).map PT.items) | none => [], fun i c hc => by simp only [hc]⟩
    have hsplit : ∀ i (hi : i ≤ its.length) c, ts[i]? = some c → PT.items (h := k + 1) (its, ts.map GT.pt) = lz (its.take i) ((ts.take i).map fun t => t.pt.items) ++ D i := by
      intro i hi c hc
      obtain ⟨c', hc', _, e⟩ := PT.around (t := ((its, ts.map GT.pt) : PT It (k + 1))) fl hi
      have hc' : (ts.map GT.pt)[i]? = some c' := hc'
      rw [List.getElem?_map, hc] at hc'
      have : c' = c.pt := (Option.some.inj hc').symm
      subst this
      rw [hpl, hD i c hc]; exact e
    have hstep : ∀ i (hi : i < its.length) c, ts[i]? = some c → D i = c.pt.items ++ its[i] :: D (i + 1) := by
      intro i hi c hc
      obtain ⟨c2, hc2⟩ : ∃ c2, ts[i + 1]? = some c2 := ⟨ts[i + 1]'(by omega), List.getElem?_eq_getElem (by omega)⟩
      have e1 : its.drop i = its[i] :: its.drop (i + 1) := List.drop_eq_getElem_cons hi
      have e2 : (ts.map GT.pt).drop (i + 1) = c2.pt :: (ts.map GT.pt).drop (i + 1 + 1) := by
        have e3 : (ts.map GT.pt)[i + 1]'(by rw [List.length_map]; omega) = c2.pt := by
          have : (ts.map GT.pt)[i + 1]? = some c2.pt := by rw [List.getElem?_map, hc2]; rfl
          exact (List.getElem?_eq_some_iff.1 this).2
        rw [← e3]; exact List.drop_eq_getElem_cons (by rw [List.length_map]; omega)
      rw [hD i c hc, hD (i + 1) c2 hc2, e1, e2, List.map_cons, rz_cons]
    have hN : p.length + (PT.items (h := k + 1) (its, ts.map GT.pt)).length ≤ N := hN
    have H : ∀ h', J (feed cont p (PT.items (h := k + 1) (its, ts.map GT.pt)).reverse).1 h' → Q (.bool (feed cont p (PT.items (h := k + 1) (its, ts.map GT.pt)).reverse).2) h' := H
    refine Map_si_nodeReverse.body _ _ _ _ _ _ ?_
    unfold Map_si_nodeReverse.sh
    obtain ⟨E, s⟩ := hJ p h hj
    refine isoLoad_ro (hp E h s) ?_
    refine leaf_ok (a := some ⟨kb, 0, Option.none⟩) (s.clz z1 3 rfl rfl) ?_
    refine r_if (fun e => absurd e (by simp)) (fun _ => ?_)
    unfold Map_si_nodeReverse.j1
    obtain ⟨c, hc⟩ : ∃ c, ts[its.length]? = some c := ⟨ts[its.length]'(by omega), List.getElem?_eq_getElem (by omega)⟩
    have hcm := List.mem_of_getElem? hc
    have hfc : PT.Fl m (m / 2) c.pt := fl.2.2.2 _ (List.mem_map.2 ⟨c, hcm, rfl⟩)
    have hr0 : rz (its.drop its.length) (((ts.map GT.pt).drop (its.length + 1)).map PT.items) = [] := by rw [List.drop_length]; rfl
    have hDn : D its.length = c.pt.items := by rw [hD _ c hc, hr0, List.append_nil]
    have hs := hsplit its.length (Nat.le_refl _) c hc
    have hsl := congrArg List.length hs
    rw [hDn] at hsl
    simp only [List.length_append] at hsl
    refine r_nil ?_
    refine r_fld ?_
    refine s.r_lz0 z1 (j := 3) rfl ?_
    refine r_nil ?_
    refine s.r_lz0 z3 (j := 0) rfl ?_
    refine r_nil ?_
    refine r_fld ?_
    refine s.r_lz0 z1 (j := 3) rfl ?_
    refine r_nil ?_
    refine s.r_lz0 z3 (j := 0) rfl ?_
    refine wK.lenV ?_
    refine r_sub (z := ((its.length : Nat) : Int)) (by rw [i64w (by omega) (by omega)]; omega) ?_
    refine wK.idx (n := its.length) rfl (by omega) ?_
    refine nodeReverse_ok hm hJ cb c (g.kid hcm) hfc (z5 c hcm) (fun r hr => hzb r (List.mem_append.2 (.inr (List.mem_flatMap.2 ⟨c, hcm, hr⟩)))) (fun E h s => kidcell z4 hc s) (by omega) hj fun h' hj' => ?_
    refine r_not ?_
    rw [← hDn] at hj' ⊢
    refine r_if (fun hr => ?_) (fun hr => ?_)
    · have hr : (feed cont p (D its.length).reverse).2 = false := by simpa using hr
      have ea : feed cont p (PT.items (h := k + 1) (its, ts.map GT.pt)).reverse = ((feed cont p (D its.length).reverse).1, false) := by
        rw [hs, List.reverse_append, feed_stop hr]
      have := H h' (by rw [ea]; exact hj')
      rw [ea] at this; exact this
    have hr : (feed cont p (D its.length).reverse).2 = true := by simpa using hr
    clear hj s hs hsl hc hcm hfc hDn
    obtain ⟨E, s⟩ := hJ _ h' hj'
    unfold Map_si_nodeReverse.j2
    refine r_nil ?_
    refine r_fld ?_
    refine s.r_lz0 z1 (j := 2) rfl ?_
    refine w.lenV ?_
    refine r_sub (z := (its.length : Int) - 1 - (0 : Nat)) (by rw [i64w (by omega) (by omega)]; omega) ?_
    refine loop_up (n := its.length) (fun j => [.int .i64 ((its.length : Int) - 1 - (j : Nat))]) (fun j h => (feed cont p (D (its.length - j)).reverse).2 = true ∧ J (feed cont p (D (its.length - j)).reverse).1 h) ⟨hr, hj'⟩ ?_
    clear hr hj' s
    rintro j h hjl ⟨hf, hj⟩ K HK
    obtain ⟨E, s⟩ := hJ _ h hj
    unfold Map_si_nodeReverse.l4.b
    refine r_cmpI ?_
    refine r_if (fun hlt => ?_) (fun hge => ?_)
    · have hlt : j < its.length := by have : (0 : Int) ≤ (its.length : Int) - 1 - (j : Nat) := by simpa using hlt
                                      omega
      obtain ⟨i, hi⟩ : ∃ i, i + 1 = its.length - j := ⟨its.length - j - 1, by omega⟩
      have hi2 : its.length - (j + 1) = i := by omega
      have hlt : i < its.length := by omega
      have ei : (its.length : Int) - 1 - (j : Nat) = ((i : Nat) : Int) := by omega
      have hx : its[i]? = some its[i] := List.getElem?_eq_getElem hlt
      rw [← hi] at hf hj
      obtain ⟨c, hc⟩ : ∃ c, ts[i]? = some c := ⟨ts[i]'(by omega), List.getElem?_eq_getElem (by omega)⟩
      have hcm := List.mem_of_getElem? hc
      have hfc : PT.Fl m (m / 2) c.pt := fl.2.2.2 _ (List.mem_map.2 ⟨c, hcm, rfl⟩)
      have hd := hstep i hlt c hc
      have hs := hsplit i (by omega) c hc
      have hsl := congrArg List.length hs
      rw [hd] at hsl
      simp only [List.length_append, List.length_cons] at hsl
      have et : (D i).reverse = ((D (i + 1)).reverse ++ [its[i]]) ++ c.pt.items.reverse := by rw [hd]; simp
      have ers : (PT.items (h := k + 1) (its, ts.map GT.pt)).reverse = ((D (i + 1)).reverse ++ [its[i]]) ++ (c.pt.items.reverse ++ (lz (its.take i) ((ts.take i).map fun t => t.pt.items)).reverse) := by rw [hs, List.reverse_append, et]; simp
      have hfl := feed_len (cont := cont) (D (i + 1)).reverse p
      rw [List.length_reverse] at hfl
      have ef1 : feed cont p ((D (i + 1)).reverse ++ [its[i]]) = ((feed cont p (D (i + 1)).reverse).1 ++ [its[i]], cont ((feed cont p (D (i + 1)).reverse).1 ++ [its[i]])) := by rw [feed_step hf, feed_one]
      rw [ei]
      unfold Map_si_nodeReverse.j5
      refine r_nil ?_
      refine r_fld ?_
      refine s.r_lz0 z1 (j := 2) rfl ?_
      refine w.idx (n := i) rfl hlt ?_
      refine r_fld ?_
      refine s.r_load1FZ encl (r := 1) z2 hx rfl ?_
      refine r_nil ?_
      refine r_fld ?_
      refine s.r_lz0 z1 (j := 2) rfl ?_
      refine w.idx (n := i) rfl hlt ?_
      refine r_fld ?_
      refine s.r_load1FZ encl (r := 0) z2 hx rfl ?_
      refine cb _ its[i] h _ (by omega) hj fun h' hj' => ?_
      refine r_not ?_
      refine r_if (fun hb => ?_) (fun hb => ?_)
      · have hb : cont ((feed cont p (D (i + 1)).reverse).1 ++ [its[i]]) = false := by simpa using hb
        have ea : feed cont p (PT.items (h := k + 1) (its, ts.map GT.pt)).reverse = ((feed cont p (D (i + 1)).reverse).1 ++ [its[i]], false) := by
          rw [ers, feed_stop (by rw [ef1]; exact hb), ef1]
        have := H h' (by rw [ea]; exact hj')
        rw [ea] at this; exact this
      · have hb : cont ((feed cont p (D (i + 1)).reverse).1 ++ [its[i]]) = true := by simpa using hb
        rw [hb] at ef1
        have hf1 : (feed cont p ((D (i + 1)).reverse ++ [its[i]])).2 = true := by rw [ef1]
        have hj1 : J (feed cont p ((D (i + 1)).reverse ++ [its[i]])).1 h' := by rw [ef1]; exact hj'
        have hfl2 := feed_len (cont := cont) ((D (i + 1)).reverse ++ [its[i]]) p
        rw [List.length_append, List.length_reverse, List.length_singleton] at hfl2
        obtain ⟨E, s⟩ := hJ _ h' hj'
        unfold Map_si_nodeReverse.j7
        refine r_nil ?_
        refine r_fld ?_
        refine s.r_lz0 z1 (j := 3) rfl ?_
        refine r_nil ?_
        refine s.r_lz0 z3 (j := 0) rfl ?_
        refine wK.idx (n := i) rfl (by omega) ?_
        refine nodeReverse_ok hm hJ cb c (g.kid hcm) hfc (z5 c hcm) (fun r hr => hzb r (List.mem_append.2 (.inr (List.mem_flatMap.2 ⟨c, hcm, hr⟩)))) (fun E h s => kidcell z4 hc s) (by omega) hj1 fun h2 hj2 => ?_
        have ef2 : feed cont p (D i).reverse = feed cont (feed cont p ((D (i + 1)).reverse ++ [its[i]])).1 c.pt.items.reverse := by rw [et, feed_step hf1]
        rw [← ef2] at hj2 ⊢
        refine r_not ?_
        refine r_if (fun hr => ?_) (fun hr => ?_)
        · have hr : (feed cont p (D i).reverse).2 = false := by simpa using hr
          have ea : feed cont p (PT.items (h := k + 1) (its, ts.map GT.pt)).reverse = ((feed cont p (D i).reverse).1, false) := by
            rw [hs, List.reverse_append, feed_stop hr]
          have := H h2 (by rw [ea]; exact hj2)
          rw [ea] at this; exact this
        · have hr : (feed cont p (D i).reverse).2 = true := by simpa using hr
          unfold Map_si_nodeReverse.j6
          refine r_sub (z := (its.length : Int) - 1 - (j + 1 : Nat)) (by rw [i64w (by omega) (by omega)]; omega) ?_
          exact HK h2 (by omega) ⟨by rw [hi2]; exact hr, by rw [hi2]; exact hj2⟩
    · have hge : j = its.length := by have : ¬ (0 : Int) ≤ (its.length : Int) - 1 - (j : Nat) := by simpa using hge
                                      omega
      subst hge
      obtain ⟨c, hc⟩ : ∃ c, ts[0]? = some c := ⟨ts[0]'(by omega), List.getElem?_eq_getElem (by omega)⟩
      have hs := hsplit 0 (Nat.zero_le _) c hc
      have hs : PT.items (h := k + 1) (its, ts.map GT.pt) = D 0 := by rw [hs]; rfl
      rw [Nat.sub_self, ← hs] at hf hj
      unfold Map_si_nodeReverse.j3
      have := H h hj
      rw [hf] at this; exact this
end Go.Proofs.Ytdpkpcmoabfofaa.Si
end
section
namespace Go.Proofs.Ytdpkpcmoabfofaa.Si
open Go.Hp Go.Proofs.Ytdpkpcmoabfofaa
set_option linter.unusedVariables false
set_option linter.unusedSimpArgs false
variable {h0 h : Heap} {Z E : List Rg} {Q : Value → Heap → Prop}

theorem flt {x : It} {A B : List It} (hA : ∀ a ∈ A, lt x a = false) (hB : ∀ b ∈ B, lt x b = true) : (A ++ B).filter (fun y => !lt x y) = A := by
  rw [List.filter_append, List.filter_eq_self.2 (fun a ha => by rw [hA a ha]; rfl), List.filter_eq_nil_iff.2 (fun b hb => by rw [hB b hb]; simp), List.append_nil]
theorem allGt {x : It} {l : List It} (ha : Asc lt l) (hh : ∀ y, l.head? = some y → lt x y = true) : ∀ y ∈ l, lt x y = true := by
  cases l with
  | nil => intro y hy; cases hy
  | cons z l =>
    intro y hy
    have hz := hh z rfl
    rcases List.mem_cons.1 hy with e | hy
    · rw [e]; exact hz
    · exact swo.tr1 hz (swo.asym ((List.pairwise_cons.1 ha).1 y hy))

theorem nodeDescend_ok {cont : List It → Bool} {f tr : Value} {J : List It → Heap → Prop} {iso : Int} {m N : Nat} {x : It} (hm : m ≤ 1024) (hJ : ∀ p h, J p h → ∃ E, St h0 Z E h)
    (cb : ∀ (p : List It) (x : It) (h : Heap) (K : Value → Heap → Prop), p.length < N → J p h → (∀ h', J (p ++ [x]) h' → K (.bool (cont (p ++ [x]))) h') → callV Try.prog f #[kv x.1, vv x.2] h K) :
    ∀ {k : Nat} (t : GT It k) {lo : Nat} (g : Gd iso t) (fl : t.pt.Fl m lo) (ha : Asc lt t.pt.items) (hz : ∀ r ∈ t.all enc, r ∈ Z) (hzb : ∀ r ∈ t.all enc, r.2.2 ≠ [] → h0.size ≤ r.1) {pb po : Nat} (hp : ∀ E h, St h0 Z E h → cl h pb po = some (ptr t.id 0)) {p : List It} {h : Heap} {Q : Value → Heap → Prop}, p.length + t.pt.items.length ≤ N → J p h →
      (∀ h', J (feed cont p (t.pt.items.filter fun y => !lt x y).reverse).1 h' → Q (.bool (feed cont p (t.pt.items.filter fun y => !lt x y).reverse).2) h') → Map_si_nodeDescend.call #[tr, ptr pb po, kv x.1, f, .bool false] h Q
  | 0, (d : Nd It), lo, g, fl, ha, hz, hzb, pb, po, hp, p, h, Q, hN, hj, H => by
    obtain ⟨own, n, is', cnt, its, iv, ib, io, isp, kb, kv', krb, kro, ksp⟩ := d
    obtain ⟨z1, z2⟩ := allZ_leaf hz
    have w : Own 2 iv its.length ib io (its.flatMap enc) isp := g.wf.1
    have hl : its.length ≤ m := fl.2
    have ha : Asc lt its := ha
    have hN : p.length + its.length ≤ N := hN
    have hp : ∀ E h, St h0 Z E h → cl h pb po = some (ptr n 0) := hp
    have H : ∀ h', J (feed cont p (its.filter fun y => !lt x y).reverse).1 h' → Q (.bool (feed cont p (its.filter fun y => !lt x y).reverse).2) h' := H
    have hpl := pos_le (lt := lt) its x
    refine Map_si_nodeDescend.body _ _ _ _ _ _ _ ?_
    unfold Map_si_nodeDescend.sh
    obtain ⟨E, s⟩ := hJ p h hj
    refine isoLoad_ro (hp E h s) ?_
    refine search_ok (x := x) ha (by omega) (s.clz z1 2 rfl rfl) (w.rdlZ s z2) ?_
    refine r_ext rfl ?_
    refine r_ext rfl ?_
    refine r_not ?_
    have main : ∀ (M : Nat) (q : List It) (h : Heap), M ≤ its.length → q.length + (its.take M).length ≤ N → J q h → (∀ h', J (feed cont q (its.take M).reverse).1 h' → Q (.bool (feed cont q (its.take M).reverse).2) h') → Map_si_nodeDescend.j1 tr f (.bool false) (ptr n 0) (.int .i64 ((M : Int) - 1)) h Q := by
      intro M q h hM hqN hj H
      unfold Map_si_nodeDescend.j1
      rw [show (M : Int) - 1 = (M : Int) - 1 - (0 : Nat) by omega]
      refine loop_up (n := M) (fun j => [.int .i64 ((M : Int) - 1 - (j : Nat))]) (fun j h => ∃ d, d ++ (its.take (M - j)).reverse = (its.take M).reverse ∧ (feed cont q d).2 = true ∧ J (feed cont q d).1 h) ⟨[], rfl, rfl, hj⟩ ?_
      rintro j h hjl ⟨d, hd, hf, hj⟩ K HK
      obtain ⟨E, s⟩ := hJ _ h hj
      unfold Map_si_nodeDescend.l3.b
      refine r_cmpI ?_
      refine r_if (fun hlt => ?_) (fun hge => ?_)
      · have hlt : j < M := by have : (0 : Int) ≤ (M : Int) - 1 - (j : Nat) := by simpa using hlt
                               omega
        obtain ⟨i, hi⟩ : ∃ i, i + 1 = M - j := ⟨M - j - 1, by omega⟩
        have hi2 : M - (j + 1) = i := by omega
        have hlt : i < its.length := by omega
        have ei : (M : Int) - 1 - (j : Nat) = ((i : Nat) : Int) := by omega
        have hx : its[i]? = some its[i] := List.getElem?_eq_getElem hlt
        rw [← hi] at hd
        have et : (its.take (i + 1)).reverse = its[i] :: (its.take i).reverse := by rw [List.take_succ_eq_append_getElem hlt]; simp
        rw [et] at hd
        have hdl := congrArg List.length hd
        simp only [List.length_append, List.length_reverse, List.length_cons] at hdl
        have hfl := feed_len (cont := cont) d q
        have hfl2 := feed_len (cont := cont) (d ++ [its[i]]) q
        rw [List.length_append, List.length_singleton] at hfl2
        have ef1 : feed cont q (d ++ [its[i]]) = ((feed cont q d).1 ++ [its[i]], cont ((feed cont q d).1 ++ [its[i]])) := by rw [feed_step hf, feed_one]
        rw [ei]
        unfold Map_si_nodeDescend.j4
        refine r_nil ?_
        refine r_fld ?_
        refine s.r_lz0 z1 (j := 2) rfl ?_
        refine w.idx (n := i) rfl hlt ?_
        refine r_fld ?_
        refine s.r_load1FZ encl (r := 1) z2 hx rfl ?_
        refine r_nil ?_
        refine r_fld ?_
        refine s.r_lz0 z1 (j := 2) rfl ?_
        refine w.idx (n := i) rfl hlt ?_
        refine r_fld ?_
        refine s.r_load1FZ encl (r := 0) z2 hx rfl ?_
        refine cb _ its[i] h _ (by omega) hj fun h' hj' => ?_
        refine r_not ?_
        refine r_if (fun hb => ?_) (fun hb => ?_)
        · have hb : cont ((feed cont q d).1 ++ [its[i]]) = false := by simpa using hb
          have ea : feed cont q (its.take M).reverse = ((feed cont q d).1 ++ [its[i]], false) := by
            rw [← hd, show ∀ r : List It, d ++ its[i] :: r = (d ++ [its[i]]) ++ r from fun r => by simp, feed_stop (by rw [ef1]; exact hb), ef1]
          have := H h' (by rw [ea]; exact hj')
          rw [ea] at this; exact this
        · have hb : cont ((feed cont q d).1 ++ [its[i]]) = true := by simpa using hb
          rw [hb] at ef1
          have hf1 : (feed cont q (d ++ [its[i]])).2 = true := by rw [ef1]
          have hj1 : J (feed cont q (d ++ [its[i]])).1 h' := by rw [ef1]; exact hj'
          obtain ⟨E, s⟩ := hJ _ h' hj'
          unfold Map_si_nodeDescend.j6
          refine leaf_ok (a := none) (s.clz z1 3 rfl rfl) ?_
          refine r_not ?_
          refine r_if (fun e => absurd e (by simp)) (fun _ => ?_)
          unfold Map_si_nodeDescend.j5
          refine r_sub (z := (M : Int) - 1 - (j + 1 : Nat)) (by rw [i64w (by omega) (by omega)]; omega) ?_
          exact HK h' (by omega) ⟨d ++ [its[i]], by rw [hi2, ← hd]; simp, hf1, hj1⟩
      · have hge : j = M := by have : ¬ (0 : Int) ≤ (M : Int) - 1 - (j : Nat) := by simpa using hge
                               omega
        subst hge
        have e0 : d = (its.take j).reverse := by rw [← hd, Nat.sub_self]; simp [lz]
        subst e0
        unfold Map_si_nodeDescend.j2
        have := H h hj
        rw [hf] at this; exact this
    refine r_if (fun hnf => ?_) (fun hfd => ?_)
    · have hn : lget lt its x = none := by cases e : lget lt its x with
        | none => rfl
        | some y => rw [e] at hnf; simp at hnf
      have hfe : (its.filter fun y => !lt x y) = its.take (pos lt its x) := by
        have e0 : its = its.take (pos lt its x) ++ its.drop (pos lt its x) := (List.take_append_drop _ _).symm
        conv => lhs; rw [e0]
        exact flt (fun a h => swo.asym ((asc_pos (x := x) swo ha).1 a h)) (allGt (ha.sublist (List.drop_sublist ..)) (lget_none_head hn))
      rw [hfe] at H
      refine leaf_ok (a := none) (s.clz z1 3 rfl rfl) ?_
      refine r_not ?_
      refine r_if (fun e => absurd e (by simp)) (fun _ => ?_)
      unfold Map_si_nodeDescend.j7
      refine r_sub (z := ((pos lt its x : Nat) : Int) - 1) (by rw [i64w (by omega) (by omega)]) ?_
      exact main _ p h hpl (by rw [List.length_take]; omega) hj H
    · obtain ⟨y, hy⟩ : ∃ y, lget lt its x = some y := by
        cases e : lget lt its x with
        | some y => exact ⟨y, rfl⟩
        | none => rw [e] at hfd; simp at hfd
      obtain ⟨hpp, hyy, h3, h4⟩ := lget_some hy
      have hfe : (its.filter fun y => !lt x y) = its.take (pos lt its x + 1) := by
        have e0 : its = its.take (pos lt its x + 1) ++ its.drop (pos lt its x + 1) := (List.take_append_drop _ _).symm
        have ha2 := ha
        rw [e0] at ha2
        have et : its.take (pos lt its x + 1) = its.take (pos lt its x) ++ [y] := by rw [List.take_succ_eq_append_getElem hpp, hyy]
        conv => lhs; rw [e0]
        refine flt (fun a h => ?_) (fun b h => ?_)
        · rw [et] at h
          rcases List.mem_append.1 h with h | h
          · exact swo.asym ((asc_pos (x := x) swo ha).1 a h)
          · rw [List.mem_singleton.1 h]; exact h4
        · exact swo.tr2 h3 ((asc_app ha2).2.2 y (by rw [et]; simp) b h)
      rw [hfe] at H
      have := main (pos lt its x + 1) p h (by omega) (by rw [List.length_take]; omega) hj H
      rw [show ((pos lt its x + 1 : Nat) : Int) - 1 = ((pos lt its x : Nat) : Int) by omega] at this
      exact this
  | k + 1, t, lo, g, fl, ha, hz, hzb, pb, po, hp, p, h, Q, hN, hj, H => by
    obtain ⟨d, ts⟩ := t
    obtain ⟨own, n, is', cnt, its, iv, ib, io, isp, kb, kv', krb, kro, ksp⟩ := d
    obtain ⟨z1, z2, z3, z4, z5⟩ := allZ_inner hz
    have w : Own 2 iv its.length ib io (its.flatMap enc) isp := g.wf.1.1
    have wK : Own 1 kv' ts.length krb kro ((ts.map GT.id).map fun m => ptr m 0) ksp := g.wf.2.1
    have hkl : ts.length = its.length + 1 := g.wf.2.2.1
    have hl : its.length ≤ m := fl.2.1
    have hp : ∀ E h, St h0 Z E h → cl h pb po = some (ptr n 0) := hp
    have ha : Asc lt (PT.items (h := k + 1) (its, ts.map GT.pt)) := ha
    have hN : p.length + (PT.items (h := k + 1) (its, ts.map GT.pt)).length ≤ N := hN
    have H : ∀ h', J (feed cont p ((PT.items (h := k + 1) (its, ts.map GT.pt)).filter fun y => !lt x y).reverse).1 h' → Q (.bool (feed cont p ((PT.items (h := k + 1) (its, ts.map GT.pt)).filter fun y => !lt x y).reverse).2) h' := H
    have hpl := pos_le (lt := lt) its x
    have ha1 : Asc lt its := asc_of_sub ha (PT.its_sub1 ((its, ts.map GT.pt) : PT It (k + 1)))
    obtain ⟨c, hc⟩ : ∃ c, ts[pos lt its x]? = some c := ⟨ts[pos lt its x]'(by omega), List.getElem?_eq_getElem (by omega)⟩
    have hcm := List.mem_of_getElem? hc
    have hfc : PT.Fl m (m / 2) c.pt := fl.2.2.2 _ (List.mem_map.2 ⟨c, hcm, rfl⟩)
    have hcp : (ts.map GT.pt)[pos lt its x]? = some c.pt := by rw [List.getElem?_map, hc]; rfl
    obtain ⟨c0, hc0, _, eit⟩ := PT.around (t := ((its, ts.map GT.pt) : PT It (k + 1))) fl hpl
    have : c0 = c.pt := Option.some.inj (hc0.symm.trans hcp)
    subst this
    have eit : PT.items (h := k + 1) (its, ts.map GT.pt) = lz (its.take (pos lt its x)) (((ts.map GT.pt).take (pos lt its x)).map PT.items) ++ (c.pt.items ++ rz (its.drop (pos lt its x)) (((ts.map GT.pt).drop (pos lt its x + 1)).map PT.items)) := eit
    have hb : ∀ y ∈ lz (its.take (pos lt its x)) (((ts.map GT.pt).take (pos lt its x)).map PT.items), lt y x = true := by
      have ha2 := ha
      rw [eit] at ha2
      exact lz_before swo (by simp; omega) ha2 (fun y hy => (asc_pos (x := x) swo ha1).1 y hy)
    have hac : Asc lt c.pt.items := by rw [eit] at ha; exact (asc_app (asc_app ha).2.1).1
    generalize hB : rz (its.drop (pos lt its x)) (((ts.map GT.pt).drop (pos lt its x + 1)).map PT.items) = B at eit
    have hsl := congrArg List.length eit
    simp only [List.length_append] at hsl
    refine Map_si_nodeDescend.body _ _ _ _ _ _ _ ?_
    unfold Map_si_nodeDescend.sh
    obtain ⟨E, s⟩ := hJ p h hj
    refine isoLoad_ro (hp E h s) ?_
    refine search_ok (x := x) ha1 (by omega) (s.clz z1 2 rfl rfl) (w.rdlZ s z2) ?_
    refine r_ext rfl ?_
    refine r_ext rfl ?_
    refine r_not ?_
    have main : ∀ (M : Nat) (q : List It) (h : Heap), M ≤ its.length → q.length + (lz (its.take M) ((ts.take M).map fun t => t.pt.items)).length ≤ N → J q h → (∀ h', J (feed cont q (lz (its.take M) ((ts.take M).map fun t => t.pt.items)).reverse).1 h' → Q (.bool (feed cont q (lz (its.take M) ((ts.take M).map fun t => t.pt.items)).reverse).2) h') → Map_si_nodeDescend.j1 tr f (.bool false) (ptr n 0) (.int .i64 ((M : Int) - 1)) h Q := by
      intro M q h hM hqN hj H
      unfold Map_si_nodeDescend.j1
      rw [show (M : Int) - 1 = (M : Int) - 1 - (0 : Nat) by omega]
      refine loop_up (n := M) (fun j => [.int .i64 ((M : Int) - 1 - (j : Nat))]) (fun j h => ∃ d, d ++ (lz (its.take (M - j)) ((ts.take (M - j)).map fun t => t.pt.items)).reverse = (lz (its.take M) ((ts.take M).map fun t => t.pt.items)).reverse ∧ (feed cont q d).2 = true ∧ J (feed cont q d).1 h) ⟨[], rfl, rfl, hj⟩ ?_
      rintro j h hjl ⟨d, hd, hf, hj⟩ K HK
      obtain ⟨E, s⟩ := hJ _ h hj
      unfold Map_si_nodeDescend.l3.b
      refine r_cmpI ?_
      refine r_if (fun hlt => ?_) (fun hge => ?_)
      · have hlt : j < M := by have : (0 : Int) ≤ (M : Int) - 1 - (j : Nat) := by simpa using hlt
                               omega
        obtain ⟨i, hi⟩ : ∃ i, i + 1 = M - j := ⟨M - j - 1, by omega⟩
        have hi2 : M - (j + 1) = i := by omega
        have hlt : i < its.length := by omega
        have ei : (M : Int) - 1 - (j : Nat) = ((i : Nat) : Int) := by omega
        have hx : its[i]? = some its[i] := List.getElem?_eq_getElem hlt
        rw [← hi] at hd
        obtain ⟨c, hc⟩ : ∃ c, ts[i]? = some c := ⟨ts[i]'(by omega), List.getElem?_eq_getElem (by omega)⟩
        have hcm := List.mem_of_getElem? hc
        have hfc : PT.Fl m (m / 2) c.pt := fl.2.2.2 _ (List.mem_map.2 ⟨c, hcm, rfl⟩)
        have et : (lz (its.take (i + 1)) ((ts.take (i + 1)).map fun t => t.pt.items)).reverse = its[i] :: (c.pt.items.reverse ++ (lz (its.take i) ((ts.take i).map fun t => t.pt.items)).reverse) := by
          have e1 : its.take (i + 1) = its.take i ++ [its[i]] := List.take_succ_eq_append_getElem hlt
          have e2 : ts.take (i + 1) = ts.take i ++ [c] := by rw [List.take_add_one, hc]; rfl
          rw [e1, e2, List.map_append, List.map_cons, List.map_nil, lz_snoc _ _ _ _ (by simp; omega)]; simp
        rw [et] at hd
        have hdl := congrArg List.length hd
        simp only [List.length_append, List.length_reverse, List.length_cons] at hdl
        have hfl := feed_len (cont := cont) d q
        have hfl2 := feed_len (cont := cont) (d ++ [its[i]]) q
        rw [List.length_append, List.length_singleton] at hfl2
        have ef1 : feed cont q (d ++ [its[i]]) = ((feed cont q d).1 ++ [its[i]], cont ((feed cont q d).1 ++ [its[i]])) := by rw [feed_step hf, feed_one]
        rw [ei]
        unfold Map_si_nodeDescend.j4
        refine r_nil ?_
        refine r_fld ?_
        refine s.r_lz0 z1 (j := 2) rfl ?_
        refine w.idx (n := i) rfl hlt ?_
        refine r_fld ?_
        refine s.r_load1FZ encl (r := 1) z2 hx rfl ?_
        refine r_nil ?_
        refine r_fld ?_
        refine s.r_lz0 z1 (j := 2) rfl ?_
        refine w.idx (n := i) rfl hlt ?_
        refine r_fld ?_
        refine s.r_load1FZ encl (r := 0) z2 hx rfl ?_
        refine cb _ its[i] h _ (by omega) hj fun h' hj' => ?_
        refine r_not ?_
        refine r_if (fun hb => ?_) (fun hb => ?_)
        · have hb : cont ((feed cont q d).1 ++ [its[i]]) = false := by simpa using hb
          have ea : feed cont q (lz (its.take M) ((ts.take M).map fun t => t.pt.items)).reverse = ((feed cont q d).1 ++ [its[i]], false) := by
            rw [← hd, show ∀ r : List It, d ++ its[i] :: r = (d ++ [its[i]]) ++ r from fun r => by simp, feed_stop (by rw [ef1]; exact hb), ef1]
          have := H h' (by rw [ea]; exact hj')
          rw [ea] at this; exact this
        · have hb : cont ((feed cont q d).1 ++ [its[i]]) = true := by simpa using hb
          rw [hb] at ef1
          have hf1 : (feed cont q (d ++ [its[i]])).2 = true := by rw [ef1]
          have hj1 : J (feed cont q (d ++ [its[i]])).1 h' := by rw [ef1]; exact hj'
          obtain ⟨E, s⟩ := hJ _ h' hj'
          unfold Map_si_nodeDescend.j6
          refine leaf_ok (a := some ⟨kb, 0, Option.none⟩) (s.clz z1 3 rfl rfl) ?_
          refine r_not ?_
          refine r_if (fun _ => ?_) (fun e => absurd e (by simp))
          refine r_nil ?_
          refine r_fld ?_
          refine s.r_lz0 z1 (j := 3) rfl ?_
          refine r_nil ?_
          refine s.r_lz0 z3 (j := 0) rfl ?_
          refine wK.idx (n := i) rfl (by omega) ?_
          have hcl : c.pt.items.reverse.length = c.pt.items.length := List.length_reverse
          refine nodeReverse_ok hm hJ cb c (g.kid hcm) hfc (z5 c hcm) (fun r hr => hzb r (List.mem_append.2 (.inr (List.mem_flatMap.2 ⟨c, hcm, hr⟩)))) (fun E h s => kidcell z4 hc s) (by omega) hj1 fun h2 hj2 => ?_
          have ef2 : feed cont q ((d ++ [its[i]]) ++ c.pt.items.reverse) = feed cont (feed cont q (d ++ [its[i]])).1 c.pt.items.reverse := feed_step hf1
          rw [← ef2] at hj2 ⊢
          have hd2 : ((d ++ [its[i]]) ++ c.pt.items.reverse) ++ (lz (its.take i) ((ts.take i).map fun t => t.pt.items)).reverse = (lz (its.take M) ((ts.take M).map fun t => t.pt.items)).reverse := by rw [← hd]; simp
          refine r_not ?_
          refine r_if (fun hr => ?_) (fun hr => ?_)
          · have hr : (feed cont q ((d ++ [its[i]]) ++ c.pt.items.reverse)).2 = false := by simpa using hr
            have ea : feed cont q (lz (its.take M) ((ts.take M).map fun t => t.pt.items)).reverse = ((feed cont q ((d ++ [its[i]]) ++ c.pt.items.reverse)).1, false) := by
              rw [← hd2, feed_stop hr]
            have := H h2 (by rw [ea]; exact hj2)
            rw [ea] at this; exact this
          · have hr : (feed cont q ((d ++ [its[i]]) ++ c.pt.items.reverse)).2 = true := by simpa using hr
            unfold Map_si_nodeDescend.j5
            refine r_sub (z := (M : Int) - 1 - (j + 1 : Nat)) (by rw [i64w (by omega) (by omega)]; omega) ?_
            exact HK h2 (by omega) ⟨_, by rw [hi2]; exact hd2, hr, hj2⟩
      · have hge : j = M := by have : ¬ (0 : Int) ≤ (M : Int) - 1 - (j : Nat) := by simpa using hge
                               omega
        subst hge
        have e0 : d = (lz (its.take j) ((ts.take j).map fun t => t.pt.items)).reverse := by rw [← hd, Nat.sub_self]; simp [lz]
        subst e0
        unfold Map_si_nodeDescend.j2
        have := H h hj
        rw [hf] at this; exact this
    have hB2 : Asc lt B := by rw [eit] at ha; exact (asc_app (asc_app ha).2.1).2.1
    have hpl2 : lz (its.take (pos lt its x)) (((ts.map GT.pt).take (pos lt its x)).map PT.items) = (lz (its.take (pos lt its x)) ((ts.take (pos lt its x)).map fun t => t.pt.items)) := by rw [← List.map_take, List.map_map]; rfl
    rw [hpl2] at eit hb hsl
    refine r_if (fun hnf => ?_) (fun hfd => ?_)
    · have hn : lget lt its x = none := by cases e : lget lt its x with
        | none => rfl
        | some y => rw [e] at hnf; simp at hnf
      have hhd : ∀ y, B.head? = some y → lt x y = true := by
        rw [← hB, rz_head (by simp; omega)]; exact lget_none_head hn
      have hfe : ((PT.items (h := k + 1) (its, ts.map GT.pt)).filter fun y => !lt x y).reverse = (c.pt.items.filter fun y => !lt x y).reverse ++ (lz (its.take (pos lt its x)) ((ts.take (pos lt its x)).map fun t => t.pt.items)).reverse := by
        rw [eit, List.filter_append, List.filter_append, List.filter_eq_self.2 (fun a h => by rw [swo.asym (hb a h)]; rfl), show (B.filter fun y => !lt x y) = [] from List.filter_eq_nil_iff.2 (fun b h => by rw [allGt hB2 hhd b h]; simp), List.append_nil, List.reverse_append]
      rw [hfe] at H
      refine leaf_ok (a := some ⟨kb, 0, Option.none⟩) (s.clz z1 3 rfl rfl) ?_
      refine r_not ?_
      refine r_if (fun _ => ?_) (fun e => absurd e (by simp))
      refine r_nil ?_
      refine r_fld ?_
      refine s.r_lz0 z1 (j := 3) rfl ?_
      refine r_nil ?_
      refine s.r_lz0 z3 (j := 0) rfl ?_
      refine wK.idx (n := pos lt its x) rfl (by omega) ?_
      refine nodeDescend_ok hm hJ cb c (g.kid hcm) hfc hac (z5 c hcm) (fun r hr => hzb r (List.mem_append.2 (.inr (List.mem_flatMap.2 ⟨c, hcm, hr⟩)))) (fun E h s => kidcell z4 hc s) (by omega) hj fun h' hj' => ?_
      have hfl := feed_len (cont := cont) (c.pt.items.filter fun y => !lt x y).reverse p
      have hfl2 := List.length_filter_le (fun y => !lt x y) c.pt.items
      rw [List.length_reverse] at hfl
      refine r_not ?_
      refine r_if (fun hr => ?_) (fun hr => ?_)
      · have hr : (feed cont p (c.pt.items.filter fun y => !lt x y).reverse).2 = false := by simpa using hr
        have ea := feed_stop (b := (lz (its.take (pos lt its x)) ((ts.take (pos lt its x)).map fun t => t.pt.items)).reverse) hr
        have := H h' (by rw [ea]; exact hj')
        rw [ea] at this; exact this
      · have hr : (feed cont p (c.pt.items.filter fun y => !lt x y).reverse).2 = true := by simpa using hr
        unfold Map_si_nodeDescend.j7
        refine r_sub (z := ((pos lt its x : Nat) : Int) - 1) (by rw [i64w (by omega) (by omega)]) ?_
        refine main _ _ h' hpl (by omega) hj' fun h2 hj2 => ?_
        have ea := feed_step (b := (lz (its.take (pos lt its x)) ((ts.take (pos lt its x)).map fun t => t.pt.items)).reverse) hr
        have := H h2 (by rw [ea]; exact hj2)
        rw [ea] at this; exact this
    · obtain ⟨y, hy⟩ : ∃ y, lget lt its x = some y := by
        cases e : lget lt its x with
        | some y => exact ⟨y, rfl⟩
        | none => rw [e] at hfd; simp at hfd
      obtain ⟨hpp, hyy, h3, h4⟩ := lget_some hy
      obtain ⟨rest, hrest⟩ : ∃ rest, B = y :: rest := by
        have e1 : its.drop (pos lt its x) = y :: its.drop (pos lt its x + 1) := by rw [← hyy]; exact List.drop_eq_getElem_cons hpp
        have e2 : (ts.map GT.pt).drop (pos lt its x + 1) = (ts.map GT.pt)[pos lt its x + 1]'(by simp; omega) :: (ts.map GT.pt).drop (pos lt its x + 1 + 1) := List.drop_eq_getElem_cons (by simp; omega)
        rw [← hB, e1, e2, List.map_cons, rz_cons]; exact ⟨_, rfl⟩
      rw [hrest] at eit hB2
      have hez : (lz (its.take (pos lt its x + 1)) ((ts.take (pos lt its x + 1)).map fun t => t.pt.items)) = (lz (its.take (pos lt its x)) ((ts.take (pos lt its x)).map fun t => t.pt.items)) ++ (c.pt.items ++ [y]) := by
        have e1 : its.take (pos lt its x + 1) = its.take (pos lt its x) ++ [y] := by rw [List.take_succ_eq_append_getElem hpp, hyy]
        have e2 : ts.take (pos lt its x + 1) = ts.take (pos lt its x) ++ [c] := by rw [List.take_add_one, hc]; rfl
        rw [e1, e2, List.map_append, List.map_cons, List.map_nil, lz_snoc _ _ _ _ (by simp; omega)]
      have hb2 : ∀ z ∈ (lz (its.take (pos lt its x)) ((ts.take (pos lt its x)).map fun t => t.pt.items)) ++ c.pt.items, lt z x = true := fun z hz => by
        have ha2 := ha
        rw [eit, ← List.append_assoc] at ha2
        exact swo.tr1 ((asc_app ha2).2.2 z hz y (by simp)) h4
      have hfe : ((PT.items (h := k + 1) (its, ts.map GT.pt)).filter fun y => !lt x y) = (lz (its.take (pos lt its x + 1)) ((ts.take (pos lt its x + 1)).map fun t => t.pt.items)) := by
        rw [eit, show ∀ r : List It, r ++ (c.pt.items ++ y :: rest) = (r ++ (c.pt.items ++ [y])) ++ rest from fun r => by simp, hez]
        refine flt (fun a h => ?_) (fun b h => swo.tr2 h3 ((List.pairwise_cons.1 hB2).1 b h))
        rw [← List.append_assoc] at h
        rcases List.mem_append.1 h with h | h
        · exact swo.asym (hb2 a h)
        · rw [List.mem_singleton.1 h]; exact h4
      rw [hfe] at H
      have hel := congrArg List.length hez
      simp only [List.length_append, List.length_singleton] at hel
      rw [hrest, List.length_cons] at hsl
      have := main (pos lt its x + 1) p h (by omega) (by omega) hj H
      rw [show ((pos lt its x + 1 : Nat) : Int) - 1 = ((pos lt its x : Nat) : Int) by omega] at this
      exact this
end Go.Proofs.Ytdpkpcmoabfofaa.Si
end
section
namespace Go.Proofs.Ytdpkpcmoabfofaa.Si
open Go.Hp Go.Proofs.Ytdpkpcmoabfofaa
set_option linter.unusedVariables false
set_option linter.unusedSimpArgs false
variable {h0 h : Heap} {Z E : List Rg} {Q : Value → Heap → Prop}

theorem Ascend_ok {cont : List It → Bool} {f : Value} {J : List It → Heap → Prop} {g : Rt} {tb m N : Nat} {iso cnt mn mx : Int} {ctr : Option Addr} {x : It} (M : MapOk m iso g) (hT : (tb, 0, hdr iso ctr (rA g) cnt mn mx) ∈ Z) (hz : ∀ r ∈ rAll g, r ∈ Z) (hzb : ∀ r ∈ rAll g, r.2.2 ≠ [] → h0.size ≤ r.1)
    (hJ : ∀ p h, J p h → ∃ E, St h0 Z E h)
    (cb : ∀ (p : List It) (x : It) (h : Heap) (K : Value → Heap → Prop), p.length < N → J p h → (∀ h', J (p ++ [x]) h' → K (.bool (cont (p ++ [x]))) h') → callV Try.prog f #[kv x.1, vv x.2] h K)
    (hN : (rPt g).items.length ≤ N) (hj : J [] h) (H : ∀ h', J (feed cont [] ((rPt g).items.drop (pos lt (rPt g).items x))).1 h' → Q (.tuple #[]) h') : Map_si_Ascend.call #[ptr tb 0, kv x.1, f] h Q := by
  refine Map_si_Ascend.body _ _ _ _ _ ?_
  unfold Map_si_Ascend.sh
  refine Map_si_ascend.body _ _ _ _ _ _ ?_
  unfold Map_si_ascend.sh
  obtain ⟨E, s⟩ := hJ [] h hj
  refine r_nil ?_
  refine r_fld ?_
  refine s.r_lz0 hT (j := 2) rfl ?_
  refine r_eqNilP ?_
  cases g with
  | none =>
    refine r_if (fun _ => ?_) (fun e => absurd e (by simp [rA]))
    exact H h hj
  | some t =>
    refine r_if (fun e => absurd e (by simp [rA])) (fun _ => ?_)
    unfold Map_si_ascend.j1
    refine r_nil ?_
    refine r_fld ?_
    refine nodeAscend_ok (x := x) M.m1 hJ cb t.2 M.gd M.fl M.asc hz hzb (fun E h s => ?_) (by rw [List.length_nil, Nat.zero_add]; exact hN) hj fun h' hj' => H h' hj'
    exact s.clz hT 2 rfl rfl
end Go.Proofs.Ytdpkpcmoabfofaa.Si
end
section
namespace Go.Proofs.Ytdpkpcmoabfofaa.Si
open Go.Hp Go.Proofs.Ytdpkpcmoabfofaa
set_option linter.unusedVariables false
set_option linter.unusedSimpArgs false
variable {h0 h : Heap} {Z E : List Rg} {Q : Value → Heap → Prop}
theorem Descend_ok {cont : List It → Bool} {f : Value} {J : List It → Heap → Prop} {g : Rt} {tb m N : Nat} {iso cnt mn mx : Int} {ctr : Option Addr} {x : It} (M : MapOk m iso g) (hT : (tb, 0, hdr iso ctr (rA g) cnt mn mx) ∈ Z) (hz : ∀ r ∈ rAll g, r ∈ Z) (hzb : ∀ r ∈ rAll g, r.2.2 ≠ [] → h0.size ≤ r.1)
    (hJ : ∀ p h, J p h → ∃ E, St h0 Z E h)
    (cb : ∀ (p : List It) (x : It) (h : Heap) (K : Value → Heap → Prop), p.length < N → J p h → (∀ h', J (p ++ [x]) h' → K (.bool (cont (p ++ [x]))) h') → callV Try.prog f #[kv x.1, vv x.2] h K)
    (hN : (rPt g).items.length ≤ N) (hj : J [] h) (H : ∀ h', J (feed cont [] (((rPt g).items.filter fun y => !lt x y).reverse)).1 h' → Q (.tuple #[]) h') : Map_si_Descend.call #[ptr tb 0, kv x.1, f] h Q := by
  refine Map_si_Descend.body _ _ _ _ _ ?_
  unfold Map_si_Descend.sh
  refine Map_si_descend.body _ _ _ _ _ _ ?_
  unfold Map_si_descend.sh
  obtain ⟨E, s⟩ := hJ [] h hj
  refine r_nil ?_
  refine r_fld ?_
  refine s.r_lz0 hT (j := 2) rfl ?_
  refine r_eqNilP ?_
  cases g with
  | none =>
    refine r_if (fun _ => ?_) (fun e => absurd e (by simp [rA]))
    exact H h hj
  | some t =>
    refine r_if (fun e => absurd e (by simp [rA])) (fun _ => ?_)
    unfold Map_si_descend.j1
    refine r_nil ?_
    refine r_fld ?_
    refine nodeDescend_ok (x := x) M.m1 hJ cb t.2 M.gd M.fl M.asc hz hzb (fun E h s => ?_) (by rw [List.length_nil, Nat.zero_add]; exact hN) hj fun h' hj' => H h' hj'
    exact s.clz hT 2 rfl rfl
/-- The same once the function that keeps what is handed on stands. -/
theorem keptA2_ok {g : Rt} {tb t2 t3 t5 t7 m : Nat} {n iso cnt mn mx : Int} {ctr : Option Addr} {x : It} (M : MapOk m iso g) (hl : (rPt g).items.length ≤ 4294967295)
    (s : St h0 Z ((t5, 0, [.func (.func 241) #[] #[ptr t2 0, ptr t3 0]]) :: (t2, 0, [ptr t7 0]) :: (t3, 0, [.int .i64 n]) :: (t7, 0, [.slice none 0 0]) :: (((tb, 0, hdr iso ctr (rA g) cnt mn mx) :: rAll g) ++ E)) h)
    (H : ∀ v b o sp h', Own 2 v (firstN ((rPt g).items.drop (pos lt (rPt g).items x)) n).length b o ((firstN ((rPt g).items.drop (pos lt (rPt g).items x)) n).flatMap encA) sp → St h0 Z ((t7, 0, [v]) :: (b, o, (firstN ((rPt g).items.drop (pos lt (rPt g).items x)) n).flatMap encA ++ sp) :: (((tb, 0, hdr iso ctr (rA g) cnt mn mx) :: rAll g) ++ E)) h' → Q (.tuple #[]) h') :
    Map_si_Ascend.call #[ptr tb 0, kv x.1, keepF t5] h Q := by
  have s0 : St h0 Z (((tb, 0, hdr iso ctr (rA g) cnt mn mx) :: rAll g) ++ ((t5, 0, [.func (.func 241) #[] #[ptr t2 0, ptr t3 0]]) :: (t2, 0, [ptr t7 0]) :: (t3, 0, [.int .i64 n]) :: (t7, 0, [.slice none 0 0]) :: (0, 0, ([] : List It).flatMap encA ++ []) :: E)) h := (s.empty 0 0).perm (by ((apply perm_rg; intro f; simp only [List.set_cons_zero, List.set_cons_succ, List.eraseIdx_cons_zero, List.eraseIdx_cons_succ, List.cons_append, List.nil_append, List.map_append, List.map_cons, List.map_nil, List.sum_append, List.sum_cons, List.sum_nil, List.map_flatMap, Nat.add_zero, Nat.zero_add]; ac_rfl)))
  obtain ⟨s1, back⟩ := s0.borrow
  refine Ascend_ok (x := x) (J := KeepJ h0 (((tb, 0, hdr iso ctr (rA g) cnt mn mx) :: rAll g) ++ Z) E t2 t3 t5 t7 n) (cont := upTo n) (N := 4294967296) M (List.mem_append.2 (.inl (List.mem_cons_self ..))) (fun r hr => List.mem_append.2 (.inl (List.mem_cons_of_mem _ hr))) (fun r hr => (s0.e r (List.mem_append.2 (.inl (List.mem_cons_of_mem _ hr)))).2)
    (fun p h hj => by obtain ⟨v, b, o, sp, w, s⟩ := hj; exact ⟨_, s⟩) (fun p x h K hp hj HK => keep_cb p x h K hp hj HK) (by omega) ⟨_, 0, 0, [], Own.nil 2 0 0, s1⟩ fun h' hj => ?_
  rw [feed_first] at hj
  obtain ⟨v, b, o, sp, w, s⟩ := hj
  have s := back _ h' s
  exact H v b o sp h' w ((s.perm (E' := (t5, 0, _) :: (t2, 0, _) :: (t3, 0, _) :: (t7, 0, [v]) :: (b, o, _) :: (((tb, 0, hdr iso ctr (rA g) cnt mn mx) :: rAll g) ++ E)) (by ((apply perm_rg; intro f; simp only [List.set_cons_zero, List.set_cons_succ, List.eraseIdx_cons_zero, List.eraseIdx_cons_succ, List.cons_append, List.nil_append, List.map_append, List.map_cons, List.map_nil, List.sum_append, List.sum_cons, List.sum_nil, List.map_flatMap, Nat.add_zero, Nat.zero_add]; ac_rfl)))).drop 3)
/-- The same once the function that keeps what is handed on stands. -/
theorem keptD2_ok {g : Rt} {tb t2 t3 t5 t7 m : Nat} {n iso cnt mn mx : Int} {ctr : Option Addr} {x : It} (M : MapOk m iso g) (hl : (rPt g).items.length ≤ 4294967295)
    (s : St h0 Z ((t5, 0, [.func (.func 241) #[] #[ptr t2 0, ptr t3 0]]) :: (t2, 0, [ptr t7 0]) :: (t3, 0, [.int .i64 n]) :: (t7, 0, [.slice none 0 0]) :: (((tb, 0, hdr iso ctr (rA g) cnt mn mx) :: rAll g) ++ E)) h)
    (H : ∀ v b o sp h', Own 2 v (firstN (((rPt g).items.filter fun y => !lt x y).reverse) n).length b o ((firstN (((rPt g).items.filter fun y => !lt x y).reverse) n).flatMap encA) sp → St h0 Z ((t7, 0, [v]) :: (b, o, (firstN (((rPt g).items.filter fun y => !lt x y).reverse) n).flatMap encA ++ sp) :: (((tb, 0, hdr iso ctr (rA g) cnt mn mx) :: rAll g) ++ E)) h' → Q (.tuple #[]) h') :
    Map_si_Descend.call #[ptr tb 0, kv x.1, keepF t5] h Q := by
  have s0 : St h0 Z (((tb, 0, hdr iso ctr (rA g) cnt mn mx) :: rAll g) ++ ((t5, 0, [.func (.func 241) #[] #[ptr t2 0, ptr t3 0]]) :: (t2, 0, [ptr t7 0]) :: (t3, 0, [.int .i64 n]) :: (t7, 0, [.slice none 0 0]) :: (0, 0, ([] : List It).flatMap encA ++ []) :: E)) h := (s.empty 0 0).perm (by ((apply perm_rg; intro f; simp only [List.set_cons_zero, List.set_cons_succ, List.eraseIdx_cons_zero, List.eraseIdx_cons_succ, List.cons_append, List.nil_append, List.map_append, List.map_cons, List.map_nil, List.sum_append, List.sum_cons, List.sum_nil, List.map_flatMap, Nat.add_zero, Nat.zero_add]; ac_rfl)))
  obtain ⟨s1, back⟩ := s0.borrow
  refine Descend_ok (x := x) (J := KeepJ h0 (((tb, 0, hdr iso ctr (rA g) cnt mn mx) :: rAll g) ++ Z) E t2 t3 t5 t7 n) (cont := upTo n) (N := 4294967296) M (List.mem_append.2 (.inl (List.mem_cons_self ..))) (fun r hr => List.mem_append.2 (.inl (List.mem_cons_of_mem _ hr))) (fun r hr => (s0.e r (List.mem_append.2 (.inl (List.mem_cons_of_mem _ hr)))).2)
    (fun p h hj => by obtain ⟨v, b, o, sp, w, s⟩ := hj; exact ⟨_, s⟩) (fun p x h K hp hj HK => keep_cb p x h K hp hj HK) (by omega) ⟨_, 0, 0, [], Own.nil 2 0 0, s1⟩ fun h' hj => ?_
  rw [feed_first] at hj
  obtain ⟨v, b, o, sp, w, s⟩ := hj
  have s := back _ h' s
  exact H v b o sp h' w ((s.perm (E' := (t5, 0, _) :: (t2, 0, _) :: (t3, 0, _) :: (t7, 0, [v]) :: (b, o, _) :: (((tb, 0, hdr iso ctr (rA g) cnt mn mx) :: rAll g) ++ E)) (by ((apply perm_rg; intro f; simp only [List.set_cons_zero, List.set_cons_succ, List.eraseIdx_cons_zero, List.eraseIdx_cons_succ, List.cons_append, List.nil_append, List.map_append, List.map_cons, List.map_nil, List.sum_append, List.sum_cons, List.sum_nil, List.map_flatMap, Nat.add_zero, Nat.zero_add]; ac_rfl)))).drop 3)
end Go.Proofs.Ytdpkpcmoabfofaa.Si
end
section
namespace Go.Proofs.Ytdpkpcmoabfofaa.Si
open Go.Hp Go.Proofs.Ytdpkpcmoabfofaa
set_option linter.unusedVariables false
set_option linter.unusedSimpArgs false
variable {h0 h : Heap} {Z E : List Rg} {Q : Value → Heap → Prop}

theorem lget_eq (l : List It) (x : It) (hi : pos lt l x < l.length) : (lget lt l x).isSome = (l[pos lt l x].1.toList == x.1.toList) := by
  have h1 := pos_at (lt := lt) (l := l) (x := x) hi
  unfold lget
  rw [List.getElem?_eq_getElem hi, Option.bind_some]
  cases h2 : lt x l[pos lt l x] with
  | true =>
    simp only [if_true, Option.isSome_none]
    cases h3 : l[pos lt l x].1.toList == x.1.toList with
    | false => rfl
    | true =>
      have h3 := eq_of_beq h3
      have h2 : Op.bytesLess x.1.toList l[pos lt l x].1.toList = true := h2
      rw [h3, bytesLess_irr] at h2; cases h2
  | false =>
    simp only [Bool.false_eq_true, if_false, Option.isSome_some]
    have := bytesLess_tri _ _ h1 h2
    rw [this]; simp
theorem spot_ok {l : List It} {v : Value} {x : It} (hr : Rdl 2 h v l.length (l.flatMap encA)) (hl : l.length ≤ 4611686018427387903) (H : Q (.tuple #[.int .i64 (pos lt l x), .bool (lget lt l x).isSome]) h) : s_spot.call #[v, kv x.1] h Q := by
  refine s_spot.body _ _ _ _ ?_
  unfold s_spot.sh
  have fin : ∀ i : Nat, i = pos lt l x → s_spot.j1 v (kv x.1) (.int .i64 i) h Q := by
    rintro i rfl
    unfold s_spot.j1
    refine hr.lenV ?_
    refine r_cmpI ?_
    refine r_br (fun hlt => ?_) (fun hge => ?_)
    · have hlt : pos lt l x < l.length := by simpa using hlt
      refine hr.at (n := pos lt l x) rfl encAl rfl rfl hlt fun b o hb => ?_
      refine r_fld ?_
      refine hb.load (j := 0) rfl ?_
      refine r_cmpS ?_
      rw [← lget_eq l x hlt]; exact H
    · have hge : l.length ≤ pos lt l x := by simpa using hge
      have e : lget lt l x = none := by unfold lget; rw [List.getElem?_eq_none hge]; rfl
      rw [e] at H; exact H
  refine loop_up (n := l.length) (fun i => [.int .i64 i]) (fun i h' => h' = h ∧ i ≤ pos lt l x) ⟨rfl, Nat.zero_le _⟩ ?_
  rintro i _ hil ⟨rfl, hip⟩ K HK
  have hpl := pos_le (lt := lt) l x
  unfold s_spot.l2.b
  refine hr.lenV ?_
  refine r_cmpI ?_
  refine r_br (fun hlt => ?_) (fun hge => ?_)
  · have hlt : i < l.length := by simpa using hlt
    refine hr.at (n := i) rfl encAl rfl rfl hlt fun b o hb => ?_
    refine r_fld ?_
    refine hb.load (j := 0) rfl ?_
    refine r_cmpS ?_
    refine r_if (fun hc => ?_) (fun hc => ?_)
    · unfold s_spot.j3
      refine r_add (z := ((i + 1 : Nat) : Int)) (by rw [i64w (by omega) (by omega)]; omega) ?_
      refine HK _ hlt ⟨rfl, ?_⟩
      rcases Nat.lt_or_ge i (pos lt l x) with h | h
      · exact h
      · have e : i = pos lt l x := by omega
        subst e
        have h1 := pos_at (lt := lt) (l := l) (x := x) hlt
        have h2 : lt l[pos lt l x] x = true := hc
        rw [h1] at h2; cases h2
    · refine fin i ?_
      rcases Nat.lt_or_ge i (pos lt l x) with h | h
      · have h2 : lt l[i] x = false := hc
        rw [pos_lt h] at h2; cases h2
      · omega
  · have hge : l.length ≤ i := by simpa using hge
    exact fin i (by omega)

end Go.Proofs.Ytdpkpcmoabfofaa.Si
end
section
namespace Go.Proofs.Ytdpkpcmoabfofaa.Si
open Go.Hp Go.Proofs.Ytdpkpcmoabfofaa
set_option linter.unusedVariables false
set_option linter.unusedSimpArgs false
variable {h0 h : Heap} {Z E : List Rg} {Q : Value → Heap → Prop}

theorem fit_ok {d : Int} (H : Q (.bool (decide (2 ≤ d ∧ d ≤ 128))) h) : l_fit.call #[.int .i64 d] h Q := by
  refine l_fit.body _ _ _ ?_
  unfold l_fit.sh
  refine r_cmpI ?_
  refine r_br (fun h1 => ?_) (fun h1 => ?_)
  · have h1 : 0 < d := by simpa using h1
    refine s_Fits.body _ _ _ ?_
    unfold s_Fits.sh
    refine r_cmpI ?_
    refine r_br (fun h2 => ?_) (fun h2 => ?_)
    · refine r_cmpI ?_
      refine r_br (fun h3 => ?_) (fun h3 => ?_)
      · have h3 : 2 ≤ d := by simpa using h3
        refine r_cmpI ?_
        have e : decide (2 ≤ d ∧ d ≤ 128) = decide (d ≤ 128) := by simp [h3]
        rw [e] at H; exact H
      · have h3 : ¬ 2 ≤ d := by simpa using h3
        have e : decide (2 ≤ d ∧ d ≤ 128) = false := by simp [h3]
        rw [e] at H; exact H
    · have h2 : d = 0 := by simpa using h2
      omega
  · have h1 : ¬ 0 < d := by simpa using h1
    have e : decide (2 ≤ d ∧ d ≤ 128) = false := by simp; omega
    rw [e] at H; exact H

def exW : List It := [(⟨#[98]⟩, 1), (⟨#[]⟩, 2), (⟨#[97, 98]⟩, 3), (⟨#[98]⟩, 4)]
theorem WKeys_ok {hA : Heap} {l : List It} {v : Value} {d : Nat} (hr : Rdl 2 hA v l.length (l.flatMap encA)) (hl : l.length ≤ 2147483647) (h1 : 2 ≤ d) (h2 : d ≤ 512)
    (H : ∀ v' b o sp E' h', Own 1 v' ((setAll l).map (·.1)).length b o (((setAll l).map (·.1)).flatMap fk) sp → St hA [] ((b, o, ((setAll l).map (·.1)).flatMap fk ++ sp) :: E') h' → Q v' h') : i_WKeys.call #[.int .i64 d, v] hA Q := by
  refine i_WKeys.body _ _ _ _ ?_
  unfold i_WKeys.sh
  refine grow_ok hr hl h1 h2 fun g tb h' _ e M s => ?_
  have hle := setAll_len l
  refine Keys_ok (E := []) M (by rw [e]; omega) (by rw [List.append_nil]; exact s) fun v' b o sp h' w s => ?_
  rw [e] at w s
  exact H v' b o sp _ h' w s
theorem aliveW_ok {hA : Heap} (H : ∀ E' h', St hA [] E' h' → Q (.bool true) h') : l_aliveW.call #[] hA Q := by
  refine l_aliveW.body _ _ ?_
  unfold l_aliveW.sh
  have s := St.start hA
  refine l_exWords.body _ _ ?_
  unfold l_exWords.sh
  (apply r_build; (simp only [fillV, fill1, Value.cells, zeros_succ, zeros_zero, List.size_toArray, List.length_cons, List.length_nil, List.length_append, List.take_succ_cons, List.take_zero, List.take_nil, List.drop_succ_cons, List.drop_zero, List.drop_nil, List.cons_append, List.nil_append, List.append_nil, Nat.reduceAdd, Nat.reduceMul, Nat.reduceLeDiff, Nat.reduceEqDiff, and_self, and_true, true_and, if_true, Nat.le_refl, Nat.zero_add, Nat.add_zero, Nat.zero_mul, reduceIte, if_false] <;> rfl))
  (apply r_build; (simp only [fillV, fill1, Value.cells, zeros_succ, zeros_zero, List.size_toArray, List.length_cons, List.length_nil, List.length_append, List.take_succ_cons, List.take_zero, List.take_nil, List.drop_succ_cons, List.drop_zero, List.drop_nil, List.cons_append, List.nil_append, List.append_nil, Nat.reduceAdd, Nat.reduceMul, Nat.reduceLeDiff, Nat.reduceEqDiff, and_self, and_true, true_and, if_true, Nat.le_refl, Nat.zero_add, Nat.add_zero, Nat.zero_mul, reduceIte, if_false] <;> rfl))
  (apply r_build; (simp only [fillV, fill1, Value.cells, zeros_succ, zeros_zero, List.size_toArray, List.length_cons, List.length_nil, List.length_append, List.take_succ_cons, List.take_zero, List.take_nil, List.drop_succ_cons, List.drop_zero, List.drop_nil, List.cons_append, List.nil_append, List.append_nil, Nat.reduceAdd, Nat.reduceMul, Nat.reduceLeDiff, Nat.reduceEqDiff, and_self, and_true, true_and, if_true, Nat.le_refl, Nat.zero_add, Nat.add_zero, Nat.zero_mul, reduceIte, if_false] <;> rfl))
  (apply r_build; (simp only [fillV, fill1, Value.cells, zeros_succ, zeros_zero, List.size_toArray, List.length_cons, List.length_nil, List.length_append, List.take_succ_cons, List.take_zero, List.take_nil, List.drop_succ_cons, List.drop_zero, List.drop_nil, List.cons_append, List.nil_append, List.append_nil, Nat.reduceAdd, Nat.reduceMul, Nat.reduceLeDiff, Nat.reduceEqDiff, and_self, and_true, true_and, if_true, Nat.le_refl, Nat.zero_add, Nat.add_zero, Nat.zero_mul, reduceIte, if_false] <;> rfl))
  refine St.r_mkSl (sz := 2) (cs := exW.flatMap encA) s (by ((simp only [fillV, fill1, Value.cells, zeros_succ, zeros_zero, List.size_toArray, List.length_cons, List.length_nil, List.length_append, List.take_succ_cons, List.take_zero, List.take_nil, List.drop_succ_cons, List.drop_zero, List.drop_nil, List.cons_append, List.nil_append, List.append_nil, Nat.reduceAdd, Nat.reduceMul, Nat.reduceLeDiff, Nat.reduceEqDiff, and_self, and_true, true_and, if_true, Nat.le_refl, Nat.zero_add, Nat.add_zero, Nat.zero_mul, reduceIte, if_false] <;> rfl))) rfl fun q h s w => ?_
  have w : Own 2 (.slice (some ⟨q, 0, none⟩) 4 4) exW.length q 0 (exW.flatMap encA) [] := w
  have s : St hA [] ((q, 0, exW.flatMap encA ++ []) :: []) h := s
  refine (w.rdl s 0 rfl).slc (l := 0) (m := 3) rfl ⟨_, _, rfl, by decide, by decide, rfl⟩ (by decide) (by decide) fun v' r => ?_
  rw [Nat.zero_mul, List.drop_zero, Nat.sub_zero, flat_take encAl exW 3 (by decide)] at r
  refine WKeys_ok (l := exW.take 3) (d := 2) r (by decide) (by decide) (by decide) fun v2 b o sp E' h' w2 s2 => ?_
  refine w2.lenV ?_
  refine r_cmpI ?_
  have e : ((setAll (exW.take 3)).map (·.1)).length = 3 := by decide +kernel
  rw [e]
  exact H _ _ (s.join s2)
end Go.Proofs.Ytdpkpcmoabfofaa.Si
end
section
namespace Go.Proofs.Ytdpkpcmoabfofaa.Si
open Go.Hp Go.Proofs.Ytdpkpcmoabfofaa
set_option linter.unusedVariables false
set_option linter.unusedSimpArgs false

/-- How many bytes two strings share ahead. -/
def com : List UInt8 → List UInt8 → Nat
  | a :: x, b :: y => if a = b then com x y + 1 else 0
  | [], _ => 0
  | _ :: _, [] => 0
def bef (L : List It) (a : List UInt8) : Option It := (L.filter fun y => !Op.bytesLess a y.1.toList).getLast?
def rtV : Nat → List It → List UInt8 → Int
  | 0, _, _ => -1
  | k + 1, L, a => match bef L a with
    | none => -1
    | some w => if w.1.toList <+: a then w.2 else rtV k L (a.take (com a w.1.toList))
theorem less_pre : ∀ {p a : List UInt8}, p <+: a → Op.bytesLess a p = false
  | [], a, _ => by cases a <;> rfl
  | x :: p, [], h => by have := h.length_le; simp at this
  | x :: p, y :: a, h => by
    obtain ⟨e, h2⟩ := List.cons_prefix_cons.1 h
    rw [e, bytesLess_cons, less_pre h2]; simp
theorem less_longer : ∀ (w : List UInt8) (c : UInt8) (r : List UInt8), Op.bytesLess w (w ++ c :: r) = true
  | [], c, r => rfl
  | x :: w, c, r => by rw [List.cons_append, bytesLess_cons, less_longer w c r]; simp
theorem com_ok : ∀ (a w : List UInt8), Op.bytesLess a w = false → ¬ w <+: a → com a w < a.length ∧ ∀ p, p <+: a → Op.bytesLess w p = false → p <+: a.take (com a w)
  | [], [], _, h => absurd (List.prefix_refl _) h
  | [], b :: w, h, _ => by simp [Op.bytesLess] at h
  | x :: a, [], _, h => absurd (List.nil_prefix) h
  | x :: a, y :: w, h, hn => by
    rw [bytesLess_cons] at h
    by_cases hxy : x = y
    · subst hxy
      have h1 : Op.bytesLess a w = false := by simpa using h
      have hn1 : ¬ w <+: a := fun hc => hn (List.cons_prefix_cons.2 ⟨rfl, hc⟩)
      obtain ⟨i1, i2⟩ := com_ok a w h1 hn1
      have e : com (x :: a) (x :: w) = com a w + 1 := by rw [com, if_pos rfl]
      rw [e]
      refine ⟨by rw [List.length_cons]; omega, fun p hp hl => ?_⟩
      cases p with
      | nil => exact List.nil_prefix
      | cons z p =>
        obtain ⟨e2, hp2⟩ := List.cons_prefix_cons.1 hp
        rw [e2, bytesLess_cons] at hl
        have hl : Op.bytesLess w p = false := by simpa using hl
        rw [List.take_succ_cons]
        exact List.cons_prefix_cons.2 ⟨e2, i2 p hp2 hl⟩
    · have e : com (x :: a) (y :: w) = 0 := by rw [com, if_neg hxy]
      rw [e]
      refine ⟨by simp, fun p hp hl => ?_⟩
      cases p with
      | nil => exact List.nil_prefix
      | cons z p =>
        exfalso
        obtain ⟨e2, hp2⟩ := List.cons_prefix_cons.1 hp
        rw [e2, bytesLess_cons] at hl
        simp only [Bool.or_eq_false_iff, decide_eq_false_iff_not] at h hl
        have h1 := h.1
        have h2 := hl.1
        rw [UInt8.lt_iff_toNat_lt] at h1 h2
        exact hxy (UInt8.toNat_inj.1 (by omega))
theorem pre_len {w p a : List UInt8} (hw : w <+: a) (hp : p <+: a) (hl : Op.bytesLess w p = false) : p.length ≤ w.length := by
  apply Classical.byContradiction
  intro hc
  have h1 : w <+: p := List.prefix_of_prefix_length_le hw hp (by omega)
  obtain ⟨r, rfl⟩ := h1
  cases r with
  | nil => rw [List.append_nil] at hc; exact hc (Nat.le_refl _)
  | cons c r => rw [less_longer] at hl; cases hl
theorem bef_none {L : List It} {a : List UInt8} (h : bef L a = none) : ∀ y ∈ L, Op.bytesLess a y.1.toList = true := fun y hy => by
  have := List.getLast?_eq_none_iff.1 h
  have h1 := List.filter_eq_nil_iff.1 this y hy
  simpa using h1
theorem bef_some {L : List It} {a : List UInt8} {w : It} (ha : Asc lt L) (h : bef L a = some w) : w ∈ L ∧ Op.bytesLess a w.1.toList = false ∧ ∀ y ∈ L, Op.bytesLess a y.1.toList = false → Op.bytesLess w.1.toList y.1.toList = false := by
  unfold bef at h
  obtain ⟨M, e⟩ := List.getLast?_eq_some_iff.1 h
  have hs : Asc lt (L.filter fun y => !Op.bytesLess a y.1.toList) := asc_of_sub ha List.filter_sublist
  have hw : w ∈ L.filter fun y => !Op.bytesLess a y.1.toList := by rw [e]; simp
  obtain ⟨h1, h2⟩ := List.mem_filter.1 hw
  refine ⟨h1, by simpa using h2, fun y hy hl => ?_⟩
  have hyf : y ∈ L.filter fun y => !Op.bytesLess a y.1.toList := List.mem_filter.2 ⟨hy, by simp [hl]⟩
  rw [e] at hs hyf
  rcases List.mem_append.1 hyf with hy2 | hy2
  · exact swo.asym ((asc_app hs).2.2 y hy2 w (List.mem_singleton.2 rfl))
  · rw [List.mem_singleton] at hy2; subst hy2; exact bytesLess_irr _
/-- The searches downward find the longest prefix. -/
theorem rtV_ok {L : List It} {A : List UInt8} (ha : Asc lt L) : ∀ (k : Nat) (a : List UInt8), a.length < k → a <+: A → (∀ y ∈ L, y.1.toList <+: A → y.1.toList <+: a) →
    (rtV k L a = -1 ∧ ∀ y ∈ L, ¬ y.1.toList <+: A) ∨ ∃ w ∈ L, rtV k L a = w.2 ∧ w.1.toList <+: A ∧ ∀ y ∈ L, y.1.toList <+: A → y.1.toList.length ≤ w.1.toList.length
  | 0, a, h, _, _ => absurd h (Nat.not_lt_zero _)
  | k + 1, a, h, hA, hall => by
    rw [rtV]
    cases hb : bef L a with
    | none =>
      refine .inl ⟨rfl, fun y hy hp => ?_⟩
      have h1 := bef_none hb y hy
      rw [less_pre (hall y hy hp)] at h1; cases h1
    | some w =>
      obtain ⟨h1, h2, h3⟩ := bef_some ha hb
      simp only
      by_cases hw : w.1.toList <+: a
      · rw [if_pos hw]
        exact .inr ⟨w, h1, rfl, hw.trans hA, fun y hy hp => pre_len hw (hall y hy hp) (h3 y hy (less_pre (hall y hy hp)))⟩
      · rw [if_neg hw]
        obtain ⟨c1, c2⟩ := com_ok a w.1.toList h2 hw
        exact rtV_ok ha k _ (by rw [List.length_take]; omega) ((List.take_prefix _ _).trans hA) fun y hy hp => c2 _ (hall y hy hp) (h3 y hy (less_pre (hall y hy hp)))
/-- The last one of the longest prefixes, by looking at all. -/
def rtd (K : List (List UInt8)) (A : List UInt8) : Nat → Int
  | 0 => -1
  | j + 1 => if (K[j]?.getD []) <+: A ∧ (rtd K A j < 0 ∨ (K[(rtd K A j).toNat]?.getD []).length ≤ (K[j]?.getD []).length) then (j : Int) else rtd K A j
theorem rtd_ok (K : List (List UInt8)) (A : List UInt8) : ∀ j : Nat, (rtd K A j = -1 ∧ ∀ i, i < j → ¬ (K[i]?.getD []) <+: A) ∨
    ∃ i : Nat, i < j ∧ rtd K A j = (i : Int) ∧ (K[i]?.getD []) <+: A ∧ ∀ m, m < j → (K[m]?.getD []) <+: A → (K[m]?.getD []).length ≤ (K[i]?.getD []).length ∧ (i < m → (K[m]?.getD []).length < (K[i]?.getD []).length)
  | 0 => .inl ⟨rfl, fun i h => absurd h (Nat.not_lt_zero _)⟩
  | j + 1 => by
    rw [rtd]
    rcases rtd_ok K A j with ⟨e, hn⟩ | ⟨i, hi, e, hp, hm⟩
    · rw [e]
      by_cases hc : (K[j]?.getD []) <+: A
      · rw [if_pos ⟨hc, .inl (by decide)⟩]
        refine .inr ⟨j, Nat.lt_succ_self j, rfl, hc, fun m hmj hpm => ?_⟩
        by_cases hmj2 : m < j
        · exact absurd hpm (hn m hmj2)
        · have : m = j := by omega
          subst this
          exact ⟨Nat.le_refl _, fun h => absurd h (Nat.lt_irrefl _)⟩
      · rw [if_neg fun h => hc h.1]
        refine .inl ⟨rfl, fun i hi => ?_⟩
        by_cases hij : i < j
        · exact hn i hij
        · have : i = j := by omega
          subst this; exact hc
    · rw [e, Int.toNat_natCast]
      by_cases hc : (K[j]?.getD []) <+: A ∧ (K[i]?.getD []).length ≤ (K[j]?.getD []).length
      · rw [if_pos ⟨hc.1, .inr hc.2⟩]
        refine .inr ⟨j, Nat.lt_succ_self j, rfl, hc.1, fun m hmj hpm => ?_⟩
        by_cases hmj2 : m < j
        · have := (hm m hmj2 hpm).1
          exact ⟨by have := hc.2; omega, fun h => absurd h (by omega)⟩
        · have : m = j := by omega
          subst this
          exact ⟨Nat.le_refl _, fun h => absurd h (Nat.lt_irrefl _)⟩
      · have hneg : ¬ ((K[j]?.getD []) <+: A ∧ ((i : Int) < 0 ∨ (K[i]?.getD []).length ≤ (K[j]?.getD []).length)) := fun h => hc ⟨h.1, h.2.resolve_left (by omega)⟩
        rw [if_neg hneg]
        refine .inr ⟨i, by omega, rfl, hp, fun m hmj hpm => ?_⟩
        by_cases hmj2 : m < j
        · exact hm m hmj2 hpm
        · have : m = j := by omega
          subst this
          have hlt : (K[m]?.getD []).length < (K[i]?.getD []).length := by
            apply Classical.byContradiction; intro h; exact hc ⟨hpm, by omega⟩
          exact ⟨by omega, fun _ => hlt⟩
/-- The words of keys: each with the index of its last one. -/
def wk' (K : List (List UInt8)) : List It := K.mapIdx fun i k => (bs k, (i : Int))
theorem wk_snoc (K : List (List UInt8)) (k : List UInt8) : wk' (K ++ [k]) = wk' K ++ [(bs k, (K.length : Int))] := by unfold wk'; rw [List.mapIdx_concat]
theorem mem_lputW {L : List It} {x z : It} (ha : Asc lt L) : z ∈ lput lt L x ↔ z = x ∨ (z ∈ L ∧ z.1.toList ≠ x.1.toList) := by
  have h1 := lget_lput swo (l := L) (x := x) (y := z) ha
  have h2 : z ∈ lput lt L x ↔ lget lt (lput lt L x) z = some z := by
    rw [lget_mem swo (asc_lput swo ha)]
    exact ⟨fun h => ⟨h, swo.irr _, swo.irr _⟩, fun h => h.1⟩
  have h3 : z ∈ L ↔ lget lt L z = some z := by
    rw [lget_mem swo ha]
    exact ⟨fun h => ⟨h, swo.irr _, swo.irr _⟩, fun h => h.1⟩
  have h4 : (lt x z = false ∧ lt z x = false) ↔ z.1.toList = x.1.toList := by
    unfold lt
    constructor
    · rintro ⟨a, b⟩; exact bytesLess_tri _ _ b a
    · intro e; rw [e]; exact ⟨bytesLess_irr _, bytesLess_irr _⟩
  rw [h2, h1, h3]
  by_cases hk : z.1.toList = x.1.toList
  · rw [if_pos (h4.2 hk)]
    constructor
    · intro h; exact .inl (Option.some.inj h).symm
    · rintro (h | h)
      · rw [h]
      · exact absurd hk h.2
  · rw [if_neg fun h => hk (h4.1 h)]
    constructor
    · intro h; exact .inr ⟨h, hk⟩
    · rintro (h | h)
      · rw [h] at hk; exact absurd rfl hk
      · exact h.1
theorem wk_mem : ∀ (n : Nat) (K : List (List UInt8)), K.length = n → ∀ y, y ∈ setAll (wk' K) ↔ ∃ i : Nat, y = (bs (K[i]?.getD []), (i : Int)) ∧ i < K.length ∧ ∀ j, i < j → K[j]? ≠ some (K[i]?.getD [])
  | 0, K, hn, y => by
    have : K = [] := List.length_eq_zero_iff.1 hn
    subst this
    constructor
    · intro h; exact absurd h List.not_mem_nil
    · rintro ⟨i, _, hi, _⟩; exact absurd hi (Nat.not_lt_zero _)
  | n + 1, K, hn, y => by
    have hne : K ≠ [] := fun e => by rw [e] at hn; simp at hn
    obtain ⟨M, k, rfl⟩ : ∃ M k, K = M ++ [k] := ⟨K.dropLast, K.getLast hne, (List.dropLast_concat_getLast hne).symm⟩
    have hM : M.length = n := by rw [List.length_append, List.length_singleton] at hn; omega
    rw [wk_snoc, setAll_snoc, mem_lputW (setAll_asc _)]
    have hk : (M ++ [k])[M.length]? = some k := by rw [List.getElem?_append_right (Nat.le_refl _), Nat.sub_self]; rfl
    have hlt : ∀ {i : Nat}, i < M.length → (M ++ [k])[i]? = M[i]? := fun h => List.getElem?_append_left h
    have hlen : (M ++ [k]).length = M.length + 1 := by rw [List.length_append]; rfl
    constructor
    · rintro (h | ⟨h, hne⟩)
      · refine ⟨M.length, by rw [hk]; exact h, by omega, fun j hj => ?_⟩
        rw [List.getElem?_eq_none (by omega)]; exact fun h => by cases h
      · obtain ⟨i, e, hi, hl⟩ := (wk_mem n M hM y).1 h
        refine ⟨i, by rw [hlt hi]; exact e, by omega, fun j hj => ?_⟩
        rw [hlt hi]
        by_cases hjM : j < M.length
        · rw [hlt hjM]; exact hl j hj
        · by_cases hjM2 : j = M.length
          · subst hjM2
            rw [hk]
            intro h
            have h : k = M[i]?.getD [] := Option.some.inj h
            refine hne ?_
            rw [e]
            show (bs (M[i]?.getD [])).toList = (bs k).toList
            rw [← h]
          · rw [List.getElem?_eq_none (by omega)]; exact fun h => by cases h
    · rintro ⟨i, e, hi, hl⟩
      by_cases hiM : i < M.length
      · refine .inr ⟨(wk_mem n M hM y).2 ⟨i, by rw [← hlt hiM]; exact e, hiM, fun j hj => ?_⟩, ?_⟩
        · by_cases hjM : j < M.length
          · rw [← hlt hjM, ← hlt hiM]; exact hl j hj
          · rw [List.getElem?_eq_none (by omega)]; exact fun h => by cases h
        · have h1 := hl M.length hiM
          rw [hk, hlt hiM] at h1
          rw [e, hlt hiM]
          show (bs (M[i]?.getD [])).toList ≠ (bs k).toList
          rw [bs_list, bs_list]
          exact fun h => h1 (by rw [h])
      · have : i = M.length := by omega
        subst this
        rw [hk] at e
        exact .inl e
/-- Each key is there. -/
theorem wk_has (K : List (List UInt8)) : ∀ (d i : Nat), K.length - i ≤ d → i < K.length → ∃ m : Nat, i ≤ m ∧ m < K.length ∧ K[m]?.getD [] = K[i]?.getD [] ∧ (bs (K[m]?.getD []), (m : Int)) ∈ setAll (wk' K)
  | 0, i, hd, hi => absurd hd (by omega)
  | d + 1, i, hd, hi => by
    by_cases h : ∃ j, i < j ∧ K[j]? = some (K[i]?.getD [])
    · obtain ⟨j, hj, e⟩ := h
      have hjl : j < K.length := (List.getElem?_eq_some_iff.1 e).1
      obtain ⟨m, h1, h2, h3, h4⟩ := wk_has K d j (by omega) hjl
      refine ⟨m, by omega, h2, ?_, h4⟩
      rw [h3, e]; rfl
    · exact ⟨i, Nat.le_refl _, hi, rfl, (wk_mem _ K rfl _).2 ⟨i, rfl, hi, fun j hj e => h ⟨j, hj, e⟩⟩⟩
/-- FnWRoutes. -/
theorem routes_same (K : List (List UInt8)) (A : List UInt8) (k : Nat) (hk : A.length < k) : rtV k (setAll (wk' K)) A = rtd K A K.length := by
  have hd := rtd_ok K A K.length
  rcases rtV_ok (setAll_asc (wk' K)) k A hk (List.prefix_refl _) (fun _ _ h => h) with ⟨e, hn⟩ | ⟨w, hw, e, hp, hm⟩
  · rcases hd with ⟨e2, _⟩ | ⟨i, hi, e2, hp2, _⟩
    · rw [e, e2]
    · obtain ⟨m, h1, h2, h3, h4⟩ := wk_has K _ i (Nat.le_refl _) hi
      refine absurd ?_ (hn _ h4)
      show (bs (K[m]?.getD [])).toList <+: A
      rw [bs_list, h3]; exact hp2
  · obtain ⟨i, ew, hi, hl⟩ := (wk_mem _ K rfl w).1 hw
    have e1 : w.1.toList = K[i]?.getD [] := by rw [ew]; exact bs_list _
    have e3 : w.2 = (i : Int) := by rw [ew]
    rw [e1] at hp hm
    rw [e, e3]
    rcases hd with ⟨e2, hno⟩ | ⟨i2, hi2, e2, hp2, hm2⟩
    · exact absurd hp (hno i hi)
    · rw [e2]
      obtain ⟨m, h1, h2, h3, h4⟩ := wk_has K _ i2 (Nat.le_refl _) hi2
      have g1 := hm _ h4 (by show (bs (K[m]?.getD [])).toList <+: A; rw [bs_list, h3]; exact hp2)
      have g1 : (bs (K[m]?.getD [])).toList.length ≤ (K[i]?.getD []).length := g1
      rw [bs_list, h3] at g1
      obtain ⟨g2, g3⟩ := hm2 i hi hp
      have hpp : K[i2]?.getD [] <+: K[i]?.getD [] := List.prefix_of_prefix_length_le hp2 hp g1
      have he : K[i2]?.getD [] = K[i]?.getD [] := hpp.eq_of_length (by omega)
      rcases Nat.lt_trichotomy i i2 with h | h | h
      · refine absurd ?_ (hl i2 h)
        rw [← he, List.getElem?_eq_getElem hi2]; rfl
      · rw [h]
      · have := g3 h
        omega
end Go.Proofs.Ytdpkpcmoabfofaa.Si
end
section
namespace Go.Proofs.Ytdpkpcmoabfofaa.Si
open Go.Hp Go.Proofs.Ytdpkpcmoabfofaa
set_option linter.unusedVariables false
set_option linter.unusedSimpArgs false
variable {h0 h : Heap} {Z E : List Rg} {Q : Value → Heap → Prop}

theorem r_lenB {l : List UInt8} {K : Value → Prop} (H : K (.int .i64 (l.length : Nat))) : lenStr (.string (bs l)) K := ⟨_, rfl, by rw [bs_size]; exact H⟩
theorem r_slcB {l : List UInt8} {k : IntKind} {z : Int} {j : Nat} {K : Value → Prop} (hz : z = j) (hj : j ≤ l.length) (H : K (.string (bs (l.take j)))) : slcS (.string (bs l)) none (some (.int k z)) K := by
  subst hz
  refine ⟨bs l, 0, j, rfl, ⟨k, j, rfl, by omega, by rw [bs_size]; omega, by simp⟩, rfl, ?_⟩
  have e : (bs l).extract 0 j = bs (l.take j) := by
    apply ByteArray.ext
    rw [ByteArray.data_extract]
    show l.toArray.extract 0 j = (l.take j).toArray
    simp
  rw [e]; exact H
theorem r_idxB {l : List UInt8} {k : IntKind} {z : Int} {j : Nat} {K : Value → Prop} (hz : z = j) (hj : j < l.length) (H : K (.int .u8 (l[j]).toNat)) : idxS (.string (bs l)) (.int k z) K := by
  subst hz
  have hb : j < (bs l).size := by rw [bs_size]; exact hj
  refine ⟨bs l, k, j, l[j], rfl, rfl, by omega, ?_, H⟩
  rw [Int.toNat_natCast, getElem?_pos (bs l) j hb]
  rfl
theorem Begins_ok {a b : List UInt8} (H : Q (.bool (decide (b <+: a))) h) : s_Begins.call #[.string (bs a), .string (bs b)] h Q := by
  refine s_Begins.body _ _ _ _ ?_
  unfold s_Begins.sh
  refine r_lenB ?_
  refine r_lenB ?_
  refine r_cmpI ?_
  refine r_br (fun e => ?_) (fun e => ?_)
  · have e : b.length ≤ a.length := by have := of_decide_eq_true e; omega
    refine r_lenB ?_
    refine r_slcB rfl e ?_
    refine r_cmpS ?_
    rw [bs_list, bs_list]
    have : (a.take b.length == b) = decide (b <+: a) := by
      rw [Bool.eq_iff_iff, beq_iff_eq, decide_eq_true_iff, List.prefix_iff_eq_take]
      exact eq_comm
    show Q (.bool (a.take b.length == b)) h
    rw [this]; exact H
  · have e : ¬ b.length ≤ a.length := by have := of_decide_eq_false e; omega
    have : decide (b <+: a) = false := decide_eq_false fun hp => e hp.length_le
    rw [this] at H; exact H
theorem com_drop : ∀ (n : Nat) (a w : List UInt8), n < a.length → n < w.length → com (a.drop n) (w.drop n) = if a[n]? = w[n]? then com (a.drop (n + 1)) (w.drop (n + 1)) + 1 else 0 := fun n a w ha hw => by
  rw [List.drop_eq_getElem_cons ha, List.drop_eq_getElem_cons hw, com, List.getElem?_eq_getElem ha, List.getElem?_eq_getElem hw]
  by_cases h : a[n] = w[n]
  · rw [if_pos h, if_pos (by rw [h])]
  · rw [if_neg h, if_neg (fun e => h (Option.some.inj e))]
theorem com_end (n : Nat) (a w : List UInt8) (h : ¬ (n < a.length ∧ n < w.length)) : com (a.drop n) (w.drop n) = 0 := by
  by_cases ha : n < a.length
  · have hw : w.length ≤ n := by omega
    rw [List.drop_of_length_le hw]
    cases a.drop n <;> rfl
  · rw [List.drop_of_length_le (by omega)]
    cases w.drop n <;> rfl
theorem common_ok {a w : List UInt8} (ha : a.length ≤ 4611686018427387903) (H : Q (.int .i64 (com a w : Nat)) h) : l_common.call #[.string (bs a), .string (bs w)] h Q := by
  refine l_common.body _ _ _ _ ?_
  unfold l_common.sh
  refine loop_ghost (fun q st h' => ∃ (n : Nat), q = a.length - n ∧ n ≤ a.length ∧ st = [.int .i64 (n : Nat)] ∧ h' = h ∧ com (a.drop n) (w.drop n) + n = com a w) (n0 := a.length) ⟨0, rfl, Nat.zero_le _, rfl, rfl, rfl⟩ ?_
  rintro q st g ⟨n, rfl, hn, rfl, rfl, e⟩ K HK
  have stop : ¬ (n < a.length ∧ n < w.length ∧ a[n]? = w[n]?) → l_common.j1 (.int .i64 (n : Nat)) g Q := fun hno => by
    unfold l_common.j1
    have : com (a.drop n) (w.drop n) = 0 := by
      by_cases hc : n < a.length ∧ n < w.length
      · rw [com_drop n a w hc.1 hc.2, if_neg fun he => hno ⟨hc.1, hc.2, he⟩]
      · exact com_end n a w hc
    rw [← e, this, Nat.zero_add] at H; exact H
  unfold l_common.l2.b
  refine r_lenB ?_
  refine r_cmpI ?_
  refine r_br (fun h1 => ?_) (fun h1 => ?_)
  · have h1 : n < a.length := by have := of_decide_eq_true h1; omega
    refine r_lenB ?_
    refine r_cmpI ?_
    refine r_br (fun h2 => ?_) (fun h2 => ?_)
    · have h2 : n < w.length := by have := of_decide_eq_true h2; omega
      refine r_idxB rfl h1 ?_
      refine r_idxB rfl h2 ?_
      refine r_cmpI ?_
      refine r_if (fun h3 => ?_) (fun h3 => ?_)
      · have h3 : a[n] = w[n] := by
          have : ((a[n].toNat : Nat) : Int) = (w[n].toNat : Nat) := by simpa using h3
          exact UInt8.toNat_inj.1 (by omega)
        unfold l_common.j3
        refine r_add1 (by omega) ?_
        refine HK (a.length - (n + 1)) _ _ (by omega) ⟨n + 1, rfl, h1, rfl, rfl, ?_⟩
        rw [← e, com_drop n a w h1 h2, if_pos (by rw [List.getElem?_eq_getElem h1, List.getElem?_eq_getElem h2, h3])]
        omega
      · refine stop fun hc => ?_
        have h4 := hc.2.2
        rw [List.getElem?_eq_getElem h1, List.getElem?_eq_getElem h2] at h4
        rw [Option.some.inj h4] at h3
        simp at h3
    · exact stop fun hc => by have := of_decide_eq_false h2; omega
  · exact stop fun hc => by have := of_decide_eq_false h1; omega
/-- A bit, the first ones being the highest. -/
def bit (x i : Nat) : UInt8 := if x / 2 ^ (15 - i) % 2 = 1 then 49 else 48
def bitL (x n : Nat) : List UInt8 := (List.range n).map (bit x)
theorem bitL_len (x n : Nat) : (bitL x n).length = n := by unfold bitL; rw [List.length_map, List.length_range]
theorem bitL_succ (x n : Nat) : bitL x (n + 1) = bitL x n ++ [bit x n] := by unfold bitL; rw [List.range_succ, List.map_append]; rfl
theorem and1 {m : Nat} (hm : m ≤ 65535) : IntKind.u16.wrap ((BitVec.ofInt IntKind.u16.bits (m : Int) &&& BitVec.ofInt IntKind.u16.bits 1).toNat : Int) = ((m % 2 : Nat) : Int) := by
  have hb : IntKind.u16.bits = 16 := rfl
  rw [hb, BitVec.toNat_and]
  have e1 : (BitVec.ofInt 16 (m : Int)).toNat = m := by rw [BitVec.toNat_ofInt]; omega
  have e2 : (BitVec.ofInt 16 1).toNat = 1 := rfl
  rw [e1, e2, Nat.and_one_is_mod]
  exact IntWalk.u16_in _ ⟨by omega, by omega⟩
theorem Bits_ok {x n : Nat} (hx : x ≤ 65535) (hn : n ≤ 16) (H : Q (.string (bs (bitL x n))) h) : s_Bits.call #[.int .u16 (x : Nat), .int .i64 (n : Nat)] h Q := by
  refine s_Bits.body _ _ _ _ ?_
  unfold s_Bits.sh
  refine loop_ghost (fun q st h' => ∃ (j : Nat), q = n - j ∧ j ≤ n ∧ st = [.string (bs (bitL x j)), .int .i64 (j : Nat)] ∧ h' = h) (n0 := n) ⟨0, rfl, Nat.zero_le _, rfl, rfl⟩ ?_
  rintro q st g ⟨j, rfl, hj, rfl, rfl⟩ K HK
  unfold s_Bits.l2.b
  refine r_cmpI ?_
  refine r_if (fun hlt => ?_) (fun hge => ?_)
  · have hlt : j < n := by have := of_decide_eq_true hlt; omega
    unfold s_Bits.j3
    refine r_sub (z := ((15 - j : Nat) : Int)) (by rw [i64w (by omega) (by omega)]; omega) ?_
    have hm : x / 2 ^ (15 - j) ≤ 65535 := Nat.le_trans (Nat.div_le_self _ _) hx
    refine r_shr (z := ((x / 2 ^ (15 - j) : Nat) : Int)) (by omega) (by
      have hb : IntKind.u16.bits = 16 := rfl
      rw [hb, Int.toNat_natCast, Nat.min_eq_left (by omega), Int.fdiv_eq_ediv_of_nonneg _ (by exact Int.pow_nonneg (by decide)), Int.natCast_ediv, Int.natCast_pow]; rfl) ?_
    refine r_andG (and1 hm) ?_
    generalize hq : x / 2 ^ (15 - j) = m at *
    have hbit : bit x j = if m % 2 = 1 then 49 else 48 := by unfold bit; rw [hq]
    refine r_add (z := ((48 + m % 2 : Nat) : Int)) (by rw [IntWalk.u16_in _ ⟨by omega, by omega⟩]; omega) ?_
    refine r_cvI (z := ((48 + m % 2 : Nat) : Int)) (IntWalk.i32_in _ ⟨by omega, by omega⟩) ?_
    refine r_i2s ?_
    have henc : Utf8.encode ((48 + m % 2 : Nat) : Int) = bs [bit x j] := by
      rw [hbit]
      rcases Nat.mod_two_eq_zero_or_one m with h0 | h0
      · rw [h0]; decide +kernel
      · rw [h0]; decide +kernel
    rw [henc]
    refine r_catS (by rw [bs_size, bs_size, bitL_len]; simp; omega) ?_
    rw [bs_app, ← bitL_succ]
    unfold s_Bits.j4
    refine r_add1 (by omega) ?_
    exact HK (n - (j + 1)) _ _ (by omega) ⟨j + 1, rfl, hlt, rfl, rfl⟩
  · have hge : j = n := by have := of_decide_eq_false hge; omega
    subst hge
    unfold s_Bits.j1
    exact H
/-- A route's cells and its key. -/
def fr (r : Int × Int) : List Value := [.int .u16 r.1, .int .u8 r.2]
theorem frl (r : Int × Int) : (fr r).length = 2 := rfl
theorem fr1 (r : Int × Int) : ∀ y ∈ fr r, one1 y = true := by simp [fr, one1]
def kb (r : Int × Int) : List UInt8 := bitL r.1.toNat (r.2 % 17).toNat
def okR (r : Int × Int) : Prop := (0 ≤ r.1 ∧ r.1 ≤ 65535) ∧ 0 ≤ r.2 ∧ r.2 ≤ 255
theorem Key_ok {r : Int × Int} (hr : okR r) (H : ∀ E' h', St h [] E' h' → Q (.string (bs (kb r))) h') : s_Route_Key.call #[.agg (fr r).toArray] h Q := by
  refine s_Route_Key.body _ _ _ ?_
  unfold s_Route_Key.sh
  refine St.r_box (cs := fr r) (St.start h) fun t1 h1 s => ?_
  refine r_fld ?_
  refine St.r_load0 s 0 rfl rfl ?_
  refine r_fld ?_
  refine St.r_load0 s 0 rfl rfl ?_
  obtain ⟨⟨a1, a2⟩, b1, b2⟩ := hr
  have key := H _ h1 s
  unfold kb at key
  obtain ⟨x, y⟩ := r
  have a1 : @LE.le Int _ 0 x := a1
  have a2 : @LE.le Int _ x 65535 := a2
  have b1 : @LE.le Int _ 0 y := b1
  have b2 : @LE.le Int _ y 255 := b2
  refine r_remN b1 (by decide) ?_
  refine r_cvI (z := y % 17) (i64w (by omega) (by omega)) ?_
  have e1 : ((x.toNat : Nat) : Int) = x := Int.toNat_of_nonneg a1
  have e2 : (((y % 17).toNat : Nat) : Int) = y % 17 := Int.toNat_of_nonneg (by omega)
  have hb := Bits_ok (Q := Q) (h := h1) (x := x.toNat) (n := (y % 17).toNat) (by omega) (by omega) key
  rw [e1, e2] at hb
  exact hb
/-- The reference's look at all routes. -/
theorem Routed_ok {l : List (Int × Int)} {v : Value} {x : Nat} (hx : x ≤ 65535) (hb : ∀ r ∈ l, okR r) (hl : l.length ≤ 2147483647) (hr : Rdl 2 h v l.length (l.flatMap fr))
    (H : ∀ E' h', St h [] E' h' → Q (.int .i64 (rtd (l.map kb) (bitL x 16) l.length)) h') : s_Routed.call #[v, .int .u16 (x : Nat)] h Q := by
  refine s_Routed.body _ _ _ _ ?_
  unfold s_Routed.sh
  refine hr.lenV ?_
  refine loop_ghost (fun q st h' => ∃ (j : Nat) (E' : List Rg), q = l.length - j ∧ j ≤ l.length ∧ st = [.int .i64 (rtd (l.map kb) (bitL x 16) j), .int .i64 (j : Nat)] ∧ St h [] E' h') (n0 := l.length) ⟨0, [], rfl, Nat.zero_le _, rfl, St.start h⟩ ?_
  rintro q st g ⟨j, E', rfl, hj, rfl, s⟩ K HK
  unfold s_Routed.l2.b
  refine r_cmpI ?_
  refine r_if (fun hlt => ?_) (fun hge => ?_)
  · have hlt : j < l.length := by have := of_decide_eq_true hlt; omega
    have hkj : (l.map kb)[j]?.getD [] = kb l[j] := by rw [List.getElem?_map, List.getElem?_eq_getElem hlt]; rfl
    have hd := rtd_ok (l.map kb) (bitL x 16) j
    have hsucc : rtd (l.map kb) (bitL x 16) (j + 1) = if kb l[j] <+: bitL x 16 ∧ (rtd (l.map kb) (bitL x 16) j < 0 ∨ ((l.map kb)[(rtd (l.map kb) (bitL x 16) j).toNat]?.getD []).length ≤ (kb l[j]).length) then (j : Int) else rtd (l.map kb) (bitL x 16) j := by rw [rtd, hkj]
    have okj := hb _ (List.getElem_mem hlt)
    unfold s_Routed.j3
    refine (hr.st s).at (f := fr) (n := j) rfl frl rfl rfl hlt fun b o hbb => ?_
    refine hbb.loadN rfl ?_
    generalize hz : l[j] = z at *
    generalize rtd (l.map kb) (bitL x 16) j = o1 at *
    refine s.r_alloc fun t7 h1 s => ?_
    refine St.r_storeN0 s 0 rfl rfl (by simp) (fr1 _) ?_; intro h1 s
    have s : St h [] ((t7, 0, fr z) :: E') h1 := s
    refine St.r_loadN0 s 0 rfl (by simp [fr]) ?_
    refine Bits_ok hx (Nat.le_refl 16) ?_
    refine ⟨St.r_stillN0 s 0 rfl (by simp [fr]) rfl, ?_⟩
    refine Key_ok okj fun E2 h2 s2 => ?_
    have s := s.join s2
    refine Begins_ok ?_
    have fin : ∀ {E3 : List Rg} {h3 : Heap} {o2 : Int}, St h [] E3 h3 → o2 = rtd (l.map kb) (bitL x 16) (j + 1) → s_Routed.j4 v (.int .u16 (x : Nat)) (.int .i64 o2) v (.int .i64 (l.length : Nat)) (.int .i64 (j : Nat)) h3 K Q := fun {E3 h3 o2} s3 e => by
      subst e
      unfold s_Routed.j4
      refine r_add1 (by omega) ?_
      exact HK (l.length - (j + 1)) _ _ (by omega) ⟨j + 1, _, rfl, hlt, rfl, s3⟩
    refine r_br (fun hp => ?_) (fun hp => ?_)
    · have hp : kb z <+: bitL x 16 := of_decide_eq_true hp
      refine r_cmpI ?_
      refine r_br (fun hn => ?_) (fun hn => ?_)
      · have hn : ¬ o1 < 0 := of_decide_eq_false hn
        have ho : ∃ i : Nat, i < j ∧ o1 = (i : Int) := by
          rcases hd with ⟨e, _⟩ | ⟨i, hi, e, _⟩
          · omega
          · exact ⟨i, hi, e⟩
        obtain ⟨i, hi, rfl⟩ := ho
        have hil : i < l.length := by omega
        have hki : (l.map kb)[((i : Nat) : Int).toNat]?.getD [] = kb l[i] := by rw [Int.toNat_natCast, List.getElem?_map, List.getElem?_eq_getElem hil]; rfl
        rw [hki] at hsucc
        have s' : St h [] ((t7, 0, fr z) :: (E' ++ E2)) h2 := s.perm (by ((apply perm_rg; intro f; simp only [List.set_cons_zero, List.set_cons_succ, List.eraseIdx_cons_zero, List.eraseIdx_cons_succ, List.cons_append, List.nil_append, List.map_append, List.map_cons, List.map_nil, List.sum_append, List.sum_cons, List.sum_nil, List.map_flatMap, Nat.add_zero, Nat.zero_add]; ac_rfl)))
        refine St.r_loadN0 s' 0 rfl (by simp [fr]) ?_
        refine (hr.st s').at (f := fr) (n := i) rfl frl rfl rfl hil fun b3 o3 hb3 => ?_
        refine hb3.loadN rfl ?_
        refine Key_ok okj fun E3 h3 s3 => ?_
        refine ⟨(hb3.st s3).stillN rfl, ?_⟩
        refine r_lenB ?_
        have s' := s'.join s3
        refine Key_ok (hb _ (List.getElem_mem hil)) fun E4 h4 s4 => ?_
        have s' := s'.join s4
        refine r_lenB ?_
        refine r_cmpI ?_
        refine r_if (fun hg => ?_) (fun hg => ?_)
        · have hg : (kb l[i]).length ≤ (kb z).length := by have := of_decide_eq_true hg; omega
          exact fin s' (by rw [hsucc, if_pos ⟨hp, .inr hg⟩])
        · have hg : ¬ (kb l[i]).length ≤ (kb z).length := by have := of_decide_eq_false hg; omega
          exact fin s' (by rw [hsucc, if_neg fun hc => hg (hc.2.resolve_left (by omega))])
      · have hn : o1 < 0 := of_decide_eq_true hn
        exact fin s (by rw [hsucc, if_pos ⟨hp, .inl hn⟩])
    · have hp : ¬ kb z <+: bitL x 16 := of_decide_eq_false hp
      exact fin s (by rw [hsucc, if_neg fun hc => hp hc.1])
  · have hge : j = l.length := by have := of_decide_eq_false hge; omega
    subst hge
    unfold s_Routed.j1
    exact H _ g s
/-- A number's string: its bytes, the highest first. -/
def byt (u j : Nat) : UInt8 := UInt8.ofNat (u / 2 ^ (8 * j))
def tl (u : Nat) : Nat → List UInt8
  | 0 => []
  | j + 1 => byt u j :: tl u j
theorem tl_len (u : Nat) : ∀ j, (tl u j).length = j
  | 0 => rfl
  | j + 1 => by rw [tl, List.length_cons, tl_len u j]
def num (n : Int) : List UInt8 := tl (IntKind.u64.wrap ((BitVec.ofInt IntKind.u64.bits (IntKind.u64.wrap n) ^^^ BitVec.ofInt IntKind.u64.bits 9223372036854775808).toNat)).toNat 8
theorem set_fu {M : List UInt8} {i : Nat} {y : UInt8} (hi : i < M.length) : (M.flatMap fu ++ []).set (i * 1) (.int .u8 y.toNat) = (M.set i y).flatMap fu ++ [] := by
  rw [List.append_nil, List.append_nil, Nat.mul_one]
  have e : ∀ N : List UInt8, N.flatMap fu = N.map fun b => Value.int .u8 b.toNat := fun N => List.map_eq_flatMap.symm
  rw [e, e, List.map_set]
theorem Number_ok {n : Int} (H : ∀ E' h', St h [] E' h' → Q (.string (bs (num n))) h') : s_Number.call #[.int .i64 n] h Q := by
  refine s_Number.body _ _ _ ?_
  unfold s_Number.sh
  refine r_cvI rfl ?_
  refine r_xor ?_
  unfold num at H
  generalize hU : IntKind.u64.wrap ((BitVec.ofInt IntKind.u64.bits (IntKind.u64.wrap n) ^^^ BitVec.ofInt IntKind.u64.bits 9223372036854775808).toNat) = U at *
  have hU0 : 0 ≤ U := by rw [← hU]; exact Int.emod_nonneg _ (by decide)
  obtain ⟨u, rfl⟩ : ∃ u : Nat, U = u := ⟨U.toNat, by omega⟩
  rw [Int.toNat_natCast] at H
  clear hU
  refine St.r_mks (n := 8) (m := 8) (St.start h) rfl (by decide) (by decide) (by decide) fun v b h1 s w => ?_
  have ez : zeros [Value.int .u8 0] 8 = ((List.replicate (8 - 0) (0 : UInt8) ++ tl u 0).flatMap fu) := by kernel_rfl
  have ez2 : zeros [Value.int .u8 0] (8 - 8) = [] := by kernel_rfl
  rw [ez, ez2] at s w
  refine loop_ghost (fun q st h' => ∃ (j : Nat), q = 8 - j ∧ j ≤ 8 ∧ st = [.int .i64 (j : Nat)] ∧ St h [] ((b, 0, (List.replicate (8 - j) (0 : UInt8) ++ tl u j).flatMap fu ++ []) :: []) h') (n0 := 8) ⟨0, rfl, Nat.zero_le _, rfl, s⟩ ?_
  have hw : ∀ j, j ≤ 8 → Own 1 v (List.replicate (8 - j) (0 : UInt8) ++ tl u j).length b 0 ((List.replicate (8 - j) (0 : UInt8) ++ tl u j).flatMap fu) [] := fun j hj => by
    have hl : (List.replicate (8 - j) (0 : UInt8) ++ tl u j).length = 8 := by rw [List.length_append, List.length_replicate, tl_len]; omega
    rw [hl]
    exact w.cong (by rw [flat_len (sz := 1) ful, flat_len (sz := 1) ful, hl]; rfl)
  clear s
  rintro q st g ⟨j, rfl, hj, rfl, s⟩ K HK
  have wj := hw j hj
  unfold s_Number.l2.b
  refine r_cmpI ?_
  refine r_if (fun hlt => ?_) (fun hge => ?_)
  · have hlt : j < 8 := by have : ((j : Nat) : Int) < 8 := of_decide_eq_true hlt; omega
    unfold s_Number.j3
    refine r_sub (z := ((7 - j : Nat) : Int)) (by rw [i64w (by omega) (by omega)]; omega) ?_
    refine r_mulI (by omega) (by omega) ?_
    refine r_shr (z := ((u / 2 ^ (8 * j) : Nat) : Int)) (by omega) (by
      have hb : IntKind.u64.bits = 64 := rfl
      rw [hb, show (8 * ((j : Nat) : Int)).toNat = 8 * j by omega, Nat.min_eq_left (by omega), Int.fdiv_eq_ediv_of_nonneg _ (by exact Int.pow_nonneg (by decide)), Int.natCast_ediv, Int.natCast_pow]; rfl) ?_
    refine r_cvI (z := (((byt u j).toNat : Nat) : Int)) (by
      rw [IntKind.wrap_u8]; unfold byt; rw [UInt8.toNat_ofNat', Int.natCast_emod]; rfl) ?_
    have hl : (List.replicate (8 - j) (0 : UInt8) ++ tl u j).length = 8 := by rw [List.length_append, List.length_replicate, tl_len]; omega
    refine wj.idx (n := 7 - j) rfl (by rw [hl]; omega) ?_
    refine St.r_store1 s 0 rfl (by rw [List.append_nil, flat_len (sz := 1) ful, hl]; omega) rfl ?_; intro h s
    have eM : (List.replicate (8 - j) (0 : UInt8) ++ tl u j).set (7 - j) (byt u j) = List.replicate (8 - (j + 1)) (0 : UInt8) ++ tl u (j + 1) := by
      have e1 : 8 - j = (7 - j) + 1 := by omega
      have e2 : 8 - (j + 1) = 7 - j := by omega
      rw [e1, e2, List.replicate_succ', List.append_assoc, List.set_append_right _ _ (by rw [List.length_replicate]; exact Nat.le_refl _), List.length_replicate, Nat.sub_self]
      rfl
    have s : St _ [] ((b, 0, ((List.replicate (8 - j) (0 : UInt8) ++ tl u j).flatMap fu ++ []).set ((7 - j) * 1) (.int .u8 ((byt u j).toNat : Nat))) :: []) h := s
    rw [set_fu (by rw [hl]; omega), eM] at s
    unfold s_Number.j4
    refine r_add1 (by omega) ?_
    exact HK (8 - (j + 1)) _ _ (by omega) ⟨j + 1, rfl, hlt, rfl, s⟩
  · have hge : j = 8 := by have : ¬ ((j : Nat) : Int) < 8 := of_decide_eq_false hge; omega
    subst hge
    unfold s_Number.j1
    have e8 : List.replicate (8 - 8) (0 : UInt8) ++ tl u 8 = tl u 8 := by rfl
    rw [e8] at wj s
    refine r_bstr (wj.rdl s 0 rfl) ?_
    exact H _ g s
end Go.Proofs.Ytdpkpcmoabfofaa.Si
end
section
namespace Go.Proofs.Ytdpkpcmoabfofaa.Si
open Go.Hp Go.Proofs.Ytdpkpcmoabfofaa
set_option linter.unusedVariables false
set_option linter.unusedSimpArgs false
variable {h0 h : Heap} {Z E : List Rg} {Q : Value → Heap → Prop}

/-- A step: what is done, the key, the value, how many. -/
abbrev Stw := Int × KT × Int × Int
def encW (x : Stw) : List Value := [.int .i64 x.1, .int .i64 0, .string x.2.1, .int .i64 x.2.2.1, .int .i64 x.2.2.2, .bool false]
theorem encWl (x : Stw) : (encW x).length = 6 := rfl
theorem encW1 (x : Stw) : ∀ y ∈ encW x, one1 y = true := by simp [encW, one1]
/-- The list behind a step, what it hands on. -/
def nxW (L : List It) (x : Stw) : List It := if x.1 = 0 then lput lt L (x.2.1, x.2.2.1) else L
def rpW (L : List It) (x : Stw) : List It :=
  if x.1 = 16 then firstN (L.drop (pos lt L (x.2.1, 0))) x.2.2.2 else if x.1 = 17 then firstN (L.filter fun y => !lt (x.2.1, 0) y).reverse x.2.2.2 else []
def OkW (x : Stw) : Prop := x.1 = 0 ∨ x.1 = 16 ∨ x.1 = 17
theorem wordOfV_ok {p : It} {b : Bool} (H : ∀ q E' h', St h [] E' h' → Q (.tuple #[.agg (encA q).toArray, .bool b]) h') : i_wordOf.call #[kv p.1, vv p.2, .bool b] h Q := by
  refine i_wordOf.body _ _ _ _ _ ?_
  unfold i_wordOf.sh
  refine (St.start h).r_alloc fun t6 h1 s => ?_
  refine r_not ?_
  cases b with
  | false =>
    refine r_if (fun _ => ?_) (fun e => absurd e (by simp))
    refine r_build (cs := encA emp) rfl ?_
    refine St.r_storeN0 s 0 rfl rfl (by simp) (encA1 emp) ?_; intro h1 s
    refine St.r_loadN0 s 0 rfl (by simp) ?_
    exact H emp _ _ s
  | true =>
    refine r_if (fun e => absurd e (by simp)) (fun _ => ?_)
    unfold i_wordOf.j1
    refine r_build (cs := encA p) rfl ?_
    refine St.r_storeN0 s 0 rfl rfl (by simp) (encA1 p) ?_; intro h1 s
    refine St.r_loadN0 s 0 rfl (by simp) ?_
    exact H p _ _ s
theorem allWordsV_ok {g : Rt} {tb m : Nat} {iso cnt mn mx : Int} {ctr : Option Addr} (M : MapOk m iso g) (hl : (rPt g).items.length ≤ 4294967295) (s : St h0 Z ((tb, 0, hdr iso ctr (rA g) cnt mn mx) :: (rAll g ++ E)) h)
    (H : ∀ v b o sp F h', Own 2 v (rPt g).items.length b o ((rPt g).items.flatMap encA) sp → St h0 Z ((tb, 0, hdr iso ctr (rA g) cnt mn mx) :: (rAll g ++ ((b, o, (rPt g).items.flatMap encA ++ sp) :: (F ++ E)))) h' → Q v h') : i_allWords.call #[ptr tb 0] h Q := by
  refine i_allWords.body _ _ _ ?_
  unfold i_allWords.sh
  refine s.r_alloc fun t3 h s => ?_
  refine kept_ok (n := 0) (E := E) M hl (s.perm (by ((apply perm_rg; intro f; simp only [List.set_cons_zero, List.set_cons_succ, List.eraseIdx_cons_zero, List.eraseIdx_cons_succ, List.cons_append, List.nil_append, List.map_append, List.map_cons, List.map_nil, List.sum_append, List.sum_cons, List.sum_nil, List.map_flatMap, Nat.add_zero, Nat.zero_add]; ac_rfl)))) fun v b o sp h s1 s => ?_
  have e0 : firstN (rPt g).items 0 = (rPt g).items := by unfold firstN; rw [if_pos (.inl (by decide))]
  rw [e0] at s1 s
  refine St.r_load0 s 0 rfl rfl ?_
  exact H v b o sp [(t3, 0, [v])] h s1 (s.perm (by ((apply perm_rg; intro f; simp only [List.set_cons_zero, List.set_cons_succ, List.eraseIdx_cons_zero, List.eraseIdx_cons_succ, List.cons_append, List.nil_append, List.map_append, List.map_cons, List.map_nil, List.sum_append, List.sum_cons, List.sum_nil, List.map_flatMap, Nat.add_zero, Nat.zero_add]; ac_rfl))))
theorem handedWA_ok {d tb m : Nat} {g : Rt} {k : KT} {w n : Int} (M : MapOk m 0 g) (hl : (rPt g).items.length ≤ 4294967295) (s : St h0 Z ((tb, 0, hdr 0 none (rA g) (rPt g).items.length ((d - 1 : Nat) : Int) ((2 * d - 1 : Nat) : Int)) :: (rAll g ++ E)) h)
    (H : ∀ v b o sp F h', Own 2 v (firstN ((rPt g).items.drop (pos lt (rPt g).items (k, 0))) n).length b o ((firstN ((rPt g).items.drop (pos lt (rPt g).items (k, 0))) n).flatMap encA) sp → St h0 Z ((tb, 0, hdr 0 none (rA g) (rPt g).items.length ((d - 1 : Nat) : Int) ((2 * d - 1 : Nat) : Int)) :: (rAll g ++ ((b, o, (firstN ((rPt g).items.drop (pos lt (rPt g).items (k, 0))) n).flatMap encA ++ sp) :: (F ++ E)))) h' → Q v h') : i_handedWords.call #[ptr tb 0, .agg (encW (16, k, w, n)).toArray] h Q := by
  refine i_handedWords.body _ _ _ _ ?_
  unfold i_handedWords.sh
  refine St.r_box (cs := encW (16, k, w, n)) s fun t3 h s => ?_
  refine s.r_alloc fun t5 h s => ?_
  refine r_fld ?_
  refine St.r_load0 s 1 rfl rfl ?_
  refine pairs_ok s fun t2 t4 t6 h s => ?_
  refine r_fld ?_
  refine St.r_load0 s 4 rfl rfl ?_
  refine r_cmpI ?_
  refine r_br (fun e => absurd e (by simp)) (fun _ => ?_)
  refine r_fld ?_
  refine St.r_load0 s 4 rfl rfl ?_
  refine r_cmpI ?_
  refine r_if (fun e => absurd e (by simp)) (fun _ => ?_)
  refine r_fld ?_
  refine St.r_load0 s 4 rfl rfl ?_
  refine r_cmpI ?_
  refine r_br (fun e => absurd e (by simp)) (fun _ => ?_)
  refine r_fld ?_
  refine St.r_load0 s 4 rfl rfl ?_
  refine r_cmpI ?_
  refine r_if (fun e => absurd e (by simp)) (fun _ => ?_)
  refine r_fld ?_
  refine St.r_load0 s 4 rfl rfl ?_
  refine r_cmpI ?_
  refine r_br (fun _ => ?_) (fun e => absurd e (by simp))
  refine r_fld ?_
  refine St.r_load0 s 4 rfl rfl ?_
  refine r_if (fun e => absurd e (by simp)) (fun _ => ?_)
  refine r_fld ?_
  refine St.r_load0 s 4 rfl rfl ?_
  refine r_cmpI ?_
  refine r_if (fun _ => ?_) (fun e => absurd e (by simp))
  refine r_fld (r_fld ?_)
  refine St.r_load0 s 4 rfl rfl ?_
  refine keptA2_ok (t2 := t2) (t3 := t4) (t5 := t6) (t7 := t5) (n := n) (cnt := (rPt g).items.length) (mn := ((d - 1 : Nat) : Int)) (mx := ((2 * d - 1 : Nat) : Int)) (ctr := none) (x := (k, 0)) (E := (t3, 0, encW (16, k, w, n)) :: E) M hl (s.perm (by ((apply perm_rg; intro f; simp only [List.set_cons_zero, List.set_cons_succ, List.eraseIdx_cons_zero, List.eraseIdx_cons_succ, List.cons_append, List.nil_append, List.map_append, List.map_cons, List.map_nil, List.sum_append, List.sum_cons, List.sum_nil, List.map_flatMap, Nat.add_zero, Nat.zero_add]; ac_rfl)))) fun v b o sp h w1 s => ?_
  unfold i_handedWords.j1
  refine St.r_load0 s 0 rfl rfl ?_
  exact H v b o sp ((t5, 0, [v]) :: (t3, 0, encW (16, k, w, n)) :: []) h w1 (s.perm (by ((apply perm_rg; intro f; simp only [List.set_cons_zero, List.set_cons_succ, List.eraseIdx_cons_zero, List.eraseIdx_cons_succ, List.cons_append, List.nil_append, List.map_append, List.map_cons, List.map_nil, List.sum_append, List.sum_cons, List.sum_nil, List.map_flatMap, Nat.add_zero, Nat.zero_add]; ac_rfl))))
theorem handedWD_ok {d tb m : Nat} {g : Rt} {k : KT} {w n : Int} (M : MapOk m 0 g) (hl : (rPt g).items.length ≤ 4294967295) (s : St h0 Z ((tb, 0, hdr 0 none (rA g) (rPt g).items.length ((d - 1 : Nat) : Int) ((2 * d - 1 : Nat) : Int)) :: (rAll g ++ E)) h)
    (H : ∀ v b o sp F h', Own 2 v (firstN ((rPt g).items.filter fun y => !lt (k, 0) y).reverse n).length b o ((firstN ((rPt g).items.filter fun y => !lt (k, 0) y).reverse n).flatMap encA) sp → St h0 Z ((tb, 0, hdr 0 none (rA g) (rPt g).items.length ((d - 1 : Nat) : Int) ((2 * d - 1 : Nat) : Int)) :: (rAll g ++ ((b, o, (firstN ((rPt g).items.filter fun y => !lt (k, 0) y).reverse n).flatMap encA ++ sp) :: (F ++ E)))) h' → Q v h') : i_handedWords.call #[ptr tb 0, .agg (encW (17, k, w, n)).toArray] h Q := by
  refine i_handedWords.body _ _ _ _ ?_
  unfold i_handedWords.sh
  refine St.r_box (cs := encW (17, k, w, n)) s fun t3 h s => ?_
  refine s.r_alloc fun t5 h s => ?_
  refine r_fld ?_
  refine St.r_load0 s 1 rfl rfl ?_
  refine pairs_ok s fun t2 t4 t6 h s => ?_
  refine r_fld ?_
  refine St.r_load0 s 4 rfl rfl ?_
  refine r_cmpI ?_
  refine r_br (fun e => absurd e (by simp)) (fun _ => ?_)
  refine r_fld ?_
  refine St.r_load0 s 4 rfl rfl ?_
  refine r_cmpI ?_
  refine r_if (fun e => absurd e (by simp)) (fun _ => ?_)
  refine r_fld ?_
  refine St.r_load0 s 4 rfl rfl ?_
  refine r_cmpI ?_
  refine r_br (fun e => absurd e (by simp)) (fun _ => ?_)
  refine r_fld ?_
  refine St.r_load0 s 4 rfl rfl ?_
  refine r_cmpI ?_
  refine r_if (fun e => absurd e (by simp)) (fun _ => ?_)
  refine r_fld ?_
  refine St.r_load0 s 4 rfl rfl ?_
  refine r_cmpI ?_
  refine r_br (fun e => absurd e (by simp)) (fun _ => ?_)
  refine r_fld ?_
  refine St.r_load0 s 4 rfl rfl ?_
  refine r_cmpI ?_
  refine r_if (fun e => absurd e (by simp)) (fun _ => ?_)
  refine r_fld ?_
  refine St.r_load0 s 4 rfl rfl ?_
  refine r_cmpI ?_
  refine r_br (fun _ => ?_) (fun e => absurd e (by simp))
  refine r_fld ?_
  refine St.r_load0 s 4 rfl rfl ?_
  refine r_if (fun e => absurd e (by simp)) (fun _ => ?_)
  refine r_fld ?_
  refine St.r_load0 s 4 rfl rfl ?_
  refine r_cmpI ?_
  refine r_if (fun _ => ?_) (fun e => absurd e (by simp))
  refine r_fld (r_fld ?_)
  refine St.r_load0 s 4 rfl rfl ?_
  refine keptD2_ok (t2 := t2) (t3 := t4) (t5 := t6) (t7 := t5) (n := n) (cnt := (rPt g).items.length) (mn := ((d - 1 : Nat) : Int)) (mx := ((2 * d - 1 : Nat) : Int)) (ctr := none) (x := (k, 0)) (E := (t3, 0, encW (17, k, w, n)) :: E) M hl (s.perm (by ((apply perm_rg; intro f; simp only [List.set_cons_zero, List.set_cons_succ, List.eraseIdx_cons_zero, List.eraseIdx_cons_succ, List.cons_append, List.nil_append, List.map_append, List.map_cons, List.map_nil, List.sum_append, List.sum_cons, List.sum_nil, List.map_flatMap, Nat.add_zero, Nat.zero_add]; ac_rfl)))) fun v b o sp h w1 s => ?_
  unfold i_handedWords.j1
  refine St.r_load0 s 0 rfl rfl ?_
  exact H v b o sp ((t5, 0, [v]) :: (t3, 0, encW (17, k, w, n)) :: []) h w1 (s.perm (by ((apply perm_rg; intro f; simp only [List.set_cons_zero, List.set_cons_succ, List.eraseIdx_cons_zero, List.eraseIdx_cons_succ, List.cons_append, List.nil_append, List.map_append, List.map_cons, List.map_nil, List.sum_append, List.sum_cons, List.sum_nil, List.map_flatMap, Nat.add_zero, Nat.zero_add]; ac_rfl))))
theorem stepW_ok {d tb : Nat} {g : Rt} {x : Stw} (hd : 2 ≤ d) (M : MapOk (2 * d - 1) 0 g) (hsz : (rPt g).items.length ≤ 2147483647) (ok : OkW x) (s : St h0 Z ((tb, 0, hdr 0 none (rA g) (rPt g).items.length ((d - 1 : Nat) : Int) ((2 * d - 1 : Nat) : Int)) :: (rAll g ++ E)) h)
    (H : ∀ (g' : Rt) q bb v b o sp F h', (rPt g').items = nxW (rPt g).items x → MapOk (2 * d - 1) 0 g' → Own 2 v (rpW (rPt g).items x).length b o ((rpW (rPt g).items x).flatMap encA) sp → St h0 Z ((tb, 0, hdr 0 none (rA g') (rPt g').items.length ((d - 1 : Nat) : Int) ((2 * d - 1 : Nat) : Int)) :: (rAll g' ++ ((b, o, (rpW (rPt g).items x).flatMap encA ++ sp) :: (F ++ E)))) h' → Q (.tuple #[.agg (encA q).toArray, .bool bb, v]) h') :
    i_stepWords.call #[ptr tb 0, .agg (encW x).toArray] h Q := by
  refine i_stepWords.body _ _ _ _ ?_
  unfold i_stepWords.sh
  obtain ⟨dd, k, w, n⟩ := x
  refine St.r_box (cs := encW (dd, k, w, n)) s fun t3 h s => ?_
  refine s.r_alloc fun t4 h s => ?_
  have s : St h0 Z ((t4, 0, encA emp) :: (t3, 0, encW (dd, k, w, n)) :: (tb, 0, hdr 0 none (rA g) (rPt g).items.length ((d - 1 : Nat) : Int) ((2 * d - 1 : Nat) : Int)) :: (rAll g ++ E)) h := s
  have ok : dd = 0 ∨ dd = 16 ∨ dd = 17 := ok
  refine r_fld (r_fld ?_)
  refine St.r_load0 s 1 rfl rfl ?_
  refine r_fld ?_
  refine St.r_load0 s 1 rfl rfl ?_
  rcases ok with rfl | rfl | rfl
  · refine r_cmpI ?_
    refine r_if (fun _ => ?_) (fun e => absurd e (by simp))
    refine r_fld (r_fld ?_)
    refine St.r_load0 s 1 rfl rfl ?_
    refine Set_ok (mn := ((d - 1 : Nat) : Int)) (x := (k, w)) (E := (t4, 0, encA emp) :: (t3, 0, encW (0, k, w, n)) :: E) M (by omega) (by omega) (s.perm (by ((apply perm_rg; intro f; simp only [List.set_cons_zero, List.set_cons_succ, List.eraseIdx_cons_zero, List.eraseIdx_cons_succ, List.cons_append, List.nil_append, List.map_append, List.map_cons, List.map_nil, List.sum_append, List.sum_cons, List.sum_nil, List.map_flatMap, Nat.add_zero, Nat.zero_add]; ac_rfl)))) fun g' h e1 M' s => ?_
    refine r_ext rfl ?_
    refine r_ext rfl ?_
    unfold i_stepWords.j1
    refine wordOfV_ok (p := (k, ((lget lt (rPt g).items (k, w)).getD emp).2)) fun q E2 h s2 => ?_
    have s := (s.join s2).perm List.perm_append_comm
    refine r_ext rfl ?_
    refine r_ext rfl ?_
    refine s.r_alloc fun t13 h s => ?_
    refine St.r_storeN0 s 0 rfl rfl (by simp) (encA1 _) ?_; intro h s
    refine St.r_loadN0 s 0 rfl (by simp) ?_
    have s : St h0 Z ((t13, 0, encA q) :: ((tb, 0, hdr 0 none (rA g') (rPt g').items.length ((d - 1 : Nat) : Int) ((2 * d - 1 : Nat) : Int)) :: (rAll g' ++ ((t4, 0, encA emp) :: (t3, 0, encW (0, k, w, n)) :: E)) ++ E2)) h := s
    have s : St h0 Z ((t4, 0, encA emp) :: (t13, 0, encA q) :: (t3, 0, encW (0, k, w, n)) :: (tb, 0, hdr 0 none (rA g') (rPt g').items.length ((d - 1 : Nat) : Int) ((2 * d - 1 : Nat) : Int)) :: (rAll g' ++ (E2 ++ E))) h := s.perm (by ((apply perm_rg; intro f; simp only [List.set_cons_zero, List.set_cons_succ, List.eraseIdx_cons_zero, List.eraseIdx_cons_succ, List.cons_append, List.nil_append, List.map_append, List.map_cons, List.map_nil, List.sum_append, List.sum_cons, List.sum_nil, List.map_flatMap, Nat.add_zero, Nat.zero_add]; ac_rfl)))
    refine St.r_storeN0 s 0 rfl rfl (by simp) (encA1 _) ?_; intro h s
    refine St.r_loadN0 s 0 rfl (by simp) ?_
    have s : St h0 Z ((t4, 0, encA q) :: (t13, 0, encA q) :: (t3, 0, encW (0, k, w, n)) :: (tb, 0, hdr 0 none (rA g') (rPt g').items.length ((d - 1 : Nat) : Int) ((2 * d - 1 : Nat) : Int)) :: (rAll g' ++ (E2 ++ E))) h := s
    refine H g' q _ (.slice none 0 0) 0 0 [] ((t4, 0, encA q) :: (t13, 0, encA q) :: (t3, 0, encW (0, k, w, n)) :: E2) h (by rw [e1]; exact (MT.set_items swo M.odd M.m3 M.fl M.asc).1) M' (Own.nil 2 0 0) ?_
    exact (s.empty 0 0).perm (by
      show List.Perm ((tb, 0, hdr 0 none (rA g') (rPt g').items.length ((d - 1 : Nat) : Int) ((2 * d - 1 : Nat) : Int)) :: (rAll g' ++ ((0, 0, []) :: ((t4, 0, encA q) :: (t13, 0, encA q) :: (t3, 0, encW (0, k, w, n)) :: (E2 ++ E))))) _
      ((apply perm_rg; intro f; simp only [List.set_cons_zero, List.set_cons_succ, List.eraseIdx_cons_zero, List.eraseIdx_cons_succ, List.cons_append, List.nil_append, List.map_append, List.map_cons, List.map_nil, List.sum_append, List.sum_cons, List.sum_nil, List.map_flatMap, Nat.add_zero, Nat.zero_add]; ac_rfl)))
  · refine r_cmpI ?_
    refine r_if (fun e => absurd e (by simp)) (fun _ => ?_)
    iterate 11
      refine r_cmpI ?_
      refine r_if (fun e => absurd e (by simp)) (fun _ => ?_)
    refine r_build (cs := encA emp) (by ((simp only [fillV, fill1, Value.cells, zeros_succ, zeros_zero, List.size_toArray, List.length_cons, List.length_nil, List.length_append, List.take_succ_cons, List.take_zero, List.take_nil, List.drop_succ_cons, List.drop_zero, List.drop_nil, List.cons_append, List.nil_append, List.append_nil, Nat.reduceAdd, Nat.reduceMul, Nat.reduceLeDiff, Nat.reduceEqDiff, and_self, and_true, true_and, if_true, Nat.le_refl, Nat.zero_add, Nat.add_zero, Nat.zero_mul, reduceIte, if_false] <;> rfl))) ?_
    refine St.r_loadN0 s 1 rfl (Nat.le_refl 6) ?_
    refine handedWA_ok (d := d) (k := k) (w := w) (n := n) (E := (t4, 0, encA emp) :: (t3, 0, encW (16, k, w, n)) :: E) M (by omega) (s.perm (by ((apply perm_rg; intro f; simp only [List.set_cons_zero, List.set_cons_succ, List.eraseIdx_cons_zero, List.eraseIdx_cons_succ, List.cons_append, List.nil_append, List.map_append, List.map_cons, List.map_nil, List.sum_append, List.sum_cons, List.sum_nil, List.map_flatMap, Nat.add_zero, Nat.zero_add]; ac_rfl)))) fun v b o sp F h w1 s => ?_
    have s : St h0 Z ((t4, 0, encA emp) :: (t3, 0, encW (16, k, w, n)) :: (tb, 0, hdr 0 none (rA g) (rPt g).items.length ((d - 1 : Nat) : Int) ((2 * d - 1 : Nat) : Int)) :: (rAll g ++ ((b, o, (firstN ((rPt g).items.drop (pos lt (rPt g).items (k, 0))) n).flatMap encA ++ sp) :: (F ++ E)))) h := s.perm (by ((apply perm_rg; intro f; simp only [List.set_cons_zero, List.set_cons_succ, List.eraseIdx_cons_zero, List.eraseIdx_cons_succ, List.cons_append, List.nil_append, List.map_append, List.map_cons, List.map_nil, List.sum_append, List.sum_cons, List.sum_nil, List.map_flatMap, Nat.add_zero, Nat.zero_add]; ac_rfl)))
    refine St.r_storeN0 s 0 rfl rfl (by simp) (encA1 _) ?_; intro h s
    refine St.r_loadN0 s 0 rfl (by simp) ?_
    have s : St h0 Z ((t4, 0, encA emp) :: (t3, 0, encW (16, k, w, n)) :: (tb, 0, hdr 0 none (rA g) (rPt g).items.length ((d - 1 : Nat) : Int) ((2 * d - 1 : Nat) : Int)) :: (rAll g ++ ((b, o, (firstN ((rPt g).items.drop (pos lt (rPt g).items (k, 0))) n).flatMap encA ++ sp) :: (F ++ E)))) h := s
    exact H g emp false v b o sp ((t4, 0, encA emp) :: (t3, 0, encW (16, k, w, n)) :: F) h rfl M w1 (s.perm (by show List.Perm ((tb, 0, hdr 0 none (rA g) (rPt g).items.length ((d - 1 : Nat) : Int) ((2 * d - 1 : Nat) : Int)) :: (rAll g ++ ((b, o, (firstN ((rPt g).items.drop (pos lt (rPt g).items (k, 0))) n).flatMap encA ++ sp) :: (((t4, 0, encA emp) :: (t3, 0, encW (16, k, w, n)) :: F) ++ E)))) _; ((apply perm_rg; intro f; simp only [List.set_cons_zero, List.set_cons_succ, List.eraseIdx_cons_zero, List.eraseIdx_cons_succ, List.cons_append, List.nil_append, List.map_append, List.map_cons, List.map_nil, List.sum_append, List.sum_cons, List.sum_nil, List.map_flatMap, Nat.add_zero, Nat.zero_add]; ac_rfl))))
  · refine r_cmpI ?_
    refine r_if (fun e => absurd e (by simp)) (fun _ => ?_)
    iterate 11
      refine r_cmpI ?_
      refine r_if (fun e => absurd e (by simp)) (fun _ => ?_)
    refine r_build (cs := encA emp) (by ((simp only [fillV, fill1, Value.cells, zeros_succ, zeros_zero, List.size_toArray, List.length_cons, List.length_nil, List.length_append, List.take_succ_cons, List.take_zero, List.take_nil, List.drop_succ_cons, List.drop_zero, List.drop_nil, List.cons_append, List.nil_append, List.append_nil, Nat.reduceAdd, Nat.reduceMul, Nat.reduceLeDiff, Nat.reduceEqDiff, and_self, and_true, true_and, if_true, Nat.le_refl, Nat.zero_add, Nat.add_zero, Nat.zero_mul, reduceIte, if_false] <;> rfl))) ?_
    refine St.r_loadN0 s 1 rfl (Nat.le_refl 6) ?_
    refine handedWD_ok (d := d) (k := k) (w := w) (n := n) (E := (t4, 0, encA emp) :: (t3, 0, encW (17, k, w, n)) :: E) M (by omega) (s.perm (by ((apply perm_rg; intro f; simp only [List.set_cons_zero, List.set_cons_succ, List.eraseIdx_cons_zero, List.eraseIdx_cons_succ, List.cons_append, List.nil_append, List.map_append, List.map_cons, List.map_nil, List.sum_append, List.sum_cons, List.sum_nil, List.map_flatMap, Nat.add_zero, Nat.zero_add]; ac_rfl)))) fun v b o sp F h w1 s => ?_
    have s : St h0 Z ((t4, 0, encA emp) :: (t3, 0, encW (17, k, w, n)) :: (tb, 0, hdr 0 none (rA g) (rPt g).items.length ((d - 1 : Nat) : Int) ((2 * d - 1 : Nat) : Int)) :: (rAll g ++ ((b, o, (firstN ((rPt g).items.filter fun y => !lt (k, 0) y).reverse n).flatMap encA ++ sp) :: (F ++ E)))) h := s.perm (by ((apply perm_rg; intro f; simp only [List.set_cons_zero, List.set_cons_succ, List.eraseIdx_cons_zero, List.eraseIdx_cons_succ, List.cons_append, List.nil_append, List.map_append, List.map_cons, List.map_nil, List.sum_append, List.sum_cons, List.sum_nil, List.map_flatMap, Nat.add_zero, Nat.zero_add]; ac_rfl)))
    refine St.r_storeN0 s 0 rfl rfl (by simp) (encA1 _) ?_; intro h s
    refine St.r_loadN0 s 0 rfl (by simp) ?_
    have s : St h0 Z ((t4, 0, encA emp) :: (t3, 0, encW (17, k, w, n)) :: (tb, 0, hdr 0 none (rA g) (rPt g).items.length ((d - 1 : Nat) : Int) ((2 * d - 1 : Nat) : Int)) :: (rAll g ++ ((b, o, (firstN ((rPt g).items.filter fun y => !lt (k, 0) y).reverse n).flatMap encA ++ sp) :: (F ++ E)))) h := s
    exact H g emp false v b o sp ((t4, 0, encA emp) :: (t3, 0, encW (17, k, w, n)) :: F) h rfl M w1 (s.perm (by show List.Perm ((tb, 0, hdr 0 none (rA g) (rPt g).items.length ((d - 1 : Nat) : Int) ((2 * d - 1 : Nat) : Int)) :: (rAll g ++ ((b, o, (firstN ((rPt g).items.filter fun y => !lt (k, 0) y).reverse n).flatMap encA ++ sp) :: (((t4, 0, encA emp) :: (t3, 0, encW (17, k, w, n)) :: F) ++ E)))) _; ((apply perm_rg; intro f; simp only [List.set_cons_zero, List.set_cons_succ, List.eraseIdx_cons_zero, List.eraseIdx_cons_succ, List.cons_append, List.nil_append, List.map_append, List.map_cons, List.map_nil, List.sum_append, List.sum_cons, List.sum_nil, List.map_flatMap, Nat.add_zero, Nat.zero_add]; ac_rfl))))
end Go.Proofs.Ytdpkpcmoabfofaa.Si
end
