/-
  Texts of this claim, laid together: KdSi KeSi KfSi KzSi KgSi KhSi KiSi KjSi KnSi KoSi KpSi KvSi KCSi Wa Wf Va.
  Conditions: as each of them tells.
-/
import Derived.Test.YtdpkpcmoabfofaaRWPagesB3
section
namespace Go.Proofs.Ytdpkpcmoabfofaa.Si
open Go.Hp Go.Proofs.Ytdpkpcmoabfofaa
set_option linter.unusedVariables false
set_option linter.unusedSimpArgs false
variable {h0 h : Heap} {Z E : List Rg} {Q : Value → Heap → Prop}

theorem flat_at3 {β : Type} (f : β → List Rg) {ts : List β} {i : Nat} {c : β} (hc : ts[i]? = some c) : ts.flatMap f = (ts.take i).flatMap f ++ (f c ++ (ts.drop (i + 1)).flatMap f) := by
  conv => lhs; rw [take_at hc, List.flatMap_append, List.flatMap_cons]
theorem set_ids {k : Nat} {ts : List (GT It k)} {i : Nat} {c c' : GT It k} (hc : ts[i]? = some c) (he : c'.id = c.id) : (ts.set i c').map GT.id = ts.map GT.id := by
  obtain ⟨hi, rfl⟩ := List.getElem?_eq_some_iff.1 hc
  rw [List.map_set, he]
  apply List.ext_getElem?
  intro j
  rw [List.getElem?_set]
  split
  · rename_i e; subst e
    simp [hi]
  · rfl
/-- A call below a kid: the kid's cell and the kid's ranges are lent. -/
theorem lend_kid {k : Nat} {ts : List (GT It k)} {i kb krb kro : Nat} {kv : Value} {ksp : List Value} {A : List Rg} {c : GT It k} (hc : ts[i]? = some c)
    (s : St h0 Z (A ++ ((krb, kro, (ts.map GT.id).flatMap fp ++ ksp) :: (ts.flatMap (GT.all enc) ++ E))) h) :
    ∃ E', St h0 Z ((krb, kro + i * 1, [ptr c.id 0]) :: (c.all enc ++ E')) h ∧ ∀ (c' : GT It k) h', c'.id = c.id → St h0 Z ((krb, kro + i * 1, [ptr c.id 0]) :: (c'.all enc ++ E')) h' →
      St h0 Z (A ++ ((krb, kro, ((ts.set i c').map GT.id).flatMap fp ++ ksp) :: ((ts.set i c').flatMap (GT.all enc) ++ E))) h' := by
  have hid : (ts.map GT.id)[i]? = some c.id := by rw [List.getElem?_map, hc]; rfl
  have s1 : St h0 Z ((krb, kro, (ts.map GT.id).flatMap fp ++ ksp) :: (A ++ (ts.flatMap (GT.all enc) ++ E))) h := s.perm (by ((apply perm_rg; intro f; simp only [List.set_cons_zero, List.set_cons_succ, List.eraseIdx_cons_zero, List.eraseIdx_cons_succ, List.cons_append, List.nil_append, List.map_append, List.map_cons, List.map_nil, List.sum_append, List.sum_cons, List.sum_nil, List.map_flatMap, Nat.add_zero, Nat.zero_add]; ac_rfl)))
  have s2 := St.cut3 fpl s1 hid
  refine ⟨(krb, kro, ((ts.map GT.id).take i).flatMap fp) :: (krb, kro + (i + 1) * 1, ((ts.map GT.id).drop (i + 1)).flatMap fp ++ ksp) :: (A ++ ((ts.take i).flatMap (GT.all enc) ++ ((ts.drop (i + 1)).flatMap (GT.all enc) ++ E))), s2.perm ?_, fun c' h' he s' => ?_⟩
  · rw [flat_at3 (GT.all enc) hc]; ((apply perm_rg; intro f; simp only [List.set_cons_zero, List.set_cons_succ, List.eraseIdx_cons_zero, List.eraseIdx_cons_succ, List.cons_append, List.nil_append, List.map_append, List.map_cons, List.map_nil, List.sum_append, List.sum_cons, List.sum_nil, List.map_flatMap, Nat.add_zero, Nat.zero_add]; ac_rfl))
  · have hi := (List.getElem?_eq_some_iff.1 hc).1
    have hc' : (ts.set i c')[i]? = some c' := by rw [List.getElem?_set_self hi]
    rw [set_ids hc he, flat_at3 (GT.all enc) hc', List.take_set_of_le (Nat.le_refl _), List.drop_set_of_lt (by omega)]
    have s3 : St h0 Z ((krb, kro, ((ts.map GT.id).take i).flatMap fp) :: (krb, kro + (i + 1) * 1, ((ts.map GT.id).drop (i + 1)).flatMap fp ++ ksp) :: (krb, kro + i * 1, fp c.id) :: (A ++ ((ts.take i).flatMap (GT.all enc) ++ (c'.all enc ++ ((ts.drop (i + 1)).flatMap (GT.all enc) ++ E))))) h' := s'.perm (by ((apply perm_rg; intro f; simp only [List.set_cons_zero, List.set_cons_succ, List.eraseIdx_cons_zero, List.eraseIdx_cons_succ, List.cons_append, List.nil_append, List.map_append, List.map_cons, List.map_nil, List.sum_append, List.sum_cons, List.sum_nil, List.map_flatMap, Nat.add_zero, Nat.zero_add]; ac_rfl)))
    have s4 := St.glue3 fpl hid s3
    exact s4.perm (by ((apply perm_rg; intro f; simp only [List.set_cons_zero, List.set_cons_succ, List.eraseIdx_cons_zero, List.eraseIdx_cons_succ, List.cons_append, List.nil_append, List.map_append, List.map_cons, List.map_nil, List.sum_append, List.sum_cons, List.sum_nil, List.map_flatMap, Nat.add_zero, Nat.zero_add]; ac_rfl)))
theorem r_loadM1 {k : Nat} {ts : List (GT It k)} {K : Value → Prop} (s : St h0 Z E h) (j : Nat) {b o i : Nat} {sp : List Value} {c : GT It k} (hk : E[j]? = some (b, o, (ts.map GT.id).flatMap fp ++ sp)) (hc : ts[i]? = some c) (H : K (ptr c.id 0)) : load1 (ptr b (o + i * 1)) h K := by
  have := s.r_load1F (K := K) (r := 0) fpl j hk (show (ts.map GT.id)[i]? = some c.id by rw [List.getElem?_map, hc]; rfl) (v := ptr c.id 0) rfl H
  exact this

/-- What a changed kid makes of a node. -/
theorem Gd.setKid {iso : Int} {k : Nat} {d : Nd It} {ts : List (GT It k)} (g : Gd iso (k := k + 1) (d, ts)) {i : Nat} {c c' : GT It k} (hc : ts[i]? = some c) (he : c'.id = c.id) (g' : Gd iso c') {cnt : Int}
    (hcnt : cnt = (GT.pt (h := k + 1) (d, ts.set i c')).items.length) : Gd iso (k := k + 1) ({ d with cnt := cnt }, ts.set i c') := by
  have wK := g.wf.2.1
  refine Gd.inner g.wf.1.1 g.mine.1 (g.wf.1.2.1 g.mine.1) ?_ (by rw [List.length_set]; exact g.wf.2.2.1) (fun q hq => ?_) hcnt
  · rw [set_ids hc he, List.length_set, ← mfp]; exact wK
  · rcases List.mem_or_eq_of_mem_set hq with e | e
    · exact g.kid e
    · rw [e]; exact g'

theorem set_noSplit {tb m : Nat} {iso mn : Int} {ctr : Option Addr} {x : It} (htb : h0.size ≤ tb) (hT0 : (tb, 0, hd0 iso ctr) ∈ Z) (hT4 : (tb, 4, hd4 mn m) ∈ Z) (hm1 : m ≤ 1024) (ho : m % 2 = 1) {k : Nat} (ih : SetOk h0 Z tb m iso x k)
    (t : GT It (k + 1)) {pb po lo : Nat} (fl : t.pt.Fl m lo) (ha : Asc lt t.pt.items) (hsz : t.pt.items.length ≤ 4611686018427387903) (g : Gd iso t) (s : St h0 Z ((pb, po, [ptr t.id 0]) :: (t.all enc ++ E)) h)
    (hns : ∀ c, t.pt.2[pos lt t.pt.1 x]? = some c → lget lt t.pt.1 x = none → c.splits lt m x = false)
    (H : ∀ (t' : GT It (k + 1)) h', t'.pt = t.pt.set lt m x → t'.id = t.id → Gd iso t' → St h0 Z ((pb, po, [ptr t.id 0]) :: (t'.all enc ++ E)) h' → Q (.tuple #[old (t.pt.get lt x), .bool (t.pt.get lt x).isSome, .bool false]) h') :
    Map_si_nodeSet.call #[ptr tb 0, ptr pb po, .agg (enc x).toArray] h Q := by
  have hsp : t.pt.splits lt m x = false := by
    cases e : t.pt.splits lt m x with
    | false => rfl
    | true =>
      obtain ⟨_, e2⟩ := PT.splits_len e
      have e2 : lget lt t.pt.1 x = none := e2
      obtain ⟨c, hc, _⟩ := PT.step swo fl ha e2
      rw [PT.splits_kid e2 hc, hns c hc e2] at e
      simp at e
  have hset := PT.set_items swo ho fl ha hsp
  have hgi := PT.get_items swo fl ha (x := x)
  obtain ⟨d, ts⟩ := t
  obtain ⟨own, n, is', cnt, its, iv, ib, io, isp, kb, kv, krb, kro, ksp⟩ := d
  have w : Own 2 iv its.length ib io (its.flatMap enc) isp := g.wf.1.1
  have wK : Own 1 kv ts.length krb kro ((ts.map GT.id).map fun m => ptr m 0) ksp := g.wf.2.1
  have hkl : ts.length = its.length + 1 := g.wf.2.2.1
  have hidl : (ts.map GT.id).length = ts.length := List.length_map ..
  have hom : own = true := g.mine.1
  have hiso : is' = iso := g.wf.1.2.1 hom
  subst hiso; subst hom
  have hlen : its.length ≤ m := fl.2.1
  have ha1 : Asc lt its := asc_of_sub ha (PT.its_sub1 (its, ts.map GT.pt))
  rw [← hidl, mfp] at wK
  have hcn : cnt = (PT.items (h := k + 1) (its, ts.map GT.pt)).length := g.cn.1
  have s : St h0 Z ((pb, po, [ptr n 0]) :: (n, 0, [.int .u64 is', .int .i64 cnt, iv, ptr kb 0]) :: (ib, io, its.flatMap enc ++ isp) :: (kb, 0, [kv]) :: (krb, kro, ((ts.map GT.id).map fun m => ptr m 0) ++ ksp) :: (ts.flatMap (GT.all enc) ++ E)) h := s
  rw [mfp] at s
  refine set_head hT0 ha1 (by omega) w s (fun y h' hy s => ?_) fun t5 t9 h' hn s => ?_
  · have hln : (lput lt its x).length = its.length := by rw [lput_length, hy]; rfl
    have e1 : PT.set lt m (h := k + 1) (its, ts.map GT.pt) x = (lput lt its x, ts.map GT.pt) := PT.set_found (t := (its, ts.map GT.pt)) hy
    have e2 : PT.get lt (h := k + 1) (its, ts.map GT.pt) x = some y := PT.get_found (t := (its, ts.map GT.pt)) hy
    have e3 : (PT.items (h := k + 1) (lput lt its x, ts.map GT.pt)).length = (PT.items (h := k + 1) (its, ts.map GT.pt)).length := by
      have h1 : (PT.set lt m (h := k + 1) (its, ts.map GT.pt) x).items = lput lt (PT.items (h := k + 1) (its, ts.map GT.pt)) x := hset.1
      have h2 : PT.get lt (h := k + 1) (its, ts.map GT.pt) x = lget lt (PT.items (h := k + 1) (its, ts.map GT.pt)) x := hgi
      rw [e1] at h1
      rw [h1, lput_length, ← h2, e2]; rfl
    have := H ((⟨true, n, is', cnt, lput lt its x, iv, ib, io, isp, kb, kv, krb, kro, ksp⟩ : Nd It), ts) h' e1.symm rfl
      (Gd.inner (by show Own 2 iv (lput lt its x).length ib io ((lput lt its x).flatMap enc) isp; rw [hln]; exact w.cong (by rw [flat_len encl, flat_len encl, hln])) rfl rfl (by rw [← hidl]; exact wK) (by show ts.length = (lput lt its x).length + 1; rw [hln]; exact hkl) (fun c hc => g.kid hc) (by
        show cnt = ((PT.items (h := k + 1) (lput lt its x, ts.map GT.pt)).length : Int); rw [e3]; exact hcn)) (by rw [← mfp] at s; exact s)
    change Q (.tuple #[old (PT.get lt (h := k + 1) (its, ts.map GT.pt) x), .bool (PT.get lt (h := k + 1) (its, ts.map GT.pt) x).isSome, .bool false]) h' at this
    rw [e2] at this
    exact this
  · have hp := pos_le (lt := lt) its x
    obtain ⟨c, hc⟩ : ∃ c, ts[pos lt its x]? = some c := ⟨ts[pos lt its x]'(by omega), List.getElem?_eq_getElem (by omega)⟩
    have hcp : (ts.map GT.pt)[pos lt its x]? = some c.pt := by rw [List.getElem?_map, hc]; rfl
    have hcs : c.pt.splits lt m x = false := hns c.pt hcp hn
    obtain ⟨c0, hc0, hcm, hac, hg0, _⟩ := PT.step (h := k) (t := (its, ts.map GT.pt)) swo fl ha hn
    have : c0 = c.pt := Option.some.inj (hc0.symm.trans hcp)
    subst this
    have hcmem := List.mem_of_getElem? hc
    have e1 : PT.set lt m (h := k + 1) (its, ts.map GT.pt) x = (its, (ts.map GT.pt).set (pos lt its x) (c.pt.set lt m x)) := PT.set_kid (t := (its, ts.map GT.pt)) hn hcp hcs
    have e2 : PT.get lt (h := k + 1) (its, ts.map GT.pt) x = c.pt.get lt x := PT.get_kid (t := (its, ts.map GT.pt)) hn hcp
    have hcsz : c.pt.items.length ≤ 4611686018427387903 := by
      have h1 : (inter its ((ts.map GT.pt).map PT.items)).length = _ := inter_length _ _
      have h2 : (inter its ((ts.map GT.pt).map PT.items)).length ≤ 4611686018427387903 := hsz
      have h3 : c.pt.items.length ≤ (((ts.map GT.pt).map PT.items).map List.length).sum := mem_le_sum (by
        rw [List.map_map, List.map_map]; exact List.mem_map.2 ⟨c, hcmem, rfl⟩)
      omega
    unfold Map_si_nodeSet.j1
    refine St.r_load0 s 0 rfl rfl ?_
    refine leaf_ok (a := some ⟨kb, 0, none⟩) (s.get (k := 3) (j := 3) rfl (by simp)) ?_
    refine r_if (fun e => absurd e (by simp)) (fun _ => ?_)
    unfold Map_si_nodeSet.j2
    refine St.r_load0 s 0 rfl rfl ?_
    refine r_nil ?_
    refine r_fld ?_
    refine St.r_load0 s 3 rfl rfl ?_
    refine r_nil ?_
    refine St.r_load0 s 5 rfl rfl ?_
    refine wK.idx (n := pos lt its x) rfl (by omega) ?_
    refine St.r_loadN0 s 1 rfl (by simp) ?_
    obtain ⟨E', sk, back⟩ := lend_kid (A := (t9, 0, [ptr n 0]) :: (t5, 0, enc x) :: (pb, po, [ptr n 0]) :: (n, 0, [.int .u64 is', .int .i64 cnt, iv, ptr kb 0]) :: (ib, io, its.flatMap enc ++ isp) :: (kb, 0, [kv]) :: []) (E := E) (kb := kb) (kv := kv) hc s
    refine ih c (fl.2.2.2 _ hcm) hac hcsz (g.kid hcmem) sk fun c' h' hc1 hc2 hc3 s => ?_
    rw [hcs] at hc1 ⊢
    simp only [Bool.false_eq_true, ↓reduceIte] at hc1
    have s := back c' h' hc2 s
    have s : St h0 Z ((t9, 0, [ptr n 0]) :: (t5, 0, enc x) :: (pb, po, [ptr n 0]) :: (n, 0, [.int .u64 is', .int .i64 cnt, iv, ptr kb 0]) :: (ib, io, its.flatMap enc ++ isp) :: (kb, 0, [kv]) :: (krb, kro, ((ts.set (pos lt its x) c').map GT.id).flatMap fp ++ ksp) :: ((ts.set (pos lt its x) c').flatMap (GT.all enc) ++ E)) h' := s
    have ept : (ts.set (pos lt its x) c').map GT.pt = (ts.map GT.pt).set (pos lt its x) (c.pt.set lt m x) := by rw [List.map_set, hc1]
    have hlenI : (PT.items (h := k + 1) (its, (ts.set (pos lt its x) c').map GT.pt)).length = (PT.items (h := k + 1) (its, ts.map GT.pt)).length + if (c.pt.get lt x).isSome then 0 else 1 := by
      have h1 : (PT.set lt m (h := k + 1) (its, ts.map GT.pt) x).items = lput lt (PT.items (h := k + 1) (its, ts.map GT.pt)) x := hset.1
      have h2 : PT.get lt (h := k + 1) (its, ts.map GT.pt) x = lget lt (PT.items (h := k + 1) (its, ts.map GT.pt)) x := hgi
      rw [e1, ← ept] at h1
      rw [h1, lput_length, ← h2, e2]
    have fin : ∀ cnt' h', cnt' = (((PT.items (h := k + 1) (its, (ts.set (pos lt its x) c').map GT.pt)).length : Nat) : Int) →
        St h0 Z ((t9, 0, [ptr n 0]) :: (t5, 0, enc x) :: (pb, po, [ptr n 0]) :: (n, 0, [.int .u64 is', .int .i64 cnt', iv, ptr kb 0]) :: (ib, io, its.flatMap enc ++ isp) :: (kb, 0, [kv]) :: (krb, kro, ((ts.set (pos lt its x) c').map GT.id).flatMap fp ++ ksp) :: ((ts.set (pos lt its x) c').flatMap (GT.all enc) ++ E)) h' →
        Q (.tuple #[old (c.pt.get lt x), .bool (c.pt.get lt x).isSome, .bool false]) h' := by
      intro cnt' h' hcnt' s
      have := H ((⟨true, n, is', cnt', its, iv, ib, io, isp, kb, kv, krb, kro, ksp⟩ : Nd It), ts.set (pos lt its x) c') h' (by show (its, (ts.set (pos lt its x) c').map GT.pt) = _; rw [ept]; exact e1.symm) rfl
        (Gd.setKid (d := ⟨true, n, is', cnt, its, iv, ib, io, isp, kb, kv, krb, kro, ksp⟩) g hc hc2 hc3 hcnt') (by rw [← mfp] at s; exact s.drop 2)
      change Q (.tuple #[old (PT.get lt (h := k + 1) (its, ts.map GT.pt) x), .bool (PT.get lt (h := k + 1) (its, ts.map GT.pt) x).isSome, .bool false]) h' at this
      rw [e2] at this
      exact this
    refine r_ext rfl ?_
    refine r_ext rfl ?_
    refine r_ext rfl ?_
    refine r_if (fun e => absurd e (by simp)) (fun _ => ?_)
    unfold Map_si_nodeSet.j3
    refine r_not ?_
    refine r_if (fun hr => ?_) (fun hr => ?_)
    · have hr : (c.pt.get lt x).isSome = false := by simpa using hr
      rw [hr] at hlenI
      refine St.r_load0 s 0 rfl rfl ?_
      refine r_nil ?_
      refine r_fld ?_
      refine St.r_load0 s 3 rfl rfl ?_
      refine r_add (z := cnt + 1) (by have : (PT.items (h := k + 1) (its, ts.map GT.pt)).length ≤ 4611686018427387903 := hsz; rw [i64w (by omega) (by omega)]) ?_
      refine r_nil ?_
      refine r_fld ?_
      refine St.r_store0 s 3 rfl (by simp) rfl ?_; intro h s
      unfold Map_si_nodeSet.j4
      exact fin (cnt + 1) h (by rw [hlenI, hcn]; simp) s
    · have hr : (c.pt.get lt x).isSome = true := by simpa using hr
      rw [hr] at hlenI
      unfold Map_si_nodeSet.j4
      exact fin cnt h' (by rw [hlenI, hcn]; simp) s
end Go.Proofs.Ytdpkpcmoabfofaa.Si
end
section
namespace Go.Proofs.Ytdpkpcmoabfofaa.Si
open Go.Hp Go.Proofs.Ytdpkpcmoabfofaa
set_option linter.unusedVariables false
set_option linter.unusedSimpArgs false
variable {h0 h : Heap} {Z E : List Rg} {Q : Value → Heap → Prop}
abbrev pp (m : Nat) : Value := ptr m 0
theorem fpv (l : List Nat) : l.flatMap fp = (l.map pp).flatMap fv := by rw [flat_fv]; exact List.map_eq_flatMap.symm

theorem SetOk.succ {tb m : Nat} {iso mn : Int} {ctr : Option Addr} {x : It} (htb : h0.size ≤ tb) (hT0 : (tb, 0, hd0 iso ctr) ∈ Z) (hT4 : (tb, 4, hd4 mn m) ∈ Z) (hm1 : m ≤ 1024) (ho : m % 2 = 1) {k : Nat} (ih : SetOk h0 Z tb m iso x k) : SetOk h0 Z tb m iso x (k + 1) := by
  intro t h E Q pb po lo fl ha hsz g s H
  by_cases hns : ∀ c, t.pt.2[pos lt t.pt.1 x]? = some c → lget lt t.pt.1 x = none → c.splits lt m x = false
  · have hsp : t.pt.splits lt m x = false := by
      cases e : t.pt.splits lt m x with
      | false => rfl
      | true =>
        obtain ⟨_, e2⟩ := PT.splits_len e
        have e2 : lget lt t.pt.1 x = none := e2
        obtain ⟨c, hc, _⟩ := PT.step swo fl ha e2
        rw [PT.splits_kid e2 hc, hns c hc e2] at e
        simp at e
    refine set_noSplit htb hT0 hT4 hm1 ho ih t fl ha hsz g s hns fun t' h' h1 h2 h3 s => ?_
    have := H t' h' (by rw [hsp]; exact h1) h2 h3 s
    rw [hsp] at this; exact this
  have hex : ∃ cp, t.pt.2[pos lt t.pt.1 x]? = some cp ∧ lget lt t.pt.1 x = none ∧ cp.splits lt m x = true := by
    apply Classical.byContradiction
    intro hno
    refine hns fun c h1 h2 => ?_
    cases e : c.splits lt m x with
    | false => rfl
    | true => exact absurd ⟨c, h1, h2, e⟩ hno
  clear hns
  obtain ⟨cp, hcp, hn, hcs⟩ := hex
  obtain ⟨c0, hc0, hcm, hac, hg0, _⟩ := PT.step swo fl ha hn
  have : c0 = cp := Option.some.inj (hc0.symm.trans hcp)
  subst this
  have hgn := PT.splits_get swo (fl.2.2.2 _ hcm) hac hcs
  have hgt : t.pt.get lt x = none := by rw [PT.get_items swo fl ha, hg0, hgn]
  have hgc : c0.get lt x = none := by rw [PT.get_items swo (fl.2.2.2 _ hcm) hac, hgn]
  obtain ⟨md, hmd, _⟩ := PT.halves swo ho (fl.2.2.2 _ hcm) hac hcs
  obtain ⟨d, ts⟩ := t
  obtain ⟨own, n, is', cnt, its, iv, ib, io, isp, kb, kv, krb, kro, ksp⟩ := d
  have w : Own 2 iv its.length ib io (its.flatMap enc) isp := g.wf.1.1
  have wK : Own 1 kv ts.length krb kro ((ts.map GT.id).map fun m => ptr m 0) ksp := g.wf.2.1
  have hkl : ts.length = its.length + 1 := g.wf.2.2.1
  have hidl : (ts.map GT.id).length = ts.length := List.length_map ..
  have hom : own = true := g.mine.1
  have hiso : is' = iso := g.wf.1.2.1 hom
  subst hiso; subst hom
  have hlen : its.length ≤ m := fl.2.1
  have hn : lget lt its x = none := hn
  have hcp : (ts.map GT.pt)[pos lt its x]? = some c0 := hcp
  have ha1 : Asc lt its := asc_of_sub ha (PT.its_sub1 (its, ts.map GT.pt))
  rw [← hidl, mfp] at wK
  have hcn : cnt = (PT.items (h := k + 1) (its, ts.map GT.pt)).length := g.cn.1
  have s : St h0 Z ((pb, po, [ptr n 0]) :: (n, 0, [.int .u64 is', .int .i64 cnt, iv, ptr kb 0]) :: (ib, io, its.flatMap enc ++ isp) :: (kb, 0, [kv]) :: (krb, kro, ((ts.map GT.id).map fun m => ptr m 0) ++ ksp) :: (ts.flatMap (GT.all enc) ++ E)) h := s
  rw [mfp] at s
  refine set_head hT0 ha1 (by omega) w s (fun y h' hy s => by rw [hn] at hy; cases hy) fun t5 t9 h' _ s => ?_
  have hp := pos_le (lt := lt) its x
  obtain ⟨c, hc⟩ : ∃ c, ts[pos lt its x]? = some c := ⟨ts[pos lt its x]'(by omega), List.getElem?_eq_getElem (by omega)⟩
  have : c0 = c.pt := by
    rw [List.getElem?_map, hc] at hcp
    exact (Option.some.inj hcp).symm
  subst this
  have hcmem := List.mem_of_getElem? hc
  have hcsz : c.pt.items.length ≤ 4611686018427387903 := by
    have h1 : (inter its ((ts.map GT.pt).map PT.items)).length = _ := inter_length _ _
    have h2 : (inter its ((ts.map GT.pt).map PT.items)).length ≤ 4611686018427387903 := hsz
    have h3 : c.pt.items.length ≤ (((ts.map GT.pt).map PT.items).map List.length).sum := mem_le_sum (by
      rw [List.map_map, List.map_map]; exact List.mem_map.2 ⟨c, hcmem, rfl⟩)
    omega
  unfold Map_si_nodeSet.j1
  refine St.r_load0 s 0 rfl rfl ?_
  refine leaf_ok (a := some ⟨kb, 0, none⟩) (s.get (k := 3) (j := 3) rfl (by simp)) ?_
  refine r_if (fun e => absurd e (by simp)) (fun _ => ?_)
  unfold Map_si_nodeSet.j2
  refine St.r_load0 s 0 rfl rfl ?_
  refine r_nil ?_
  refine r_fld ?_
  refine St.r_load0 s 3 rfl rfl ?_
  refine r_nil ?_
  refine St.r_load0 s 5 rfl rfl ?_
  refine wK.idx (n := pos lt its x) rfl (by omega) ?_
  refine St.r_loadN0 s 1 rfl (by simp) ?_
  obtain ⟨E', sk, back⟩ := lend_kid (A := (t9, 0, [ptr n 0]) :: (t5, 0, enc x) :: (pb, po, [ptr n 0]) :: (n, 0, [.int .u64 is', .int .i64 cnt, iv, ptr kb 0]) :: (ib, io, its.flatMap enc ++ isp) :: (kb, 0, [kv]) :: []) (E := E) (kb := kb) (kv := kv) hc s
  refine ih c (fl.2.2.2 _ hcm) hac hcsz (g.kid hcmem) sk fun c' h' hc1 hc2 hc3 s => ?_
  rw [hcs, hgc]
  rw [hcs] at hc1
  simp only [↓reduceIte] at hc1
  have s := back c' h' hc2 s
  have s : St h0 Z ((t9, 0, [ptr n 0]) :: (t5, 0, enc x) :: (pb, po, [ptr n 0]) :: (n, 0, [.int .u64 is', .int .i64 cnt, iv, ptr kb 0]) :: (ib, io, its.flatMap enc ++ isp) :: (kb, 0, [kv]) :: (krb, kro, ((ts.set (pos lt its x) c').map GT.id).flatMap fp ++ ksp) :: ((ts.set (pos lt its x) c').flatMap (GT.all enc) ++ E)) h' := s
  have hi := (List.getElem?_eq_some_iff.1 hc).1
  have hc' : (ts.set (pos lt its x) c')[pos lt its x]? = some c' := List.getElem?_set_self hi
  have ept : (ts.set (pos lt its x) c').map GT.pt = ts.map GT.pt := by
    apply List.ext_getElem?
    intro j
    rw [List.map_set, List.getElem?_set]
    split
    · rename_i e; subst e
      simp only [List.length_map, hi, if_true]
      rw [hc1]; exact hcp.symm
    · rfl
  have g1 : Gd is' (k := k + 1) ((⟨true, n, is', cnt, its, iv, ib, io, isp, kb, kv, krb, kro, ksp⟩ : Nd It), ts.set (pos lt its x) c') :=
    Gd.setKid g hc hc2 hc3 (by show cnt = ((PT.items (h := k + 1) (its, (ts.set (pos lt its x) c').map GT.pt)).length : Int); rw [ept]; exact hcn)
  refine r_ext rfl ?_
  refine r_ext rfl ?_
  refine r_ext rfl ?_
  refine r_if (fun _ => ?_) (fun e => absurd e (by simp))
  refine St.r_load0 s 0 rfl rfl ?_
  refine r_nil ?_
  refine r_fld ?_
  refine St.r_load0 s 3 rfl rfl ?_
  refine w.lenV ?_
  refine r_nil ?_
  refine r_fld ?_
  refine s.r_lz hT4 3 rfl rfl ?_
  refine r_cmpI ?_
  refine r_if (fun hfull => ?_) (fun hroom => ?_)
  · have hfull : its.length = m := Int.ofNat_inj.1 (by simpa using hfull)
    have hsp : PT.splits lt m (h := k + 1) (its, ts.map GT.pt) x = true := by rw [PT.splits_kid (t := (its, ts.map GT.pt)) hn hcp, hcs]; simpa using hfull
    refine r_nil ?_
    refine r_fld ?_
    refine r_fld ?_
    refine s.r_lz hT4 0 rfl rfl ?_
    have := H ((⟨true, n, is', cnt, its, iv, ib, io, isp, kb, kv, krb, kro, ksp⟩ : Nd It), ts.set (pos lt its x) c') h' (by
      show (its, (ts.set (pos lt its x) c').map GT.pt) = if PT.splits lt m (h := k + 1) (its, ts.map GT.pt) x = true then _ else _
      rw [hsp, ept]; rfl) rfl g1 (by rw [← mfp] at s; exact s.drop 2)
    change Q (.tuple #[old (PT.get lt (h := k + 1) (its, ts.map GT.pt) x), .bool (PT.get lt (h := k + 1) (its, ts.map GT.pt) x).isSome, .bool (PT.splits lt m (h := k + 1) (its, ts.map GT.pt) x)]) h' at this
    have hgt : PT.get lt (h := k + 1) (its, ts.map GT.pt) x = none := hgt
    rw [hsp, hgt] at this
    exact this
  · have hroom : its.length ≠ m := fun e => by rw [e] at hroom; simp at hroom
    have hsp : PT.splits lt m (h := k + 1) (its, ts.map GT.pt) x = false := by rw [PT.splits_kid (t := (its, ts.map GT.pt)) hn hcp]; simp [hroom]
    obtain ⟨q1, q2, q3, q4, q5⟩ := PT.set_split (t := (its, ts.map GT.pt)) swo ho fl ha hn hcp hcs hmd hroom
    unfold Map_si_nodeSet.j5
    refine St.r_load0 s 0 rfl rfl ?_
    refine r_nil ?_
    refine r_fld ?_
    refine St.r_load0 s 3 rfl rfl ?_
    refine r_nil ?_
    refine St.r_load0 s 5 rfl rfl ?_
    have wk1 : Own 1 kv ((ts.set (pos lt its x) c').map GT.id).length krb kro (((ts.set (pos lt its x) c').map GT.id).flatMap fp) ksp := by rw [set_ids hc hc2]; exact wK
    refine wk1.idx (n := pos lt its x) rfl (by rw [List.length_map, List.length_set]; omega) ?_
    refine r_loadM1 s 6 rfl hc' ?_
    have hcl : c'.pt.its.length = m := by rw [hc1]; exact (PT.splits_len hcs).1
    have etake : (ts.set (pos lt its x) c').take (pos lt its x) = ts.take (pos lt its x) := List.take_set_of_le (Nat.le_refl _)
    have edrop : (ts.set (pos lt its x) c').drop (pos lt its x + 1) = ts.drop (pos lt its x + 1) := List.drop_set_of_lt (by omega)
    refine nodeSplit_ok c' (m := m) (E := (t9, 0, [ptr n 0]) :: (t5, 0, enc x) :: (pb, po, [ptr n 0]) :: (n, 0, [.int .u64 is', .int .i64 cnt, iv, ptr kb 0]) :: (ib, io, its.flatMap enc ++ isp) :: (kb, 0, [kv]) :: (krb, kro, (ts.map GT.id).flatMap fp ++ ksp) :: ((ts.take (pos lt its x)).flatMap (GT.all enc) ++ ((ts.drop (pos lt its x + 1)).flatMap (GT.all enc) ++ E)))
      hT0 hT4 (by omega) (by omega) (by rw [hc1]; exact fl.2.2.2 _ hcm) hcl (by rw [hc1]; omega) hc3 (s.perm ?_) fun l r md' h hmd' hl hr hlid gl gr s => ?_
    · rw [set_ids hc hc2, flat_at3 (GT.all enc) hc', etake, edrop]; ((apply perm_rg; intro f; simp only [List.set_cons_zero, List.set_cons_succ, List.eraseIdx_cons_zero, List.eraseIdx_cons_succ, List.cons_append, List.nil_append, List.map_append, List.map_cons, List.map_nil, List.sum_append, List.sum_cons, List.sum_nil, List.map_flatMap, Nat.add_zero, Nat.zero_add]; ac_rfl))
    have : md' = md := by rw [hc1] at hmd'; exact Option.some.inj (hmd'.symm.trans hmd)
    subst this
    rw [hc1] at hl hr
    have s : St h0 Z ((t9, 0, [ptr n 0]) :: (t5, 0, enc x) :: (pb, po, [ptr n 0]) :: (n, 0, [.int .u64 is', .int .i64 cnt, iv, ptr kb 0]) :: (ib, io, its.flatMap enc ++ isp) :: (kb, 0, [kv]) :: (krb, kro, ((ts.map GT.id).map pp).flatMap fv ++ ksp) :: ((ts.take (pos lt its x) ++ l :: r :: ts.drop (pos lt its x + 1)).flatMap (GT.all enc) ++ E)) h :=
      s.perm (by rw [← fpv, List.flatMap_append, List.flatMap_cons, List.flatMap_cons]; ((apply perm_rg; intro f; simp only [List.set_cons_zero, List.set_cons_succ, List.eraseIdx_cons_zero, List.eraseIdx_cons_succ, List.cons_append, List.nil_append, List.map_append, List.map_cons, List.map_nil, List.sum_append, List.sum_cons, List.sum_nil, List.map_flatMap, Nat.add_zero, Nat.zero_add]; ac_rfl)))
    rw [fpv] at wK
    have hpl : ((ts.map GT.id).map pp).length = ts.length := by rw [List.length_map, List.length_map]
    have elp : (ts.map GT.id).length = ((ts.map GT.id).map pp).length := List.length_map .. |>.symm
    rw [elp] at wK
    generalize hL : (ts.map GT.id).map pp = L at s wK hpl
    refine r_ext rfl ?_
    refine r_ext rfl ?_
    refine s.r_alloc fun t13 h s => ?_
    refine St.r_storeN0 s 0 rfl rfl (by simp) (enc1 _) ?_; intro h s
    refine St.r_load0 s 1 rfl rfl ?_
    refine r_nil ?_
    refine r_fld ?_
    refine St.r_load0 s 4 rfl rfl ?_
    refine St.r_load0 s 1 rfl rfl ?_
    refine r_nil ?_
    refine r_fld ?_
    refine St.r_load0 s 4 rfl rfl ?_
    refine r_nil ?_
    refine St.r_load0 s 6 rfl rfl ?_
    refine St.r_mkSl (sz := 1) (cs := [.pointer none]) s (by ((simp only [fillV, fill1, Value.cells, zeros_succ, zeros_zero, List.size_toArray, List.length_cons, List.length_nil, List.length_append, List.take_succ_cons, List.take_zero, List.take_nil, List.drop_succ_cons, List.drop_zero, List.drop_nil, List.cons_append, List.nil_append, List.append_nil, Nat.reduceAdd, Nat.reduceMul, Nat.reduceLeDiff, Nat.reduceEqDiff, and_self, and_true, true_and, if_true, Nat.le_refl, Nat.zero_add, Nat.add_zero, Nat.zero_mul, reduceIte, if_false] <;> rfl))) rfl fun q h s w1 => ?_
    refine And.intro (by exact St.r_still0 s 2 rfl rfl) ?_
    refine And.intro (by exact St.r_still0 s 5 rfl rfl) ?_
    refine And.intro (by exact St.r_still0 s 2 rfl rfl) ?_
    refine And.intro (by exact St.r_still0 s 5 rfl rfl) ?_
    refine ⟨by refine St.r_still0 s 7 rfl rfl, ?_⟩
    refine St.r_app s 8 (sz := 1) (n := 1) (new := [.pointer none]) rfl wK rfl (w1.rdl s 0 rfl) (by simp [one1]) (by omega) (by omega) fun kv' krb' kro' ksp' h s wk' => ?_
    rw [snoc_fv] at s wk'
    have wk' : Own 1 kv' (L ++ [Value.pointer none]).length krb' kro' ((L ++ [Value.pointer none]).flatMap fv) ksp' := by rw [List.length_append]; exact wk'
    refine And.intro (by exact St.r_still0 s 2 rfl rfl) ?_
    refine And.intro (by exact St.r_still0 s 5 rfl rfl) ?_
    refine r_nil ?_
    refine St.r_store0 s 7 rfl (by simp) wk'.one ?_; intro h s
    refine St.r_load0 s 2 rfl rfl ?_
    refine r_nil ?_
    refine r_fld ?_
    refine St.r_load0 s 5 rfl rfl ?_
    refine r_nil ?_
    refine St.r_load0 s 7 rfl rfl ?_
    refine r_add (z := ((pos lt its x + 1 : Nat) : Int)) (by rw [i64w (by omega) (by omega)]; omega) ?_
    refine wk'.slcLo fvl (i := pos lt its x + 1) rfl (by simp; omega) fun dd wd => ?_
    refine St.r_load0 s 2 rfl rfl ?_
    refine r_nil ?_
    refine r_fld ?_
    refine St.r_load0 s 5 rfl rfl ?_
    refine r_nil ?_
    refine St.r_load0 s 7 rfl rfl ?_
    refine (wk'.rdl s 8 rfl).slcLo fvl (i := pos lt its x) rfl (by simp; omega) fun src rs => ?_
    refine s.r_cpyF fvl 8 (L := L ++ [Value.pointer none]) (M := (L ++ [Value.pointer none]).drop (pos lt its x)) rfl wd (by simp; omega) rs rfl (fun y hy => ?_) fun h s => ?_
    · have hy := List.mem_of_mem_drop hy
      intro z hz
      rw [List.mem_singleton.1 hz]
      rcases List.mem_append.1 hy with e | e
      · rw [← hL] at e; obtain ⟨a, _, rfl⟩ := List.mem_map.1 e; rfl
      · rw [List.mem_singleton.1 e]; rfl
    refine St.r_load0 s 2 rfl rfl ?_
    refine r_nil ?_
    refine r_fld ?_
    refine St.r_load0 s 5 rfl rfl ?_
    refine r_nil ?_
    refine St.r_load0 s 7 rfl rfl ?_
    refine r_add (z := ((pos lt its x + 1 : Nat) : Int)) (by rw [i64w (by omega) (by omega)]; omega) ?_
    refine wk'.idx (n := pos lt its x + 1) rfl (by simp; omega) ?_
    refine s.r_storeV (v := ptr r.id 0) 8 rfl (by simp; omega) rfl fun h s => ?_
    rw [List.set_set, ins_steps2 L (.pointer none) (ptr r.id 0) (by omega)] at s
    refine St.r_load0 s 2 rfl rfl ?_
    refine St.r_load0 s 2 rfl rfl ?_
    refine r_nil ?_
    refine r_fld ?_
    refine St.r_load0 s 5 rfl rfl ?_
    refine r_nil ?_
    refine r_fld ?_
    refine s.r_lzE hT4 0 (enc emp) rfl (by simp) rfl ?_
    refine St.r_mkSl (sz := 2) (cs := enc emp) s (by ((simp only [fillV, fill1, Value.cells, zeros_succ, zeros_zero, List.size_toArray, List.length_cons, List.length_nil, List.length_append, List.take_succ_cons, List.take_zero, List.take_nil, List.drop_succ_cons, List.drop_zero, List.drop_nil, List.cons_append, List.nil_append, List.append_nil, Nat.reduceAdd, Nat.reduceMul, Nat.reduceLeDiff, Nat.reduceEqDiff, and_self, and_true, true_and, if_true, Nat.le_refl, Nat.zero_add, Nat.add_zero, Nat.zero_mul, reduceIte, if_false] <;> rfl))) rfl fun qq h s w2 => ?_
    refine And.intro (by exact St.r_still0 s 3 rfl rfl) ?_
    refine And.intro (by exact St.r_still0 s 3 rfl rfl) ?_
    refine And.intro (by exact St.r_still0 s 6 rfl rfl) ?_
    refine St.r_app s 7 (sz := 2) (n := 1) (new := enc emp) rfl w rfl (w2.rdl s 0 rfl) (enc1 _) (by omega) (by omega) fun iv' ib' io' isp' h s w' => ?_
    rw [snoc_enc] at s w'
    have w' : Own 2 iv' (its ++ [emp]).length ib' io' ((its ++ [emp]).flatMap enc) isp' := by rw [List.length_append]; exact w'
    refine And.intro (by exact St.r_still0 s 3 rfl rfl) ?_
    refine r_nil ?_
    refine r_fld ?_
    refine St.r_store0 s 6 rfl (by simp) w'.one ?_; intro h s
    refine St.r_load0 s 3 rfl rfl ?_
    refine r_nil ?_
    refine r_fld ?_
    refine St.r_load0 s 6 rfl rfl ?_
    refine r_add (z := ((pos lt its x + 1 : Nat) : Int)) (by rw [i64w (by omega) (by omega)]; omega) ?_
    refine w'.slcLo encl (i := pos lt its x + 1) rfl (by simp; omega) fun dd2 wd2 => ?_
    refine St.r_load0 s 3 rfl rfl ?_
    refine r_nil ?_
    refine r_fld ?_
    refine St.r_load0 s 6 rfl rfl ?_
    refine (w'.rdl s 7 rfl).slcLo encl (i := pos lt its x) rfl (by simp; omega) fun src2 rs2 => ?_
    refine s.r_cpyF encl 7 (L := its ++ [emp]) (M := (its ++ [emp]).drop (pos lt its x)) rfl wd2 (by simp; omega) rs2 rfl (fun y _ => enc1 y) fun h s => ?_
    refine St.r_load0 s 3 rfl rfl ?_
    refine r_nil ?_
    refine r_fld ?_
    refine St.r_load0 s 6 rfl rfl ?_
    refine St.r_loadN0 s 2 rfl (by simp) ?_
    refine w'.idx (n := pos lt its x) rfl (by simp; omega) ?_
    refine s.r_storeF (x := md') encl 7 rfl (by simp; omega) (enc1 _) fun h s => ?_
    rw [List.set_set, ins_steps its emp md' hp] at s
    refine St.r_loadN0 s 4 rfl (by simp) ?_
    have hil := ins_length (x := md') hp
    have e8 : ins L (pos lt its x + 1) (ptr r.id 0) = ((ts.take (pos lt its x) ++ l :: r :: ts.drop (pos lt its x + 1)).map GT.id).map pp := by
      have e9 : ts.take (pos lt its x + 1) = ts.take (pos lt its x) ++ [c] := by rw [List.take_add_one, hc]; rfl
      unfold ins
      rw [← hL, ← List.map_take, ← List.map_take, ← List.map_drop, ← List.map_drop, e9]
      simp only [List.map_append, List.map_cons, List.map_nil, List.append_assoc, List.cons_append, List.nil_append, hlid, hc2]
    rw [e8, ← fpv] at s
    have hl2 : ((ts.take (pos lt its x) ++ l :: r :: ts.drop (pos lt its x + 1)).map GT.id).length = (L ++ [Value.pointer none]).length := by simp; omega
    have wk2 : Own 1 kv' (ts.take (pos lt its x) ++ l :: r :: ts.drop (pos lt its x + 1)).length krb' kro' (((ts.take (pos lt its x) ++ l :: r :: ts.drop (pos lt its x + 1)).map GT.id).flatMap fp) ksp' := by
      rw [← hl2, List.length_map] at wk'
      exact wk'.cong (by rw [flat_len fpl, flat_len fvl, hl2])
    have w2' : Own 2 iv' (ins its (pos lt its x) md').length ib' io' ((ins its (pos lt its x) md').flatMap enc) isp' := by
      rw [show (ins its (pos lt its x) md').length = (its ++ [emp]).length by rw [hil]; simp]
      exact w'.cong (by rw [flat_len encl, flat_len encl, hil]; simp)
    have ept2 : (ts.take (pos lt its x) ++ l :: r :: ts.drop (pos lt its x + 1)).map GT.pt = (ts.map GT.pt).take (pos lt its x) ++ c.pt.lo (m / 2) :: c.pt.hi (m / 2) :: (ts.map GT.pt).drop (pos lt its x + 1) := by
      rw [List.map_append, List.map_cons, List.map_cons, List.map_take, List.map_drop, hl, hr]
    have g2 : Gd is' (k := k + 1) ((⟨true, n, is', cnt, ins its (pos lt its x) md', iv', ib', io', isp', kb, kv', krb', kro', ksp'⟩ : Nd It), ts.take (pos lt its x) ++ l :: r :: ts.drop (pos lt its x + 1)) := by
      refine Gd.inner w2' rfl rfl wk2 (by show _ = (ins its (pos lt its x) md').length + 1; rw [hil]; simp; omega) (fun q hq => ?_) ?_
      · rcases List.mem_append.1 hq with e | e
        · exact g.kid (List.mem_of_mem_take e)
        · rcases List.mem_cons.1 e with e | e
          · rw [e]; exact gl
          · rcases List.mem_cons.1 e with e | e
            · rw [e]; exact gr
            · exact g.kid (List.mem_of_mem_drop e)
      · show cnt = ((PT.items (h := k + 1) (ins its (pos lt its x) md', (ts.take (pos lt its x) ++ l :: r :: ts.drop (pos lt its x + 1)).map GT.pt)).length : Int)
        rw [ept2, q1]; exact hcn
    have hpt2 : GT.pt (h := k + 1) ((⟨true, n, is', cnt, ins its (pos lt its x) md', iv', ib', io', isp', kb, kv', krb', kro', ksp'⟩ : Nd It), ts.take (pos lt its x) ++ l :: r :: ts.drop (pos lt its x + 1)) = (ins its (pos lt its x) md', (ts.map GT.pt).take (pos lt its x) ++ c.pt.lo (m / 2) :: c.pt.hi (m / 2) :: (ts.map GT.pt).drop (pos lt its x + 1)) := by
      show (_, _) = _; rw [ept2]
    have s : St h0 Z ((t9, 0, [ptr n 0]) :: ((GT.all enc (h := k + 1) ((⟨true, n, is', cnt, ins its (pos lt its x) md', iv', ib', io', isp', kb, kv', krb', kro', ksp'⟩ : Nd It), ts.take (pos lt its x) ++ l :: r :: ts.drop (pos lt its x + 1))) ++ ((pb, po, [ptr n 0]) :: E))) h := by
      have s1 : St h0 Z ((t9, 0, [ptr n 0]) :: (n, 0, [.int .u64 is', .int .i64 cnt, iv', ptr kb 0]) :: (ib', io', (ins its (pos lt its x) md').flatMap enc ++ isp') :: (kb, 0, [kv']) :: (krb', kro', ((ts.take (pos lt its x) ++ l :: r :: ts.drop (pos lt its x + 1)).map GT.id).flatMap fp ++ ksp') :: ((ts.take (pos lt its x) ++ l :: r :: ts.drop (pos lt its x + 1)).flatMap (GT.all enc) ++ ((pb, po, [ptr n 0]) :: E))) h :=
        (s.perm (E' := (qq, 0, _) :: (q, 0, _) :: (t13, 0, _) :: (t5, 0, _) :: _) (by ((apply perm_rg; intro f; simp only [List.set_cons_zero, List.set_cons_succ, List.eraseIdx_cons_zero, List.eraseIdx_cons_succ, List.cons_append, List.nil_append, List.map_append, List.map_cons, List.map_nil, List.sum_append, List.sum_cons, List.sum_nil, List.map_flatMap, Nat.add_zero, Nat.zero_add]; ac_rfl)))).drop 4
      rw [← mfp] at s1
      exact s1
    refine set_noSplit htb hT0 hT4 hm1 ho ih _ (by rw [hpt2]; exact q2) (by rw [hpt2, q1]; exact ha) (by rw [hpt2, q1]; exact hsz) g2 s (fun c2 h1 h2 => ?_) fun t' h' h1 h2 h3 s => ?_
    · rw [hpt2] at h1
      obtain ⟨c3, h3, h4⟩ := q4
      have : c2 = c3 := Option.some.inj (h1.symm.trans h3)
      rw [this]; exact h4
    · have hgt2 : PT.get lt (GT.pt (h := k + 1) ((⟨true, n, is', cnt, ins its (pos lt its x) md', iv', ib', io', isp', kb, kv', krb', kro', ksp'⟩ : Nd It), ts.take (pos lt its x) ++ l :: r :: ts.drop (pos lt its x + 1))) x = none := by
        rw [hpt2, PT.get_items swo q2 (by rw [q1]; exact ha), q1, ← PT.get_items (h := k + 1) (t := (its, ts.map GT.pt)) swo fl ha]; exact hgt
      rw [hgt2]
      refine r_ext rfl ?_
      refine r_ext rfl ?_
      refine r_ext rfl ?_
      have := H t' h' (by
        show _ = if PT.splits lt m (h := k + 1) (its, ts.map GT.pt) x = true then _ else _
        rw [hsp, h1, hpt2, q5]; rfl) h2 h3 ((s.drop 1).perm List.perm_middle.symm)
      change Q (.tuple #[old (PT.get lt (h := k + 1) (its, ts.map GT.pt) x), .bool (PT.get lt (h := k + 1) (its, ts.map GT.pt) x).isSome, .bool (PT.splits lt m (h := k + 1) (its, ts.map GT.pt) x)]) h' at this
      have hgt : PT.get lt (h := k + 1) (its, ts.map GT.pt) x = none := hgt
      rw [hsp, hgt] at this
      exact this

theorem SetOk.all {tb m : Nat} {iso mn : Int} {ctr : Option Addr} {x : It} (htb : h0.size ≤ tb) (hT0 : (tb, 0, hd0 iso ctr) ∈ Z) (hT4 : (tb, 4, hd4 mn m) ∈ Z) (hm1 : m ≤ 1024) (ho : m % 2 = 1) : ∀ k, SetOk h0 Z tb m iso x k
  | 0 => SetOk.zero htb hT0 hT4 hm1
  | k + 1 => SetOk.succ htb hT0 hT4 hm1 ho (SetOk.all htb hT0 hT4 hm1 ho k)
end Go.Proofs.Ytdpkpcmoabfofaa.Si
end
section
namespace Go.Proofs.Ytdpkpcmoabfofaa.Si
open Go.Hp Go.Proofs.Ytdpkpcmoabfofaa
set_option linter.unusedVariables false
set_option linter.unusedSimpArgs false
variable {h0 h : Heap} {Z E : List Rg} {Q : Value → Heap → Prop}

/-- A map's root: none, or a tree. -/
abbrev Rt := Option ((k : Nat) × GT It k)
def rA : Rt → Option Addr
  | none => none
  | some t => some ⟨t.2.id, 0, none⟩
def rAll : Rt → List Rg
  | none => []
  | some t => t.2.all enc
def rPt : Rt → MT It
  | none => none
  | some t => some ⟨t.1, t.2.pt⟩
def rGd (iso : Int) : Rt → Prop
  | none => True
  | some t => Gd iso t.2

theorem Set_noSplit {tb m : Nat} {iso mn cnt : Int} {ctr : Option Addr} {x : It} (htb : h0.size ≤ tb) (hT0 : (tb, 0, hd0 iso ctr) ∈ Z) (hT4 : (tb, 4, hd4 mn m) ∈ Z) (hm1 : m ≤ 1024) (ho : m % 2 = 1) {k : Nat} (t : GT It k)
    (fl : t.pt.Fl m 1) (ha : Asc lt t.pt.items) (hsz : t.pt.items.length ≤ 4611686018427387903) (g : Gd iso t) (hcnt : cnt = t.pt.items.length) (hsp : t.pt.splits lt m x = false)
    (s : St h0 Z ((tb, 2, [ptr t.id 0]) :: (tb, 3, [.int .i64 cnt]) :: (t.all enc ++ E)) h)
    (H : ∀ (t' : GT It k) h', t'.pt = t.pt.set lt m x → Gd iso t' → St h0 Z ((tb, 2, [ptr t'.id 0]) :: (tb, 3, [.int .i64 t'.pt.items.length]) :: (t'.all enc ++ E)) h' → Q (.tuple #[old (lget lt t.pt.items x), .bool (lget lt t.pt.items x).isSome]) h') :
    Map_si_Set.call #[ptr tb 0, kv x.1, vv x.2] h Q := by
  refine Map_si_Set.body _ _ _ _ _ ?_
  unfold Map_si_Set.sh
  have hset := (PT.set_items swo ho fl ha hsp).1
  have hgi := PT.get_items swo fl ha (x := x)
  (apply r_build; (simp only [fillV, fill1, Value.cells, zeros_succ, zeros_zero, List.size_toArray, List.length_cons, List.length_nil, List.length_append, List.take_succ_cons, List.take_zero, List.take_nil, List.drop_succ_cons, List.drop_zero, List.drop_nil, List.cons_append, List.nil_append, List.append_nil, Nat.reduceAdd, Nat.reduceMul, Nat.reduceLeDiff, Nat.reduceEqDiff, and_self, and_true, true_and, if_true, Nat.le_refl, Nat.zero_add, Nat.add_zero, Nat.zero_mul, reduceIte, if_false] <;> rfl))
  refine s.r_alloc fun t8 h s => ?_
  refine St.r_storeN0 s 0 rfl rfl (by simp) (enc1 x) ?_; intro h s
  refine r_nil ?_
  refine r_fld ?_
  refine s.r_load1 1 (o := 2) (j := 0) rfl rfl ?_
  refine r_eqNilP ?_
  refine r_if (fun e => absurd e (by simp)) (fun _ => ?_)
  unfold Map_si_Set.j1
  refine r_nil ?_
  refine r_fld ?_
  refine St.r_loadN0 s 0 rfl (by simp) ?_
  refine SetOk.all htb hT0 hT4 hm1 ho k t (E := (t8, 0, enc x) :: (tb, 3, [.int .i64 cnt]) :: E) (pb := tb) (po := 2) fl ha hsz g (s.perm (by ((apply perm_rg; intro f; simp only [List.set_cons_zero, List.set_cons_succ, List.eraseIdx_cons_zero, List.eraseIdx_cons_succ, List.cons_append, List.nil_append, List.map_append, List.map_cons, List.map_nil, List.sum_append, List.sum_cons, List.sum_nil, List.map_flatMap, Nat.add_zero, Nat.zero_add]; ac_rfl)))) fun t' h' h1 h2 h3 s => ?_
  rw [hsp] at h1 ⊢
  simp only [Bool.false_eq_true, ↓reduceIte] at h1
  rw [hgi]
  refine r_ext rfl ?_
  refine r_ext rfl ?_
  refine r_ext rfl ?_
  refine r_if (fun e => absurd e (by simp)) (fun _ => ?_)
  unfold Map_si_Set.j2
  have hl : t'.pt.items.length = t.pt.items.length + if (lget lt t.pt.items x).isSome then 0 else 1 := by rw [h1, hset, lput_length]
  refine r_if (fun hr => ?_) (fun hr => ?_)
  · rw [hr] at hl
    have s : St h0 Z ((tb, 2, [ptr t'.id 0]) :: (tb, 3, [.int .i64 t'.pt.items.length]) :: (t'.all enc ++ E)) h' := by
      have e : ((t.pt.items.length + if true = true then 0 else 1 : Nat) : Int) = cnt := by rw [hcnt]; simp
      rw [h2, hl, e]
      exact (s.perm (E' := (t8, 0, enc x) :: (tb, 2, [ptr t.id 0]) :: (tb, 3, [.int .i64 cnt]) :: (t'.all enc ++ E)) (by ((apply perm_rg; intro f; simp only [List.set_cons_zero, List.set_cons_succ, List.eraseIdx_cons_zero, List.eraseIdx_cons_succ, List.cons_append, List.nil_append, List.map_append, List.map_cons, List.map_nil, List.sum_append, List.sum_cons, List.sum_nil, List.map_flatMap, Nat.add_zero, Nat.zero_add]; ac_rfl)))).drop 1
    have := H t' h' h1 h3 s
    rw [hr] at this
    exact this
  · rw [hr] at hl
    have hn : lget lt t.pt.items x = none := by cases e : lget lt t.pt.items x with
      | none => rfl
      | some y => rw [e] at hr; cases hr
    unfold Map_si_Set.j3
    have s : St h0 Z ((tb, 3, [.int .i64 cnt]) :: (tb, 2, [ptr t.id 0]) :: (t8, 0, enc x) :: (t'.all enc ++ E)) h' := s.perm (by ((apply perm_rg; intro f; simp only [List.set_cons_zero, List.set_cons_succ, List.eraseIdx_cons_zero, List.eraseIdx_cons_succ, List.cons_append, List.nil_append, List.map_append, List.map_cons, List.map_nil, List.sum_append, List.sum_cons, List.sum_nil, List.map_flatMap, Nat.add_zero, Nat.zero_add]; ac_rfl)))
    refine r_nil ?_
    refine r_fld ?_
    refine s.r_load1 0 (o := 3) (j := 0) rfl rfl ?_
    refine r_add (z := cnt + 1) (by rw [i64w (by omega) (by omega)]) ?_
    refine r_nil ?_
    refine r_fld ?_
    refine St.r_store1 s 0 (o := 3) (j := 0) rfl (by simp) rfl ?_; intro h s
    refine r_nil ?_
    refine r_fld ?_
    refine r_fld ?_
    refine s.r_lz hT4 0 rfl rfl ?_
    have := H t' h h1 h3 (by
      rw [h2, hl]
      have e : ((t.pt.items.length + if false = true then 0 else 1 : Nat) : Int) = cnt + 1 := by rw [hcnt]; simp
      rw [e]
      exact (s.perm (E' := (t8, 0, enc x) :: (tb, 2, [ptr t.id 0]) :: (tb, 3, [.int .i64 (cnt + 1)]) :: (t'.all enc ++ E)) (by ((apply perm_rg; intro f; simp only [List.set_cons_zero, List.set_cons_succ, List.eraseIdx_cons_zero, List.eraseIdx_cons_succ, List.cons_append, List.nil_append, List.map_append, List.map_cons, List.map_nil, List.sum_append, List.sum_cons, List.sum_nil, List.map_flatMap, Nat.add_zero, Nat.zero_add]; ac_rfl)))).drop 1)
    rw [hn] at this
    exact this

theorem Set_cut {tb m : Nat} {iso mn cnt : Int} {ctr : Option Addr} {x : It} (htb : h0.size ≤ tb) (hT0 : (tb, 0, hd0 iso ctr) ∈ Z) (hT4 : (tb, 4, hd4 mn m) ∈ Z) (hm1 : m ≤ 1024) (hm3 : 3 ≤ m) (ho : m % 2 = 1) {k : Nat} (t : GT It k)
    (fl : t.pt.Fl m 1) (ha : Asc lt t.pt.items) (hsz : t.pt.items.length ≤ 4611686018427387903) (g : Gd iso t) (hcnt : cnt = t.pt.items.length)
    (s : St h0 Z ((tb, 2, [ptr t.id 0]) :: (tb, 3, [.int .i64 cnt]) :: (t.all enc ++ E)) h)
    (H : ∀ (g' : (j : Nat) × GT It j) h', rPt (some g') = MT.set lt m (some ⟨k, t.pt⟩) x → Gd iso g'.2 → St h0 Z ((tb, 2, [ptr g'.2.id 0]) :: (tb, 3, [.int .i64 g'.2.pt.items.length]) :: (g'.2.all enc ++ E)) h' → Q (.tuple #[old (lget lt t.pt.items x), .bool (lget lt t.pt.items x).isSome]) h') :
    Map_si_Set.call #[ptr tb 0, kv x.1, vv x.2] h Q := by
  have hi : ∀ {E h}, St h0 Z E h → cl h tb 0 = some (.int .u64 iso) := fun s => by have := s.getZ hT0 (j := 0) (by simp); simpa using this
  cases hsp : t.pt.splits lt m x with
  | false =>
    refine Set_noSplit htb hT0 hT4 hm1 ho t fl ha hsz g hcnt hsp s fun t' h' h1 h3 s => H ⟨k, t'⟩ h' ?_ h3 s
    show some (⟨k, t'.pt⟩ : (j : Nat) × PT It j) = _
    unfold MT.set
    simp only [hsp, Bool.false_eq_true, ↓reduceIte, h1]
  | true =>
    obtain ⟨md, hmd, _, fll', fh, _, _, _, _, _⟩ := PT.halves swo ho fl ha hsp
    obtain ⟨g1, g2, g3, g4⟩ := PT.grow_ok swo ho hm3 fl ha hsp
    have hgn : lget lt t.pt.items x = none := PT.splits_get swo fl ha hsp
    have egrow : t.pt.grow m = (([md], [t.pt.lo (m / 2), t.pt.hi (m / 2)]) : List It × List (PT It k)) := by unfold PT.grow; rw [hmd]; rfl
    refine Map_si_Set.body _ _ _ _ _ ?_
    unfold Map_si_Set.sh
    (apply r_build; (simp only [fillV, fill1, Value.cells, zeros_succ, zeros_zero, List.size_toArray, List.length_cons, List.length_nil, List.length_append, List.take_succ_cons, List.take_zero, List.take_nil, List.drop_succ_cons, List.drop_zero, List.drop_nil, List.cons_append, List.nil_append, List.append_nil, Nat.reduceAdd, Nat.reduceMul, Nat.reduceLeDiff, Nat.reduceEqDiff, and_self, and_true, true_and, if_true, Nat.le_refl, Nat.zero_add, Nat.add_zero, Nat.zero_mul, reduceIte, if_false] <;> rfl))
    refine s.r_alloc fun t8 h s => ?_
    refine St.r_storeN0 s 0 rfl rfl (by simp) (enc1 x) ?_; intro h s
    refine r_nil ?_
    refine r_fld ?_
    refine s.r_load1 1 (o := 2) (j := 0) rfl rfl ?_
    refine r_eqNilP ?_
    refine r_if (fun e => absurd e (by simp)) (fun _ => ?_)
    unfold Map_si_Set.j1
    refine r_nil ?_
    refine r_fld ?_
    refine St.r_loadN0 s 0 rfl (by simp) ?_
    refine SetOk.all htb hT0 hT4 hm1 ho k t (E := (t8, 0, enc x) :: (tb, 3, [.int .i64 cnt]) :: E) (pb := tb) (po := 2) fl ha hsz g (s.perm (by ((apply perm_rg; intro f; simp only [List.set_cons_zero, List.set_cons_succ, List.eraseIdx_cons_zero, List.eraseIdx_cons_succ, List.cons_append, List.nil_append, List.map_append, List.map_cons, List.map_nil, List.sum_append, List.sum_cons, List.sum_nil, List.map_flatMap, Nat.add_zero, Nat.zero_add]; ac_rfl)))) fun t' h' h1 h2 h3 s => ?_
    rw [hsp] at h1 ⊢
    simp only [↓reduceIte] at h1
    refine r_ext rfl ?_
    refine r_ext rfl ?_
    refine r_ext rfl ?_
    refine r_if (fun _ => ?_) (fun e => absurd e (by simp))
    refine r_nil ?_
    refine r_fld ?_
    refine s.r_load1 0 (o := 2) (j := 0) rfl rfl ?_
    rw [← h2]
    refine nodeSplit_ok t' (m := m) (E := (tb, 2, [ptr t.id 0]) :: (t8, 0, enc x) :: (tb, 3, [.int .i64 cnt]) :: E) hT0 hT4 (by omega) (by omega) (by rw [h1]; exact fl) (by rw [h1]; exact (PT.splits_len hsp).1) (by rw [h1]; omega) h3 (s.perm (by ((apply perm_rg; intro f; simp only [List.set_cons_zero, List.set_cons_succ, List.eraseIdx_cons_zero, List.eraseIdx_cons_succ, List.cons_append, List.nil_append, List.map_append, List.map_cons, List.map_nil, List.sum_append, List.sum_cons, List.sum_nil, List.map_flatMap, Nat.add_zero, Nat.zero_add]; ac_rfl)))) fun l r md' h hmd' hl hr hlid gl gr s => ?_
    have : md' = md := by rw [h1] at hmd'; exact Option.some.inj (hmd'.symm.trans hmd)
    subst this
    rw [h1] at hl hr
    have s : St h0 Z ((tb, 2, [ptr t.id 0]) :: (t8, 0, enc x) :: (tb, 3, [.int .i64 cnt]) :: (l.all enc ++ (r.all enc ++ E))) h := s.perm (by ((apply perm_rg; intro f; simp only [List.set_cons_zero, List.set_cons_succ, List.eraseIdx_cons_zero, List.eraseIdx_cons_succ, List.cons_append, List.nil_append, List.map_append, List.map_cons, List.map_nil, List.sum_append, List.sum_cons, List.sum_nil, List.map_flatMap, Nat.add_zero, Nat.zero_add]; ac_rfl)))
    refine r_ext rfl ?_
    refine r_ext rfl ?_
    refine s.r_alloc fun t14 h s => ?_
    refine St.r_storeN0 s 0 rfl rfl (by simp) (enc1 _) ?_; intro h s
    refine newNode_inner (hi s) fun n' kb' h s1 => ?_
    have s := s.join s1
    have s : St h0 Z ((n', 0, [.int .u64 iso, .int .i64 0, .slice none 0 0, ptr kb' 0]) :: (kb', 0, [.slice none 0 0]) :: (t14, 0, enc md') :: (tb, 2, [ptr t.id 0]) :: (t8, 0, enc x) :: (tb, 3, [.int .i64 cnt]) :: (l.all enc ++ (r.all enc ++ E))) h := s
    refine r_nil ?_
    refine r_fld ?_
    refine St.r_store1 s 3 (o := 2) (j := 0) rfl (by simp) rfl ?_; intro h s
    refine r_nil ?_
    refine r_fld ?_
    refine s.r_load1 3 (o := 2) (j := 0) rfl rfl ?_
    refine r_nil ?_
    refine r_fld ?_
    refine St.r_load0 s 0 rfl rfl ?_
    refine r_nil ?_
    refine r_fld ?_
    refine s.r_lz hT4 3 rfl rfl ?_
    refine r_add (z := ((m + 1 : Nat) : Int)) (by rw [i64w (by omega) (by omega)]; omega) ?_
    refine s.r_mks (n := 0) rfl (by omega) (by omega) (by omega) fun v b h s w0 => ?_
    refine ⟨s.r_still1 4 (o := 2) (j := 0) rfl rfl, by (first | exact St.r_still0 s 0 rfl rfl | exact St.r_still0 s 1 rfl rfl | exact St.r_still0 s 2 rfl rfl | exact St.r_still0 s 3 rfl rfl | exact St.r_still0 s 4 rfl rfl | exact St.r_still0 s 5 rfl rfl | exact St.r_still0 s 6 rfl rfl), ?_⟩
    refine r_nil ?_
    refine St.r_store0 s 2 rfl (by simp) w0.one ?_; intro h s
    refine r_nil ?_
    refine r_fld ?_
    refine s.r_load1 4 (o := 2) (j := 0) rfl rfl ?_
    refine r_nil ?_
    refine r_fld ?_
    refine St.r_load0 s 1 rfl rfl ?_
    have s : St h0 Z ((n', 0, [.int .u64 iso, .int .i64 0, .slice none 0 0, ptr kb' 0]) :: (kb', 0, [v]) :: (t14, 0, enc md') :: (tb, 2, [ptr n' 0]) :: (t8, 0, enc x) :: (tb, 3, [.int .i64 cnt]) :: (l.all enc ++ (r.all enc ++ E))) h := s.drop 1
    -- what follows the items
    have fin : ∀ {iv kv : Value} {ib io rb ro : Nat} {isp ksp : List Value} {h : Heap}, Own 2 iv 1 ib io (enc md') isp → Own 1 kv 2 rb ro (fp l.id ++ fp r.id) ksp →
        St h0 Z ((n', 0, [.int .u64 iso, .int .i64 0, iv, ptr kb' 0]) :: (ib, io, enc md' ++ isp) :: (kb', 0, [kv]) :: (rb, ro, (fp l.id ++ fp r.id) ++ ksp) :: (tb, 2, [ptr n' 0]) :: (t8, 0, enc x) :: (tb, 3, [.int .i64 cnt]) :: (l.all enc ++ (r.all enc ++ E))) h →
        (nilck (ptr tb 0) fun t118 => fld 2 t118 fun t119 => load1 t119 h fun t120 => mapNode_si_updateCount.call #[t120] h fun t121 h => fld 1 (ptr t8 0) fun t123 => load1 t123 h fun t124 =>
          fld 0 (ptr t8 0) fun t125 => load1 t125 h fun t126 => Map_si_Set.call #[ptr tb 0, t124, t126] h fun t127 h => extr 0 t127 fun t128 => extr 1 t127 fun t129 => Q (.tuple #[t128, t129]) h) := by
      intro iv kv ib io rb ro isp ksp h wi wkk s
      have s : St h0 Z ((n', 0, [.int .u64 iso, .int .i64 0, iv, ptr kb' 0]) :: (kb', 0, [kv]) :: (rb, ro, ([l, r].map GT.id).flatMap fp ++ ksp) :: (tb, 2, [ptr n' 0]) :: (ib, io, enc md' ++ isp) :: (t8, 0, enc x) :: (tb, 3, [.int .i64 cnt]) :: (l.all enc ++ (r.all enc ++ E))) h := s.perm (by
        show ((n', 0, [.int .u64 iso, .int .i64 0, iv, ptr kb' 0]) :: (kb', 0, [kv]) :: (rb, ro, (fp l.id ++ fp r.id) ++ ksp) :: _ :: _ :: _ :: _ :: _).Perm _
        ((apply perm_rg; intro f; simp only [List.set_cons_zero, List.set_cons_succ, List.eraseIdx_cons_zero, List.eraseIdx_cons_succ, List.cons_append, List.nil_append, List.map_append, List.map_cons, List.map_nil, List.sum_append, List.sum_cons, List.sum_nil, List.map_flatMap, Nat.add_zero, Nat.zero_add]; ac_rfl)))
      have wkk : Own 1 kv ([l, r].map GT.id).length rb ro (([l, r].map GT.id).flatMap fp) ksp := wkk
      refine r_nil ?_
      refine r_fld ?_
      refine s.r_load1 3 (o := 2) (j := 0) rfl rfl ?_
      have hlr : l.pt.items.length + r.pt.items.length + 1 = t.pt.items.length := by
        rw [hl, hr, PT.cut_items fl hmd, List.length_append, List.length_cons]; omega
      refine updateCount_kids (ts := [l, r]) (len := 1) s wi wkk (fun q hq => ?_) (fun q hq z hz => ?_) (by simp) (by simp; omega) fun h s => ?_
      · simp at hq; rcases hq with e | e <;> subst e
        · exact gl.cn
        · exact gr.cn
      · simp at hq
        simp only [List.mem_cons, List.mem_append]
        rcases hq with e | e <;> subst e
        · exact .inr (.inr (.inr (.inr (.inl hz))))
        · exact .inr (.inr (.inr (.inr (.inr (.inl hz)))))
      · have hcc : 1 + ([l, r].map fun t => t.pt.items.length).sum = t.pt.items.length := by simp; omega
        rw [hcc] at s
        refine r_fld ?_
        refine St.r_load0 s 5 rfl rfl ?_
        refine r_fld ?_
        refine St.r_load0 s 5 rfl rfl ?_
        let tn : GT It (k + 1) := ((⟨true, n', iso, (t.pt.items.length : Int), [md'], iv, ib, io, isp, kb', kv, rb, ro, ksp⟩ : Nd It), [l, r])
        have hpn : tn.pt = t.pt.grow m := by
          rw [egrow]
          show ([md'], [l, r].map GT.pt) = _
          rw [List.map_cons, List.map_cons, List.map_nil, hl, hr]
        have gn : Gd iso tn := Gd.inner (by show Own 2 iv [md'].length ib io ([md'].flatMap enc) isp; simpa using wi) rfl rfl (by simpa using wkk) rfl (fun c hc => by
          have hc : c ∈ [l, r] := hc
          simp at hc; rcases hc with e | e <;> subst e
          · exact gl
          · exact gr) (by show (t.pt.items.length : Int) = (tn.pt.items.length : Int); rw [hpn, g1])
        have s : St h0 Z ((tb, 2, [ptr tn.id 0]) :: (tb, 3, [.int .i64 cnt]) :: (tn.all enc ++ ((t8, 0, enc x) :: E))) h := by
          have s1 : St h0 Z ((tb, 2, [ptr n' 0]) :: (tb, 3, [.int .i64 cnt]) :: (n', 0, [.int .u64 iso, .int .i64 t.pt.items.length, iv, ptr kb' 0]) :: (ib, io, [md'].flatMap enc ++ isp) :: (kb', 0, [kv]) :: (rb, ro, (([l, r].map GT.id).map fun m => ptr m 0) ++ ksp) :: ([l, r].flatMap (GT.all enc) ++ ((t8, 0, enc x) :: E))) h := by
            rw [mfp]
            exact s.perm (by
              rw [List.flatMap_singleton, List.flatMap_cons, List.flatMap_cons, List.flatMap_nil, List.append_nil]; ((apply perm_rg; intro f; simp only [List.set_cons_zero, List.set_cons_succ, List.eraseIdx_cons_zero, List.eraseIdx_cons_succ, List.cons_append, List.nil_append, List.map_append, List.map_cons, List.map_nil, List.sum_append, List.sum_cons, List.sum_nil, List.map_flatMap, Nat.add_zero, Nat.zero_add]; ac_rfl)))
          exact s1
        refine Set_noSplit htb hT0 hT4 hm1 ho tn (by rw [hpn]; exact g2) (by rw [hpn, g1]; exact ha) (by rw [hpn, g1]; exact hsz) gn (by rw [hpn, g1]; exact hcnt) (by rw [hpn]; exact g3) s fun t2 h' e1 e2 s => ?_
        rw [hpn, g1, hgn]
        refine r_ext rfl ?_
        refine r_ext rfl ?_
        have := H ⟨k + 1, t2⟩ h' (by
          show some (⟨k + 1, t2.pt⟩ : (j : Nat) × PT It j) = _
          unfold MT.set
          simp only [hsp, ↓reduceIte, e1, hpn]) e2 ((s.perm (E' := (t8, 0, enc x) :: (tb, 2, [ptr t2.id 0]) :: (tb, 3, [.int .i64 t2.pt.items.length]) :: (t2.all enc ++ E)) (by ((apply perm_rg; intro f; simp only [List.set_cons_zero, List.set_cons_succ, List.eraseIdx_cons_zero, List.eraseIdx_cons_succ, List.cons_append, List.nil_append, List.map_append, List.map_cons, List.map_nil, List.sum_append, List.sum_cons, List.sum_nil, List.map_flatMap, Nat.add_zero, Nat.zero_add]; ac_rfl)))).drop 1)
        rw [hgn] at this
        exact this
    -- what follows the children
    have tail : ∀ {kv : Value} {rb ro : Nat} {ksp : List Value} {h : Heap}, Own 1 kv 2 rb ro (fp l.id ++ fp r.id) ksp →
        St h0 Z ((n', 0, [.int .u64 iso, .int .i64 0, .slice none 0 0, ptr kb' 0]) :: (kb', 0, [kv]) :: (rb, ro, (fp l.id ++ fp r.id) ++ ksp) :: (t14, 0, enc md') :: (tb, 2, [ptr n' 0]) :: (t8, 0, enc x) :: (tb, 3, [.int .i64 cnt]) :: (l.all enc ++ (r.all enc ++ E))) h →
        (nilck (ptr tb 0) fun t108 => fld 2 t108 fun t109 => load1 t109 h fun t110 => loadN 2 (ptr t14 0) h fun t112 =>
          (mkSl (if 0 * 2 = 0 then [] else zeros (enc emp) 0) 0 [] 223 h fun t111 h => still1 t109 t110 h ∧ stillN 2 (ptr t14 0) t112 h ∧ mkSl (if 1 * 2 = 0 then [] else zeros (enc emp) 1) 1 [(0 * 2, 2, t112)] 223 h fun t113 h =>
            still1 t109 t110 h ∧ app 223 2 24 (enc emp) t111 t113 h fun t114 h => still1 t109 t110 h ∧ nilck t110 fun t115 => fld 2 t115 fun t116 => store1 t116 t114 h fun h =>
            nilck (ptr tb 0) fun t118 => fld 2 t118 fun t119 => load1 t119 h fun t120 => mapNode_si_updateCount.call #[t120] h fun t121 h => fld 1 (ptr t8 0) fun t123 => load1 t123 h fun t124 =>
            fld 0 (ptr t8 0) fun t125 => load1 t125 h fun t126 => Map_si_Set.call #[ptr tb 0, t124, t126] h fun t127 h => extr 0 t127 fun t128 => extr 1 t127 fun t129 => Q (.tuple #[t128, t129]) h) ∧
          (mkSl (if 1 * 2 = 0 then [] else zeros (enc emp) 1) 1 [(0 * 2, 2, t112)] 223 h fun t113 h => still1 t109 t110 h ∧ mkSl (if 0 * 2 = 0 then [] else zeros (enc emp) 0) 0 [] 223 h fun t111 h =>
            still1 t109 t110 h ∧ app 223 2 24 (enc emp) t111 t113 h fun t114 h => still1 t109 t110 h ∧ nilck t110 fun t115 => fld 2 t115 fun t116 => store1 t116 t114 h fun h =>
            nilck (ptr tb 0) fun t118 => fld 2 t118 fun t119 => load1 t119 h fun t120 => mapNode_si_updateCount.call #[t120] h fun t121 h => fld 1 (ptr t8 0) fun t123 => load1 t123 h fun t124 =>
            fld 0 (ptr t8 0) fun t125 => load1 t125 h fun t126 => Map_si_Set.call #[ptr tb 0, t124, t126] h fun t127 h => extr 0 t127 fun t128 => extr 1 t127 fun t129 => Q (.tuple #[t128, t129]) h)) := by
      intro kv rb ro ksp h wkk s
      refine r_nil ?_
      refine r_fld ?_
      refine s.r_load1 4 (o := 2) (j := 0) rfl rfl ?_
      refine St.r_loadN0 s 3 rfl (by simp) ?_
      constructor
      · refine St.r_mkSl (sz := 2) (cs := []) s (by ((simp only [fillV, fill1, Value.cells, zeros_succ, zeros_zero, List.size_toArray, List.length_cons, List.length_nil, List.length_append, List.take_succ_cons, List.take_zero, List.take_nil, List.drop_succ_cons, List.drop_zero, List.drop_nil, List.cons_append, List.nil_append, List.append_nil, Nat.reduceAdd, Nat.reduceMul, Nat.reduceLeDiff, Nat.reduceEqDiff, and_self, and_true, true_and, if_true, Nat.le_refl, Nat.zero_add, Nat.add_zero, Nat.zero_mul, reduceIte, if_false] <;> rfl))) rfl fun q1 h s w1 => ?_
        refine ⟨s.r_still1 5 (o := 2) (j := 0) rfl rfl, St.r_stillN0 s 4 rfl (by simp) rfl, ?_⟩
        refine St.r_mkSl (sz := 2) (cs := enc md') s (by ((simp only [fillV, fill1, Value.cells, zeros_succ, zeros_zero, List.size_toArray, List.length_cons, List.length_nil, List.length_append, List.take_succ_cons, List.take_zero, List.take_nil, List.drop_succ_cons, List.drop_zero, List.drop_nil, List.cons_append, List.nil_append, List.append_nil, Nat.reduceAdd, Nat.reduceMul, Nat.reduceLeDiff, Nat.reduceEqDiff, and_self, and_true, true_and, if_true, Nat.le_refl, Nat.zero_add, Nat.add_zero, Nat.zero_mul, reduceIte, if_false] <;> rfl))) rfl fun q2 h s w2 => ?_
        refine ⟨s.r_still1 6 (o := 2) (j := 0) rfl rfl, ?_⟩
        refine St.r_app s 1 (sz := 2) (n := 1) (new := enc md') rfl w1 rfl (w2.rdl s 0 rfl) (enc1 _) (by omega) (by omega) fun iv ib io isp h s wi => ?_
        refine ⟨s.r_still1 6 (o := 2) (j := 0) rfl rfl, ?_⟩
        refine r_nil ?_
        refine r_fld ?_
        refine St.r_store0 s 2 rfl (by simp) wi.one ?_; intro h s
        exact fin wi wkk ((s.perm (E' := (q2, 0, enc md' ++ []) :: (t14, 0, enc md') :: _) (by simp; ((apply perm_rg; intro f; simp only [List.set_cons_zero, List.set_cons_succ, List.eraseIdx_cons_zero, List.eraseIdx_cons_succ, List.cons_append, List.nil_append, List.map_append, List.map_cons, List.map_nil, List.sum_append, List.sum_cons, List.sum_nil, List.map_flatMap, Nat.add_zero, Nat.zero_add]; ac_rfl)))).drop 2)
      · refine St.r_mkSl (sz := 2) (cs := enc md') s (by ((simp only [fillV, fill1, Value.cells, zeros_succ, zeros_zero, List.size_toArray, List.length_cons, List.length_nil, List.length_append, List.take_succ_cons, List.take_zero, List.take_nil, List.drop_succ_cons, List.drop_zero, List.drop_nil, List.cons_append, List.nil_append, List.append_nil, Nat.reduceAdd, Nat.reduceMul, Nat.reduceLeDiff, Nat.reduceEqDiff, and_self, and_true, true_and, if_true, Nat.le_refl, Nat.zero_add, Nat.add_zero, Nat.zero_mul, reduceIte, if_false] <;> rfl))) rfl fun q2 h s w2 => ?_
        refine ⟨s.r_still1 5 (o := 2) (j := 0) rfl rfl, ?_⟩
        refine St.r_mkSl (sz := 2) (cs := []) s (by ((simp only [fillV, fill1, Value.cells, zeros_succ, zeros_zero, List.size_toArray, List.length_cons, List.length_nil, List.length_append, List.take_succ_cons, List.take_zero, List.take_nil, List.drop_succ_cons, List.drop_zero, List.drop_nil, List.cons_append, List.nil_append, List.append_nil, Nat.reduceAdd, Nat.reduceMul, Nat.reduceLeDiff, Nat.reduceEqDiff, and_self, and_true, true_and, if_true, Nat.le_refl, Nat.zero_add, Nat.add_zero, Nat.zero_mul, reduceIte, if_false] <;> rfl))) rfl fun q1 h s w1 => ?_
        refine ⟨s.r_still1 6 (o := 2) (j := 0) rfl rfl, ?_⟩
        refine St.r_app s 0 (sz := 2) (n := 1) (new := enc md') rfl w1 rfl (w2.rdl s 1 rfl) (enc1 _) (by omega) (by omega) fun iv ib io isp h s wi => ?_
        refine ⟨s.r_still1 6 (o := 2) (j := 0) rfl rfl, ?_⟩
        refine r_nil ?_
        refine r_fld ?_
        refine St.r_store0 s 2 rfl (by simp) wi.one ?_; intro h s
        exact fin wi wkk ((s.perm (E' := (q2, 0, enc md' ++ []) :: (t14, 0, enc md') :: _) (by simp; ((apply perm_rg; intro f; simp only [List.set_cons_zero, List.set_cons_succ, List.eraseIdx_cons_zero, List.eraseIdx_cons_succ, List.cons_append, List.nil_append, List.map_append, List.map_cons, List.map_nil, List.sum_append, List.sum_cons, List.sum_nil, List.map_flatMap, Nat.add_zero, Nat.zero_add]; ac_rfl)))).drop 2)
    constructor
    · refine St.r_mkSl (sz := 1) (cs := []) s (by ((simp only [fillV, fill1, Value.cells, zeros_succ, zeros_zero, List.size_toArray, List.length_cons, List.length_nil, List.length_append, List.take_succ_cons, List.take_zero, List.take_nil, List.drop_succ_cons, List.drop_zero, List.drop_nil, List.cons_append, List.nil_append, List.append_nil, Nat.reduceAdd, Nat.reduceMul, Nat.reduceLeDiff, Nat.reduceEqDiff, and_self, and_true, true_and, if_true, Nat.le_refl, Nat.zero_add, Nat.add_zero, Nat.zero_mul, reduceIte, if_false] <;> rfl))) rfl fun q1 h s w1 => ?_
      refine ⟨s.r_still1 4 (o := 2) (j := 0) rfl rfl, by (first | exact St.r_still0 s 0 rfl rfl | exact St.r_still0 s 1 rfl rfl | exact St.r_still0 s 2 rfl rfl | exact St.r_still0 s 3 rfl rfl | exact St.r_still0 s 4 rfl rfl | exact St.r_still0 s 5 rfl rfl | exact St.r_still0 s 6 rfl rfl), ?_⟩
      refine St.r_mkSl (sz := 1) (cs := fp l.id ++ fp r.id) s (by rw [hlid]; ((simp only [fillV, fill1, Value.cells, zeros_succ, zeros_zero, List.size_toArray, List.length_cons, List.length_nil, List.length_append, List.take_succ_cons, List.take_zero, List.take_nil, List.drop_succ_cons, List.drop_zero, List.drop_nil, List.cons_append, List.nil_append, List.append_nil, Nat.reduceAdd, Nat.reduceMul, Nat.reduceLeDiff, Nat.reduceEqDiff, and_self, and_true, true_and, if_true, Nat.le_refl, Nat.zero_add, Nat.add_zero, Nat.zero_mul, reduceIte, if_false] <;> rfl))) rfl fun q2 h s w2 => ?_
      refine ⟨s.r_still1 5 (o := 2) (j := 0) rfl rfl, by (first | exact St.r_still0 s 0 rfl rfl | exact St.r_still0 s 1 rfl rfl | exact St.r_still0 s 2 rfl rfl | exact St.r_still0 s 3 rfl rfl | exact St.r_still0 s 4 rfl rfl | exact St.r_still0 s 5 rfl rfl | exact St.r_still0 s 6 rfl rfl), ?_⟩
      refine St.r_app s 1 (sz := 1) (n := 2) (new := fp l.id ++ fp r.id) rfl w1 rfl (w2.rdl s 0 rfl) (by simp [one1]) (by omega) (by omega) fun kv rb ro ksp h s wkk => ?_
      refine ⟨s.r_still1 5 (o := 2) (j := 0) rfl rfl, by (first | exact St.r_still0 s 0 rfl rfl | exact St.r_still0 s 1 rfl rfl | exact St.r_still0 s 2 rfl rfl | exact St.r_still0 s 3 rfl rfl | exact St.r_still0 s 4 rfl rfl | exact St.r_still0 s 5 rfl rfl | exact St.r_still0 s 6 rfl rfl), ?_⟩
      refine r_nil ?_
      refine St.r_store0 s 3 rfl (by simp) wkk.one ?_; intro h s
      exact tail wkk ((s.perm (E' := (q2, 0, fp l.id ++ fp r.id ++ []) :: _) (by simp; ((apply perm_rg; intro f; simp only [List.set_cons_zero, List.set_cons_succ, List.eraseIdx_cons_zero, List.eraseIdx_cons_succ, List.cons_append, List.nil_append, List.map_append, List.map_cons, List.map_nil, List.sum_append, List.sum_cons, List.sum_nil, List.map_flatMap, Nat.add_zero, Nat.zero_add]; ac_rfl)))).drop 1)
    · refine St.r_mkSl (sz := 1) (cs := fp l.id ++ fp r.id) s (by rw [hlid]; ((simp only [fillV, fill1, Value.cells, zeros_succ, zeros_zero, List.size_toArray, List.length_cons, List.length_nil, List.length_append, List.take_succ_cons, List.take_zero, List.take_nil, List.drop_succ_cons, List.drop_zero, List.drop_nil, List.cons_append, List.nil_append, List.append_nil, Nat.reduceAdd, Nat.reduceMul, Nat.reduceLeDiff, Nat.reduceEqDiff, and_self, and_true, true_and, if_true, Nat.le_refl, Nat.zero_add, Nat.add_zero, Nat.zero_mul, reduceIte, if_false] <;> rfl))) rfl fun q2 h s w2 => ?_
      refine ⟨s.r_still1 4 (o := 2) (j := 0) rfl rfl, by (first | exact St.r_still0 s 0 rfl rfl | exact St.r_still0 s 1 rfl rfl | exact St.r_still0 s 2 rfl rfl | exact St.r_still0 s 3 rfl rfl | exact St.r_still0 s 4 rfl rfl | exact St.r_still0 s 5 rfl rfl | exact St.r_still0 s 6 rfl rfl), ?_⟩
      refine St.r_mkSl (sz := 1) (cs := []) s (by ((simp only [fillV, fill1, Value.cells, zeros_succ, zeros_zero, List.size_toArray, List.length_cons, List.length_nil, List.length_append, List.take_succ_cons, List.take_zero, List.take_nil, List.drop_succ_cons, List.drop_zero, List.drop_nil, List.cons_append, List.nil_append, List.append_nil, Nat.reduceAdd, Nat.reduceMul, Nat.reduceLeDiff, Nat.reduceEqDiff, and_self, and_true, true_and, if_true, Nat.le_refl, Nat.zero_add, Nat.add_zero, Nat.zero_mul, reduceIte, if_false] <;> rfl))) rfl fun q1 h s w1 => ?_
      refine ⟨s.r_still1 5 (o := 2) (j := 0) rfl rfl, by (first | exact St.r_still0 s 0 rfl rfl | exact St.r_still0 s 1 rfl rfl | exact St.r_still0 s 2 rfl rfl | exact St.r_still0 s 3 rfl rfl | exact St.r_still0 s 4 rfl rfl | exact St.r_still0 s 5 rfl rfl | exact St.r_still0 s 6 rfl rfl), ?_⟩
      refine St.r_app s 0 (sz := 1) (n := 2) (new := fp l.id ++ fp r.id) rfl w1 rfl (w2.rdl s 1 rfl) (by simp [one1]) (by omega) (by omega) fun kv rb ro ksp h s wkk => ?_
      refine ⟨s.r_still1 5 (o := 2) (j := 0) rfl rfl, by (first | exact St.r_still0 s 0 rfl rfl | exact St.r_still0 s 1 rfl rfl | exact St.r_still0 s 2 rfl rfl | exact St.r_still0 s 3 rfl rfl | exact St.r_still0 s 4 rfl rfl | exact St.r_still0 s 5 rfl rfl | exact St.r_still0 s 6 rfl rfl), ?_⟩
      refine r_nil ?_
      refine St.r_store0 s 3 rfl (by simp) wkk.one ?_; intro h s
      exact tail wkk ((s.perm (E' := (q2, 0, fp l.id ++ fp r.id ++ []) :: _) (by simp; ((apply perm_rg; intro f; simp only [List.set_cons_zero, List.set_cons_succ, List.eraseIdx_cons_zero, List.eraseIdx_cons_succ, List.cons_append, List.nil_append, List.map_append, List.map_cons, List.map_nil, List.sum_append, List.sum_cons, List.sum_nil, List.map_flatMap, Nat.add_zero, Nat.zero_add]; ac_rfl)))).drop 1)
end Go.Proofs.Ytdpkpcmoabfofaa.Si
end
section
namespace Go.Proofs.Ytdpkpcmoabfofaa
open Go.Hp
set_option linter.unusedVariables false
set_option linter.unusedSimpArgs false
theorem degree_ok {h : Heap} {Q : Value → Heap → Prop} {d : Int} (h1 : 2 ≤ d) (h2 : d ≤ 1073741824) (H : Q (.tuple #[.int .i64 (d - 1), .int .i64 (2 * d - 1)]) h) : degreeToMinMax.call #[.int .i64 d] h Q := by
  refine degreeToMinMax.body _ _ _ ?_
  unfold degreeToMinMax.sh
  simp only [w_load1, w_loadN, w_nil, w_fld, w_idx, w_len, w_lenStr, w_cap, w_arith, w_divi, w_remi, w_cmpI, w_cmpS, w_not, w_ext, w_eqNilP, w_neNilP, w_eqB, w_pick, w_max, w_ifV, w_br, w_store1, w_storeN, w_alloc, w_box, add_mk, Nat.zero_add, Nat.add_zero, Option.some.injEq, exists_eq_left', List.getElem?_cons_zero, List.getElem?_cons_succ, List.getD_cons_zero, List.getD_cons_succ]
  refine ⟨fun e => absurd e (by simp; omega), fun _ => ⟨fun e => absurd e (by simp; omega), fun _ => ?_⟩⟩
  unfold degreeToMinMax.j1
  simp only [w_load1, w_loadN, w_nil, w_fld, w_idx, w_len, w_lenStr, w_cap, w_arith, w_divi, w_remi, w_cmpI, w_cmpS, w_not, w_ext, w_eqNilP, w_neNilP, w_eqB, w_pick, w_max, w_ifV, w_br, w_store1, w_storeN, w_alloc, w_box, add_mk, Nat.zero_add, Nat.add_zero, Option.some.injEq, exists_eq_left', List.getElem?_cons_zero, List.getElem?_cons_succ, List.getD_cons_zero, List.getD_cons_succ]
  rw [i64w (n := d * 2) (by omega) (by omega), i64w (n := d * 2 - 1) (by omega) (by omega)]
  have hd : (d * 2 - 1).tdiv 2 = d - 1 := by rw [Int.tdiv_eq_ediv_of_nonneg (by omega)]; omega
  rw [hd, i64w (n := d - 1) (by omega) (by omega), show d * 2 - 1 = 2 * d - 1 by omega]
  exact ⟨by decide, H⟩
end Go.Proofs.Ytdpkpcmoabfofaa
end
section
namespace Go.Proofs.Ytdpkpcmoabfofaa.Si
open Go.Hp Go.Proofs.Ytdpkpcmoabfofaa
set_option linter.unusedVariables false
set_option linter.unusedSimpArgs false
variable {h0 h : Heap} {Z E : List Rg} {Q : Value → Heap → Prop}

structure MapOk (m : Nat) (iso : Int) (g : Rt) : Prop where
  gd : rGd iso g
  fl : (rPt g).Fl m
  asc : Asc lt (rPt g).items
  m3 : 3 ≤ m
  m1 : m ≤ 1024
  odd : m % 2 = 1
theorem MapOk.none {m : Nat} {iso : Int} (m3 : 3 ≤ m) (m1 : m ≤ 1024) (odd : m % 2 = 1) : MapOk m iso none := ⟨trivial, trivial, List.Pairwise.nil, m3, m1, odd⟩

theorem init_skip {tb : Nat} {d iso cnt mn mx : Int} {ctr root : Option Addr} (s : St h0 Z ((tb, 0, hdr iso ctr root cnt mn mx) :: E) h) (hmn : mn ≠ 0) (H : Q (.tuple #[]) h) : Map_si_init.call #[ptr tb 0, .int .i64 d] h Q := by
  refine Map_si_init.body _ _ _ _ ?_
  unfold Map_si_init.sh
  refine r_nil ?_
  refine r_fld ?_
  refine St.r_load0 s 0 rfl rfl ?_
  refine r_cmpI ?_
  exact r_if (fun _ => H) (fun e => absurd e (by simpa using hmn))
theorem init_set {tb : Nat} {d a b iso cnt : Int} {ctr root : Option Addr} (s : St h0 Z ((tb, 0, hdr iso ctr root cnt 0 0) :: E) h) (hd : ∀ {h : Heap} {Q : Value → Heap → Prop}, Q (.tuple #[.int .i64 a, .int .i64 b]) h → degreeToMinMax.call #[.int .i64 d] h Q)
    (H : ∀ h', St h0 Z ((tb, 0, hdr iso ctr root cnt a b) :: E) h' → Q (.tuple #[]) h') : Map_si_init.call #[ptr tb 0, .int .i64 d] h Q := by
  refine Map_si_init.body _ _ _ _ ?_
  unfold Map_si_init.sh
  refine r_nil ?_
  refine r_fld ?_
  refine St.r_load0 s 0 rfl rfl ?_
  refine r_cmpI ?_
  refine r_if (fun e => absurd e (by decide)) (fun _ => ?_)
  unfold Map_si_init.j1
  refine hd ?_
  refine r_ext rfl ?_
  refine r_ext rfl ?_
  refine r_nil ?_
  refine r_fld ?_
  refine St.r_store0 s 0 rfl (by simp) rfl ?_
  intro h s
  try simp only [List.set_cons_zero, List.set_cons_succ] at s
  refine r_nil ?_
  refine r_fld ?_
  refine St.r_store0 s 0 rfl (by simp) rfl ?_
  intro h s
  try simp only [List.set_cons_zero, List.set_cons_succ] at s
  refine r_nil ?_
  refine r_fld ?_
  refine r_fld ?_
  refine St.r_load0 s 0 rfl rfl ?_
  refine r_ext rfl ?_
  refine r_ext rfl ?_
  refine r_nil ?_
  refine r_fld ?_
  refine St.r_store0 s 0 rfl (by simp) rfl ?_
  intro h s
  try simp only [List.set_cons_zero, List.set_cons_succ] at s
  refine r_nil ?_
  refine r_fld ?_
  refine St.r_load0 s 0 rfl rfl ?_
  refine r_not ?_
  refine r_if (fun _ => ?_) (fun e => absurd e (by decide))
  refine r_nil ?_
  refine r_fld ?_
  refine r_fld ?_
  refine St.r_load0 s 0 rfl rfl ?_
  refine r_ext rfl ?_
  refine r_ext rfl ?_
  refine r_nil ?_
  refine r_fld ?_
  refine St.r_store0 s 0 rfl (by simp) rfl ?_
  intro h s
  try simp only [List.set_cons_zero, List.set_cons_succ] at s
  exact H _ s

/-- The first item of a map. -/
theorem Set_first {tb : Nat} {iso mn mx mn' mx' : Int} {ctr : Option Addr} {x : It} (s : St h0 Z ((tb, 0, hdr iso ctr none 0 mn mx) :: E) h)
    (hin : ∀ {E : List Rg} {h : Heap} {Q : Value → Heap → Prop}, St h0 Z ((tb, 0, hdr iso ctr none 0 mn mx) :: E) h → (∀ h', St h0 Z ((tb, 0, hdr iso ctr none 0 mn' mx') :: E) h' → Q (.tuple #[]) h') → Map_si_init.call #[ptr tb 0, .int .i64 0] h Q)
    (H : ∀ (t : GT It 0) h', t.pt = ([x] : List It) → Gd iso t → St h0 Z ((tb, 0, hdr iso ctr (some ⟨t.id, 0, none⟩) 1 mn' mx') :: (t.all enc ++ E)) h' → Q (.tuple #[old none, .bool false]) h') :
    Map_si_Set.call #[ptr tb 0, kv x.1, vv x.2] h Q := by
  refine Map_si_Set.body _ _ _ _ _ ?_
  unfold Map_si_Set.sh
  (apply r_build; (simp only [fillV, fill1, Value.cells, zeros_succ, zeros_zero, List.size_toArray, List.length_cons, List.length_nil, List.length_append, List.take_succ_cons, List.take_zero, List.take_nil, List.drop_succ_cons, List.drop_zero, List.drop_nil, List.cons_append, List.nil_append, List.append_nil, Nat.reduceAdd, Nat.reduceMul, Nat.reduceLeDiff, Nat.reduceEqDiff, and_self, and_true, true_and, if_true, Nat.le_refl, Nat.zero_add, Nat.add_zero, Nat.zero_mul, reduceIte, if_false] <;> rfl))
  refine s.r_alloc fun t8 h s => ?_
  refine St.r_storeN0 s 0 rfl rfl (by simp) (enc1 x) ?_; intro h s
  refine r_nil ?_
  refine r_fld ?_
  refine St.r_load0 s 1 rfl rfl ?_
  refine r_eqNilP ?_
  refine r_if (fun _ => ?_) (fun e => absurd e (by simp))
  refine hin (s.front 1 rfl) fun h s => ?_
  refine newNode_leaf (iso := iso) (by have := s.get (k := 0) (j := 0) rfl (by simp); simpa using this) fun n h s1 => ?_
  have s := s.join s1
  have s : St h0 Z ((n, 0, [.int .u64 iso, .int .i64 0, .slice none 0 0, .pointer none]) :: (tb, 0, hdr iso ctr none 0 mn' mx') :: (t8, 0, enc x) :: E) h := s
  refine r_nil ?_
  refine r_fld ?_
  refine St.r_store0 s 1 rfl (by simp) rfl ?_
  intro h s
  try simp only [List.set_cons_zero, List.set_cons_succ] at s
  refine r_nil ?_
  refine r_fld ?_
  refine St.r_load0 s 1 rfl rfl ?_
  refine St.r_loadN0 s 2 rfl (by simp) ?_
  have fin : ∀ {iv : Value} {ib io : Nat} {isp : List Value} {h : Heap}, Own 2 iv 1 ib io (enc x) isp →
      St h0 Z ((n, 0, [.int .u64 iso, .int .i64 0, iv, .pointer none]) :: (tb, 0, hdr iso ctr (some ⟨n, 0, none⟩) 0 mn' mx') :: (ib, io, enc x ++ isp) :: (t8, 0, enc x) :: E) h →
      (nilck (ptr tb 0) fun t41 => fld 2 t41 fun t42 => load1 t42 h fun t43 => nilck t43 fun t44 => fld 1 t44 fun t45 => store1 t45 (.int .i64 1) h fun h => nilck (ptr tb 0) fun t47 => fld 3 t47 fun t48 => store1 t48 (.int .i64 1) h fun h =>
        nilck (ptr tb 0) fun t50 => fld 4 t50 fun t51 =>
        fld 0 t51 fun t52 => load1 t52 h fun t53 => Q (.tuple #[t53, (.bool false)]) h) := by
    intro iv ib io isp h wi s
    refine r_nil ?_
    refine r_fld ?_
    refine St.r_load0 s 1 rfl rfl ?_
    refine r_nil ?_
    refine r_fld ?_
    refine St.r_store0 s 0 rfl (by simp) rfl ?_
    intro h s
    try simp only [List.set_cons_zero, List.set_cons_succ] at s
    refine r_nil ?_
    refine r_fld ?_
    refine St.r_store0 s 1 rfl (by simp) rfl ?_
    intro h s
    try simp only [List.set_cons_zero, List.set_cons_succ] at s
    refine r_nil ?_
    refine r_fld ?_
    refine r_fld ?_
    refine St.r_load0 s 1 rfl rfl ?_
    exact H (⟨true, n, iso, 1, [x], iv, ib, io, isp, 0, .pointer none, 0, 0, []⟩ : Nd It) h rfl (Gd.leaf (by show Own 2 iv [x].length ib io ([x].flatMap enc) isp; simpa using wi) rfl rfl rfl)
      ((s.perm (E' := (t8, 0, enc x) :: (tb, 0, hdr iso ctr (some ⟨n, 0, none⟩) 1 mn' mx') :: (n, 0, [.int .u64 iso, .int .i64 1, iv, .pointer none]) :: (ib, io, [x].flatMap enc ++ isp) :: E) (by rw [List.flatMap_singleton]; ((apply perm_rg; intro f; simp only [List.set_cons_zero, List.set_cons_succ, List.eraseIdx_cons_zero, List.eraseIdx_cons_succ, List.cons_append, List.nil_append, List.map_append, List.map_cons, List.map_nil, List.sum_append, List.sum_cons, List.sum_nil, List.map_flatMap, Nat.add_zero, Nat.zero_add]; ac_rfl)))).drop 1)
  constructor
  · refine St.r_mkSl (sz := 2) (cs := []) s (by ((simp only [fillV, fill1, Value.cells, zeros_succ, zeros_zero, List.size_toArray, List.length_cons, List.length_nil, List.length_append, List.take_succ_cons, List.take_zero, List.take_nil, List.drop_succ_cons, List.drop_zero, List.drop_nil, List.cons_append, List.nil_append, List.append_nil, Nat.reduceAdd, Nat.reduceMul, Nat.reduceLeDiff, Nat.reduceEqDiff, and_self, and_true, true_and, if_true, Nat.le_refl, Nat.zero_add, Nat.add_zero, Nat.zero_mul, reduceIte, if_false] <;> rfl))) rfl fun q1 h s w1 => ?_
    refine ⟨by (first | exact St.r_still0 s 0 rfl rfl | exact St.r_still0 s 1 rfl rfl | exact St.r_still0 s 2 rfl rfl | exact St.r_still0 s 3 rfl rfl | exact St.r_still0 s 4 rfl rfl | exact St.r_still0 s 5 rfl rfl | exact St.r_still0 s 6 rfl rfl), St.r_stillN0 s 3 rfl (by simp) rfl, ?_⟩
    refine St.r_mkSl (sz := 2) (cs := enc x) s (by ((simp only [fillV, fill1, Value.cells, zeros_succ, zeros_zero, List.size_toArray, List.length_cons, List.length_nil, List.length_append, List.take_succ_cons, List.take_zero, List.take_nil, List.drop_succ_cons, List.drop_zero, List.drop_nil, List.cons_append, List.nil_append, List.append_nil, Nat.reduceAdd, Nat.reduceMul, Nat.reduceLeDiff, Nat.reduceEqDiff, and_self, and_true, true_and, if_true, Nat.le_refl, Nat.zero_add, Nat.add_zero, Nat.zero_mul, reduceIte, if_false] <;> rfl))) rfl fun q2 h s w2 => ?_
    refine ⟨by (first | exact St.r_still0 s 0 rfl rfl | exact St.r_still0 s 1 rfl rfl | exact St.r_still0 s 2 rfl rfl | exact St.r_still0 s 3 rfl rfl | exact St.r_still0 s 4 rfl rfl | exact St.r_still0 s 5 rfl rfl | exact St.r_still0 s 6 rfl rfl), ?_⟩
    refine St.r_app s 1 (sz := 2) (n := 1) (new := enc x) rfl w1 rfl (w2.rdl s 0 rfl) (enc1 _) (by omega) (by omega) fun iv ib io isp h s wi => ?_
    refine ⟨by (first | exact St.r_still0 s 0 rfl rfl | exact St.r_still0 s 1 rfl rfl | exact St.r_still0 s 2 rfl rfl | exact St.r_still0 s 3 rfl rfl | exact St.r_still0 s 4 rfl rfl | exact St.r_still0 s 5 rfl rfl | exact St.r_still0 s 6 rfl rfl), ?_⟩
    refine r_nil ?_
    refine r_fld ?_
    refine St.r_store0 s 2 rfl (by simp) wi.one ?_; intro h s
    exact fin wi ((s.perm (E' := (q2, 0, enc x ++ []) :: _) (by simp; ((apply perm_rg; intro f; simp only [List.set_cons_zero, List.set_cons_succ, List.eraseIdx_cons_zero, List.eraseIdx_cons_succ, List.cons_append, List.nil_append, List.map_append, List.map_cons, List.map_nil, List.sum_append, List.sum_cons, List.sum_nil, List.map_flatMap, Nat.add_zero, Nat.zero_add]; ac_rfl)))).drop 1)
  · refine St.r_mkSl (sz := 2) (cs := enc x) s (by ((simp only [fillV, fill1, Value.cells, zeros_succ, zeros_zero, List.size_toArray, List.length_cons, List.length_nil, List.length_append, List.take_succ_cons, List.take_zero, List.take_nil, List.drop_succ_cons, List.drop_zero, List.drop_nil, List.cons_append, List.nil_append, List.append_nil, Nat.reduceAdd, Nat.reduceMul, Nat.reduceLeDiff, Nat.reduceEqDiff, and_self, and_true, true_and, if_true, Nat.le_refl, Nat.zero_add, Nat.add_zero, Nat.zero_mul, reduceIte, if_false] <;> rfl))) rfl fun q2 h s w2 => ?_
    refine ⟨by (first | exact St.r_still0 s 0 rfl rfl | exact St.r_still0 s 1 rfl rfl | exact St.r_still0 s 2 rfl rfl | exact St.r_still0 s 3 rfl rfl | exact St.r_still0 s 4 rfl rfl | exact St.r_still0 s 5 rfl rfl | exact St.r_still0 s 6 rfl rfl), ?_⟩
    refine St.r_mkSl (sz := 2) (cs := []) s (by ((simp only [fillV, fill1, Value.cells, zeros_succ, zeros_zero, List.size_toArray, List.length_cons, List.length_nil, List.length_append, List.take_succ_cons, List.take_zero, List.take_nil, List.drop_succ_cons, List.drop_zero, List.drop_nil, List.cons_append, List.nil_append, List.append_nil, Nat.reduceAdd, Nat.reduceMul, Nat.reduceLeDiff, Nat.reduceEqDiff, and_self, and_true, true_and, if_true, Nat.le_refl, Nat.zero_add, Nat.add_zero, Nat.zero_mul, reduceIte, if_false] <;> rfl))) rfl fun q1 h s w1 => ?_
    refine ⟨by (first | exact St.r_still0 s 0 rfl rfl | exact St.r_still0 s 1 rfl rfl | exact St.r_still0 s 2 rfl rfl | exact St.r_still0 s 3 rfl rfl | exact St.r_still0 s 4 rfl rfl | exact St.r_still0 s 5 rfl rfl | exact St.r_still0 s 6 rfl rfl), ?_⟩
    refine St.r_app s 0 (sz := 2) (n := 1) (new := enc x) rfl w1 rfl (w2.rdl s 1 rfl) (enc1 _) (by omega) (by omega) fun iv ib io isp h s wi => ?_
    refine ⟨by (first | exact St.r_still0 s 0 rfl rfl | exact St.r_still0 s 1 rfl rfl | exact St.r_still0 s 2 rfl rfl | exact St.r_still0 s 3 rfl rfl | exact St.r_still0 s 4 rfl rfl | exact St.r_still0 s 5 rfl rfl | exact St.r_still0 s 6 rfl rfl), ?_⟩
    refine r_nil ?_
    refine r_fld ?_
    refine St.r_store0 s 2 rfl (by simp) wi.one ?_; intro h s
    exact fin wi ((s.perm (E' := (q2, 0, enc x ++ []) :: _) (by simp; ((apply perm_rg; intro f; simp only [List.set_cons_zero, List.set_cons_succ, List.eraseIdx_cons_zero, List.eraseIdx_cons_succ, List.cons_append, List.nil_append, List.map_append, List.map_cons, List.map_nil, List.sum_append, List.sum_cons, List.sum_nil, List.map_flatMap, Nat.add_zero, Nat.zero_add]; ac_rfl)))).drop 1)

/-- A map's head in parts. -/
theorem hdr_cut {tb : Nat} {iso cnt mn mx : Int} {ctr root : Option Addr} (s : St h0 Z ((tb, 0, hdr iso ctr root cnt mn mx) :: E) h) : St h0 Z ((tb, 0, hd0 iso ctr) :: (tb, 4, hd4 mn mx) :: (tb, 2, [.pointer root]) :: (tb, 3, [.int .i64 cnt]) :: E) h := by
  have s1 : St h0 Z ((tb, 0, hd0 iso ctr ++ ([.pointer root] ++ ([.int .i64 cnt] ++ hd4 mn mx))) :: E) h := s
  have s2 := s1.cut
  have s3 := (s2.front 1 rfl).cut
  have s4 := (s3.front 1 rfl).cut
  exact s4.perm (E' := (tb, 0, hd0 iso ctr) :: (tb, 4, hd4 mn mx) :: (tb, 2, [.pointer root]) :: (tb, 3, [.int .i64 cnt]) :: E) (by
    show ((tb, 0, hd0 iso ctr) :: (tb, 4, hd4 mn mx) :: (tb, 2, [.pointer root]) :: (tb, 3, [.int .i64 cnt]) :: E).Perm ((tb, 3, [.int .i64 cnt]) :: (tb, 4, hd4 mn mx) :: (tb, 2, [.pointer root]) :: (tb, 0, hd0 iso ctr) :: E)
    ((apply perm_rg; intro f; simp only [List.set_cons_zero, List.set_cons_succ, List.eraseIdx_cons_zero, List.eraseIdx_cons_succ, List.cons_append, List.nil_append, List.map_append, List.map_cons, List.map_nil, List.sum_append, List.sum_cons, List.sum_nil, List.map_flatMap, Nat.add_zero, Nat.zero_add]; ac_rfl)))
theorem hdr_glue {tb : Nat} {iso cnt mn mx : Int} {ctr root : Option Addr} (s : St h0 Z ((tb, 0, hd0 iso ctr) :: (tb, 4, hd4 mn mx) :: (tb, 2, [.pointer root]) :: (tb, 3, [.int .i64 cnt]) :: E) h) : St h0 Z ((tb, 0, hdr iso ctr root cnt mn mx) :: E) h := by
  have s1 : St h0 Z ((tb, 3, [.int .i64 cnt]) :: (tb, 3 + [Value.int .i64 cnt].length, hd4 mn mx) :: (tb, 2, [.pointer root]) :: (tb, 0, hd0 iso ctr) :: E) h := s.perm (by
    show ((tb, 3, [.int .i64 cnt]) :: (tb, 4, hd4 mn mx) :: (tb, 2, [.pointer root]) :: (tb, 0, hd0 iso ctr) :: E).Perm _
    ((apply perm_rg; intro f; simp only [List.set_cons_zero, List.set_cons_succ, List.eraseIdx_cons_zero, List.eraseIdx_cons_succ, List.cons_append, List.nil_append, List.map_append, List.map_cons, List.map_nil, List.sum_append, List.sum_cons, List.sum_nil, List.map_flatMap, Nat.add_zero, Nat.zero_add]; ac_rfl)))
  have s2 := s1.glue
  have s3 : St h0 Z ((tb, 2, [.pointer root]) :: (tb, 2 + [Value.pointer root].length, [.int .i64 cnt] ++ hd4 mn mx) :: (tb, 0, hd0 iso ctr) :: E) h := s2.perm (by
    show ((tb, 2, [.pointer root]) :: (tb, 3, [.int .i64 cnt] ++ hd4 mn mx) :: (tb, 0, hd0 iso ctr) :: E).Perm _
    exact List.Perm.swap _ _ _)
  have s4 := s3.glue
  have s5 : St h0 Z ((tb, 0, hd0 iso ctr) :: (tb, 0 + (hd0 iso ctr).length, [.pointer root] ++ ([.int .i64 cnt] ++ hd4 mn mx)) :: E) h := s4.perm (by
    show ((tb, 0, hd0 iso ctr) :: (tb, 2, [.pointer root] ++ ([.int .i64 cnt] ++ hd4 mn mx)) :: E).Perm _
    exact List.Perm.swap _ _ _)
  exact s5.glue

theorem Set_ok {tb m : Nat} {iso mn : Int} {ctr : Option Addr} {g : Rt} {x : It} (M : MapOk m iso g) (hmn : mn ≠ 0) (hsz : (rPt g).items.length ≤ 4611686018427387903) (s : St h0 Z ((tb, 0, hdr iso ctr (rA g) (rPt g).items.length mn m) :: (rAll g ++ E)) h)
    (H : ∀ (g' : Rt) h', rPt g' = (rPt g).set lt m x → MapOk m iso g' → St h0 Z ((tb, 0, hdr iso ctr (rA g') (rPt g').items.length mn m) :: (rAll g' ++ E)) h' → Q (.tuple #[old (lget lt (rPt g).items x), .bool (lget lt (rPt g).items x).isSome]) h') :
    Map_si_Set.call #[ptr tb 0, kv x.1, vv x.2] h Q := by
  have key : ∀ g' : Rt, rPt g' = (rPt g).set lt m x → rGd iso g' → MapOk m iso g' := fun g' e gd => by
    obtain ⟨e1, e2⟩ := MT.set_items (x := x) swo M.odd M.m3 M.fl M.asc
    exact ⟨gd, by rw [e]; exact e2, by rw [e, e1]; exact asc_lput swo M.asc, M.m3, M.m1, M.odd⟩
  cases g with
  | none =>
    refine Set_first (E := E) (mn' := mn) (mx' := m) s (fun s K => init_skip s hmn (K _ s)) fun t h' e gd s => ?_
    refine H (some ⟨0, t⟩) h' ?_ ?_ ?_
    · show some (⟨0, t.pt⟩ : (j : Nat) × PT It j) = some ⟨0, ([x] : List It)⟩; rw [e]
    · refine key (some ⟨0, t⟩) ?_ gd
      show some (⟨0, t.pt⟩ : (j : Nat) × PT It j) = some ⟨0, ([x] : List It)⟩; rw [e]
    · show St h0 Z ((tb, 0, hdr iso ctr (some ⟨t.id, 0, none⟩) t.pt.items.length mn m) :: (t.all enc ++ E)) h'
      have : t.pt.items.length = 1 := by rw [e]; rfl
      rw [this]; exact s
  | some t =>
    obtain ⟨k, t⟩ := t
    have htb : h0.size ≤ tb := (s.e _ (List.mem_cons_self ..)).2 (by simp)
    have s := hdr_cut s
    obtain ⟨s1, back⟩ := St.borrow (A := [(tb, 0, hd0 iso ctr), (tb, 4, hd4 mn m)]) (E := (tb, 2, [ptr t.id 0]) :: (tb, 3, [.int .i64 t.pt.items.length]) :: (t.all enc ++ E)) s
    refine Set_cut htb (List.mem_cons_self ..) (List.mem_cons_of_mem _ (List.mem_cons_self ..)) M.m1 M.m3 M.odd t M.fl M.asc hsz M.gd rfl s1 fun g' h' e1 e2 s2 => ?_
    refine H (some g') h' e1 (key (some g') e1 e2) ?_
    exact hdr_glue (back _ h' s2)
theorem NewMap_ok (s : St h0 Z E h) {d : Nat} (h1 : 2 ≤ d) (h2 : d ≤ 512) (H : ∀ b h', St h0 Z ((b, 0, hdr 0 none none 0 ((d - 1 : Nat) : Int) ((2 * d - 1 : Nat) : Int)) :: E) h' → Q (ptr b 0) h') : NewMap_si.call #[.int .i64 d] h Q := by
  refine NewMap_si.body _ _ _ ?_
  unfold NewMap_si.sh
  refine s.r_alloc fun b h s => ?_
  refine init_set s (fun K => degree_ok (d := d) (by omega) (by omega) K) fun h' s => ?_
  have e1 : (d : Int) - 1 = ((d - 1 : Nat) : Int) := by omega
  have e2 : 2 * (d : Int) - 1 = ((2 * d - 1 : Nat) : Int) := by omega
  rw [e1, e2] at s
  exact H b h' s
end Go.Proofs.Ytdpkpcmoabfofaa.Si
end
section
namespace Go.Proofs.Ytdpkpcmoabfofaa.Si
open Go.Hp Go.Proofs.Ytdpkpcmoabfofaa
set_option linter.unusedVariables false
set_option linter.unusedSimpArgs false
variable {h0 h : Heap} {Z E : List Rg} {Q : Value → Heap → Prop}

theorem isoLoad_ro {tr : Value} {pb po n : Nat} (hp : cl h pb po = some (ptr n 0)) (H : Q (ptr n 0) h) : Map_si_isoLoad.call #[tr, ptr pb po, .bool false] h Q := by
  refine Map_si_isoLoad.body _ _ _ _ _ ?_
  unfold Map_si_isoLoad.sh
  refine r_br (fun e => absurd e (by decide)) (fun _ => ?_)
  unfold Map_si_isoLoad.j1
  refine r_nil ?_
  exact r_ld hp H
theorem allZ_leaf {d : Nd It} (hz : ∀ r ∈ GT.all enc (h := 0) d, r ∈ Z) : (d.n, 0, [.int .u64 d.iso, .int .i64 d.cnt, d.iv, .pointer none]) ∈ Z ∧ (d.ib, d.io, d.its.flatMap enc ++ d.isp) ∈ Z := by
  have hz : ∀ r ∈ d.leaf enc, r ∈ Z := hz
  exact ⟨hz _ (List.mem_cons_self ..), hz _ (List.mem_cons_of_mem _ (List.mem_cons_self ..))⟩
theorem allZ_inner {k : Nat} {d : Nd It} {ts : List (GT It k)} (hz : ∀ r ∈ GT.all enc (h := k + 1) (d, ts), r ∈ Z) :
    (d.n, 0, [.int .u64 d.iso, .int .i64 d.cnt, d.iv, ptr d.kb 0]) ∈ Z ∧ (d.ib, d.io, d.its.flatMap enc ++ d.isp) ∈ Z ∧ (d.kb, 0, [d.kv]) ∈ Z ∧ (d.krb, d.kro, (ts.map GT.id).flatMap fp ++ d.ksp) ∈ Z ∧ ∀ c ∈ ts, ∀ r ∈ c.all enc, r ∈ Z := by
  have hz : ∀ r ∈ d.inner enc (ts.map GT.id) ++ ts.flatMap (GT.all enc), r ∈ Z := hz
  have h1 : ∀ r ∈ d.inner enc (ts.map GT.id), r ∈ Z := fun r hr => hz r (List.mem_append.2 (.inl hr))
  refine ⟨h1 _ (List.mem_cons_self ..), h1 _ (List.mem_cons_of_mem _ (List.mem_cons_self ..)), h1 _ (List.mem_cons_of_mem _ (List.mem_cons_of_mem _ (List.mem_cons_self ..))), ?_, fun c hc r hr => hz r (List.mem_append.2 (.inr (List.mem_flatMap.2 ⟨c, hc, hr⟩)))⟩
  have := h1 _ (List.mem_cons_of_mem _ (List.mem_cons_of_mem _ (List.mem_cons_of_mem _ (List.mem_cons_self ..))))
  rw [mfp] at this; exact this
/-- The kid's cell. -/
theorem kidcell {k : Nat} {ts : List (GT It k)} {krb kro i : Nat} {ksp : List Value} {c : GT It k} (hk : (krb, kro, (ts.map GT.id).flatMap fp ++ ksp) ∈ Z) (hc : ts[i]? = some c) (s : St h0 Z E h) : cl h krb (kro + i * 1) = some (ptr c.id 0) := by
  have hi : i < (ts.map GT.id).length := by rw [List.length_map]; exact (List.getElem?_eq_some_iff.1 hc).1
  refine s.clz hk (i * 1) rfl ?_
  rw [List.getElem?_append_left (by rw [flat_len fpl]; omega)]
  have := flat_get (f := fp) fpl (ts.map GT.id) i hi 0 (by decide)
  rw [Nat.add_zero] at this
  rw [this]
  have e : (ts.map GT.id)[i] = c.id := by
    have : (ts.map GT.id)[i]? = some c.id := by rw [List.getElem?_map, hc]; rfl
    exact (List.getElem?_eq_some_iff.1 this).2
  rw [e]; rfl

theorem nodeScan_ok {cont : List It → Bool} {f tr : Value} {J : List It → Heap → Prop} {iso : Int} {m N : Nat} (hm : m ≤ 1024) (hJ : ∀ p h, J p h → ∃ E, St h0 Z E h)
    (cb : ∀ (p : List It) (x : It) (h : Heap) (K : Value → Heap → Prop), p.length < N → J p h → (∀ h', J (p ++ [x]) h' → K (.bool (cont (p ++ [x]))) h') → callV Try.prog f #[kv x.1, vv x.2] h K) :
    ∀ {k : Nat} (t : GT It k) {lo : Nat} (g : Gd iso t) (fl : t.pt.Fl m lo) (hz : ∀ r ∈ t.all enc, r ∈ Z) (hzb : ∀ r ∈ t.all enc, r.2.2 ≠ [] → h0.size ≤ r.1) {pb po : Nat} (hp : ∀ E h, St h0 Z E h → cl h pb po = some (ptr t.id 0)) {p : List It} {h : Heap} {Q : Value → Heap → Prop}, p.length + t.pt.items.length ≤ N → J p h →
      (∀ h', J (feed cont p t.pt.items).1 h' → Q (.bool (feed cont p t.pt.items).2) h') → Map_si_nodeScan.call #[tr, ptr pb po, f, .bool false] h Q
  | 0, (d : Nd It), lo, g, fl, hz, hzb, pb, po, hp, p, h, Q, hN, hj, H => by
    obtain ⟨own, n, is', cnt, its, iv, ib, io, isp, kb, kv', krb, kro, ksp⟩ := d
    obtain ⟨z1, z2⟩ := allZ_leaf hz
    have w : Own 2 iv its.length ib io (its.flatMap enc) isp := g.wf.1
    have hl : its.length ≤ m := fl.2
    have hp : ∀ E h, St h0 Z E h → cl h pb po = some (ptr n 0) := hp
    have hN : p.length + its.length ≤ N := hN
    have H : ∀ h', J (feed cont p its).1 h' → Q (.bool (feed cont p its).2) h' := H
    refine Map_si_nodeScan.body _ _ _ _ _ _ ?_
    unfold Map_si_nodeScan.sh
    obtain ⟨E, s⟩ := hJ p h hj
    refine isoLoad_ro (hp E h s) ?_
    refine leaf_ok (a := none) (s.clz z1 3 rfl rfl) ?_
    refine r_if (fun _ => ?_) (fun e => absurd e (by simp))
    refine loop_up (n := its.length) (fun j => [.int .i64 j]) (fun j h => (feed cont p (its.take j)).2 = true ∧ J (feed cont p (its.take j)).1 h) ⟨rfl, hj⟩ ?_
    rintro j h hjl ⟨hf, hj⟩ K HK
    obtain ⟨E, s⟩ := hJ _ h hj
    unfold Map_si_nodeScan.l8.b
    refine r_nil ?_
    refine r_fld ?_
    refine s.r_lz0 z1 (j := 2) rfl ?_
    refine w.lenV ?_
    refine r_cmpI ?_
    refine r_if (fun hlt => ?_) (fun hge => ?_)
    · have hlt : j < its.length := by simpa using hlt
      have hx : its[j]? = some its[j] := List.getElem?_eq_getElem hlt
      unfold Map_si_nodeScan.j9
      refine r_nil ?_
      refine r_fld ?_
      refine s.r_lz0 z1 (j := 2) rfl ?_
      refine w.idx (n := j) rfl hlt ?_
      refine r_fld ?_
      refine s.r_load1FZ encl (r := 1) z2 hx rfl ?_
      refine r_nil ?_
      refine r_fld ?_
      refine s.r_lz0 z1 (j := 2) rfl ?_
      refine w.idx (n := j) rfl hlt ?_
      refine r_fld ?_
      refine s.r_load1FZ encl (r := 0) z2 hx rfl ?_
      have hfl := feed_len (cont := cont) (its.take j) p
      rw [List.length_take] at hfl
      refine cb _ its[j] h _ (by omega) hj fun h' hj' => ?_
      refine r_not ?_
      have et : its.take (j + 1) = its.take j ++ [its[j]] := List.take_succ_eq_append_getElem hlt
      have ef : feed cont p (its.take (j + 1)) = ((feed cont p (its.take j)).1 ++ [its[j]], cont ((feed cont p (its.take j)).1 ++ [its[j]])) := by rw [et, feed_step hf, feed_one]
      refine r_if (fun hc => ?_) (fun hc => ?_)
      · have hc : cont ((feed cont p (its.take j)).1 ++ [its[j]]) = false := by simpa using hc
        have ea : feed cont p its = ((feed cont p (its.take j)).1 ++ [its[j]], false) := by
          have e0 := feed_stop (cont := cont) (p := p) (a := its.take (j + 1)) (b := its.drop (j + 1)) (by rw [ef]; exact hc)
          rw [List.take_append_drop, ef] at e0
          exact e0
        have := H h' (by rw [ea]; exact hj')
        rw [ea] at this; exact this
      · have hc : cont ((feed cont p (its.take j)).1 ++ [its[j]]) = true := by simpa using hc
        unfold Map_si_nodeScan.j10
        refine r_add (z := ((j + 1 : Nat) : Int)) (by rw [i64w (by omega) (by omega)]; omega) ?_
        exact HK h' hlt ⟨by rw [ef]; exact hc, by rw [ef]; exact hj'⟩
    · have hge : j = its.length := by simp at hge; omega
      subst hge
      rw [List.take_length] at hf hj
      unfold Map_si_nodeScan.j7
      have := H h hj
      rw [hf] at this; exact this
  | k + 1, t, lo, g, fl, hz, hzb, pb, po, hp, p, h, Q, hN, hj, H => by
    obtain ⟨d, ts⟩ := t
    obtain ⟨own, n, is', cnt, its, iv, ib, io, isp, kb, kv', krb, kro, ksp⟩ := d
    obtain ⟨z1, z2, z3, z4, z5⟩ := allZ_inner hz
    have w : Own 2 iv its.length ib io (its.flatMap enc) isp := g.wf.1.1
    have wK : Own 1 kv' ts.length krb kro ((ts.map GT.id).map fun m => ptr m 0) ksp := g.wf.2.1
    have hkl : ts.length = its.length + 1 := g.wf.2.2.1
    have hl : its.length ≤ m := fl.2.1
    have hp : ∀ E h, St h0 Z E h → cl h pb po = some (ptr n 0) := hp
    have hpl : ∀ i, ((ts.take i).map fun t => t.pt.items) = (((ts.map GT.pt).take i).map PT.items) := fun i => by rw [← List.map_take, List.map_map]; rfl
    have hsplit : ∀ i (hi : i ≤ its.length) c, ts[i]? = some c → PT.items (h := k + 1) (its, ts.map GT.pt) = lz (its.take i) ((ts.take i).map fun t => t.pt.items) ++ (c.pt.items ++ rz (its.drop i) (((ts.map GT.pt).drop (i + 1)).map PT.items)) := by
      intro i hi c hc
      obtain ⟨c', hc', _, e⟩ := PT.around (t := ((its, ts.map GT.pt) : PT It (k + 1))) fl hi
      have hc' : (ts.map GT.pt)[i]? = some c' := hc'
      rw [List.getElem?_map, hc] at hc'
      have : c' = c.pt := (Option.some.inj hc').symm
      subst this
      rw [hpl]; exact e
    have hN : p.length + (PT.items (h := k + 1) (its, ts.map GT.pt)).length ≤ N := hN
    have H : ∀ h', J (feed cont p (PT.items (h := k + 1) (its, ts.map GT.pt))).1 h' → Q (.bool (feed cont p (PT.items (h := k + 1) (its, ts.map GT.pt))).2) h' := H
    refine Map_si_nodeScan.body _ _ _ _ _ _ ?_
    unfold Map_si_nodeScan.sh
    obtain ⟨E, s⟩ := hJ p h hj
    refine isoLoad_ro (hp E h s) ?_
    refine leaf_ok (a := some ⟨kb, 0, Option.none⟩) (s.clz z1 3 rfl rfl) ?_
    refine r_if (fun e => absurd e (by simp)) (fun _ => ?_)
    unfold Map_si_nodeScan.j1
    refine loop_up (n := its.length) (fun j => [.int .i64 j]) (fun j h => (feed cont p (lz (its.take j) ((ts.take j).map fun t => t.pt.items))).2 = true ∧ J (feed cont p (lz (its.take j) ((ts.take j).map fun t => t.pt.items))).1 h) ⟨rfl, hj⟩ ?_
    rintro j h hjl ⟨hf, hj⟩ K HK
    obtain ⟨E, s⟩ := hJ _ h hj
    obtain ⟨c, hc⟩ : ∃ c, ts[j]? = some c := ⟨ts[j]'(by omega), List.getElem?_eq_getElem (by omega)⟩
    have hcm := List.mem_of_getElem? hc
    have hfc : PT.Fl m (m / 2) c.pt := fl.2.2.2 _ (List.mem_map.2 ⟨c, hcm, rfl⟩)
    unfold Map_si_nodeScan.l3.b
    refine r_nil ?_
    refine r_fld ?_
    refine s.r_lz0 z1 (j := 2) rfl ?_
    refine w.lenV ?_
    refine r_cmpI ?_
    refine r_if (fun hlt => ?_) (fun hge => ?_)
    · have hlt : j < its.length := by simpa using hlt
      have hx : its[j]? = some its[j] := List.getElem?_eq_getElem hlt
      have et : its.take (j + 1) = its.take j ++ [its[j]] := List.take_succ_eq_append_getElem hlt
      have ek : ts.take (j + 1) = ts.take j ++ [c] := by rw [List.take_add_one, hc]; rfl
      have ez : lz (its.take (j + 1)) ((ts.take (j + 1)).map fun t => t.pt.items) = lz (its.take j) ((ts.take j).map fun t => t.pt.items) ++ (c.pt.items ++ [its[j]]) := by
        rw [et, ek, List.map_append, List.map_cons, List.map_nil, lz_snoc _ _ _ _ (by simp; omega)]
      obtain ⟨rest, hrest⟩ : ∃ rest, rz (its.drop j) (((ts.map GT.pt).drop (j + 1)).map PT.items) = its[j] :: rest := by
        have e1 : its.drop j = its[j] :: its.drop (j + 1) := List.drop_eq_getElem_cons hlt
        have e2 : (ts.map GT.pt).drop (j + 1) = (ts.map GT.pt)[j + 1]'(by simp; omega) :: (ts.map GT.pt).drop (j + 1 + 1) := List.drop_eq_getElem_cons (by simp; omega)
        rw [e1, e2, List.map_cons, rz_cons]; exact ⟨_, rfl⟩
      have hs := hsplit j hjl c hc
      rw [hrest] at hs
      have hsl := congrArg List.length hs
      simp only [List.length_append, List.length_cons] at hsl
      have hfl := feed_len (cont := cont) (lz (its.take j) ((ts.take j).map fun t => t.pt.items)) p
      have hfl2 := feed_len (cont := cont) (lz (its.take j) ((ts.take j).map fun t => t.pt.items) ++ c.pt.items) p
      rw [List.length_append] at hfl2
      unfold Map_si_nodeScan.j4
      refine r_nil ?_
      refine r_fld ?_
      refine s.r_lz0 z1 (j := 3) rfl ?_
      refine r_nil ?_
      refine s.r_lz0 z3 (j := 0) rfl ?_
      refine wK.idx (n := j) rfl (by omega) ?_
      refine nodeScan_ok hm hJ cb c (g.kid hcm) hfc (z5 c hcm) (fun r hr => hzb r (List.mem_append.2 (.inr (List.mem_flatMap.2 ⟨c, hcm, hr⟩)))) (fun E h s => kidcell z4 hc s) (by omega) hj fun h' hj' => ?_
      refine r_not ?_
      refine r_if (fun hr => ?_) (fun hr => ?_)
      · have hr : (feed cont (feed cont p (lz (its.take j) ((ts.take j).map fun t => t.pt.items))).1 c.pt.items).2 = false := by simpa using hr
        have ea : feed cont p (PT.items (h := k + 1) (its, ts.map GT.pt)) = ((feed cont (feed cont p (lz (its.take j) ((ts.take j).map fun t => t.pt.items))).1 c.pt.items).1, false) := by
          rw [hs, feed_step hf, feed_stop hr]
        have := H h' (by rw [ea]; exact hj')
        rw [ea] at this; exact this
      · have hr : (feed cont (feed cont p (lz (its.take j) ((ts.take j).map fun t => t.pt.items))).1 c.pt.items).2 = true := by simpa using hr
        have hf1 : feed cont p (lz (its.take j) ((ts.take j).map fun t => t.pt.items) ++ c.pt.items) = feed cont (feed cont p (lz (its.take j) ((ts.take j).map fun t => t.pt.items))).1 c.pt.items := feed_step hf
        rw [← hf1] at hr hj'
        have ef : feed cont p (lz (its.take (j + 1)) ((ts.take (j + 1)).map fun t => t.pt.items)) = ((feed cont p (lz (its.take j) ((ts.take j).map fun t => t.pt.items) ++ c.pt.items)).1 ++ [its[j]], cont ((feed cont p (lz (its.take j) ((ts.take j).map fun t => t.pt.items) ++ c.pt.items)).1 ++ [its[j]])) := by
          rw [ez, ← List.append_assoc, feed_step hr, feed_one]
        obtain ⟨E, s⟩ := hJ _ h' hj'
        unfold Map_si_nodeScan.j6
        refine r_nil ?_
        refine r_fld ?_
        refine s.r_lz0 z1 (j := 2) rfl ?_
        refine w.idx (n := j) rfl hlt ?_
        refine r_fld ?_
        refine s.r_load1FZ encl (r := 1) z2 hx rfl ?_
        refine r_nil ?_
        refine r_fld ?_
        refine s.r_lz0 z1 (j := 2) rfl ?_
        refine w.idx (n := j) rfl hlt ?_
        refine r_fld ?_
        refine s.r_load1FZ encl (r := 0) z2 hx rfl ?_
        refine cb _ its[j] h' _ (by omega) hj' fun h2 hj2 => ?_
        refine r_not ?_
        refine r_if (fun hb => ?_) (fun hb => ?_)
        · have hb : cont ((feed cont p (lz (its.take j) ((ts.take j).map fun t => t.pt.items) ++ c.pt.items)).1 ++ [its[j]]) = false := by simpa using hb
          have ea : feed cont p (PT.items (h := k + 1) (its, ts.map GT.pt)) = ((feed cont p (lz (its.take j) ((ts.take j).map fun t => t.pt.items) ++ c.pt.items)).1 ++ [its[j]], false) := by
            rw [hs, ← List.append_assoc, feed_step hr]; simp only [feed, hb, Bool.false_eq_true, if_false]
          have := H h2 (by rw [ea]; exact hj2)
          rw [ea] at this; exact this
        · have hb : cont ((feed cont p (lz (its.take j) ((ts.take j).map fun t => t.pt.items) ++ c.pt.items)).1 ++ [its[j]]) = true := by simpa using hb
          unfold Map_si_nodeScan.j5
          refine r_add (z := ((j + 1 : Nat) : Int)) (by rw [i64w (by omega) (by omega)]; omega) ?_
          exact HK h2 hlt ⟨by rw [ef]; exact hb, by rw [ef]; exact hj2⟩
    · have hge : j = its.length := by simp at hge; omega
      subst hge
      have hs := hsplit its.length hjl c hc
      have hr0 : rz (its.drop its.length) (((ts.map GT.pt).drop (its.length + 1)).map PT.items) = [] := by rw [List.drop_length]; rfl
      rw [hr0, List.append_nil] at hs
      have hsl := congrArg List.length hs
      simp only [List.length_append] at hsl
      have hfl := feed_len (cont := cont) (lz (its.take its.length) ((ts.take its.length).map fun t => t.pt.items)) p
      unfold Map_si_nodeScan.j2
      refine r_nil ?_
      refine r_fld ?_
      refine s.r_lz0 z1 (j := 3) rfl ?_
      refine r_nil ?_
      refine s.r_lz0 z3 (j := 0) rfl ?_
      refine r_nil ?_
      refine r_fld ?_
      refine s.r_lz0 z1 (j := 3) rfl ?_
      refine r_nil ?_
      refine s.r_lz0 z3 (j := 0) rfl ?_
      refine wK.lenV ?_
      refine r_sub (z := ((its.length : Nat) : Int)) (by rw [i64w (by omega) (by omega)]; omega) ?_
      refine wK.idx (n := its.length) rfl (by omega) ?_
      refine nodeScan_ok hm hJ cb c (g.kid hcm) hfc (z5 c hcm) (fun r hr => hzb r (List.mem_append.2 (.inr (List.mem_flatMap.2 ⟨c, hcm, hr⟩)))) (fun E h s => kidcell z4 hc s) (by omega) hj fun h' hj' => ?_
      have ea : feed cont p (PT.items (h := k + 1) (its, ts.map GT.pt)) = feed cont (feed cont p (lz (its.take its.length) ((ts.take its.length).map fun t => t.pt.items))).1 c.pt.items := by rw [hs, feed_step hf]
      have := H h' (by rw [ea]; exact hj')
      rw [ea] at this; exact this
end Go.Proofs.Ytdpkpcmoabfofaa.Si
end
section
namespace Go.Proofs.Ytdpkpcmoabfofaa.Si
open Go.Hp Go.Proofs.Ytdpkpcmoabfofaa
set_option linter.unusedVariables false
set_option linter.unusedSimpArgs false
variable {h0 h : Heap} {Z E : List Rg} {Q : Value → Heap → Prop}

theorem grow_ok {l : List It} {v : Value} {d : Nat} (hr : Rdl 2 h v l.length (l.flatMap encA)) (hl : l.length ≤ 2147483647) (h1 : 2 ≤ d) (h2 : d ≤ 512)
    (H : ∀ (g : Rt) tb h', rPt g = grown (2 * d - 1) l → (rPt g).items = setAll l → MapOk (2 * d - 1) 0 g → St h [] ((tb, 0, hdr 0 none (rA g) (rPt g).items.length ((d - 1 : Nat) : Int) ((2 * d - 1 : Nat) : Int)) :: rAll g) h' → Q (ptr tb 0) h') : i_growWords.call #[.int .i64 d, v] h Q := by
  refine i_growWords.body _ _ _ _ ?_
  unfold i_growWords.sh
  have s := St.start h
  refine NewMap_ok s h1 h2 fun tb h s => ?_
  refine hr.lenV ?_
  refine loop_up (n := l.length) (fun j => [.int .i64 j]) (fun j h' => ∃ (g : Rt) (R : List Rg), rPt g = grown (2 * d - 1) (l.take j) ∧ (rPt g).items = setAll (l.take j) ∧ MapOk (2 * d - 1) 0 g ∧ St _ [] ((tb, 0, hdr 0 none (rA g) (rPt g).items.length ((d - 1 : Nat) : Int) ((2 * d - 1 : Nat) : Int)) :: (rAll g ++ R)) h')
    ⟨none, [], rfl, rfl, MapOk.none (by omega) (by omega) (by omega), s⟩ ?_
  rintro j h hj ⟨g, R, e0, e, M, s⟩ K HK
  unfold i_growWords.l2.b
  refine r_cmpI ?_
  refine r_if (fun hlt => ?_) (fun hge => ?_)
  · have hlt : j < l.length := by simpa using hlt
    unfold i_growWords.j3
    refine (hr.st s).at (n := j) rfl encAl rfl rfl hlt fun b o hb => ?_
    refine hb.loadN rfl ?_
    refine s.r_alloc fun t7 h s => ?_
    refine St.r_storeN0 s 0 rfl rfl (by simp) (encA1 _) ?_; intro h s
    refine r_fld ?_
    refine St.r_load0 s 0 rfl rfl ?_
    refine r_fld ?_
    refine St.r_load0 s 0 rfl rfl ?_
    have hle := setAll_len (l.take j)
    rw [List.length_take] at hle
    refine Set_ok (mn := ((d - 1 : Nat) : Int)) (x := l[j]) (E := (t7, 0, encA l[j]) :: R) M (by omega) (by rw [e]; omega) (s.perm (by ((apply perm_rg; intro f; simp only [List.set_cons_zero, List.set_cons_succ, List.eraseIdx_cons_zero, List.eraseIdx_cons_succ, List.cons_append, List.nil_append, List.map_append, List.map_cons, List.map_nil, List.sum_append, List.sum_cons, List.sum_nil, List.map_flatMap, Nat.add_zero, Nat.zero_add]; ac_rfl)))) fun g' h' e1 M' s => ?_
    unfold i_growWords.j4
    refine r_add (z := ((j + 1 : Nat) : Int)) (by rw [i64w (by omega) (by omega)]; omega) ?_
    have et : l.take (j + 1) = l.take j ++ [l[j]] := List.take_succ_eq_append_getElem hlt
    refine HK h' hlt ⟨g', _, ?_, ?_, M', s⟩
    · rw [e1, e0, et, grown_snoc]
    · rw [e1, et, setAll_snoc, ← e]
      exact (MT.set_items swo M.odd M.m3 M.fl M.asc).1
  · have hge : j = l.length := by simp at hge; omega
    subst hge
    rw [List.take_length] at e e0
    unfold i_growWords.j1
    exact H g tb h e0 e M (s.sub (List.Sublist.cons_cons _ (List.sublist_append_left _ _)))

theorem Scan_ok {cont : List It → Bool} {f : Value} {J : List It → Heap → Prop} {g : Rt} {tb m N : Nat} {iso cnt mn mx : Int} {ctr : Option Addr} (M : MapOk m iso g) (hT : (tb, 0, hdr iso ctr (rA g) cnt mn mx) ∈ Z) (hz : ∀ r ∈ rAll g, r ∈ Z) (hzb : ∀ r ∈ rAll g, r.2.2 ≠ [] → h0.size ≤ r.1)
    (hJ : ∀ p h, J p h → ∃ E, St h0 Z E h)
    (cb : ∀ (p : List It) (x : It) (h : Heap) (K : Value → Heap → Prop), p.length < N → J p h → (∀ h', J (p ++ [x]) h' → K (.bool (cont (p ++ [x]))) h') → callV Try.prog f #[kv x.1, vv x.2] h K)
    (hN : (rPt g).items.length ≤ N) (hj : J [] h) (H : ∀ h', J (feed cont [] (rPt g).items).1 h' → Q (.tuple #[]) h') : Map_si_Scan.call #[ptr tb 0, f] h Q := by
  refine Map_si_Scan.body _ _ _ _ ?_
  unfold Map_si_Scan.sh
  refine Map_si_scan.body _ _ _ _ _ ?_
  unfold Map_si_scan.sh
  obtain ⟨E, s⟩ := hJ [] h hj
  refine r_nil ?_
  refine r_fld ?_
  refine s.r_lz0 hT (j := 2) rfl ?_
  refine r_eqNilP ?_
  cases g with
  | none =>
    refine r_if (fun _ => ?_) (fun e => absurd e (by simp [rA]))
    exact H h hj
  | some t =>
    refine r_if (fun e => absurd e (by simp [rA])) (fun _ => ?_)
    unfold Map_si_scan.j1
    refine r_nil ?_
    refine r_fld ?_
    refine nodeScan_ok M.m1 hJ cb t.2 M.gd M.fl hz hzb (fun E h s => ?_) (by rw [List.length_nil, Nat.zero_add]; exact hN) hj fun h' hj' => H h' hj'
    exact s.clz hT 2 rfl rfl

theorem pairs_hasBody : hasBody Try.prog 220 := ⟨_, Try.func220, rfl, rfl⟩
theorem take_hasBody : hasBody Try.prog 241 := ⟨_, Try.func241, rfl, rfl⟩
/-- The function that keeps what is handed to it. -/
def keepF (t5 : Nat) : Value := .func (.func 220) #[] #[ptr t5 0]
def KeepJ (h0 : Heap) (Z E : List Rg) (t2 t3 t5 t7 : Nat) (n : Int) (p : List It) (h : Heap) : Prop :=
  ∃ v b o sp, Own 2 v p.length b o (p.flatMap encA) sp ∧ St h0 Z ((t5, 0, [.func (.func 241) #[] #[ptr t2 0, ptr t3 0]]) :: (t2, 0, [ptr t7 0]) :: (t3, 0, [.int .i64 n]) :: (t7, 0, [v]) :: (b, o, p.flatMap encA ++ sp) :: E) h
theorem keep_cb {t2 t3 t5 t7 : Nat} {n : Int} (p : List It) (x : It) (h : Heap) (K : Value → Heap → Prop) (hp : p.length < 4294967296) (hj : KeepJ h0 Z E t2 t3 t5 t7 n p h) (HK : ∀ h', KeepJ h0 Z E t2 t3 t5 t7 n (p ++ [x]) h' → K (.bool (upTo n (p ++ [x]))) h') :
    callV Try.prog (keepF t5) #[kv x.1, vv x.2] h K := by
  obtain ⟨v, b, o, sp, w, s⟩ := hj
  refine r_callV pairs_hasBody ?_
  refine i_words_c1.body _ _ _ _ _ ?_
  unfold i_words_c1.sh
  refine St.r_load0 s 0 rfl rfl ?_
  (apply r_build; (simp only [fillV, fill1, Value.cells, zeros_succ, zeros_zero, List.size_toArray, List.length_cons, List.length_nil, List.length_append, List.take_succ_cons, List.take_zero, List.take_nil, List.drop_succ_cons, List.drop_zero, List.drop_nil, List.cons_append, List.nil_append, List.append_nil, Nat.reduceAdd, Nat.reduceMul, Nat.reduceLeDiff, Nat.reduceEqDiff, and_self, and_true, true_and, if_true, Nat.le_refl, Nat.zero_add, Nat.add_zero, Nat.zero_mul, reduceIte, if_false] <;> rfl))
  refine r_callV take_hasBody ?_
  refine i_taker_implWord_c1.body _ _ _ _ _ ?_
  unfold i_taker_implWord_c1.sh
  refine St.r_box (cs := encA x) s fun t3' h s => ?_
  refine St.r_load0 s 2 rfl rfl ?_
  refine St.r_load0 s 2 rfl rfl ?_
  refine r_nil ?_
  refine St.r_load0 s 4 rfl rfl ?_
  refine St.r_loadN0 s 0 rfl (by simp) ?_
  refine St.r_mkSl (sz := 2) (cs := encA x) s (by ((simp only [fillV, fill1, Value.cells, zeros_succ, zeros_zero, List.size_toArray, List.length_cons, List.length_nil, List.length_append, List.take_succ_cons, List.take_zero, List.take_nil, List.drop_succ_cons, List.drop_zero, List.drop_nil, List.cons_append, List.nil_append, List.append_nil, Nat.reduceAdd, Nat.reduceMul, Nat.reduceLeDiff, Nat.reduceEqDiff, and_self, and_true, true_and, if_true, Nat.le_refl, Nat.zero_add, Nat.add_zero, Nat.zero_mul, reduceIte, if_false] <;> rfl))) rfl fun q h s w1 => ?_
  refine And.intro (by exact St.r_still0 s 3 rfl rfl) ?_
  refine And.intro (by exact St.r_still0 s 3 rfl rfl) ?_
  refine And.intro (by exact St.r_still0 s 5 rfl rfl) ?_
  refine St.r_app s 6 (sz := 2) (n := 1) (new := encA x) rfl w rfl (w1.rdl s 0 rfl) (encA1 _) (by omega) (by omega) fun v' b' o' sp' h s w' => ?_
  have ex : p.flatMap encA ++ encA x = (p ++ [x]).flatMap encA := by rw [List.flatMap_append, List.flatMap_singleton]
  rw [ex] at s w'
  have w' : Own 2 v' (p ++ [x]).length b' o' ((p ++ [x]).flatMap encA) sp' := by rw [List.length_append]; exact w'
  refine And.intro (by exact St.r_still0 s 3 rfl rfl) ?_
  refine r_nil ?_
  refine St.r_store0 s 5 rfl (by simp) w'.one ?_; intro h s
  refine St.r_load0 s 4 rfl rfl ?_
  refine r_cmpI ?_
  have J' : KeepJ h0 Z E t2 t3 t5 t7 n (p ++ [x]) h := ⟨v', b', o', sp', w', s.drop 2⟩
  refine r_br (fun hb => ?_) (fun hb => ?_)
  · have hb : ¬ n < 1 := by simpa using hb
    refine St.r_load0 s 3 rfl rfl ?_
    refine r_nil ?_
    refine St.r_load0 s 5 rfl rfl ?_
    refine w'.lenV ?_
    refine St.r_load0 s 4 rfl rfl ?_
    refine r_cmpI ?_
    have := HK h J'
    have e : upTo n (p ++ [x]) = decide (((p ++ [x]).length : Int) < n) := by simp [upTo, hb]
    rw [e] at this
    exact this
  · have hb : n < 1 := by simpa using hb
    have := HK h J'
    have e : upTo n (p ++ [x]) = true := by simp [upTo, hb]
    rw [e] at this
    exact this
theorem pairs_ok {t7 : Nat} {n : Int} (s : St h0 Z E h) (H : ∀ t2 t3 t5 h', St h0 Z ((t5, 0, [.func (.func 241) #[] #[ptr t2 0, ptr t3 0]]) :: (t2, 0, [ptr t7 0]) :: (t3, 0, [.int .i64 n]) :: E) h' → Q (keepF t5) h') : i_words.call #[ptr t7 0, .int .i64 n] h Q := by
  refine i_words.body _ _ _ _ ?_
  unfold i_words.sh
  refine i_taker_implWord.body _ _ _ _ ?_
  unfold i_taker_implWord.sh
  refine St.r_box1 s rfl fun t2 h s => ?_
  refine St.r_box1 s rfl fun t3 h s => ?_
  refine s.r_alloc fun t5 h s => ?_
  refine St.r_store0 s 0 rfl (by simp) rfl ?_
  intro h s
  try simp only [List.set_cons_zero, List.set_cons_succ] at s
  exact H t2 t3 t5 h (s.perm (by ((apply perm_rg; intro f; simp only [List.set_cons_zero, List.set_cons_succ, List.eraseIdx_cons_zero, List.eraseIdx_cons_succ, List.cons_append, List.nil_append, List.map_append, List.map_cons, List.map_nil, List.sum_append, List.sum_cons, List.sum_nil, List.map_flatMap, Nat.add_zero, Nat.zero_add]; ac_rfl))))
/-- All that a map hands on, up to the n-th. -/
theorem kept_ok {g : Rt} {tb t7 m : Nat} {n iso cnt mn mx : Int} {ctr : Option Addr} (M : MapOk m iso g) (hl : (rPt g).items.length ≤ 4294967295)
    (s : St h0 Z ((t7, 0, [.slice none 0 0]) :: (((tb, 0, hdr iso ctr (rA g) cnt mn mx) :: rAll g) ++ E)) h)
    (H : ∀ v b o sp h', Own 2 v (firstN (rPt g).items n).length b o ((firstN (rPt g).items n).flatMap encA) sp → St h0 Z ((t7, 0, [v]) :: (b, o, (firstN (rPt g).items n).flatMap encA ++ sp) :: (((tb, 0, hdr iso ctr (rA g) cnt mn mx) :: rAll g) ++ E)) h' → Q (.tuple #[]) h') :
    i_words.call #[ptr t7 0, .int .i64 n] h fun t12 h => Map_si_Scan.call #[ptr tb 0, t12] h Q := by
  refine pairs_ok s fun t2 t3 t5 h s => ?_
  have s0 : St h0 Z (((tb, 0, hdr iso ctr (rA g) cnt mn mx) :: rAll g) ++ ((t5, 0, [.func (.func 241) #[] #[ptr t2 0, ptr t3 0]]) :: (t2, 0, [ptr t7 0]) :: (t3, 0, [.int .i64 n]) :: (t7, 0, [.slice none 0 0]) :: (0, 0, ([] : List It).flatMap encA ++ []) :: E)) h := (s.empty 0 0).perm (by ((apply perm_rg; intro f; simp only [List.set_cons_zero, List.set_cons_succ, List.eraseIdx_cons_zero, List.eraseIdx_cons_succ, List.cons_append, List.nil_append, List.map_append, List.map_cons, List.map_nil, List.sum_append, List.sum_cons, List.sum_nil, List.map_flatMap, Nat.add_zero, Nat.zero_add]; ac_rfl)))
  obtain ⟨s1, back⟩ := s0.borrow
  refine Scan_ok (J := KeepJ h0 (((tb, 0, hdr iso ctr (rA g) cnt mn mx) :: rAll g) ++ Z) E t2 t3 t5 t7 n) (cont := upTo n) (N := 4294967296) M (List.mem_append.2 (.inl (List.mem_cons_self ..))) (fun r hr => List.mem_append.2 (.inl (List.mem_cons_of_mem _ hr))) (fun r hr => (s0.e r (List.mem_append.2 (.inl (List.mem_cons_of_mem _ hr)))).2)
    (fun p h hj => by obtain ⟨v, b, o, sp, w, s⟩ := hj; exact ⟨_, s⟩) (fun p x h K hp hj HK => keep_cb p x h K hp hj HK) (by omega) ⟨_, 0, 0, [], Own.nil 2 0 0, s1⟩ fun h' hj => ?_
  rw [feed_first] at hj
  obtain ⟨v, b, o, sp, w, s⟩ := hj
  have s := back _ h' s
  exact H v b o sp h' w ((s.perm (E' := (t5, 0, _) :: (t2, 0, _) :: (t3, 0, _) :: (t7, 0, [v]) :: (b, o, _) :: (((tb, 0, hdr iso ctr (rA g) cnt mn mx) :: rAll g) ++ E)) (by ((apply perm_rg; intro f; simp only [List.set_cons_zero, List.set_cons_succ, List.eraseIdx_cons_zero, List.eraseIdx_cons_succ, List.cons_append, List.nil_append, List.map_append, List.map_cons, List.map_nil, List.sum_append, List.sum_cons, List.sum_nil, List.map_flatMap, Nat.add_zero, Nat.zero_add]; ac_rfl)))).drop 3)
end Go.Proofs.Ytdpkpcmoabfofaa.Si
end
section
namespace Go.Proofs.Ytdpkpcmoabfofaa.Si
open Go.Hp Go.Proofs.Ytdpkpcmoabfofaa
set_option linter.unusedVariables false
set_option linter.unusedSimpArgs false
variable {h0 h : Heap} {Z E : List Rg} {Q : Value → Heap → Prop}

theorem nodeKeys_ok {m : Nat} {iso : Int} (hm : m ≤ 1024) : ∀ {k : Nat} (t : GT It k) {lo : Nat} (g : Gd iso t) (fl : t.pt.Fl m lo) (hz : ∀ r ∈ t.all enc, r ∈ Z) {L : List KT} {v : Value} {b o : Nat} {sp : List Value} {E : List Rg} {h : Heap} {Q : Value → Heap → Prop},
    L.length + t.pt.items.length ≤ 4294967295 → Own 1 v L.length b o (L.flatMap fk) sp → St h0 Z ((b, o, L.flatMap fk ++ sp) :: E) h →
    (∀ v' b' o' sp' h', Own 1 v' (L ++ t.pt.items.map (·.1)).length b' o' ((L ++ t.pt.items.map (·.1)).flatMap fk) sp' → St h0 Z ((b', o', (L ++ t.pt.items.map (·.1)).flatMap fk ++ sp') :: E) h' → Q v' h') → mapNode_si_keys.call #[ptr t.id 0, v] h Q
  | 0, (d : Nd It), lo, g, fl, hz, L, v, b, o, sp, E, h, Q, hN, wv, s, H => by
    obtain ⟨own, n, is', cnt, its, iv, ib, io, isp, kb, kv', krb, kro, ksp⟩ := d
    obtain ⟨z1, z2⟩ := allZ_leaf hz
    have w : Own 2 iv its.length ib io (its.flatMap enc) isp := g.wf.1
    have hl : its.length ≤ m := fl.2
    have hN : L.length + its.length ≤ 4294967295 := hN
    have H : ∀ v' b' o' sp' h', Own 1 v' (L ++ its.map (·.1)).length b' o' ((L ++ its.map (·.1)).flatMap fk) sp' → St h0 Z ((b', o', (L ++ its.map (·.1)).flatMap fk ++ sp') :: E) h' → Q v' h' := H
    show mapNode_si_keys.call #[ptr n 0, v] h Q
    refine mapNode_si_keys.body _ _ _ _ ?_
    unfold mapNode_si_keys.sh
    refine leaf_ok (a := none) (s.clz z1 3 rfl rfl) ?_
    refine r_if (fun _ => ?_) (fun e => absurd e (by simp))
    refine loop_ghost (fun k st h => ∃ j v b o sp, k = its.length - j ∧ j ≤ its.length ∧ st = [v, .int .i64 (j : Nat)] ∧ Own 1 v (L ++ (its.take j).map (·.1)).length b o ((L ++ (its.take j).map (·.1)).flatMap fk) sp ∧ St h0 Z ((b, o, (L ++ (its.take j).map (·.1)).flatMap fk ++ sp) :: E) h)
      (n0 := its.length) ⟨0, v, b, o, sp, rfl, Nat.zero_le _, rfl, by simpa using wv, by simpa using s⟩ ?_
    rintro k st h ⟨j, v, b, o, sp, rfl, hj, rfl, wv, s⟩ K HK
    unfold mapNode_si_keys.l7.b
    refine r_nil ?_
    refine r_fld ?_
    refine s.r_lz0 z1 (j := 2) rfl ?_
    refine w.lenV ?_
    refine r_cmpI ?_
    refine r_if (fun hlt => ?_) (fun hge => ?_)
    · have hlt : j < its.length := by simpa using hlt
      have hx : its[j]? = some its[j] := List.getElem?_eq_getElem hlt
      unfold mapNode_si_keys.j8
      refine r_nil ?_
      refine r_fld ?_
      refine s.r_lz0 z1 (j := 2) rfl ?_
      refine w.idx (n := j) rfl hlt ?_
      refine r_fld ?_
      refine s.r_load1FZ encl (r := 1) z2 hx rfl ?_
      refine St.r_mkSl (sz := 1) (cs := [kv its[j].1]) s (by ((simp only [fillV, fill1, Value.cells, zeros_succ, zeros_zero, List.size_toArray, List.length_cons, List.length_nil, List.length_append, List.take_succ_cons, List.take_zero, List.take_nil, List.drop_succ_cons, List.drop_zero, List.drop_nil, List.cons_append, List.nil_append, List.append_nil, Nat.reduceAdd, Nat.reduceMul, Nat.reduceLeDiff, Nat.reduceEqDiff, and_self, and_true, true_and, if_true, Nat.le_refl, Nat.zero_add, Nat.add_zero, Nat.zero_mul, reduceIte, if_false] <;> rfl))) rfl fun q h s w1 => ?_
      refine St.r_app s 1 (sz := 1) (n := 1) (new := [kv its[j].1]) rfl wv rfl (w1.rdl s 0 rfl) (by simp [one1]) (by simp; omega) (by simp; omega) fun v' b' o' sp' h s w' => ?_
      rw [snoc_fk] at s w'
      have et : (L ++ (its.take j).map (·.1)) ++ [its[j].1] = L ++ (its.take (j + 1)).map (·.1) := by
        rw [List.take_succ_eq_append_getElem hlt, List.map_append, List.append_assoc]; rfl
      have w' : Own 1 v' ((L ++ (its.take j).map (·.1)) ++ [its[j].1]).length b' o' (((L ++ (its.take j).map (·.1)) ++ [its[j].1]).flatMap fk) sp' := by rw [List.length_append]; exact w'
      rw [et] at s w'
      unfold mapNode_si_keys.j9
      refine r_add (z := ((j + 1 : Nat) : Int)) (by rw [i64w (by omega) (by omega)]; omega) ?_
      exact HK (its.length - (j + 1)) _ _ (by omega) ⟨j + 1, v', b', o', sp', rfl, hlt, rfl, w', s.drop 1⟩
    · have hge : j = its.length := by simp at hge; omega
      subst hge
      rw [List.take_length] at s wv
      unfold mapNode_si_keys.j6
      exact H v b o sp h wv s
  | k + 1, t, lo, g, fl, hz, L, v, b, o, sp, E, h, Q, hN, wv, s, H => by
    obtain ⟨d, ts⟩ := t
    obtain ⟨own, n, is', cnt, its, iv, ib, io, isp, kb, kv', krb, kro, ksp⟩ := d
    obtain ⟨z1, z2, z3, z4, z5⟩ := allZ_inner hz
    have w : Own 2 iv its.length ib io (its.flatMap enc) isp := g.wf.1.1
    have wK : Own 1 kv' ts.length krb kro ((ts.map GT.id).map fun m => ptr m 0) ksp := g.wf.2.1
    have hkl : ts.length = its.length + 1 := g.wf.2.2.1
    have hl : its.length ≤ m := fl.2.1
    have hpl : ∀ i, ((ts.take i).map fun t => t.pt.items) = (((ts.map GT.pt).take i).map PT.items) := fun i => by rw [← List.map_take, List.map_map]; rfl
    have hsplit : ∀ i (hi : i ≤ its.length) c, ts[i]? = some c → PT.items (h := k + 1) (its, ts.map GT.pt) = lz (its.take i) ((ts.take i).map fun t => t.pt.items) ++ (c.pt.items ++ rz (its.drop i) (((ts.map GT.pt).drop (i + 1)).map PT.items)) := by
      intro i hi c hc
      obtain ⟨c', hc', _, e⟩ := PT.around (t := ((its, ts.map GT.pt) : PT It (k + 1))) fl hi
      have hc' : (ts.map GT.pt)[i]? = some c' := hc'
      rw [List.getElem?_map, hc] at hc'
      have : c' = c.pt := (Option.some.inj hc').symm
      subst this
      rw [hpl]; exact e
    have hN : L.length + (PT.items (h := k + 1) (its, ts.map GT.pt)).length ≤ 4294967295 := hN
    have H : ∀ v' b' o' sp' h', Own 1 v' (L ++ (PT.items (h := k + 1) (its, ts.map GT.pt)).map (·.1)).length b' o' ((L ++ (PT.items (h := k + 1) (its, ts.map GT.pt)).map (·.1)).flatMap fk) sp' → St h0 Z ((b', o', (L ++ (PT.items (h := k + 1) (its, ts.map GT.pt)).map (·.1)).flatMap fk ++ sp') :: E) h' → Q v' h' := H
    show mapNode_si_keys.call #[ptr n 0, v] h Q
    refine mapNode_si_keys.body _ _ _ _ ?_
    unfold mapNode_si_keys.sh
    refine leaf_ok (a := some ⟨kb, 0, Option.none⟩) (s.clz z1 3 rfl rfl) ?_
    refine r_if (fun e => absurd e (by simp)) (fun _ => ?_)
    unfold mapNode_si_keys.j1
    refine loop_ghost (fun q st h => ∃ j v b o sp, q = its.length - j ∧ j ≤ its.length ∧ st = [v, .int .i64 (j : Nat)] ∧ Own 1 v (L ++ (lz (its.take j) ((ts.take j).map fun t => t.pt.items)).map (·.1)).length b o ((L ++ (lz (its.take j) ((ts.take j).map fun t => t.pt.items)).map (·.1)).flatMap fk) sp ∧ St h0 Z ((b, o, (L ++ (lz (its.take j) ((ts.take j).map fun t => t.pt.items)).map (·.1)).flatMap fk ++ sp) :: E) h)
      (n0 := its.length) ⟨0, v, b, o, sp, rfl, Nat.zero_le _, rfl, by simpa [lz] using wv, by simpa [lz] using s⟩ ?_
    rintro q st h ⟨j, v, b, o, sp, rfl, hj, rfl, wv, s⟩ K HK
    obtain ⟨c, hc⟩ : ∃ c, ts[j]? = some c := ⟨ts[j]'(by omega), List.getElem?_eq_getElem (by omega)⟩
    have hcm := List.mem_of_getElem? hc
    have hfc : PT.Fl m (m / 2) c.pt := fl.2.2.2 _ (List.mem_map.2 ⟨c, hcm, rfl⟩)
    have hs := hsplit j hj c hc
    have hsl := congrArg List.length hs
    simp only [List.length_append] at hsl
    unfold mapNode_si_keys.l3.b
    refine r_nil ?_
    refine r_fld ?_
    refine s.r_lz0 z1 (j := 2) rfl ?_
    refine w.lenV ?_
    refine r_cmpI ?_
    refine r_if (fun hlt => ?_) (fun hge => ?_)
    · have hlt : j < its.length := by simpa using hlt
      have hx : its[j]? = some its[j] := List.getElem?_eq_getElem hlt
      have et : its.take (j + 1) = its.take j ++ [its[j]] := List.take_succ_eq_append_getElem hlt
      have ek : ts.take (j + 1) = ts.take j ++ [c] := by rw [List.take_add_one, hc]; rfl
      have ez : lz (its.take (j + 1)) ((ts.take (j + 1)).map fun t => t.pt.items) = lz (its.take j) ((ts.take j).map fun t => t.pt.items) ++ (c.pt.items ++ [its[j]]) := by
        rw [et, ek, List.map_append, List.map_cons, List.map_nil, lz_snoc _ _ _ _ (by simp; omega)]
      obtain ⟨rest, hrest⟩ : ∃ rest, rz (its.drop j) (((ts.map GT.pt).drop (j + 1)).map PT.items) = its[j] :: rest := by
        have e1 : its.drop j = its[j] :: its.drop (j + 1) := List.drop_eq_getElem_cons hlt
        have e2 : (ts.map GT.pt).drop (j + 1) = (ts.map GT.pt)[j + 1]'(by simp; omega) :: (ts.map GT.pt).drop (j + 1 + 1) := List.drop_eq_getElem_cons (by simp; omega)
        rw [e1, e2, List.map_cons, rz_cons]; exact ⟨_, rfl⟩
      rw [hrest, List.length_cons] at hsl
      unfold mapNode_si_keys.j4
      refine r_nil ?_
      refine r_fld ?_
      refine s.r_lz0 z1 (j := 3) rfl ?_
      refine r_nil ?_
      refine s.r_lz0 z3 (j := 0) rfl ?_
      refine wK.idx (n := j) rfl (by omega) ?_
      refine r_ld (kidcell z4 hc s) ?_
      refine nodeKeys_ok hm c (g.kid hcm) hfc (z5 c hcm) (by rw [List.length_append, List.length_map]; omega) wv s fun v2 b2 o2 sp2 h s2 s => ?_
      refine r_nil ?_
      refine r_fld ?_
      refine s.r_lz0 z1 (j := 2) rfl ?_
      refine w.idx (n := j) rfl hlt ?_
      refine r_fld ?_
      refine s.r_load1FZ encl (r := 1) z2 hx rfl ?_
      refine St.r_mkSl (sz := 1) (cs := [kv its[j].1]) s (by ((simp only [fillV, fill1, Value.cells, zeros_succ, zeros_zero, List.size_toArray, List.length_cons, List.length_nil, List.length_append, List.take_succ_cons, List.take_zero, List.take_nil, List.drop_succ_cons, List.drop_zero, List.drop_nil, List.cons_append, List.nil_append, List.append_nil, Nat.reduceAdd, Nat.reduceMul, Nat.reduceLeDiff, Nat.reduceEqDiff, and_self, and_true, true_and, if_true, Nat.le_refl, Nat.zero_add, Nat.add_zero, Nat.zero_mul, reduceIte, if_false] <;> rfl))) rfl fun q h s w1 => ?_
      refine St.r_app s 1 (sz := 1) (n := 1) (new := [kv its[j].1]) rfl s2 rfl (w1.rdl s 0 rfl) (by simp [one1]) (by simp only [List.length_append, List.length_map]; omega) (by simp only [List.length_append, List.length_map]; omega) fun v' b' o' sp' h s w' => ?_
      rw [snoc_fk] at s w'
      have e9 : (L ++ (lz (its.take j) ((ts.take j).map fun t => t.pt.items)).map (·.1) ++ c.pt.items.map (·.1)) ++ [its[j].1] = L ++ (lz (its.take (j + 1)) ((ts.take (j + 1)).map fun t => t.pt.items)).map (·.1) := by
        rw [ez]; simp
      have w' : Own 1 v' ((L ++ (lz (its.take j) ((ts.take j).map fun t => t.pt.items)).map (·.1) ++ c.pt.items.map (·.1)) ++ [its[j].1]).length b' o' (((L ++ (lz (its.take j) ((ts.take j).map fun t => t.pt.items)).map (·.1) ++ c.pt.items.map (·.1)) ++ [its[j].1]).flatMap fk) sp' := by rw [List.length_append]; exact w'
      rw [e9] at s w'
      unfold mapNode_si_keys.j5
      refine r_add (z := ((j + 1 : Nat) : Int)) (by rw [i64w (by omega) (by omega)]; omega) ?_
      exact HK (its.length - (j + 1)) _ _ (by omega) ⟨j + 1, v', b', o', sp', rfl, hlt, rfl, w', s.drop 1⟩
    · have hge : j = its.length := by simp at hge; omega
      subst hge
      have hr0 : rz (its.drop its.length) (((ts.map GT.pt).drop (its.length + 1)).map PT.items) = [] := by rw [List.drop_length]; rfl
      rw [hr0, List.append_nil] at hs
      unfold mapNode_si_keys.j2
      refine r_nil ?_
      refine r_fld ?_
      refine s.r_lz0 z1 (j := 3) rfl ?_
      refine r_nil ?_
      refine s.r_lz0 z3 (j := 0) rfl ?_
      refine r_nil ?_
      refine r_fld ?_
      refine s.r_lz0 z1 (j := 3) rfl ?_
      refine r_nil ?_
      refine s.r_lz0 z3 (j := 0) rfl ?_
      refine wK.lenV ?_
      refine r_sub (z := ((its.length : Nat) : Int)) (by rw [i64w (by omega) (by omega)]; omega) ?_
      refine wK.idx (n := its.length) rfl (by omega) ?_
      refine r_ld (kidcell z4 hc s) ?_
      refine nodeKeys_ok hm c (g.kid hcm) hfc (z5 c hcm) (by rw [List.length_append, List.length_map]; omega) wv s fun v2 b2 o2 sp2 h s2 s => ?_
      have e9 : L ++ (lz (its.take its.length) ((ts.take its.length).map fun t => t.pt.items)).map (·.1) ++ c.pt.items.map (·.1) = L ++ (PT.items (h := k + 1) (its, ts.map GT.pt)).map (·.1) := by rw [hs]; simp
      rw [e9] at s s2
      exact H v2 b2 o2 sp2 h s2 s

theorem Keys_ok {g : Rt} {tb m : Nat} {iso mn mx : Int} {ctr : Option Addr} (M : MapOk m iso g) (hl : (rPt g).items.length ≤ 4294967295) (s : St h0 Z (((tb, 0, hdr iso ctr (rA g) (rPt g).items.length mn mx) :: rAll g) ++ E) h)
    (H : ∀ v b o sp h', Own 1 v ((rPt g).items.map (·.1)).length b o (((rPt g).items.map (·.1)).flatMap fk) sp → St h0 Z ((b, o, ((rPt g).items.map (·.1)).flatMap fk ++ sp) :: (((tb, 0, hdr iso ctr (rA g) (rPt g).items.length mn mx) :: rAll g) ++ E)) h' → Q v h') :
    Map_si_Keys.call #[ptr tb 0] h Q := by
  refine Map_si_Keys.body _ _ _ ?_
  unfold Map_si_Keys.sh
  refine Map_si_Len.body _ _ _ ?_
  unfold Map_si_Len.sh
  have s : St h0 Z ((tb, 0, hdr iso ctr (rA g) (rPt g).items.length mn mx) :: (rAll g ++ E)) h := s
  refine r_nil ?_
  refine r_fld ?_
  refine St.r_load0 s 0 rfl rfl ?_
  refine s.r_mks (n := 0) (sz := 1) rfl (by omega) (by omega) (by omega) fun v b h s w => ?_
  rw [zeros_zero] at s w
  refine r_nil ?_
  refine r_fld ?_
  refine St.r_load0 s 1 rfl rfl ?_
  refine r_neNilP ?_
  cases g with
  | none =>
    refine r_if (fun e => absurd e (by simp [rA])) (fun _ => ?_)
    unfold Map_si_Keys.j1
    exact H _ b 0 _ h w s
  | some t =>
    refine r_if (fun _ => ?_) (fun e => absurd e (by simp [rA]))
    refine r_nil ?_
    refine r_fld ?_
    refine St.r_load0 s 1 rfl rfl ?_
    have s0 : St h0 Z (((tb, 0, hdr iso ctr (rA (some t)) (rPt (some t)).items.length mn mx) :: rAll (some t)) ++ ((b, 0, ([] : List KT).flatMap fk ++ zeros [kv emp.1] ((rPt (some t)).items.length - 0)) :: E)) h := s.perm (by ((apply perm_rg; intro f; simp only [List.set_cons_zero, List.set_cons_succ, List.eraseIdx_cons_zero, List.eraseIdx_cons_succ, List.cons_append, List.nil_append, List.map_append, List.map_cons, List.map_nil, List.sum_append, List.sum_cons, List.sum_nil, List.map_flatMap, Nat.add_zero, Nat.zero_add]; ac_rfl)))
    obtain ⟨s1, back⟩ := s0.borrow
    refine nodeKeys_ok M.m1 t.2 M.gd M.fl (fun r hr => List.mem_append.2 (.inl (List.mem_cons_of_mem _ hr))) (L := []) (by rw [List.length_nil, Nat.zero_add]; exact hl) w s1 fun v' b' o' sp' h' w' s => ?_
    have s := back _ h' s
    unfold Map_si_Keys.j1
    exact H v' b' o' sp' h' w' (s.perm (by ((apply perm_rg; intro f; simp only [List.set_cons_zero, List.set_cons_succ, List.eraseIdx_cons_zero, List.eraseIdx_cons_succ, List.cons_append, List.nil_append, List.map_append, List.map_cons, List.map_nil, List.sum_append, List.sum_cons, List.sum_nil, List.map_flatMap, Nat.add_zero, Nat.zero_add]; ac_rfl))))
end Go.Proofs.Ytdpkpcmoabfofaa.Si
end
section
namespace Go.Proofs.Ytdpkpcmoabfofaa.Si
open Go.Hp Go.Proofs.Ytdpkpcmoabfofaa
set_option linter.unusedVariables false
set_option linter.unusedSimpArgs false
variable {h0 h : Heap} {Z E : List Rg} {Q : Value → Heap → Prop}

theorem nodeAscend_ok {cont : List It → Bool} {f tr : Value} {J : List It → Heap → Prop} {iso : Int} {m N : Nat} {x : It} (hm : m ≤ 1024) (hJ : ∀ p h, J p h → ∃ E, St h0 Z E h)
    (cb : ∀ (p : List It) (x : It) (h : Heap) (K : Value → Heap → Prop), p.length < N → J p h → (∀ h', J (p ++ [x]) h' → K (.bool (cont (p ++ [x]))) h') → callV Try.prog f #[kv x.1, vv x.2] h K) :
    ∀ {k : Nat} (t : GT It k) {lo : Nat} (g : Gd iso t) (fl : t.pt.Fl m lo) (ha : Asc lt t.pt.items) (hz : ∀ r ∈ t.all enc, r ∈ Z) (hzb : ∀ r ∈ t.all enc, r.2.2 ≠ [] → h0.size ≤ r.1) {pb po : Nat} (hp : ∀ E h, St h0 Z E h → cl h pb po = some (ptr t.id 0)) {p : List It} {h : Heap} {Q : Value → Heap → Prop}, p.length + t.pt.items.length ≤ N → J p h →
      (∀ h', J (feed cont p (t.pt.items.drop (pos lt t.pt.items x))).1 h' → Q (.bool (feed cont p (t.pt.items.drop (pos lt t.pt.items x))).2) h') → Map_si_nodeAscend.call #[tr, ptr pb po, kv x.1, f, .bool false] h Q
  | 0, (d : Nd It), lo, g, fl, ha, hz, hzb, pb, po, hp, p, h, Q, hN, hj, H => by
    obtain ⟨own, n, is', cnt, its, iv, ib, io, isp, kb, kv', krb, kro, ksp⟩ := d
    obtain ⟨z1, z2⟩ := allZ_leaf hz
    have w : Own 2 iv its.length ib io (its.flatMap enc) isp := g.wf.1
    have hl : its.length ≤ m := fl.2
    have ha : Asc lt its := ha
    have hN : p.length + its.length ≤ N := hN
    have hp : ∀ E h, St h0 Z E h → cl h pb po = some (ptr n 0) := hp
    have H : ∀ h', J (feed cont p (its.drop (pos lt its x))).1 h' → Q (.bool (feed cont p (its.drop (pos lt its x))).2) h' := H
    have hpl := pos_le (lt := lt) its x
    refine Map_si_nodeAscend.body _ _ _ _ _ _ _ ?_
    unfold Map_si_nodeAscend.sh
    obtain ⟨E, s⟩ := hJ p h hj
    refine isoLoad_ro (hp E h s) ?_
    refine search_ok (x := x) ha (by omega) (s.clz z1 2 rfl rfl) (w.rdlZ s z2) ?_
    refine r_ext rfl ?_
    refine r_ext rfl ?_
    refine r_not ?_
    have main : Map_si_nodeAscend.j1 tr f (.bool false) (ptr n 0) (.int .i64 (pos lt its x)) h Q := by
      unfold Map_si_nodeAscend.j1
      refine loop_up (n := its.length - pos lt its x) (fun j => [.int .i64 ((pos lt its x + j : Nat) : Int)]) (fun j h => (feed cont p ((its.drop (pos lt its x)).take j)).2 = true ∧ J (feed cont p ((its.drop (pos lt its x)).take j)).1 h) ⟨rfl, hj⟩ ?_
      rintro j h hjl ⟨hf, hj⟩ K HK
      obtain ⟨E, s⟩ := hJ _ h hj
      unfold Map_si_nodeAscend.l3.b
      refine r_nil ?_
      refine r_fld ?_
      refine s.r_lz0 z1 (j := 2) rfl ?_
      refine w.lenV ?_
      refine r_cmpI ?_
      refine r_if (fun hlt => ?_) (fun hge => ?_)
      · have hlt : pos lt its x + j < its.length := by have : ((pos lt its x + j : Nat) : Int) < its.length := by simpa using hlt
                                                       omega
        have hx : its[pos lt its x + j]? = some its[pos lt its x + j] := List.getElem?_eq_getElem hlt
        unfold Map_si_nodeAscend.j4
        refine r_nil ?_
        refine r_fld ?_
        refine s.r_lz0 z1 (j := 2) rfl ?_
        refine w.idx (n := pos lt its x + j) rfl hlt ?_
        refine r_fld ?_
        refine s.r_load1FZ encl (r := 1) z2 hx rfl ?_
        refine r_nil ?_
        refine r_fld ?_
        refine s.r_lz0 z1 (j := 2) rfl ?_
        refine w.idx (n := pos lt its x + j) rfl hlt ?_
        refine r_fld ?_
        refine s.r_load1FZ encl (r := 0) z2 hx rfl ?_
        have hfl := feed_len (cont := cont) ((its.drop (pos lt its x)).take j) p
        rw [List.length_take, List.length_drop] at hfl
        have hd : j < (its.drop (pos lt its x)).length := by rw [List.length_drop]; omega
        have et : (its.drop (pos lt its x)).take (j + 1) = (its.drop (pos lt its x)).take j ++ [its[pos lt its x + j]] := by
          rw [List.take_succ_eq_append_getElem hd, List.getElem_drop]
        have ef : feed cont p ((its.drop (pos lt its x)).take (j + 1)) = ((feed cont p ((its.drop (pos lt its x)).take j)).1 ++ [its[pos lt its x + j]], cont ((feed cont p ((its.drop (pos lt its x)).take j)).1 ++ [its[pos lt its x + j]])) := by rw [et, feed_step hf, feed_one]
        refine cb _ its[pos lt its x + j] h _ (by omega) hj fun h' hj' => ?_
        refine r_not ?_
        refine r_if (fun hc => ?_) (fun hc => ?_)
        · have hc : cont ((feed cont p ((its.drop (pos lt its x)).take j)).1 ++ [its[pos lt its x + j]]) = false := by simpa using hc
          have ea : feed cont p (its.drop (pos lt its x)) = ((feed cont p ((its.drop (pos lt its x)).take j)).1 ++ [its[pos lt its x + j]], false) := by
            have e0 := feed_stop (cont := cont) (p := p) (a := (its.drop (pos lt its x)).take (j + 1)) (b := (its.drop (pos lt its x)).drop (j + 1)) (by rw [ef]; exact hc)
            rw [List.take_append_drop, ef] at e0
            exact e0
          have := H h' (by rw [ea]; exact hj')
          rw [ea] at this; exact this
        · have hc : cont ((feed cont p ((its.drop (pos lt its x)).take j)).1 ++ [its[pos lt its x + j]]) = true := by simpa using hc
          unfold Map_si_nodeAscend.j6
          obtain ⟨E2, s2⟩ := hJ _ h' hj'
          refine leaf_ok (a := none) (s2.clz z1 3 rfl rfl) ?_
          refine r_not ?_
          refine r_if (fun e => absurd e (by simp)) (fun _ => ?_)
          unfold Map_si_nodeAscend.j5
          refine r_add (z := ((pos lt its x + (j + 1) : Nat) : Int)) (by rw [i64w (by omega) (by omega)]; omega) ?_
          exact HK h' (by omega) ⟨by rw [ef]; exact hc, by rw [ef]; exact hj'⟩
      · have hge : its.length ≤ pos lt its x + j := by have : ¬ ((pos lt its x + j : Nat) : Int) < its.length := by simpa using hge
                                                       omega
        rw [List.take_of_length_le (by rw [List.length_drop]; omega)] at hf hj
        unfold Map_si_nodeAscend.j2
        have := H h hj
        rw [hf] at this; exact this
    refine r_if (fun _ => ?_) (fun _ => main)
    refine leaf_ok (a := none) (s.clz z1 3 rfl rfl) ?_
    refine r_not ?_
    refine r_if (fun e => absurd e (by simp)) (fun _ => main)
  | k + 1, t, lo, g, fl, ha, hz, hzb, pb, po, hp, p, h, Q, hN, hj, H => by
    obtain ⟨d, ts⟩ := t
    obtain ⟨own, n, is', cnt, its, iv, ib, io, isp, kb, kv', krb, kro, ksp⟩ := d
    obtain ⟨z1, z2, z3, z4, z5⟩ := allZ_inner hz
    have w : Own 2 iv its.length ib io (its.flatMap enc) isp := g.wf.1.1
    have wK : Own 1 kv' ts.length krb kro ((ts.map GT.id).map fun m => ptr m 0) ksp := g.wf.2.1
    have hkl : ts.length = its.length + 1 := g.wf.2.2.1
    have hl : its.length ≤ m := fl.2.1
    have hp : ∀ E h, St h0 Z E h → cl h pb po = some (ptr n 0) := hp
    have ha : Asc lt (PT.items (h := k + 1) (its, ts.map GT.pt)) := ha
    have hN : p.length + (PT.items (h := k + 1) (its, ts.map GT.pt)).length ≤ N := hN
    have H : ∀ h', J (feed cont p ((PT.items (h := k + 1) (its, ts.map GT.pt)).drop (pos lt (PT.items (h := k + 1) (its, ts.map GT.pt)) x))).1 h' → Q (.bool (feed cont p ((PT.items (h := k + 1) (its, ts.map GT.pt)).drop (pos lt (PT.items (h := k + 1) (its, ts.map GT.pt)) x))).2) h' := H
    have hpl := pos_le (lt := lt) its x
    have ha1 : Asc lt its := asc_of_sub ha (PT.its_sub1 ((its, ts.map GT.pt) : PT It (k + 1)))
    obtain ⟨c, hc⟩ : ∃ c, ts[pos lt its x]? = some c := ⟨ts[pos lt its x]'(by omega), List.getElem?_eq_getElem (by omega)⟩
    have hcm := List.mem_of_getElem? hc
    have hfc : PT.Fl m (m / 2) c.pt := fl.2.2.2 _ (List.mem_map.2 ⟨c, hcm, rfl⟩)
    have hcp : (ts.map GT.pt)[pos lt its x]? = some c.pt := by rw [List.getElem?_map, hc]; rfl
    obtain ⟨c0, hc0, _, eit⟩ := PT.around (t := ((its, ts.map GT.pt) : PT It (k + 1))) fl hpl
    have : c0 = c.pt := Option.some.inj (hc0.symm.trans hcp)
    subst this
    have eit : PT.items (h := k + 1) (its, ts.map GT.pt) = lz (its.take (pos lt its x)) (((ts.map GT.pt).take (pos lt its x)).map PT.items) ++ (c.pt.items ++ rz (its.drop (pos lt its x)) (((ts.map GT.pt).drop (pos lt its x + 1)).map PT.items)) := eit
    have hb : ∀ y ∈ lz (its.take (pos lt its x)) (((ts.map GT.pt).take (pos lt its x)).map PT.items), lt y x = true := by
      have ha2 := ha
      rw [eit] at ha2
      exact lz_before swo (by simp; omega) ha2 (fun y hy => (asc_pos (x := x) swo ha1).1 y hy)
    have hac : Asc lt c.pt.items := by rw [eit] at ha; exact (asc_app (asc_app ha).2.1).1
    generalize hB : rz (its.drop (pos lt its x)) (((ts.map GT.pt).drop (pos lt its x + 1)).map PT.items) = B at eit
    have hsl := congrArg List.length eit
    simp only [List.length_append] at hsl
    refine Map_si_nodeAscend.body _ _ _ _ _ _ _ ?_
    unfold Map_si_nodeAscend.sh
    obtain ⟨E, s⟩ := hJ p h hj
    refine isoLoad_ro (hp E h s) ?_
    refine search_ok (x := x) ha1 (by omega) (s.clz z1 2 rfl rfl) (w.rdlZ s z2) ?_
    refine r_ext rfl ?_
    refine r_ext rfl ?_
    refine r_not ?_
    -- from the node's own item on
    have main : ∀ (q : List It) (h : Heap), q.length + B.length ≤ N → J q h → (∀ h', J (feed cont q B).1 h' → Q (.bool (feed cont q B).2) h') → Map_si_nodeAscend.j1 tr f (.bool false) (ptr n 0) (.int .i64 (pos lt its x)) h Q := by
      intro q h hqN hj H
      have hkk : ∀ j, pos lt its x + 1 + j < ts.length → (((ts.map GT.pt).drop (pos lt its x + 1)).map PT.items)[j]? = (ts[pos lt its x + 1 + j]?).map fun t => t.pt.items := fun j hj => by
        rw [List.getElem?_map, List.getElem?_drop, List.getElem?_map, Option.map_map]; rfl
      unfold Map_si_nodeAscend.j1
      refine loop_up (n := its.length - pos lt its x) (fun j => [.int .i64 ((pos lt its x + j : Nat) : Int)]) (fun j h => (feed cont q (rz ((its.drop (pos lt its x)).take j) ((((ts.map GT.pt).drop (pos lt its x + 1)).map PT.items).take j))).2 = true ∧ J (feed cont q (rz ((its.drop (pos lt its x)).take j) ((((ts.map GT.pt).drop (pos lt its x + 1)).map PT.items).take j))).1 h) ⟨rfl, hj⟩ ?_
      rintro j h hjl ⟨hf, hj⟩ K HK
      obtain ⟨E, s⟩ := hJ _ h hj
      have eB := rz_drop (b := its.drop (pos lt its x)) (kb := ((ts.map GT.pt).drop (pos lt its x + 1)).map PT.items) j
      rw [hB] at eB
      generalize hA : rz ((its.drop (pos lt its x)).take j) ((((ts.map GT.pt).drop (pos lt its x + 1)).map PT.items).take j) = A at hf hj eB
      unfold Map_si_nodeAscend.l3.b
      refine r_nil ?_
      refine r_fld ?_
      refine s.r_lz0 z1 (j := 2) rfl ?_
      refine w.lenV ?_
      refine r_cmpI ?_
      refine r_if (fun hlt => ?_) (fun hge => ?_)
      · have hlt : pos lt its x + j < its.length := by have : ((pos lt its x + j : Nat) : Int) < its.length := by simpa using hlt
                                                       omega
        have hx : its[pos lt its x + j]? = some its[pos lt its x + j] := List.getElem?_eq_getElem hlt
        obtain ⟨c2, hc2⟩ : ∃ c2, ts[pos lt its x + j + 1]? = some c2 := ⟨ts[pos lt its x + j + 1]'(by omega), List.getElem?_eq_getElem (by omega)⟩
        have hcm2 := List.mem_of_getElem? hc2
        have hfc2 : PT.Fl m (m / 2) c2.pt := fl.2.2.2 _ (List.mem_map.2 ⟨c2, hcm2, rfl⟩)
        have l1 : j < (its.drop (pos lt its x)).length := by rw [List.length_drop]; omega
        have l2 : j < (((ts.map GT.pt).drop (pos lt its x + 1)).map PT.items).length := by rw [List.length_map, List.length_drop, List.length_map]; omega
        have g1 : (its.drop (pos lt its x))[j] = its[pos lt its x + j] := List.getElem_drop ..
        have g2 : (((ts.map GT.pt).drop (pos lt its x + 1)).map PT.items)[j] = c2.pt.items := by
          have := hkk j (by omega)
          rw [List.getElem?_eq_getElem l2, show pos lt its x + 1 + j = pos lt its x + j + 1 by omega, hc2] at this
          exact Option.some.inj this
        have et := rz_take l1 l2
        rw [hA, g1, g2] at et
        have eB2 := rz_drop (b := its.drop (pos lt its x)) (kb := ((ts.map GT.pt).drop (pos lt its x + 1)).map PT.items) (j + 1)
        rw [hB, et] at eB2
        have hbl := congrArg List.length eB2
        simp only [List.length_append, List.length_cons] at hbl
        have hfl := feed_len (cont := cont) A q
        have hfl2 := feed_len (cont := cont) (A ++ [its[pos lt its x + j]]) q
        rw [List.length_append, List.length_singleton] at hfl2
        unfold Map_si_nodeAscend.j4
        refine r_nil ?_
        refine r_fld ?_
        refine s.r_lz0 z1 (j := 2) rfl ?_
        refine w.idx (n := pos lt its x + j) rfl hlt ?_
        refine r_fld ?_
        refine s.r_load1FZ encl (r := 1) z2 hx rfl ?_
        refine r_nil ?_
        refine r_fld ?_
        refine s.r_lz0 z1 (j := 2) rfl ?_
        refine w.idx (n := pos lt its x + j) rfl hlt ?_
        refine r_fld ?_
        refine s.r_load1FZ encl (r := 0) z2 hx rfl ?_
        have ef1 : feed cont q (A ++ [its[pos lt its x + j]]) = ((feed cont q A).1 ++ [its[pos lt its x + j]], cont ((feed cont q A).1 ++ [its[pos lt its x + j]])) := by rw [feed_step hf, feed_one]
        refine cb _ its[pos lt its x + j] h _ (by omega) hj fun h' hj' => ?_
        refine r_not ?_
        refine r_if (fun hc => ?_) (fun hc => ?_)
        · have hc : cont ((feed cont q A).1 ++ [its[pos lt its x + j]]) = false := by simpa using hc
          have ea : feed cont q B = ((feed cont q A).1 ++ [its[pos lt its x + j]], false) := by
            have e0 := feed_stop (cont := cont) (p := q) (a := A ++ [its[pos lt its x + j]]) (b := c2.pt.items ++ rz ((its.drop (pos lt its x)).drop (j + 1)) ((((ts.map GT.pt).drop (pos lt its x + 1)).map PT.items).drop (j + 1))) (by rw [ef1]; exact hc)
            rw [ef1] at e0
            rw [eB2, ← e0]; simp
          have := H h' (by rw [ea]; exact hj')
          rw [ea] at this; exact this
        · have hc : cont ((feed cont q A).1 ++ [its[pos lt its x + j]]) = true := by simpa using hc
          rw [hc] at ef1
          have hf1 : (feed cont q (A ++ [its[pos lt its x + j]])).2 = true := by rw [ef1]
          have hj1 : J (feed cont q (A ++ [its[pos lt its x + j]])).1 h' := by rw [ef1]; exact hj'
          unfold Map_si_nodeAscend.j6
          obtain ⟨E2, s⟩ := hJ _ h' hj'
          refine leaf_ok (a := some ⟨kb, 0, Option.none⟩) (s.clz z1 3 rfl rfl) ?_
          refine r_not ?_
          refine r_if (fun _ => ?_) (fun e => absurd e (by simp))
          refine r_nil ?_
          refine r_fld ?_
          refine s.r_lz0 z1 (j := 3) rfl ?_
          refine r_nil ?_
          refine s.r_lz0 z3 (j := 0) rfl ?_
          refine r_add (z := ((pos lt its x + j + 1 : Nat) : Int)) (by rw [i64w (by omega) (by omega)]; omega) ?_
          refine wK.idx (n := pos lt its x + j + 1) rfl (by omega) ?_
          have ef2 : feed cont q (A ++ (its[pos lt its x + j] :: c2.pt.items)) = feed cont (feed cont q (A ++ [its[pos lt its x + j]])).1 c2.pt.items := by
            rw [← feed_step hf1]; simp
          refine nodeScan_ok hm hJ cb c2 (g.kid hcm2) hfc2 (z5 c2 hcm2) (fun r hr => hzb r (List.mem_append.2 (.inr (List.mem_flatMap.2 ⟨c2, hcm2, hr⟩)))) (fun E h s => kidcell z4 hc2 s) (by omega) hj1 fun h2 hj2 => ?_
          refine r_not ?_
          refine r_if (fun hr => ?_) (fun hr => ?_)
          · have hr : (feed cont (feed cont q (A ++ [its[pos lt its x + j]])).1 c2.pt.items).2 = false := by simpa using hr
            have ea : feed cont q B = ((feed cont (feed cont q (A ++ [its[pos lt its x + j]])).1 c2.pt.items).1, false) := by
              rw [eB2, feed_stop (by rw [ef2]; exact hr), ef2]
            have := H h2 (by rw [ea]; exact hj2)
            rw [ea] at this; exact this
          · have hr : (feed cont (feed cont q (A ++ [its[pos lt its x + j]])).1 c2.pt.items).2 = true := by simpa using hr
            unfold Map_si_nodeAscend.j5
            refine r_add (z := ((pos lt its x + (j + 1) : Nat) : Int)) (by rw [i64w (by omega) (by omega)]; omega) ?_
            refine HK h2 (by omega) ⟨?_, ?_⟩
            · rw [et, ef2]; exact hr
            · rw [et, ef2]; exact hj2
      · have hge : its.length ≤ pos lt its x + j := by have : ¬ ((pos lt its x + j : Nat) : Int) < its.length := by simpa using hge
                                                       omega
        have e0 : (its.drop (pos lt its x)).drop j = [] := List.drop_of_length_le (by rw [List.length_drop]; omega)
        rw [e0] at eB
        have eB : B = A := by rw [eB]; simp [rz]
        unfold Map_si_nodeAscend.j2
        have := H h (by rw [eB]; exact hj)
        rw [eB, hf] at this; exact this
    refine r_if (fun hnf => ?_) (fun hfd => ?_)
    · have hn : lget lt its x = none := by cases e : lget lt its x with
        | none => rfl
        | some y => rw [e] at hnf; simp at hnf
      have hhd : ∀ y, B.head? = some y → lt x y = true := by
        rw [← hB, rz_head (by simp; omega)]; exact lget_none_head hn
      have hpi : pos lt (PT.items (h := k + 1) (its, ts.map GT.pt)) x = (lz (its.take (pos lt its x)) (((ts.map GT.pt).take (pos lt its x)).map PT.items)).length + pos lt c.pt.items x := by
        rw [eit, pos_app hb, pos_app2 (fun y hy => swo.asym (hhd y hy))]
      have hdi : (PT.items (h := k + 1) (its, ts.map GT.pt)).drop (pos lt (PT.items (h := k + 1) (its, ts.map GT.pt)) x) = c.pt.items.drop (pos lt c.pt.items x) ++ B := by
        rw [hpi]
        conv => lhs; rw [eit]
        rw [List.drop_length_add_append, List.drop_append_of_le_length (pos_le _ _)]
      rw [hdi] at H
      refine leaf_ok (a := some ⟨kb, 0, Option.none⟩) (s.clz z1 3 rfl rfl) ?_
      refine r_not ?_
      refine r_if (fun _ => ?_) (fun e => absurd e (by simp))
      refine r_nil ?_
      refine r_fld ?_
      refine s.r_lz0 z1 (j := 3) rfl ?_
      refine r_nil ?_
      refine s.r_lz0 z3 (j := 0) rfl ?_
      refine wK.idx (n := pos lt its x) rfl (by omega) ?_
      refine nodeAscend_ok hm hJ cb c (g.kid hcm) hfc hac (z5 c hcm) (fun r hr => hzb r (List.mem_append.2 (.inr (List.mem_flatMap.2 ⟨c, hcm, hr⟩)))) (fun E h s => kidcell z4 hc s) (by omega) hj fun h' hj' => ?_
      have hfl := feed_len (cont := cont) (c.pt.items.drop (pos lt c.pt.items x)) p
      rw [List.length_drop] at hfl
      refine r_not ?_
      refine r_if (fun hr => ?_) (fun hr => ?_)
      · have hr : (feed cont p (c.pt.items.drop (pos lt c.pt.items x))).2 = false := by simpa using hr
        have ea := feed_stop (b := B) hr
        have := H h' (by rw [ea]; exact hj')
        rw [ea] at this; exact this
      · have hr : (feed cont p (c.pt.items.drop (pos lt c.pt.items x))).2 = true := by simpa using hr
        refine main _ h' (by omega) hj' fun h2 hj2 => ?_
        have ea := feed_step (b := B) hr
        have := H h2 (by rw [ea]; exact hj2)
        rw [ea] at this; exact this
    · obtain ⟨y, hy⟩ : ∃ y, lget lt its x = some y := by
        cases e : lget lt its x with
        | some y => exact ⟨y, rfl⟩
        | none => rw [e] at hfd; simp at hfd
      obtain ⟨hpp, hyy, h3, h4⟩ := lget_some hy
      obtain ⟨rest, hrest⟩ : ∃ rest, B = y :: rest := by
        have e1 : its.drop (pos lt its x) = y :: its.drop (pos lt its x + 1) := by rw [← hyy]; exact List.drop_eq_getElem_cons hpp
        have e2 : (ts.map GT.pt).drop (pos lt its x + 1) = (ts.map GT.pt)[pos lt its x + 1]'(by simp; omega) :: (ts.map GT.pt).drop (pos lt its x + 1 + 1) := List.drop_eq_getElem_cons (by simp; omega)
        rw [← hB, e1, e2, List.map_cons, rz_cons]; exact ⟨_, rfl⟩
      have hb2 : ∀ z ∈ lz (its.take (pos lt its x)) (((ts.map GT.pt).take (pos lt its x)).map PT.items) ++ c.pt.items, lt z x = true := fun z hz => by
        have ha2 := ha
        rw [eit, hrest, ← List.append_assoc] at ha2
        exact swo.tr1 ((asc_app ha2).2.2 z hz y (by simp)) h4
      have hpi : pos lt (PT.items (h := k + 1) (its, ts.map GT.pt)) x = (lz (its.take (pos lt its x)) (((ts.map GT.pt).take (pos lt its x)).map PT.items) ++ c.pt.items).length := by
        have p0 : pos lt (y :: rest) x = 0 := pos_zero (s := y :: rest) (fun z hz => by simp at hz; subst hz; exact h3)
        rw [eit, ← List.append_assoc, pos_app hb2, hrest, p0, Nat.add_zero]
      have hdi : (PT.items (h := k + 1) (its, ts.map GT.pt)).drop (pos lt (PT.items (h := k + 1) (its, ts.map GT.pt)) x) = B := by
        rw [hpi]
        conv => lhs; rw [eit, ← List.append_assoc]
        exact List.drop_left ..
      rw [hdi] at H
      exact main p h (by omega) hj H
end Go.Proofs.Ytdpkpcmoabfofaa.Si
end
section
namespace Go.Proofs.Ytdpkpcmoabfofaa.Si
open Go.Hp Go.Proofs.Ytdpkpcmoabfofaa
set_option linter.unusedVariables false
set_option linter.unusedSimpArgs false
variable {h0 h : Heap} {Z E : List Rg} {Q : Value → Heap → Prop}

theorem nodeReverse_ok {cont : List It → Bool} {f tr : Value} {J : List It → Heap → Prop} {iso : Int} {m N : Nat} (hm : m ≤ 1024) (hJ : ∀ p h, J p h → ∃ E, St h0 Z E h)
    (cb : ∀ (p : List It) (x : It) (h : Heap) (K : Value → Heap → Prop), p.length < N → J p h → (∀ h', J (p ++ [x]) h' → K (.bool (cont (p ++ [x]))) h') → callV Try.prog f #[kv x.1, vv x.2] h K) :
    ∀ {k : Nat} (t : GT It k) {lo : Nat} (g : Gd iso t) (fl : t.pt.Fl m lo) (hz : ∀ r ∈ t.all enc, r ∈ Z) (hzb : ∀ r ∈ t.all enc, r.2.2 ≠ [] → h0.size ≤ r.1) {pb po : Nat} (hp : ∀ E h, St h0 Z E h → cl h pb po = some (ptr t.id 0)) {p : List It} {h : Heap} {Q : Value → Heap → Prop}, p.length + t.pt.items.length ≤ N → J p h →
      (∀ h', J (feed cont p t.pt.items.reverse).1 h' → Q (.bool (feed cont p t.pt.items.reverse).2) h') → Map_si_nodeReverse.call #[tr, ptr pb po, f, .bool false] h Q
  | 0, (d : Nd It), lo, g, fl, hz, hzb, pb, po, hp, p, h, Q, hN, hj, H => by
    obtain ⟨own, n, is', cnt, its, iv, ib, io, isp, kb, kv', krb, kro, ksp⟩ := d
    obtain ⟨z1, z2⟩ := allZ_leaf hz
    have w : Own 2 iv its.length ib io (its.flatMap enc) isp := g.wf.1
    have hl : its.length ≤ m := fl.2
    have hp : ∀ E h, St h0 Z E h → cl h pb po = some (ptr n 0) := hp
    have hN : p.length + its.length ≤ N := hN
    have H : ∀ h', J (feed cont p its.reverse).1 h' → Q (.bool (feed cont p its.reverse).2) h' := H
    refine Map_si_nodeReverse.body _ _ _ _ _ _ ?_
    unfold Map_si_nodeReverse.sh
    obtain ⟨E, s⟩ := hJ p h hj
    refine isoLoad_ro (hp E h s) ?_
    refine leaf_ok (a := none) (s.clz z1 3 rfl rfl) ?_
    refine r_if (fun _ => ?_) (fun e => absurd e (by simp))
    refine r_nil ?_
    refine r_fld ?_
    refine s.r_lz0 z1 (j := 2) rfl ?_
    refine w.lenV ?_
    refine r_sub (z := (its.length : Int) - 1 - (0 : Nat)) (by rw [i64w (by omega) (by omega)]; omega) ?_
    refine loop_up (n := its.length) (fun j => [.int .i64 ((its.length : Int) - 1 - (j : Nat))]) (fun j h => (feed cont p (its.drop (its.length - j)).reverse).2 = true ∧ J (feed cont p (its.drop (its.length - j)).reverse).1 h) ⟨by rw [Nat.sub_zero, List.drop_length]; rfl, by rw [Nat.sub_zero, List.drop_length]; exact hj⟩ ?_
    rintro j h hjl ⟨hf, hj⟩ K HK
    obtain ⟨E, s⟩ := hJ _ h hj
    unfold Map_si_nodeReverse.l9.b
    refine r_cmpI ?_
    refine r_if (fun hlt => ?_) (fun hge => ?_)
    · have hlt : j < its.length := by have : (0 : Int) ≤ (its.length : Int) - 1 - (j : Nat) := by simpa using hlt
                                      omega
      obtain ⟨i, hi⟩ : ∃ i, i + 1 = its.length - j := ⟨its.length - j - 1, by omega⟩
      have hi2 : its.length - (j + 1) = i := by omega
      have hlt : i < its.length := by omega
      have ei : (its.length : Int) - 1 - (j : Nat) = ((i : Nat) : Int) := by omega
      have hx : its[i]? = some its[i] := List.getElem?_eq_getElem hlt
      rw [← hi] at hf hj
      have et : (its.drop i).reverse = (its.drop (i + 1)).reverse ++ [its[i]] := by rw [List.drop_eq_getElem_cons hlt, List.reverse_cons]
      rw [ei]
      unfold Map_si_nodeReverse.j10
      refine r_nil ?_
      refine r_fld ?_
      refine s.r_lz0 z1 (j := 2) rfl ?_
      refine w.idx (n := i) rfl hlt ?_
      refine r_fld ?_
      refine s.r_load1FZ encl (r := 1) z2 hx rfl ?_
      refine r_nil ?_
      refine r_fld ?_
      refine s.r_lz0 z1 (j := 2) rfl ?_
      refine w.idx (n := i) rfl hlt ?_
      refine r_fld ?_
      refine s.r_load1FZ encl (r := 0) z2 hx rfl ?_
      have hfl := feed_len (cont := cont) (its.drop (i + 1)).reverse p
      rw [List.length_reverse, List.length_drop] at hfl
      refine cb _ its[i] h _ (by omega) hj fun h' hj' => ?_
      refine r_not ?_
      have ef : feed cont p (its.drop i).reverse = ((feed cont p (its.drop (i + 1)).reverse).1 ++ [its[i]], cont ((feed cont p (its.drop (i + 1)).reverse).1 ++ [its[i]])) := by rw [et, feed_step hf, feed_one]
      refine r_if (fun hc => ?_) (fun hc => ?_)
      · have hc : cont ((feed cont p (its.drop (i + 1)).reverse).1 ++ [its[i]]) = false := by simpa using hc
        have ea : feed cont p its.reverse = ((feed cont p (its.drop (i + 1)).reverse).1 ++ [its[i]], false) := by
          have e0 := feed_stop (cont := cont) (p := p) (a := (its.drop i).reverse) (b := (its.take i).reverse) (by rw [ef]; exact hc)
          rw [← List.reverse_append, List.take_append_drop, ef] at e0
          exact e0
        have := H h' (by rw [ea]; exact hj')
        rw [ea] at this; exact this
      · have hc : cont ((feed cont p (its.drop (i + 1)).reverse).1 ++ [its[i]]) = true := by simpa using hc
        unfold Map_si_nodeReverse.j11
        refine r_sub (z := (its.length : Int) - 1 - (j + 1 : Nat)) (by rw [i64w (by omega) (by omega)]; omega) ?_
        exact HK h' (by omega) ⟨by rw [hi2, ef]; exact hc, by rw [hi2, ef]; exact hj'⟩
    · have hge : j = its.length := by have : ¬ (0 : Int) ≤ (its.length : Int) - 1 - (j : Nat) := by simpa using hge
                                      omega
      subst hge
      rw [Nat.sub_self, List.drop_zero] at hf hj
      unfold Map_si_nodeReverse.j8
      have := H h hj
      rw [hf] at this; exact this
  | k + 1, t, lo, g, fl, hz, hzb, pb, po, hp, p, h, Q, hN, hj, H => by
    obtain ⟨d, ts⟩ := t
    obtain ⟨own, n, is', cnt, its, iv, ib, io, isp, kb, kv', krb, kro, ksp⟩ := d
    obtain ⟨z1, z2, z3, z4, z5⟩ := allZ_inner hz
    have w : Own 2 iv its.length ib io (its.flatMap enc) isp := g.wf.1.1
    have wK : Own 1 kv' ts.length krb kro ((ts.map GT.id).map fun m => ptr m 0) ksp := g.wf.2.1
    have hkl : ts.length = its.length + 1 := g.wf.2.2.1
    have hl : its.length ≤ m := fl.2.1
    have hp : ∀ E h, St h0 Z E h → cl h pb po = some (ptr n 0) := hp
    have hpl : ∀ i, ((ts.take i).map fun t => t.pt.items) = (((ts.map GT.pt).take i).map PT.items) := fun i => by rw [← List.map_take, List.map_map]; rfl
    obtain ⟨D, hD⟩ : ∃ D : Nat → List It, ∀ i c, ts[i]? = some c → D i = c.pt.items ++ rz (its.drop i) (((ts.map GT.pt).drop (i + 1)).map PT.items) := ⟨fun i => match ts[i]? with | some c => c.pt.items ++ rz (its.drop i) (((ts.map GT.pt).drop (i + 1)).map PT.items) | none => [], fun i c hc => by simp only [hc]⟩
    have hsplit : ∀ i (hi : i ≤ its.length) c, ts[i]? = some c → PT.items (h := k + 1) (its, ts.map GT.pt) = lz (its.take i) ((ts.take i).map fun t => t.pt.items) ++ D i := by
      intro i hi c hc
      obtain ⟨c', hc', _, e⟩ := PT.around (t := ((its, ts.map GT.pt) : PT It (k + 1))) fl hi
      have hc' : (ts.map GT.pt)[i]? = some c' := hc'
      rw [List.getElem?_map, hc] at hc'
      have : c' = c.pt := (Option.some.inj hc').symm
      subst this
      rw [hpl, hD i c hc]; exact e
    have hstep : ∀ i (hi : i < its.length) c, ts[i]? = some c → D i = c.pt.items ++ its[i] :: D (i + 1) := by
      intro i hi c hc
      obtain ⟨c2, hc2⟩ : ∃ c2, ts[i + 1]? = some c2 := ⟨ts[i + 1]'(by omega), List.getElem?_eq_getElem (by omega)⟩
      have e1 : its.drop i = its[i] :: its.drop (i + 1) := List.drop_eq_getElem_cons hi
      have e2 : (ts.map GT.pt).drop (i + 1) = c2.pt :: (ts.map GT.pt).drop (i + 1 + 1) := by
        have e3 : (ts.map GT.pt)[i + 1]'(by rw [List.length_map]; omega) = c2.pt := by
          have : (ts.map GT.pt)[i + 1]? = some c2.pt := by rw [List.getElem?_map, hc2]; rfl
          exact (List.getElem?_eq_some_iff.1 this).2
        rw [← e3]; exact List.drop_eq_getElem_cons (by rw [List.length_map]; omega)
      rw [hD i c hc, hD (i + 1) c2 hc2, e1, e2, List.map_cons, rz_cons]
    have hN : p.length + (PT.items (h := k + 1) (its, ts.map GT.pt)).length ≤ N := hN
    have H : ∀ h', J (feed cont p (PT.items (h := k + 1) (its, ts.map GT.pt)).reverse).1 h' → Q (.bool (feed cont p (PT.items (h := k + 1) (its, ts.map GT.pt)).reverse).2) h' := H
    refine Map_si_nodeReverse.body _ _ _ _ _ _ ?_
    unfold Map_si_nodeReverse.sh
    obtain ⟨E, s⟩ := hJ p h hj
    refine isoLoad_ro (hp E h s) ?_
    refine leaf_ok (a := some ⟨kb, 0, Option.none⟩) (s.clz z1 3 rfl rfl) ?_
    refine r_if (fun e => absurd e (by simp)) (fun _ => ?_)
    unfold Map_si_nodeReverse.j1
    obtain ⟨c, hc⟩ : ∃ c, ts[its.length]? = some c := ⟨ts[its.length]'(by omega), List.getElem?_eq_getElem (by omega)⟩
    have hcm := List.mem_of_getElem? hc
    have hfc : PT.Fl m (m / 2) c.pt := fl.2.2.2 _ (List.mem_map.2 ⟨c, hcm, rfl⟩)
    have hr0 : rz (its.drop its.length) (((ts.map GT.pt).drop (its.length + 1)).map PT.items) = [] := by rw [List.drop_length]; rfl
    have hDn : D its.length = c.pt.items := by rw [hD _ c hc, hr0, List.append_nil]
    have hs := hsplit its.length (Nat.le_refl _) c hc
    have hsl := congrArg List.length hs
    rw [hDn] at hsl
    simp only [List.length_append] at hsl
    refine r_nil ?_
    refine r_fld ?_
    refine s.r_lz0 z1 (j := 3) rfl ?_
    refine r_nil ?_
    refine s.r_lz0 z3 (j := 0) rfl ?_
    refine r_nil ?_
    refine r_fld ?_
    refine s.r_lz0 z1 (j := 3) rfl ?_
    refine r_nil ?_
    refine s.r_lz0 z3 (j := 0) rfl ?_
    refine wK.lenV ?_
    refine r_sub (z := ((its.length : Nat) : Int)) (by rw [i64w (by omega) (by omega)]; omega) ?_
    refine wK.idx (n := its.length) rfl (by omega) ?_
    refine nodeReverse_ok hm hJ cb c (g.kid hcm) hfc (z5 c hcm) (fun r hr => hzb r (List.mem_append.2 (.inr (List.mem_flatMap.2 ⟨c, hcm, hr⟩)))) (fun E h s => kidcell z4 hc s) (by omega) hj fun h' hj' => ?_
    refine r_not ?_
    rw [← hDn] at hj' ⊢
    refine r_if (fun hr => ?_) (fun hr => ?_)
    · have hr : (feed cont p (D its.length).reverse).2 = false := by simpa using hr
      have ea : feed cont p (PT.items (h := k + 1) (its, ts.map GT.pt)).reverse = ((feed cont p (D its.length).reverse).1, false) := by
        rw [hs, List.reverse_append, feed_stop hr]
      have := H h' (by rw [ea]; exact hj')
      rw [ea] at this; exact this
    have hr : (feed cont p (D its.length).reverse).2 = true := by simpa using hr
    clear hj s hs hsl hc hcm hfc hDn
    obtain ⟨E, s⟩ := hJ _ h' hj'
    unfold Map_si_nodeReverse.j2
    refine r_nil ?_
    refine r_fld ?_
    refine s.r_lz0 z1 (j := 2) rfl ?_
    refine w.lenV ?_
    refine r_sub (z := (its.length : Int) - 1 - (0 : Nat)) (by rw [i64w (by omega) (by omega)]; omega) ?_
    refine loop_up (n := its.length) (fun j => [.int .i64 ((its.length : Int) - 1 - (j : Nat))]) (fun j h => (feed cont p (D (its.length - j)).reverse).2 = true ∧ J (feed cont p (D (its.length - j)).reverse).1 h) ⟨hr, hj'⟩ ?_
    clear hr hj' s
    rintro j h hjl ⟨hf, hj⟩ K HK
    obtain ⟨E, s⟩ := hJ _ h hj
    unfold Map_si_nodeReverse.l4.b
    refine r_cmpI ?_
    refine r_if (fun hlt => ?_) (fun hge => ?_)
    · have hlt : j < its.length := by have : (0 : Int) ≤ (its.length : Int) - 1 - (j : Nat) := by simpa using hlt
                                      omega
      obtain ⟨i, hi⟩ : ∃ i, i + 1 = its.length - j := ⟨its.length - j - 1, by omega⟩
      have hi2 : its.length - (j + 1) = i := by omega
      have hlt : i < its.length := by omega
      have ei : (its.length : Int) - 1 - (j : Nat) = ((i : Nat) : Int) := by omega
      have hx : its[i]? = some its[i] := List.getElem?_eq_getElem hlt
      rw [← hi] at hf hj
      obtain ⟨c, hc⟩ : ∃ c, ts[i]? = some c := ⟨ts[i]'(by omega), List.getElem?_eq_getElem (by omega)⟩
      have hcm := List.mem_of_getElem? hc
      have hfc : PT.Fl m (m / 2) c.pt := fl.2.2.2 _ (List.mem_map.2 ⟨c, hcm, rfl⟩)
      have hd := hstep i hlt c hc
      have hs := hsplit i (by omega) c hc
      have hsl := congrArg List.length hs
      rw [hd] at hsl
      simp only [List.length_append, List.length_cons] at hsl
      have et : (D i).reverse = ((D (i + 1)).reverse ++ [its[i]]) ++ c.pt.items.reverse := by rw [hd]; simp
      have ers : (PT.items (h := k + 1) (its, ts.map GT.pt)).reverse = ((D (i + 1)).reverse ++ [its[i]]) ++ (c.pt.items.reverse ++ (lz (its.take i) ((ts.take i).map fun t => t.pt.items)).reverse) := by rw [hs, List.reverse_append, et]; simp
      have hfl := feed_len (cont := cont) (D (i + 1)).reverse p
      rw [List.length_reverse] at hfl
      have ef1 : feed cont p ((D (i + 1)).reverse ++ [its[i]]) = ((feed cont p (D (i + 1)).reverse).1 ++ [its[i]], cont ((feed cont p (D (i + 1)).reverse).1 ++ [its[i]])) := by rw [feed_step hf, feed_one]
      rw [ei]
      unfold Map_si_nodeReverse.j5
      refine r_nil ?_
      refine r_fld ?_
      refine s.r_lz0 z1 (j := 2) rfl ?_
      refine w.idx (n := i) rfl hlt ?_
      refine r_fld ?_
      refine s.r_load1FZ encl (r := 1) z2 hx rfl ?_
      refine r_nil ?_
      refine r_fld ?_
      refine s.r_lz0 z1 (j := 2) rfl ?_
      refine w.idx (n := i) rfl hlt ?_
      refine r_fld ?_
      refine s.r_load1FZ encl (r := 0) z2 hx rfl ?_
      refine cb _ its[i] h _ (by omega) hj fun h' hj' => ?_
      refine r_not ?_
      refine r_if (fun hb => ?_) (fun hb => ?_)
      · have hb : cont ((feed cont p (D (i + 1)).reverse).1 ++ [its[i]]) = false := by simpa using hb
        have ea : feed cont p (PT.items (h := k + 1) (its, ts.map GT.pt)).reverse = ((feed cont p (D (i + 1)).reverse).1 ++ [its[i]], false) := by
          rw [ers, feed_stop (by rw [ef1]; exact hb), ef1]
        have := H h' (by rw [ea]; exact hj')
        rw [ea] at this; exact this
      · have hb : cont ((feed cont p (D (i + 1)).reverse).1 ++ [its[i]]) = true := by simpa using hb
        rw [hb] at ef1
        have hf1 : (feed cont p ((D (i + 1)).reverse ++ [its[i]])).2 = true := by rw [ef1]
        have hj1 : J (feed cont p ((D (i + 1)).reverse ++ [its[i]])).1 h' := by rw [ef1]; exact hj'
        have hfl2 := feed_len (cont := cont) ((D (i + 1)).reverse ++ [its[i]]) p
        rw [List.length_append, List.length_reverse, List.length_singleton] at hfl2
        obtain ⟨E, s⟩ := hJ _ h' hj'
        unfold Map_si_nodeReverse.j7
        refine r_nil ?_
        refine r_fld ?_
        refine s.r_lz0 z1 (j := 3) rfl ?_
        refine r_nil ?_
        refine s.r_lz0 z3 (j := 0) rfl ?_
        refine wK.idx (n := i) rfl (by omega) ?_
        refine nodeReverse_ok hm hJ cb c (g.kid hcm) hfc (z5 c hcm) (fun r hr => hzb r (List.mem_append.2 (.inr (List.mem_flatMap.2 ⟨c, hcm, hr⟩)))) (fun E h s => kidcell z4 hc s) (by omega) hj1 fun h2 hj2 => ?_
        have ef2 : feed cont p (D i).reverse = feed cont (feed cont p ((D (i + 1)).reverse ++ [its[i]])).1 c.pt.items.reverse := by rw [et, feed_step hf1]
        rw [← ef2] at hj2 ⊢
        refine r_not ?_
        refine r_if (fun hr => ?_) (fun hr => ?_)
        · have hr : (feed cont p (D i).reverse).2 = false := by simpa using hr
          have ea : feed cont p (PT.items (h := k + 1) (its, ts.map GT.pt)).reverse = ((feed cont p (D i).reverse).1, false) := by
            rw [hs, List.reverse_append, feed_stop hr]
          have := H h2 (by rw [ea]; exact hj2)
          rw [ea] at this; exact this
        · have hr : (feed cont p (D i).reverse).2 = true := by simpa using hr
          unfold Map_si_nodeReverse.j6
          refine r_sub (z := (its.length : Int) - 1 - (j + 1 : Nat)) (by rw [i64w (by omega) (by omega)]; omega) ?_
          exact HK h2 (by omega) ⟨by rw [hi2]; exact hr, by rw [hi2]; exact hj2⟩
    · have hge : j = its.length := by have : ¬ (0 : Int) ≤ (its.length : Int) - 1 - (j : Nat) := by simpa using hge
                                      omega
      subst hge
      obtain ⟨c, hc⟩ : ∃ c, ts[0]? = some c := ⟨ts[0]'(by omega), List.getElem?_eq_getElem (by omega)⟩
      have hs := hsplit 0 (Nat.zero_le _) c hc
      have hs : PT.items (h := k + 1) (its, ts.map GT.pt) = D 0 := by rw [hs]; rfl
      rw [Nat.sub_self, ← hs] at hf hj
      unfold Map_si_nodeReverse.j3
      have := H h hj
      rw [hf] at this; exact this
end Go.Proofs.Ytdpkpcmoabfofaa.Si
end
section
namespace Go.Proofs.Ytdpkpcmoabfofaa.Si
open Go.Hp Go.Proofs.Ytdpkpcmoabfofaa
set_option linter.unusedVariables false
set_option linter.unusedSimpArgs false
variable {h0 h : Heap} {Z E : List Rg} {Q : Value → Heap → Prop}

theorem flt {x : It} {A B : List It} (hA : ∀ a ∈ A, lt x a = false) (hB : ∀ b ∈ B, lt x b = true) : (A ++ B).filter (fun y => !lt x y) = A := by
  rw [List.filter_append, List.filter_eq_self.2 (fun a ha => by rw [hA a ha]; rfl), List.filter_eq_nil_iff.2 (fun b hb => by rw [hB b hb]; simp), List.append_nil]
theorem allGt {x : It} {l : List It} (ha : Asc lt l) (hh : ∀ y, l.head? = some y → lt x y = true) : ∀ y ∈ l, lt x y = true := by
  cases l with
  | nil => intro y hy; cases hy
  | cons z l =>
    intro y hy
    have hz := hh z rfl
    rcases List.mem_cons.1 hy with e | hy
    · rw [e]; exact hz
    · exact swo.tr1 hz (swo.asym ((List.pairwise_cons.1 ha).1 y hy))

theorem nodeDescend_ok {cont : List It → Bool} {f tr : Value} {J : List It → Heap → Prop} {iso : Int} {m N : Nat} {x : It} (hm : m ≤ 1024) (hJ : ∀ p h, J p h → ∃ E, St h0 Z E h)
    (cb : ∀ (p : List It) (x : It) (h : Heap) (K : Value → Heap → Prop), p.length < N → J p h → (∀ h', J (p ++ [x]) h' → K (.bool (cont (p ++ [x]))) h') → callV Try.prog f #[kv x.1, vv x.2] h K) :
    ∀ {k : Nat} (t : GT It k) {lo : Nat} (g : Gd iso t) (fl : t.pt.Fl m lo) (ha : Asc lt t.pt.items) (hz : ∀ r ∈ t.all enc, r ∈ Z) (hzb : ∀ r ∈ t.all enc, r.2.2 ≠ [] → h0.size ≤ r.1) {pb po : Nat} (hp : ∀ E h, St h0 Z E h → cl h pb po = some (ptr t.id 0)) {p : List It} {h : Heap} {Q : Value → Heap → Prop}, p.length + t.pt.items.length ≤ N → J p h →
      (∀ h', J (feed cont p (t.pt.items.filter fun y => !lt x y).reverse).1 h' → Q (.bool (feed cont p (t.pt.items.filter fun y => !lt x y).reverse).2) h') → Map_si_nodeDescend.call #[tr, ptr pb po, kv x.1, f, .bool false] h Q
  | 0, (d : Nd It), lo, g, fl, ha, hz, hzb, pb, po, hp, p, h, Q, hN, hj, H => by
    obtain ⟨own, n, is', cnt, its, iv, ib, io, isp, kb, kv', krb, kro, ksp⟩ := d
    obtain ⟨z1, z2⟩ := allZ_leaf hz
    have w : Own 2 iv its.length ib io (its.flatMap enc) isp := g.wf.1
    have hl : its.length ≤ m := fl.2
    have ha : Asc lt its := ha
    have hN : p.length + its.length ≤ N := hN
    have hp : ∀ E h, St h0 Z E h → cl h pb po = some (ptr n 0) := hp
    have H : ∀ h', J (feed cont p (its.filter fun y => !lt x y).reverse).1 h' → Q (.bool (feed cont p (its.filter fun y => !lt x y).reverse).2) h' := H
    have hpl := pos_le (lt := lt) its x
    refine Map_si_nodeDescend.body _ _ _ _ _ _ _ ?_
    unfold Map_si_nodeDescend.sh
    obtain ⟨E, s⟩ := hJ p h hj
    refine isoLoad_ro (hp E h s) ?_
    refine search_ok (x := x) ha (by omega) (s.clz z1 2 rfl rfl) (w.rdlZ s z2) ?_
    refine r_ext rfl ?_
    refine r_ext rfl ?_
    refine r_not ?_
    have main : ∀ (M : Nat) (q : List It) (h : Heap), M ≤ its.length → q.length + (its.take M).length ≤ N → J q h → (∀ h', J (feed cont q (its.take M).reverse).1 h' → Q (.bool (feed cont q (its.take M).reverse).2) h') → Map_si_nodeDescend.j1 tr f (.bool false) (ptr n 0) (.int .i64 ((M : Int) - 1)) h Q := by
      intro M q h hM hqN hj H
      unfold Map_si_nodeDescend.j1
      rw [show (M : Int) - 1 = (M : Int) - 1 - (0 : Nat) by omega]
      refine loop_up (n := M) (fun j => [.int .i64 ((M : Int) - 1 - (j : Nat))]) (fun j h => ∃ d, d ++ (its.take (M - j)).reverse = (its.take M).reverse ∧ (feed cont q d).2 = true ∧ J (feed cont q d).1 h) ⟨[], rfl, rfl, hj⟩ ?_
      rintro j h hjl ⟨d, hd, hf, hj⟩ K HK
      obtain ⟨E, s⟩ := hJ _ h hj
      unfold Map_si_nodeDescend.l3.b
      refine r_cmpI ?_
      refine r_if (fun hlt => ?_) (fun hge => ?_)
      · have hlt : j < M := by have : (0 : Int) ≤ (M : Int) - 1 - (j : Nat) := by simpa using hlt
                               omega
        obtain ⟨i, hi⟩ : ∃ i, i + 1 = M - j := ⟨M - j - 1, by omega⟩
        have hi2 : M - (j + 1) = i := by omega
        have hlt : i < its.length := by omega
        have ei : (M : Int) - 1 - (j : Nat) = ((i : Nat) : Int) := by omega
        have hx : its[i]? = some its[i] := List.getElem?_eq_getElem hlt
        rw [← hi] at hd
        have et : (its.take (i + 1)).reverse = its[i] :: (its.take i).reverse := by rw [List.take_succ_eq_append_getElem hlt]; simp
        rw [et] at hd
        have hdl := congrArg List.length hd
        simp only [List.length_append, List.length_reverse, List.length_cons] at hdl
        have hfl := feed_len (cont := cont) d q
        have hfl2 := feed_len (cont := cont) (d ++ [its[i]]) q
        rw [List.length_append, List.length_singleton] at hfl2
        have ef1 : feed cont q (d ++ [its[i]]) = ((feed cont q d).1 ++ [its[i]], cont ((feed cont q d).1 ++ [its[i]])) := by rw [feed_step hf, feed_one]
        rw [ei]
        unfold Map_si_nodeDescend.j4
        refine r_nil ?_
        refine r_fld ?_
        refine s.r_lz0 z1 (j := 2) rfl ?_
        refine w.idx (n := i) rfl hlt ?_
        refine r_fld ?_
        refine s.r_load1FZ encl (r := 1) z2 hx rfl ?_
        refine r_nil ?_
        refine r_fld ?_
        refine s.r_lz0 z1 (j := 2) rfl ?_
        refine w.idx (n := i) rfl hlt ?_
        refine r_fld ?_
        refine s.r_load1FZ encl (r := 0) z2 hx rfl ?_
        refine cb _ its[i] h _ (by omega) hj fun h' hj' => ?_
        refine r_not ?_
        refine r_if (fun hb => ?_) (fun hb => ?_)
        · have hb : cont ((feed cont q d).1 ++ [its[i]]) = false := by simpa using hb
          have ea : feed cont q (its.take M).reverse = ((feed cont q d).1 ++ [its[i]], false) := by
            rw [← hd, show ∀ r : List It, d ++ its[i] :: r = (d ++ [its[i]]) ++ r from fun r => by simp, feed_stop (by rw [ef1]; exact hb), ef1]
          have := H h' (by rw [ea]; exact hj')
          rw [ea] at this; exact this
        · have hb : cont ((feed cont q d).1 ++ [its[i]]) = true := by simpa using hb
          rw [hb] at ef1
          have hf1 : (feed cont q (d ++ [its[i]])).2 = true := by rw [ef1]
          have hj1 : J (feed cont q (d ++ [its[i]])).1 h' := by rw [ef1]; exact hj'
          obtain ⟨E, s⟩ := hJ _ h' hj'
          unfold Map_si_nodeDescend.j6
          refine leaf_ok (a := none) (s.clz z1 3 rfl rfl) ?_
          refine r_not ?_
          refine r_if (fun e => absurd e (by simp)) (fun _ => ?_)
          unfold Map_si_nodeDescend.j5
          refine r_sub (z := (M : Int) - 1 - (j + 1 : Nat)) (by rw [i64w (by omega) (by omega)]; omega) ?_
          exact HK h' (by omega) ⟨d ++ [its[i]], by rw [hi2, ← hd]; simp, hf1, hj1⟩
      · have hge : j = M := by have : ¬ (0 : Int) ≤ (M : Int) - 1 - (j : Nat) := by simpa using hge
                               omega
        subst hge
        have e0 : d = (its.take j).reverse := by rw [← hd, Nat.sub_self]; simp [lz]
        subst e0
        unfold Map_si_nodeDescend.j2
        have := H h hj
        rw [hf] at this; exact this
    refine r_if (fun hnf => ?_) (fun hfd => ?_)
    · have hn : lget lt its x = none := by cases e : lget lt its x with
        | none => rfl
        | some y => rw [e] at hnf; simp at hnf
      have hfe : (its.filter fun y => !lt x y) = its.take (pos lt its x) := by
        have e0 : its = its.take (pos lt its x) ++ its.drop (pos lt its x) := (List.take_append_drop _ _).symm
        conv => lhs; rw [e0]
        exact flt (fun a h => swo.asym ((asc_pos (x := x) swo ha).1 a h)) (allGt (ha.sublist (List.drop_sublist ..)) (lget_none_head hn))
      rw [hfe] at H
      refine leaf_ok (a := none) (s.clz z1 3 rfl rfl) ?_
      refine r_not ?_
      refine r_if (fun e => absurd e (by simp)) (fun _ => ?_)
      unfold Map_si_nodeDescend.j7
      refine r_sub (z := ((pos lt its x : Nat) : Int) - 1) (by rw [i64w (by omega) (by omega)]) ?_
      exact main _ p h hpl (by rw [List.length_take]; omega) hj H
    · obtain ⟨y, hy⟩ : ∃ y, lget lt its x = some y := by
        cases e : lget lt its x with
        | some y => exact ⟨y, rfl⟩
        | none => rw [e] at hfd; simp at hfd
      obtain ⟨hpp, hyy, h3, h4⟩ := lget_some hy
      have hfe : (its.filter fun y => !lt x y) = its.take (pos lt its x + 1) := by
        have e0 : its = its.take (pos lt its x + 1) ++ its.drop (pos lt its x + 1) := (List.take_append_drop _ _).symm
        have ha2 := ha
        rw [e0] at ha2
        have et : its.take (pos lt its x + 1) = its.take (pos lt its x) ++ [y] := by rw [List.take_succ_eq_append_getElem hpp, hyy]
        conv => lhs; rw [e0]
        refine flt (fun a h => ?_) (fun b h => ?_)
        · rw [et] at h
          rcases List.mem_append.1 h with h | h
          · exact swo.asym ((asc_pos (x := x) swo ha).1 a h)
          · rw [List.mem_singleton.1 h]; exact h4
        · exact swo.tr2 h3 ((asc_app ha2).2.2 y (by rw [et]; simp) b h)
      rw [hfe] at H
      have := main (pos lt its x + 1) p h (by omega) (by rw [List.length_take]; omega) hj H
      rw [show ((pos lt its x + 1 : Nat) : Int) - 1 = ((pos lt its x : Nat) : Int) by omega] at this
      exact this
  | k + 1, t, lo, g, fl, ha, hz, hzb, pb, po, hp, p, h, Q, hN, hj, H => by
    obtain ⟨d, ts⟩ := t
    obtain ⟨own, n, is', cnt, its, iv, ib, io, isp, kb, kv', krb, kro, ksp⟩ := d
    obtain ⟨z1, z2, z3, z4, z5⟩ := allZ_inner hz
    have w : Own 2 iv its.length ib io (its.flatMap enc) isp := g.wf.1.1
    have wK : Own 1 kv' ts.length krb kro ((ts.map GT.id).map fun m => ptr m 0) ksp := g.wf.2.1
    have hkl : ts.length = its.length + 1 := g.wf.2.2.1
    have hl : its.length ≤ m := fl.2.1
    have hp : ∀ E h, St h0 Z E h → cl h pb po = some (ptr n 0) := hp
    have ha : Asc lt (PT.items (h := k + 1) (its, ts.map GT.pt)) := ha
    have hN : p.length + (PT.items (h := k + 1) (its, ts.map GT.pt)).length ≤ N := hN
    have H : ∀ h', J (feed cont p ((PT.items (h := k + 1) (its, ts.map GT.pt)).filter fun y => !lt x y).reverse).1 h' → Q (.bool (feed cont p ((PT.items (h := k + 1) (its, ts.map GT.pt)).filter fun y => !lt x y).reverse).2) h' := H
    have hpl := pos_le (lt := lt) its x
    have ha1 : Asc lt its := asc_of_sub ha (PT.its_sub1 ((its, ts.map GT.pt) : PT It (k + 1)))
    obtain ⟨c, hc⟩ : ∃ c, ts[pos lt its x]? = some c := ⟨ts[pos lt its x]'(by omega), List.getElem?_eq_getElem (by omega)⟩
    have hcm := List.mem_of_getElem? hc
    have hfc : PT.Fl m (m / 2) c.pt := fl.2.2.2 _ (List.mem_map.2 ⟨c, hcm, rfl⟩)
    have hcp : (ts.map GT.pt)[pos lt its x]? = some c.pt := by rw [List.getElem?_map, hc]; rfl
    obtain ⟨c0, hc0, _, eit⟩ := PT.around (t := ((its, ts.map GT.pt) : PT It (k + 1))) fl hpl
    have : c0 = c.pt := Option.some.inj (hc0.symm.trans hcp)
    subst this
    have eit : PT.items (h := k + 1) (its, ts.map GT.pt) = lz (its.take (pos lt its x)) (((ts.map GT.pt).take (pos lt its x)).map PT.items) ++ (c.pt.items ++ rz (its.drop (pos lt its x)) (((ts.map GT.pt).drop (pos lt its x + 1)).map PT.items)) := eit
    have hb : ∀ y ∈ lz (its.take (pos lt its x)) (((ts.map GT.pt).take (pos lt its x)).map PT.items), lt y x = true := by
      have ha2 := ha
      rw [eit] at ha2
      exact lz_before swo (by simp; omega) ha2 (fun y hy => (asc_pos (x := x) swo ha1).1 y hy)
    have hac : Asc lt c.pt.items := by rw [eit] at ha; exact (asc_app (asc_app ha).2.1).1
    generalize hB : rz (its.drop (pos lt its x)) (((ts.map GT.pt).drop (pos lt its x + 1)).map PT.items) = B at eit
    have hsl := congrArg List.length eit
    simp only [List.length_append] at hsl
    refine Map_si_nodeDescend.body _ _ _ _ _ _ _ ?_
    unfold Map_si_nodeDescend.sh
    obtain ⟨E, s⟩ := hJ p h hj
    refine isoLoad_ro (hp E h s) ?_
    refine search_ok (x := x) ha1 (by omega) (s.clz z1 2 rfl rfl) (w.rdlZ s z2) ?_
    refine r_ext rfl ?_
    refine r_ext rfl ?_
    refine r_not ?_
    have main : ∀ (M : Nat) (q : List It) (h : Heap), M ≤ its.length → q.length + (lz (its.take M) ((ts.take M).map fun t => t.pt.items)).length ≤ N → J q h → (∀ h', J (feed cont q (lz (its.take M) ((ts.take M).map fun t => t.pt.items)).reverse).1 h' → Q (.bool (feed cont q (lz (its.take M) ((ts.take M).map fun t => t.pt.items)).reverse).2) h') → Map_si_nodeDescend.j1 tr f (.bool false) (ptr n 0) (.int .i64 ((M : Int) - 1)) h Q := by
      intro M q h hM hqN hj H
      unfold Map_si_nodeDescend.j1
      rw [show (M : Int) - 1 = (M : Int) - 1 - (0 : Nat) by omega]
      refine loop_up (n := M) (fun j => [.int .i64 ((M : Int) - 1 - (j : Nat))]) (fun j h => ∃ d, d ++ (lz (its.take (M - j)) ((ts.take (M - j)).map fun t => t.pt.items)).reverse = (lz (its.take M) ((ts.take M).map fun t => t.pt.items)).reverse ∧ (feed cont q d).2 = true ∧ J (feed cont q d).1 h) ⟨[], rfl, rfl, hj⟩ ?_
      rintro j h hjl ⟨d, hd, hf, hj⟩ K HK
      obtain ⟨E, s⟩ := hJ _ h hj
      unfold Map_si_nodeDescend.l3.b
      refine r_cmpI ?_
      refine r_if (fun hlt => ?_) (fun hge => ?_)
      · have hlt : j < M := by have : (0 : Int) ≤ (M : Int) - 1 - (j : Nat) := by simpa using hlt
                               omega
        obtain ⟨i, hi⟩ : ∃ i, i + 1 = M - j := ⟨M - j - 1, by omega⟩
        have hi2 : M - (j + 1) = i := by omega
        have hlt : i < its.length := by omega
        have ei : (M : Int) - 1 - (j : Nat) = ((i : Nat) : Int) := by omega
        have hx : its[i]? = some its[i] := List.getElem?_eq_getElem hlt
        rw [← hi] at hd
        obtain ⟨c, hc⟩ : ∃ c, ts[i]? = some c := ⟨ts[i]'(by omega), List.getElem?_eq_getElem (by omega)⟩
        have hcm := List.mem_of_getElem? hc
        have hfc : PT.Fl m (m / 2) c.pt := fl.2.2.2 _ (List.mem_map.2 ⟨c, hcm, rfl⟩)
        have et : (lz (its.take (i + 1)) ((ts.take (i + 1)).map fun t => t.pt.items)).reverse = its[i] :: (c.pt.items.reverse ++ (lz (its.take i) ((ts.take i).map fun t => t.pt.items)).reverse) := by
          have e1 : its.take (i + 1) = its.take i ++ [its[i]] := List.take_succ_eq_append_getElem hlt
          have e2 : ts.take (i + 1) = ts.take i ++ [c] := by rw [List.take_add_one, hc]; rfl
          rw [e1, e2, List.map_append, List.map_cons, List.map_nil, lz_snoc _ _ _ _ (by simp; omega)]; simp
        rw [et] at hd
        have hdl := congrArg List.length hd
        simp only [List.length_append, List.length_reverse, List.length_cons] at hdl
        have hfl := feed_len (cont := cont) d q
        have hfl2 := feed_len (cont := cont) (d ++ [its[i]]) q
        rw [List.length_append, List.length_singleton] at hfl2
        have ef1 : feed cont q (d ++ [its[i]]) = ((feed cont q d).1 ++ [its[i]], cont ((feed cont q d).1 ++ [its[i]])) := by rw [feed_step hf, feed_one]
        rw [ei]
        unfold Map_si_nodeDescend.j4
        refine r_nil ?_
        refine r_fld ?_
        refine s.r_lz0 z1 (j := 2) rfl ?_
        refine w.idx (n := i) rfl hlt ?_
        refine r_fld ?_
        refine s.r_load1FZ encl (r := 1) z2 hx rfl ?_
        refine r_nil ?_
        refine r_fld ?_
        refine s.r_lz0 z1 (j := 2) rfl ?_
        refine w.idx (n := i) rfl hlt ?_
        refine r_fld ?_
        refine s.r_load1FZ encl (r := 0) z2 hx rfl ?_
        refine cb _ its[i] h _ (by omega) hj fun h' hj' => ?_
        refine r_not ?_
        refine r_if (fun hb => ?_) (fun hb => ?_)
        · have hb : cont ((feed cont q d).1 ++ [its[i]]) = false := by simpa using hb
          have ea : feed cont q (lz (its.take M) ((ts.take M).map fun t => t.pt.items)).reverse = ((feed cont q d).1 ++ [its[i]], false) := by
            rw [← hd, show ∀ r : List It, d ++ its[i] :: r = (d ++ [its[i]]) ++ r from fun r => by simp, feed_stop (by rw [ef1]; exact hb), ef1]
          have := H h' (by rw [ea]; exact hj')
          rw [ea] at this; exact this
        · have hb : cont ((feed cont q d).1 ++ [its[i]]) = true := by simpa using hb
          rw [hb] at ef1
          have hf1 : (feed cont q (d ++ [its[i]])).2 = true := by rw [ef1]
          have hj1 : J (feed cont q (d ++ [its[i]])).1 h' := by rw [ef1]; exact hj'
          obtain ⟨E, s⟩ := hJ _ h' hj'
          unfold Map_si_nodeDescend.j6
          refine leaf_ok (a := some ⟨kb, 0, Option.none⟩) (s.clz z1 3 rfl rfl) ?_
          refine r_not ?_
          refine r_if (fun _ => ?_) (fun e => absurd e (by simp))
          refine r_nil ?_
          refine r_fld ?_
          refine s.r_lz0 z1 (j := 3) rfl ?_
          refine r_nil ?_
          refine s.r_lz0 z3 (j := 0) rfl ?_
          refine wK.idx (n := i) rfl (by omega) ?_
          have hcl : c.pt.items.reverse.length = c.pt.items.length := List.length_reverse
          refine nodeReverse_ok hm hJ cb c (g.kid hcm) hfc (z5 c hcm) (fun r hr => hzb r (List.mem_append.2 (.inr (List.mem_flatMap.2 ⟨c, hcm, hr⟩)))) (fun E h s => kidcell z4 hc s) (by omega) hj1 fun h2 hj2 => ?_
          have ef2 : feed cont q ((d ++ [its[i]]) ++ c.pt.items.reverse) = feed cont (feed cont q (d ++ [its[i]])).1 c.pt.items.reverse := feed_step hf1
          rw [← ef2] at hj2 ⊢
          have hd2 : ((d ++ [its[i]]) ++ c.pt.items.reverse) ++ (lz (its.take i) ((ts.take i).map fun t => t.pt.items)).reverse = (lz (its.take M) ((ts.take M).map fun t => t.pt.items)).reverse := by rw [← hd]; simp
          refine r_not ?_
          refine r_if (fun hr => ?_) (fun hr => ?_)
          · have hr : (feed cont q ((d ++ [its[i]]) ++ c.pt.items.reverse)).2 = false := by simpa using hr
            have ea : feed cont q (lz (its.take M) ((ts.take M).map fun t => t.pt.items)).reverse = ((feed cont q ((d ++ [its[i]]) ++ c.pt.items.reverse)).1, false) := by
              rw [← hd2, feed_stop hr]
            have := H h2 (by rw [ea]; exact hj2)
            rw [ea] at this; exact this
          · have hr : (feed cont q ((d ++ [its[i]]) ++ c.pt.items.reverse)).2 = true := by simpa using hr
            unfold Map_si_nodeDescend.j5
            refine r_sub (z := (M : Int) - 1 - (j + 1 : Nat)) (by rw [i64w (by omega) (by omega)]; omega) ?_
            exact HK h2 (by omega) ⟨_, by rw [hi2]; exact hd2, hr, hj2⟩
      · have hge : j = M := by have : ¬ (0 : Int) ≤ (M : Int) - 1 - (j : Nat) := by simpa using hge
                               omega
        subst hge
        have e0 : d = (lz (its.take j) ((ts.take j).map fun t => t.pt.items)).reverse := by rw [← hd, Nat.sub_self]; simp [lz]
        subst e0
        unfold Map_si_nodeDescend.j2
        have := H h hj
        rw [hf] at this; exact this
    have hB2 : Asc lt B := by rw [eit] at ha; exact (asc_app (asc_app ha).2.1).2.1
    have hpl2 : lz (its.take (pos lt its x)) (((ts.map GT.pt).take (pos lt its x)).map PT.items) = (lz (its.take (pos lt its x)) ((ts.take (pos lt its x)).map fun t => t.pt.items)) := by rw [← List.map_take, List.map_map]; rfl
    rw [hpl2] at eit hb hsl
    refine r_if (fun hnf => ?_) (fun hfd => ?_)
    · have hn : lget lt its x = none := by cases e : lget lt its x with
        | none => rfl
        | some y => rw [e] at hnf; simp at hnf
      have hhd : ∀ y, B.head? = some y → lt x y = true := by
        rw [← hB, rz_head (by simp; omega)]; exact lget_none_head hn
      have hfe : ((PT.items (h := k + 1) (its, ts.map GT.pt)).filter fun y => !lt x y).reverse = (c.pt.items.filter fun y => !lt x y).reverse ++ (lz (its.take (pos lt its x)) ((ts.take (pos lt its x)).map fun t => t.pt.items)).reverse := by
        rw [eit, List.filter_append, List.filter_append, List.filter_eq_self.2 (fun a h => by rw [swo.asym (hb a h)]; rfl), show (B.filter fun y => !lt x y) = [] from List.filter_eq_nil_iff.2 (fun b h => by rw [allGt hB2 hhd b h]; simp), List.append_nil, List.reverse_append]
      rw [hfe] at H
      refine leaf_ok (a := some ⟨kb, 0, Option.none⟩) (s.clz z1 3 rfl rfl) ?_
      refine r_not ?_
      refine r_if (fun _ => ?_) (fun e => absurd e (by simp))
      refine r_nil ?_
      refine r_fld ?_
      refine s.r_lz0 z1 (j := 3) rfl ?_
      refine r_nil ?_
      refine s.r_lz0 z3 (j := 0) rfl ?_
      refine wK.idx (n := pos lt its x) rfl (by omega) ?_
      refine nodeDescend_ok hm hJ cb c (g.kid hcm) hfc hac (z5 c hcm) (fun r hr => hzb r (List.mem_append.2 (.inr (List.mem_flatMap.2 ⟨c, hcm, hr⟩)))) (fun E h s => kidcell z4 hc s) (by omega) hj fun h' hj' => ?_
      have hfl := feed_len (cont := cont) (c.pt.items.filter fun y => !lt x y).reverse p
      have hfl2 := List.length_filter_le (fun y => !lt x y) c.pt.items
      rw [List.length_reverse] at hfl
      refine r_not ?_
      refine r_if (fun hr => ?_) (fun hr => ?_)
      · have hr : (feed cont p (c.pt.items.filter fun y => !lt x y).reverse).2 = false := by simpa using hr
        have ea := feed_stop (b := (lz (its.take (pos lt its x)) ((ts.take (pos lt its x)).map fun t => t.pt.items)).reverse) hr
        have := H h' (by rw [ea]; exact hj')
        rw [ea] at this; exact this
      · have hr : (feed cont p (c.pt.items.filter fun y => !lt x y).reverse).2 = true := by simpa using hr
        unfold Map_si_nodeDescend.j7
        refine r_sub (z := ((pos lt its x : Nat) : Int) - 1) (by rw [i64w (by omega) (by omega)]) ?_
        refine main _ _ h' hpl (by omega) hj' fun h2 hj2 => ?_
        have ea := feed_step (b := (lz (its.take (pos lt its x)) ((ts.take (pos lt its x)).map fun t => t.pt.items)).reverse) hr
        have := H h2 (by rw [ea]; exact hj2)
        rw [ea] at this; exact this
    · obtain ⟨y, hy⟩ : ∃ y, lget lt its x = some y := by
        cases e : lget lt its x with
        | some y => exact ⟨y, rfl⟩
        | none => rw [e] at hfd; simp at hfd
      obtain ⟨hpp, hyy, h3, h4⟩ := lget_some hy
      obtain ⟨rest, hrest⟩ : ∃ rest, B = y :: rest := by
        have e1 : its.drop (pos lt its x) = y :: its.drop (pos lt its x + 1) := by rw [← hyy]; exact List.drop_eq_getElem_cons hpp
        have e2 : (ts.map GT.pt).drop (pos lt its x + 1) = (ts.map GT.pt)[pos lt its x + 1]'(by simp; omega) :: (ts.map GT.pt).drop (pos lt its x + 1 + 1) := List.drop_eq_getElem_cons (by simp; omega)
        rw [← hB, e1, e2, List.map_cons, rz_cons]; exact ⟨_, rfl⟩
      rw [hrest] at eit hB2
      have hez : (lz (its.take (pos lt its x + 1)) ((ts.take (pos lt its x + 1)).map fun t => t.pt.items)) = (lz (its.take (pos lt its x)) ((ts.take (pos lt its x)).map fun t => t.pt.items)) ++ (c.pt.items ++ [y]) := by
        have e1 : its.take (pos lt its x + 1) = its.take (pos lt its x) ++ [y] := by rw [List.take_succ_eq_append_getElem hpp, hyy]
        have e2 : ts.take (pos lt its x + 1) = ts.take (pos lt its x) ++ [c] := by rw [List.take_add_one, hc]; rfl
        rw [e1, e2, List.map_append, List.map_cons, List.map_nil, lz_snoc _ _ _ _ (by simp; omega)]
      have hb2 : ∀ z ∈ (lz (its.take (pos lt its x)) ((ts.take (pos lt its x)).map fun t => t.pt.items)) ++ c.pt.items, lt z x = true := fun z hz => by
        have ha2 := ha
        rw [eit, ← List.append_assoc] at ha2
        exact swo.tr1 ((asc_app ha2).2.2 z hz y (by simp)) h4
      have hfe : ((PT.items (h := k + 1) (its, ts.map GT.pt)).filter fun y => !lt x y) = (lz (its.take (pos lt its x + 1)) ((ts.take (pos lt its x + 1)).map fun t => t.pt.items)) := by
        rw [eit, show ∀ r : List It, r ++ (c.pt.items ++ y :: rest) = (r ++ (c.pt.items ++ [y])) ++ rest from fun r => by simp, hez]
        refine flt (fun a h => ?_) (fun b h => swo.tr2 h3 ((List.pairwise_cons.1 hB2).1 b h))
        rw [← List.append_assoc] at h
        rcases List.mem_append.1 h with h | h
        · exact swo.asym (hb2 a h)
        · rw [List.mem_singleton.1 h]; exact h4
      rw [hfe] at H
      have hel := congrArg List.length hez
      simp only [List.length_append, List.length_singleton] at hel
      rw [hrest, List.length_cons] at hsl
      have := main (pos lt its x + 1) p h (by omega) (by omega) hj H
      rw [show ((pos lt its x + 1 : Nat) : Int) - 1 = ((pos lt its x : Nat) : Int) by omega] at this
      exact this
end Go.Proofs.Ytdpkpcmoabfofaa.Si
end
section
namespace Go.Proofs.Ytdpkpcmoabfofaa.Si
open Go.Hp Go.Proofs.Ytdpkpcmoabfofaa
set_option linter.unusedVariables false
set_option linter.unusedSimpArgs false
variable {h0 h : Heap} {Z E : List Rg} {Q : Value → Heap → Prop}

theorem Ascend_ok {cont : List It → Bool} {f : Value} {J : List It → Heap → Prop} {g : Rt} {tb m N : Nat} {iso cnt mn mx : Int} {ctr : Option Addr} {x : It} (M : MapOk m iso g) (hT : (tb, 0, hdr iso ctr (rA g) cnt mn mx) ∈ Z) (hz : ∀ r ∈ rAll g, r ∈ Z) (hzb : ∀ r ∈ rAll g, r.2.2 ≠ [] → h0.size ≤ r.1)
    (hJ : ∀ p h, J p h → ∃ E, St h0 Z E h)
    (cb : ∀ (p : List It) (x : It) (h : Heap) (K : Value → Heap → Prop), p.length < N → J p h → (∀ h', J (p ++ [x]) h' → K (.bool (cont (p ++ [x]))) h') → callV Try.prog f #[kv x.1, vv x.2] h K)
    (hN : (rPt g).items.length ≤ N) (hj : J [] h) (H : ∀ h', J (feed cont [] ((rPt g).items.drop (pos lt (rPt g).items x))).1 h' → Q (.tuple #[]) h') : Map_si_Ascend.call #[ptr tb 0, kv x.1, f] h Q := by
  refine Map_si_Ascend.body _ _ _ _ _ ?_
  unfold Map_si_Ascend.sh
  refine Map_si_ascend.body _ _ _ _ _ _ ?_
  unfold Map_si_ascend.sh
  obtain ⟨E, s⟩ := hJ [] h hj
  refine r_nil ?_
  refine r_fld ?_
  refine s.r_lz0 hT (j := 2) rfl ?_
  refine r_eqNilP ?_
  cases g with
  | none =>
    refine r_if (fun _ => ?_) (fun e => absurd e (by simp [rA]))
    exact H h hj
  | some t =>
    refine r_if (fun e => absurd e (by simp [rA])) (fun _ => ?_)
    unfold Map_si_ascend.j1
    refine r_nil ?_
    refine r_fld ?_
    refine nodeAscend_ok (x := x) M.m1 hJ cb t.2 M.gd M.fl M.asc hz hzb (fun E h s => ?_) (by rw [List.length_nil, Nat.zero_add]; exact hN) hj fun h' hj' => H h' hj'
    exact s.clz hT 2 rfl rfl
end Go.Proofs.Ytdpkpcmoabfofaa.Si
end
section
namespace Go.Proofs.Ytdpkpcmoabfofaa.Si
open Go.Hp Go.Proofs.Ytdpkpcmoabfofaa
set_option linter.unusedVariables false
set_option linter.unusedSimpArgs false
variable {h0 h : Heap} {Z E : List Rg} {Q : Value → Heap → Prop}
theorem Descend_ok {cont : List It → Bool} {f : Value} {J : List It → Heap → Prop} {g : Rt} {tb m N : Nat} {iso cnt mn mx : Int} {ctr : Option Addr} {x : It} (M : MapOk m iso g) (hT : (tb, 0, hdr iso ctr (rA g) cnt mn mx) ∈ Z) (hz : ∀ r ∈ rAll g, r ∈ Z) (hzb : ∀ r ∈ rAll g, r.2.2 ≠ [] → h0.size ≤ r.1)
    (hJ : ∀ p h, J p h → ∃ E, St h0 Z E h)
    (cb : ∀ (p : List It) (x : It) (h : Heap) (K : Value → Heap → Prop), p.length < N → J p h → (∀ h', J (p ++ [x]) h' → K (.bool (cont (p ++ [x]))) h') → callV Try.prog f #[kv x.1, vv x.2] h K)
    (hN : (rPt g).items.length ≤ N) (hj : J [] h) (H : ∀ h', J (feed cont [] (((rPt g).items.filter fun y => !lt x y).reverse)).1 h' → Q (.tuple #[]) h') : Map_si_Descend.call #[ptr tb 0, kv x.1, f] h Q := by
  refine Map_si_Descend.body _ _ _ _ _ ?_
  unfold Map_si_Descend.sh
  refine Map_si_descend.body _ _ _ _ _ _ ?_
  unfold Map_si_descend.sh
  obtain ⟨E, s⟩ := hJ [] h hj
  refine r_nil ?_
  refine r_fld ?_
  refine s.r_lz0 hT (j := 2) rfl ?_
  refine r_eqNilP ?_
  cases g with
  | none =>
    refine r_if (fun _ => ?_) (fun e => absurd e (by simp [rA]))
    exact H h hj
  | some t =>
    refine r_if (fun e => absurd e (by simp [rA])) (fun _ => ?_)
    unfold Map_si_descend.j1
    refine r_nil ?_
    refine r_fld ?_
    refine nodeDescend_ok (x := x) M.m1 hJ cb t.2 M.gd M.fl M.asc hz hzb (fun E h s => ?_) (by rw [List.length_nil, Nat.zero_add]; exact hN) hj fun h' hj' => H h' hj'
    exact s.clz hT 2 rfl rfl
/-- The same once the function that keeps what is handed on stands. -/
theorem keptA2_ok {g : Rt} {tb t2 t3 t5 t7 m : Nat} {n iso cnt mn mx : Int} {ctr : Option Addr} {x : It} (M : MapOk m iso g) (hl : (rPt g).items.length ≤ 4294967295)
    (s : St h0 Z ((t5, 0, [.func (.func 241) #[] #[ptr t2 0, ptr t3 0]]) :: (t2, 0, [ptr t7 0]) :: (t3, 0, [.int .i64 n]) :: (t7, 0, [.slice none 0 0]) :: (((tb, 0, hdr iso ctr (rA g) cnt mn mx) :: rAll g) ++ E)) h)
    (H : ∀ v b o sp h', Own 2 v (firstN ((rPt g).items.drop (pos lt (rPt g).items x)) n).length b o ((firstN ((rPt g).items.drop (pos lt (rPt g).items x)) n).flatMap encA) sp → St h0 Z ((t7, 0, [v]) :: (b, o, (firstN ((rPt g).items.drop (pos lt (rPt g).items x)) n).flatMap encA ++ sp) :: (((tb, 0, hdr iso ctr (rA g) cnt mn mx) :: rAll g) ++ E)) h' → Q (.tuple #[]) h') :
    Map_si_Ascend.call #[ptr tb 0, kv x.1, keepF t5] h Q := by
  have s0 : St h0 Z (((tb, 0, hdr iso ctr (rA g) cnt mn mx) :: rAll g) ++ ((t5, 0, [.func (.func 241) #[] #[ptr t2 0, ptr t3 0]]) :: (t2, 0, [ptr t7 0]) :: (t3, 0, [.int .i64 n]) :: (t7, 0, [.slice none 0 0]) :: (0, 0, ([] : List It).flatMap encA ++ []) :: E)) h := (s.empty 0 0).perm (by ((apply perm_rg; intro f; simp only [List.set_cons_zero, List.set_cons_succ, List.eraseIdx_cons_zero, List.eraseIdx_cons_succ, List.cons_append, List.nil_append, List.map_append, List.map_cons, List.map_nil, List.sum_append, List.sum_cons, List.sum_nil, List.map_flatMap, Nat.add_zero, Nat.zero_add]; ac_rfl)))
  obtain ⟨s1, back⟩ := s0.borrow
  refine Ascend_ok (x := x) (J := KeepJ h0 (((tb, 0, hdr iso ctr (rA g) cnt mn mx) :: rAll g) ++ Z) E t2 t3 t5 t7 n) (cont := upTo n) (N := 4294967296) M (List.mem_append.2 (.inl (List.mem_cons_self ..))) (fun r hr => List.mem_append.2 (.inl (List.mem_cons_of_mem _ hr))) (fun r hr => (s0.e r (List.mem_append.2 (.inl (List.mem_cons_of_mem _ hr)))).2)
    (fun p h hj => by obtain ⟨v, b, o, sp, w, s⟩ := hj; exact ⟨_, s⟩) (fun p x h K hp hj HK => keep_cb p x h K hp hj HK) (by omega) ⟨_, 0, 0, [], Own.nil 2 0 0, s1⟩ fun h' hj => ?_
  rw [feed_first] at hj
  obtain ⟨v, b, o, sp, w, s⟩ := hj
  have s := back _ h' s
  exact H v b o sp h' w ((s.perm (E' := (t5, 0, _) :: (t2, 0, _) :: (t3, 0, _) :: (t7, 0, [v]) :: (b, o, _) :: (((tb, 0, hdr iso ctr (rA g) cnt mn mx) :: rAll g) ++ E)) (by ((apply perm_rg; intro f; simp only [List.set_cons_zero, List.set_cons_succ, List.eraseIdx_cons_zero, List.eraseIdx_cons_succ, List.cons_append, List.nil_append, List.map_append, List.map_cons, List.map_nil, List.sum_append, List.sum_cons, List.sum_nil, List.map_flatMap, Nat.add_zero, Nat.zero_add]; ac_rfl)))).drop 3)
/-- The same once the function that keeps what is handed on stands. -/
theorem keptD2_ok {g : Rt} {tb t2 t3 t5 t7 m : Nat} {n iso cnt mn mx : Int} {ctr : Option Addr} {x : It} (M : MapOk m iso g) (hl : (rPt g).items.length ≤ 4294967295)
    (s : St h0 Z ((t5, 0, [.func (.func 241) #[] #[ptr t2 0, ptr t3 0]]) :: (t2, 0, [ptr t7 0]) :: (t3, 0, [.int .i64 n]) :: (t7, 0, [.slice none 0 0]) :: (((tb, 0, hdr iso ctr (rA g) cnt mn mx) :: rAll g) ++ E)) h)
    (H : ∀ v b o sp h', Own 2 v (firstN (((rPt g).items.filter fun y => !lt x y).reverse) n).length b o ((firstN (((rPt g).items.filter fun y => !lt x y).reverse) n).flatMap encA) sp → St h0 Z ((t7, 0, [v]) :: (b, o, (firstN (((rPt g).items.filter fun y => !lt x y).reverse) n).flatMap encA ++ sp) :: (((tb, 0, hdr iso ctr (rA g) cnt mn mx) :: rAll g) ++ E)) h' → Q (.tuple #[]) h') :
    Map_si_Descend.call #[ptr tb 0, kv x.1, keepF t5] h Q := by
  have s0 : St h0 Z (((tb, 0, hdr iso ctr (rA g) cnt mn mx) :: rAll g) ++ ((t5, 0, [.func (.func 241) #[] #[ptr t2 0, ptr t3 0]]) :: (t2, 0, [ptr t7 0]) :: (t3, 0, [.int .i64 n]) :: (t7, 0, [.slice none 0 0]) :: (0, 0, ([] : List It).flatMap encA ++ []) :: E)) h := (s.empty 0 0).perm (by ((apply perm_rg; intro f; simp only [List.set_cons_zero, List.set_cons_succ, List.eraseIdx_cons_zero, List.eraseIdx_cons_succ, List.cons_append, List.nil_append, List.map_append, List.map_cons, List.map_nil, List.sum_append, List.sum_cons, List.sum_nil, List.map_flatMap, Nat.add_zero, Nat.zero_add]; ac_rfl)))
  obtain ⟨s1, back⟩ := s0.borrow
  refine Descend_ok (x := x) (J := KeepJ h0 (((tb, 0, hdr iso ctr (rA g) cnt mn mx) :: rAll g) ++ Z) E t2 t3 t5 t7 n) (cont := upTo n) (N := 4294967296) M (List.mem_append.2 (.inl (List.mem_cons_self ..))) (fun r hr => List.mem_append.2 (.inl (List.mem_cons_of_mem _ hr))) (fun r hr => (s0.e r (List.mem_append.2 (.inl (List.mem_cons_of_mem _ hr)))).2)
    (fun p h hj => by obtain ⟨v, b, o, sp, w, s⟩ := hj; exact ⟨_, s⟩) (fun p x h K hp hj HK => keep_cb p x h K hp hj HK) (by omega) ⟨_, 0, 0, [], Own.nil 2 0 0, s1⟩ fun h' hj => ?_
  rw [feed_first] at hj
  obtain ⟨v, b, o, sp, w, s⟩ := hj
  have s := back _ h' s
  exact H v b o sp h' w ((s.perm (E' := (t5, 0, _) :: (t2, 0, _) :: (t3, 0, _) :: (t7, 0, [v]) :: (b, o, _) :: (((tb, 0, hdr iso ctr (rA g) cnt mn mx) :: rAll g) ++ E)) (by ((apply perm_rg; intro f; simp only [List.set_cons_zero, List.set_cons_succ, List.eraseIdx_cons_zero, List.eraseIdx_cons_succ, List.cons_append, List.nil_append, List.map_append, List.map_cons, List.map_nil, List.sum_append, List.sum_cons, List.sum_nil, List.map_flatMap, Nat.add_zero, Nat.zero_add]; ac_rfl)))).drop 3)
end Go.Proofs.Ytdpkpcmoabfofaa.Si
end
section
namespace Go.Proofs.Ytdpkpcmoabfofaa.Si
open Go.Hp Go.Proofs.Ytdpkpcmoabfofaa
set_option linter.unusedVariables false
set_option linter.unusedSimpArgs false
variable {h0 h : Heap} {Z E : List Rg} {Q : Value → Heap → Prop}

theorem lget_eq (l : List It) (x : It) (hi : pos lt l x < l.length) : (lget lt l x).isSome = (l[pos lt l x].1.toList == x.1.toList) := by
  have h1 := pos_at (lt := lt) (l := l) (x := x) hi
  unfold lget
  rw [List.getElem?_eq_getElem hi, Option.bind_some]
  cases h2 : lt x l[pos lt l x] with
  | true =>
    simp only [if_true, Option.isSome_none]
    cases h3 : l[pos lt l x].1.toList == x.1.toList with
    | false => rfl
    | true =>
      have h3 := eq_of_beq h3
      have h2 : Op.bytesLess x.1.toList l[pos lt l x].1.toList = true := h2
      rw [h3, bytesLess_irr] at h2; cases h2
  | false =>
    simp only [Bool.false_eq_true, if_false, Option.isSome_some]
    have := bytesLess_tri _ _ h1 h2
    rw [this]; simp
theorem spot_ok {l : List It} {v : Value} {x : It} (hr : Rdl 2 h v l.length (l.flatMap encA)) (hl : l.length ≤ 4611686018427387903) (H : Q (.tuple #[.int .i64 (pos lt l x), .bool (lget lt l x).isSome]) h) : s_spot.call #[v, kv x.1] h Q := by
  refine s_spot.body _ _ _ _ ?_
  unfold s_spot.sh
  have fin : ∀ i : Nat, i = pos lt l x → s_spot.j1 v (kv x.1) (.int .i64 i) h Q := by
    rintro i rfl
    unfold s_spot.j1
    refine hr.lenV ?_
    refine r_cmpI ?_
    refine r_br (fun hlt => ?_) (fun hge => ?_)
    · have hlt : pos lt l x < l.length := by simpa using hlt
      refine hr.at (n := pos lt l x) rfl encAl rfl rfl hlt fun b o hb => ?_
      refine r_fld ?_
      refine hb.load (j := 0) rfl ?_
      refine r_cmpS ?_
      rw [← lget_eq l x hlt]; exact H
    · have hge : l.length ≤ pos lt l x := by simpa using hge
      have e : lget lt l x = none := by unfold lget; rw [List.getElem?_eq_none hge]; rfl
      rw [e] at H; exact H
  refine loop_up (n := l.length) (fun i => [.int .i64 i]) (fun i h' => h' = h ∧ i ≤ pos lt l x) ⟨rfl, Nat.zero_le _⟩ ?_
  rintro i _ hil ⟨rfl, hip⟩ K HK
  have hpl := pos_le (lt := lt) l x
  unfold s_spot.l2.b
  refine hr.lenV ?_
  refine r_cmpI ?_
  refine r_br (fun hlt => ?_) (fun hge => ?_)
  · have hlt : i < l.length := by simpa using hlt
    refine hr.at (n := i) rfl encAl rfl rfl hlt fun b o hb => ?_
    refine r_fld ?_
    refine hb.load (j := 0) rfl ?_
    refine r_cmpS ?_
    refine r_if (fun hc => ?_) (fun hc => ?_)
    · unfold s_spot.j3
      refine r_add (z := ((i + 1 : Nat) : Int)) (by rw [i64w (by omega) (by omega)]; omega) ?_
      refine HK _ hlt ⟨rfl, ?_⟩
      rcases Nat.lt_or_ge i (pos lt l x) with h | h
      · exact h
      · have e : i = pos lt l x := by omega
        subst e
        have h1 := pos_at (lt := lt) (l := l) (x := x) hlt
        have h2 : lt l[pos lt l x] x = true := hc
        rw [h1] at h2; cases h2
    · refine fin i ?_
      rcases Nat.lt_or_ge i (pos lt l x) with h | h
      · have h2 : lt l[i] x = false := hc
        rw [pos_lt h] at h2; cases h2
      · omega
  · have hge : l.length ≤ i := by simpa using hge
    exact fin i (by omega)

/-- What setting the words in order replaces. -/
def olds : List It → List It → List It
  | a, [] => []
  | a, x :: r => (x.1, ((lget lt a x).getD emp).2) :: olds (lput lt a x) r
def oks : List It → List It → List Bool
  | a, [] => []
  | a, x :: r => (lget lt a x).isSome :: oks (lput lt a x) r
theorem olds_snoc (l : List It) (x : It) : ∀ a, olds a (l ++ [x]) = olds a l ++ [(x.1, ((lget lt (l.foldl (lput lt) a) x).getD emp).2)] := by
  induction l with
  | nil => intro a; rfl
  | cons y r ih => intro a; simp only [List.cons_append, olds, ih, List.foldl_cons]
theorem oks_snoc (l : List It) (x : It) : ∀ a, oks a (l ++ [x]) = oks a l ++ [(lget lt (l.foldl (lput lt) a) x).isSome] := by
  induction l with
  | nil => intro a; rfl
  | cons y r ih => intro a; simp only [List.cons_append, oks, ih, List.foldl_cons]
theorem olds_len : ∀ (l a : List It), (olds a l).length = l.length
  | [], _ => rfl
  | _ :: r, a => by simp [olds, olds_len r]
theorem oks_len : ∀ (l a : List It), (oks a l).length = l.length
  | [], _ => rfl
  | _ :: r, a => by simp [oks, oks_len r]
abbrev fb (b : Bool) : List Value := [.bool b]
theorem snoc_fb (l : List Bool) (b : Bool) : l.flatMap fb ++ [.bool b] = (l ++ [b]).flatMap fb := by rw [List.flatMap_append, List.flatMap_singleton]
theorem snoc_encA (l : List It) (e : It) : l.flatMap encA ++ encA e = (l ++ [e]).flatMap encA := by rw [List.flatMap_append, List.flatMap_singleton]
theorem flat1A (l : List It) : ∀ y ∈ l.flatMap encA, one1 y = true := fun y hy => by obtain ⟨x, _, h⟩ := List.mem_flatMap.1 hy; exact encA1 x y h

theorem WSet_ok {hA : Heap} {l : List It} {v : Value} (hr : Rdl 2 hA v l.length (l.flatMap encA)) (hl : l.length ≤ 2147483647)
    (H : ∀ v1 v2 v3 b1 o1 s1 b2 o2 s2 b3 o3 s3 h', Own 2 v1 (olds [] l).length b1 o1 ((olds [] l).flatMap encA) s1 → Own 1 v2 (oks [] l).length b2 o2 ((oks [] l).flatMap fb) s2 → Own 2 v3 (setAll l).length b3 o3 ((setAll l).flatMap encA) s3 →
      St hA [] [(b1, o1, (olds [] l).flatMap encA ++ s1), (b2, o2, (oks [] l).flatMap fb ++ s2), (b3, o3, (setAll l).flatMap encA ++ s3)] h' → Q (.tuple #[v1, v2, v3]) h') : s_WSet.call #[v] hA Q := by
  refine s_WSet.body _ _ _ ?_
  unfold s_WSet.sh
  have s := St.start hA
  refine hr.lenV ?_
  refine loop_ghost (fun q st h' => ∃ j v1 v2 v3 b1 o1 s1 b2 o2 s2 b3 o3 s3, q = l.length - j ∧ j ≤ l.length ∧ st = [v1, v3, v2, .int .i64 (j : Nat)] ∧ Own 2 v1 (olds [] (l.take j)).length b1 o1 ((olds [] (l.take j)).flatMap encA) s1 ∧ Own 1 v2 (oks [] (l.take j)).length b2 o2 ((oks [] (l.take j)).flatMap fb) s2 ∧ Own 2 v3 (setAll (l.take j)).length b3 o3 ((setAll (l.take j)).flatMap encA) s3 ∧
    St hA [] [(b1, o1, (olds [] (l.take j)).flatMap encA ++ s1), (b2, o2, (oks [] (l.take j)).flatMap fb ++ s2), (b3, o3, (setAll (l.take j)).flatMap encA ++ s3)] h') (n0 := l.length)
    ⟨0, .slice none 0 0, .slice none 0 0, .slice none 0 0, 0, 0, [], 0, 0, [], 0, 0, [], rfl, Nat.zero_le _, rfl, Own.nil 2 0 0, Own.nil 1 0 0, Own.nil 2 0 0, ((s.empty 0 0).empty 0 0).empty 0 0⟩ ?_
  rintro q st h ⟨j, v1, v2, v3, b1, o1, s1, b2, o2, s2, b3, o3, s3, rfl, hj, rfl, w1, w2, w3, s⟩ K HK
  unfold s_WSet.l2.b
  refine r_cmpI ?_
  refine r_if (fun hlt => ?_) (fun hge => ?_)
  · have hlt : j < l.length := by simpa using hlt
    have et : l.take (j + 1) = l.take j ++ [l[j]] := List.take_succ_eq_append_getElem hlt
    have hjl : (l.take j).length = j := by rw [List.length_take]; omega
    have hil := setAll_len (l.take j)
    rw [hjl] at hil
    generalize hx : l[j] = x at et
    have e1 : olds [] (l.take (j + 1)) = olds [] (l.take j) ++ [(x.1, ((lget lt (setAll (l.take j)) x).getD emp).2)] := by rw [et, olds_snoc]; rfl
    have e2 : oks [] (l.take (j + 1)) = oks [] (l.take j) ++ [(lget lt (setAll (l.take j)) x).isSome] := by rw [et, oks_snoc]; rfl
    have e3 : setAll (l.take (j + 1)) = lput lt (setAll (l.take j)) x := by rw [et, setAll_snoc]
    have ol := olds_len (l.take j) []
    have kl := oks_len (l.take j) []
    have hpl := pos_le (lt := lt) (setAll (l.take j)) x
    unfold s_WSet.j3
    refine (hr.st s).at (n := j) rfl encAl rfl rfl hlt fun b o hb => ?_
    rw [hx] at hb
    refine hb.loadN rfl ?_
    generalize setAll (l.take j) = a at *
    generalize olds [] (l.take j) = ao at *
    generalize oks [] (l.take j) = ak at *
    refine s.r_alloc fun t9 h s => ?_
    refine St.r_storeN0 s 0 rfl rfl (by simp) (encA1 x) ?_; intro h s
    refine r_fld ?_
    refine St.r_load0 s 0 rfl rfl ?_
    refine spot_ok (x := x) (w3.rdl s 3 rfl) (by omega) ?_
    refine r_ext rfl ?_
    refine r_ext rfl ?_
    refine r_fld ?_
    refine St.r_load0 s 0 rfl rfl ?_
    (apply r_build; (simp only [fillV, fill1, Value.cells, zeros_succ, zeros_zero, List.size_toArray, List.length_cons, List.length_nil, List.length_append, List.take_succ_cons, List.take_zero, List.take_nil, List.drop_succ_cons, List.drop_zero, List.drop_nil, List.cons_append, List.nil_append, List.append_nil, Nat.reduceAdd, Nat.reduceMul, Nat.reduceLeDiff, Nat.reduceEqDiff, and_self, and_true, true_and, if_true, Nat.le_refl, Nat.zero_add, Nat.add_zero, Nat.zero_mul, reduceIte, if_false] <;> rfl))
    refine s.r_alloc fun t12 h s => ?_
    refine St.r_storeN0 s 0 (ys := encA (x.1, 0)) rfl rfl (by simp) (encA1 _) ?_; intro h s
    refine St.r_mkSl (sz := 2) (cs := []) s (by ((simp only [fillV, fill1, Value.cells, zeros_succ, zeros_zero, List.size_toArray, List.length_cons, List.length_nil, List.length_append, List.take_succ_cons, List.take_zero, List.take_nil, List.drop_succ_cons, List.drop_zero, List.drop_nil, List.cons_append, List.nil_append, List.append_nil, Nat.reduceAdd, Nat.reduceMul, Nat.reduceLeDiff, Nat.reduceEqDiff, and_self, and_true, true_and, if_true, Nat.le_refl, Nat.zero_add, Nat.add_zero, Nat.zero_mul, reduceIte, if_false] <;> rfl))) rfl fun q1 h s wq => ?_
    refine (w3.rdl s 5 rfl).slc (l := 0) (m := pos lt a x) rfl ⟨_, _, rfl, by omega, by omega, by simp⟩ (Nat.zero_le _) hpl fun pv rp => ?_
    rw [Nat.zero_mul, List.drop_zero, Nat.sub_zero, flat_take encAl a _ hpl] at rp
    refine St.r_app s 0 (sz := 2) rfl wq rfl rp (flat1A _) (by omega) (by omega) fun nv nb no ns h s wn => ?_
    rw [List.nil_append] at s wn
    refine St.r_loadN0 s 2 rfl (by simp) ?_
    refine St.r_mkSl (sz := 2) (cs := encA x) s (by ((simp only [fillV, fill1, Value.cells, zeros_succ, zeros_zero, List.size_toArray, List.length_cons, List.length_nil, List.length_append, List.take_succ_cons, List.take_zero, List.take_nil, List.drop_succ_cons, List.drop_zero, List.drop_nil, List.cons_append, List.nil_append, List.append_nil, Nat.reduceAdd, Nat.reduceMul, Nat.reduceLeDiff, Nat.reduceEqDiff, and_self, and_true, true_and, if_true, Nat.le_refl, Nat.zero_add, Nat.add_zero, Nat.zero_mul, reduceIte, if_false] <;> rfl))) rfl fun q2 h s wq2 => ?_
    refine St.r_app s 1 (sz := 2) (n := 1) rfl wn rfl (wq2.rdl s 0 rfl) (encA1 _) (by omega) (by omega) fun nv2 nb2 no2 ns2 h s wn2 => ?_
    have s : St hA [] ((q2, 0, encA x ++ []) :: (nb2, no2, ((a.take (pos lt a x)).flatMap encA ++ encA x) ++ ns2) :: (t12, 0, encA (x.1, 0)) :: (t9, 0, encA x) :: (b1, o1, ao.flatMap encA ++ s1) :: (b2, o2, ak.flatMap fb ++ s2) :: (b3, o3, a.flatMap encA ++ s3) :: []) h := s
    -- behind the value that was there
    have fin : ∀ (y : Int) (i : Nat) (h' : Heap), i ≤ a.length → y = ((lget lt a x).getD emp).2 → lput lt a x = a.take (pos lt a x) ++ x :: a.drop i →
        St hA [] ((q2, 0, encA x ++ []) :: (nb2, no2, ((a.take (pos lt a x)).flatMap encA ++ encA x) ++ ns2) :: (t12, 0, encA (x.1, y)) :: (t9, 0, encA x) :: (b1, o1, ao.flatMap encA ++ s1) :: (b2, o2, ak.flatMap fb ++ s2) :: (b3, o3, a.flatMap encA ++ s3) :: []) h' →
        s_WSet.j5 v1 v3 v2 (.int .i64 i) (.bool (lget lt a x).isSome) (ptr t12 0) nv2 v (.int .i64 l.length) (.int .i64 j) h' K Q := by
      intro y i h hi hy hput s
      unfold s_WSet.j5
      refine (w3.rdl s 6 rfl).slcLo encAl (i := i) rfl hi fun rv rr => ?_
      refine St.r_app s 1 (sz := 2) rfl wn2 rfl rr (flat1A _) (by rw [List.length_drop]; omega) (by rw [List.length_drop]; omega) fun v3' b3' o3' s3' h s w3' => ?_
      refine St.r_loadN0 s 2 rfl (by simp) ?_
      refine St.r_mkSl (sz := 2) (cs := encA (x.1, y)) s (by ((simp only [fillV, fill1, Value.cells, zeros_succ, zeros_zero, List.size_toArray, List.length_cons, List.length_nil, List.length_append, List.take_succ_cons, List.take_zero, List.take_nil, List.drop_succ_cons, List.drop_zero, List.drop_nil, List.cons_append, List.nil_append, List.append_nil, Nat.reduceAdd, Nat.reduceMul, Nat.reduceLeDiff, Nat.reduceEqDiff, and_self, and_true, true_and, if_true, Nat.le_refl, Nat.zero_add, Nat.add_zero, Nat.zero_mul, reduceIte, if_false] <;> rfl))) rfl fun q3 h s wq3 => ?_
      refine St.r_app s 5 (sz := 2) (n := 1) rfl w1 rfl (wq3.rdl s 0 rfl) (encA1 _) (by omega) (by omega) fun v1' b1' o1' s1' h s w1' => ?_
      refine St.r_mkSl (sz := 1) (cs := [.bool (lget lt a x).isSome]) s (by ((simp only [fillV, fill1, Value.cells, zeros_succ, zeros_zero, List.size_toArray, List.length_cons, List.length_nil, List.length_append, List.take_succ_cons, List.take_zero, List.take_nil, List.drop_succ_cons, List.drop_zero, List.drop_nil, List.cons_append, List.nil_append, List.append_nil, Nat.reduceAdd, Nat.reduceMul, Nat.reduceLeDiff, Nat.reduceEqDiff, and_self, and_true, true_and, if_true, Nat.le_refl, Nat.zero_add, Nat.add_zero, Nat.zero_mul, reduceIte, if_false] <;> rfl))) rfl fun q4 h s wq4 => ?_
      refine St.r_app s 7 (sz := 1) (n := 1) rfl w2 rfl (wq4.rdl s 0 rfl) (by simp [one1]) (by omega) (by omega) fun v2' b2' o2' s2' h s w2' => ?_
      unfold s_WSet.j4
      refine r_add (z := ((j + 1 : Nat) : Int)) (by rw [i64w (by omega) (by omega)]; omega) ?_
      have e4 : ((a.take (pos lt a x)).flatMap encA ++ encA x) ++ (a.drop i).flatMap encA = (lput lt a x).flatMap encA := by
        rw [hput, List.flatMap_append, List.flatMap_cons]; simp only [List.append_assoc]
      have ll : pos lt a x - 0 + 1 + (a.drop i).length = (lput lt a x).length := by
        rw [hput, List.length_append, List.length_cons, List.length_take]; omega
      have ll : 0 + (pos lt a x) + 1 + (a.drop i).length = (lput lt a x).length := by omega
      refine HK (l.length - (j + 1)) _ _ (by omega) ⟨j + 1, v1', v2', v3', b1', o1', s1', b2', o2', s2', b3', o3', s3', rfl, hlt, rfl, ?_, ?_, ?_, ?_⟩
      · rw [e1, ← hy, ← snoc_encA, List.length_append]; exact w1'
      · rw [e2, ← snoc_fb, List.length_append]; exact w2'
      · rw [e3, ← e4, ← ll]; exact w3'
      · rw [e1, e2, e3, ← hy, ← snoc_encA, ← snoc_fb, ← e4]
        exact (s.perm (E' := (q4, 0, _) :: (q3, 0, _) :: (q2, 0, _) :: (t12, 0, _) :: (t9, 0, _) :: (b3, o3, a.flatMap encA ++ s3) :: (b1', o1', (ao.flatMap encA ++ encA (x.1, y)) ++ s1') :: (b2', o2', (ak.flatMap fb ++ [.bool (lget lt a x).isSome]) ++ s2') :: (b3', o3', (((a.take (pos lt a x)).flatMap encA ++ encA x) ++ (a.drop i).flatMap encA) ++ s3') :: []) (by ((apply perm_rg; intro f; simp only [List.set_cons_zero, List.set_cons_succ, List.eraseIdx_cons_zero, List.eraseIdx_cons_succ, List.cons_append, List.nil_append, List.map_append, List.map_cons, List.map_nil, List.sum_append, List.sum_cons, List.sum_nil, List.map_flatMap, Nat.add_zero, Nat.zero_add]; ac_rfl)))).drop 6
    refine r_if (fun hs => ?_) (fun hs => ?_)
    · obtain ⟨y, hy⟩ := Option.isSome_iff_exists.1 hs
      obtain ⟨hp, hyy, _⟩ := lget_some hy
      have hy2 : a[pos lt a x]? = some y := by rw [List.getElem?_eq_getElem hp, hyy]
      refine w3.idx (n := pos lt a x) rfl hp ?_
      refine r_fld ?_
      refine s.r_load1F encAl (r := 1) 6 rfl hy2 rfl ?_
      refine r_fld ?_
      refine St.r_store0 s 2 rfl (by simp) rfl ?_; intro h s
      refine r_add (z := ((pos lt a x + 1 : Nat) : Int)) (by rw [i64w (by omega) (by omega)]; omega) ?_
      exact fin y.2 (pos lt a x + 1) h hp (by rw [hy]; rfl) (by unfold lput; rw [hy]; rfl) s
    · have hn : lget lt a x = none := by cases e : lget lt a x with
        | none => rfl
        | some y => rw [e] at hs; cases hs
      exact fin 0 (pos lt a x) h hpl (by rw [hn]; rfl) (by unfold lput; rw [hn]; rfl) s
  · have hge : j = l.length := by simp at hge; omega
    subst hge
    rw [List.take_length] at s w1 w2 w3
    unfold s_WSet.j1
    exact H v1 v2 v3 b1 o1 s1 b2 o2 s2 b3 o3 s3 h w1 w2 w3 s
end Go.Proofs.Ytdpkpcmoabfofaa.Si
end
section
namespace Go.Proofs.Ytdpkpcmoabfofaa.Si
open Go.Hp Go.Proofs.Ytdpkpcmoabfofaa
set_option linter.unusedVariables false
set_option linter.unusedSimpArgs false
variable {h0 h : Heap} {Z E : List Rg} {Q : Value → Heap → Prop}

theorem fit_ok {d : Int} (H : Q (.bool (decide (2 ≤ d ∧ d ≤ 128))) h) : l_fit.call #[.int .i64 d] h Q := by
  refine l_fit.body _ _ _ ?_
  unfold l_fit.sh
  refine r_cmpI ?_
  refine r_br (fun h1 => ?_) (fun h1 => ?_)
  · have h1 : 0 < d := by simpa using h1
    refine s_Fits.body _ _ _ ?_
    unfold s_Fits.sh
    refine r_cmpI ?_
    refine r_br (fun h2 => ?_) (fun h2 => ?_)
    · refine r_cmpI ?_
      refine r_br (fun h3 => ?_) (fun h3 => ?_)
      · have h3 : 2 ≤ d := by simpa using h3
        refine r_cmpI ?_
        have e : decide (2 ≤ d ∧ d ≤ 128) = decide (d ≤ 128) := by simp [h3]
        rw [e] at H; exact H
      · have h3 : ¬ 2 ≤ d := by simpa using h3
        have e : decide (2 ≤ d ∧ d ≤ 128) = false := by simp [h3]
        rw [e] at H; exact H
    · have h2 : d = 0 := by simpa using h2
      omega
  · have h1 : ¬ 0 < d := by simpa using h1
    have e : decide (2 ≤ d ∧ d ≤ 128) = false := by simp; omega
    rw [e] at H; exact H

/-- Whether nothing is longer than the laws speak of. -/
def okW (l : List It) : Bool := l.all fun p => decide (p.1.size ≤ 2147483647)
theorem fits8_ok {l : List It} {v : Value} {hA : Heap} (hr : Rdl 2 hA v l.length (l.flatMap encA))
    (H : ∀ E' h', St hA [] E' h' → Q (.bool (decide (l.length ≤ 2147483647) && okW l)) h') : l_zzFits8.call #[v] hA Q := by
  have s := St.start hA
  refine l_zzFits8.body _ _ _ ?_
  unfold l_zzFits8.sh
  refine hr.lenV ?_
  refine r_cmpI ?_
  refine r_if (fun hg => ?_) (fun hg => ?_)
  · have hg : ¬ l.length ≤ 2147483647 := by have : (l.length : Int) > 2147483647 := by simpa using hg
                                            omega
    have e : (decide (l.length ≤ 2147483647) && okW l) = false := by simp [hg]
    rw [e] at H; exact H _ _ s
  · have hg : l.length ≤ 2147483647 := by have : ¬ (l.length : Int) > 2147483647 := by simpa using hg
                                          omega
    have e : (decide (l.length ≤ 2147483647) && okW l) = okW l := by simp [hg]
    rw [e] at H
    unfold l_zzFits8.j1
    refine hr.lenV ?_
    refine loop_up (n := l.length) (fun j => [.int .i64 j]) (fun j h' => okW (l.take j) = true ∧ ∃ E', St hA [] E' h') ⟨rfl, _, s⟩ ?_
    rintro j h' hj ⟨hok, E', s⟩ K HK
    unfold l_zzFits8.l3.b
    refine r_cmpI ?_
    refine r_if (fun hlt => ?_) (fun hge => ?_)
    · have hlt : j < l.length := by simpa using hlt
      have et : l.take (j + 1) = l.take j ++ [l[j]] := List.take_succ_eq_append_getElem hlt
      have ek : okW (l.take (j + 1)) = decide (l[j].1.size ≤ 2147483647) := by
        rw [et]; unfold okW at hok ⊢; rw [List.all_append, hok]; simp
      unfold l_zzFits8.j4
      refine (hr.st s).at (n := j) rfl encAl rfl rfl hlt fun b o hb => ?_
      refine hb.loadN rfl ?_
      refine s.r_alloc fun t4 h s => ?_
      refine St.r_storeN0 s 0 rfl rfl (by simp) (encA1 _) ?_; intro h s
      refine St.r_loadN0 s 0 rfl (by simp) ?_
      refine l_zzFits9.body _ _ _ ?_
      unfold l_zzFits9.sh
      refine St.r_box (cs := encA l[j]) s fun t1 h s => ?_
      refine r_fld ?_
      refine St.r_load0 s 0 rfl rfl ?_
      refine ⟨_, rfl, ?_⟩
      refine r_cmpI ?_
      refine r_if (fun hb => ?_) (fun hb => ?_)
      · have hb : ¬ l[j].1.size ≤ 2147483647 := by have : (l[j].1.size : Int) > 2147483647 := by simpa using hb
                                                   omega
        refine r_not ?_
        refine r_if (fun _ => ?_) (fun e => absurd e (by simp))
        have e2 : okW l = false := by
          have : okW l = (okW (l.take (j + 1)) && okW (l.drop (j + 1))) := by
            unfold okW; rw [← List.all_append, List.take_append_drop]
          rw [this, ek]; simp [hb]
        rw [e2] at H; exact H _ _ s
      · have hb : l[j].1.size ≤ 2147483647 := by have : ¬ (l[j].1.size : Int) > 2147483647 := by simpa using hb
                                                 omega
        unfold l_zzFits9.j1
        refine r_not ?_
        refine r_if (fun e => absurd e (by simp)) (fun _ => ?_)
        unfold l_zzFits8.j5
        refine r_add (z := ((j + 1 : Nat) : Int)) (by rw [i64w (by omega) (by omega)]; omega) ?_
        exact HK h hlt ⟨by rw [ek]; simp [hb], _, s⟩
    · have hge : j = l.length := by simp at hge; omega
      subst hge
      rw [List.take_length] at hok
      unfold l_zzFits8.j2
      rw [hok] at H; exact H _ _ s

def exW : List It := [(⟨#[98]⟩, 1), (⟨#[]⟩, 2), (⟨#[97, 98]⟩, 3), (⟨#[98]⟩, 4)]
theorem WKeys_ok {hA : Heap} {l : List It} {v : Value} {d : Nat} (hr : Rdl 2 hA v l.length (l.flatMap encA)) (hl : l.length ≤ 2147483647) (h1 : 2 ≤ d) (h2 : d ≤ 512)
    (H : ∀ v' b o sp E' h', Own 1 v' ((setAll l).map (·.1)).length b o (((setAll l).map (·.1)).flatMap fk) sp → St hA [] ((b, o, ((setAll l).map (·.1)).flatMap fk ++ sp) :: E') h' → Q v' h') : i_WKeys.call #[.int .i64 d, v] hA Q := by
  refine i_WKeys.body _ _ _ _ ?_
  unfold i_WKeys.sh
  refine grow_ok hr hl h1 h2 fun g tb h' _ e M s => ?_
  have hle := setAll_len l
  refine Keys_ok (E := []) M (by rw [e]; omega) (by rw [List.append_nil]; exact s) fun v' b o sp h' w s => ?_
  rw [e] at w s
  exact H v' b o sp _ h' w s
theorem aliveW_ok {hA : Heap} (H : ∀ E' h', St hA [] E' h' → Q (.bool true) h') : l_aliveW.call #[] hA Q := by
  refine l_aliveW.body _ _ ?_
  unfold l_aliveW.sh
  have s := St.start hA
  refine l_exWords.body _ _ ?_
  unfold l_exWords.sh
  (apply r_build; (simp only [fillV, fill1, Value.cells, zeros_succ, zeros_zero, List.size_toArray, List.length_cons, List.length_nil, List.length_append, List.take_succ_cons, List.take_zero, List.take_nil, List.drop_succ_cons, List.drop_zero, List.drop_nil, List.cons_append, List.nil_append, List.append_nil, Nat.reduceAdd, Nat.reduceMul, Nat.reduceLeDiff, Nat.reduceEqDiff, and_self, and_true, true_and, if_true, Nat.le_refl, Nat.zero_add, Nat.add_zero, Nat.zero_mul, reduceIte, if_false] <;> rfl))
  (apply r_build; (simp only [fillV, fill1, Value.cells, zeros_succ, zeros_zero, List.size_toArray, List.length_cons, List.length_nil, List.length_append, List.take_succ_cons, List.take_zero, List.take_nil, List.drop_succ_cons, List.drop_zero, List.drop_nil, List.cons_append, List.nil_append, List.append_nil, Nat.reduceAdd, Nat.reduceMul, Nat.reduceLeDiff, Nat.reduceEqDiff, and_self, and_true, true_and, if_true, Nat.le_refl, Nat.zero_add, Nat.add_zero, Nat.zero_mul, reduceIte, if_false] <;> rfl))
  (apply r_build; (simp only [fillV, fill1, Value.cells, zeros_succ, zeros_zero, List.size_toArray, List.length_cons, List.length_nil, List.length_append, List.take_succ_cons, List.take_zero, List.take_nil, List.drop_succ_cons, List.drop_zero, List.drop_nil, List.cons_append, List.nil_append, List.append_nil, Nat.reduceAdd, Nat.reduceMul, Nat.reduceLeDiff, Nat.reduceEqDiff, and_self, and_true, true_and, if_true, Nat.le_refl, Nat.zero_add, Nat.add_zero, Nat.zero_mul, reduceIte, if_false] <;> rfl))
  (apply r_build; (simp only [fillV, fill1, Value.cells, zeros_succ, zeros_zero, List.size_toArray, List.length_cons, List.length_nil, List.length_append, List.take_succ_cons, List.take_zero, List.take_nil, List.drop_succ_cons, List.drop_zero, List.drop_nil, List.cons_append, List.nil_append, List.append_nil, Nat.reduceAdd, Nat.reduceMul, Nat.reduceLeDiff, Nat.reduceEqDiff, and_self, and_true, true_and, if_true, Nat.le_refl, Nat.zero_add, Nat.add_zero, Nat.zero_mul, reduceIte, if_false] <;> rfl))
  refine St.r_mkSl (sz := 2) (cs := exW.flatMap encA) s (by ((simp only [fillV, fill1, Value.cells, zeros_succ, zeros_zero, List.size_toArray, List.length_cons, List.length_nil, List.length_append, List.take_succ_cons, List.take_zero, List.take_nil, List.drop_succ_cons, List.drop_zero, List.drop_nil, List.cons_append, List.nil_append, List.append_nil, Nat.reduceAdd, Nat.reduceMul, Nat.reduceLeDiff, Nat.reduceEqDiff, and_self, and_true, true_and, if_true, Nat.le_refl, Nat.zero_add, Nat.add_zero, Nat.zero_mul, reduceIte, if_false] <;> rfl))) rfl fun q h s w => ?_
  have w : Own 2 (.slice (some ⟨q, 0, none⟩) 4 4) exW.length q 0 (exW.flatMap encA) [] := w
  have s : St hA [] ((q, 0, exW.flatMap encA ++ []) :: []) h := s
  refine (w.rdl s 0 rfl).slc (l := 0) (m := 3) rfl ⟨_, _, rfl, by decide, by decide, rfl⟩ (by decide) (by decide) fun v' r => ?_
  rw [Nat.zero_mul, List.drop_zero, Nat.sub_zero, flat_take encAl exW 3 (by decide)] at r
  refine WKeys_ok (l := exW.take 3) (d := 2) r (by decide) (by decide) (by decide) fun v2 b o sp E' h' w2 s2 => ?_
  refine w2.lenV ?_
  refine r_cmpI ?_
  have e : ((setAll (exW.take 3)).map (·.1)).length = 3 := by decide +kernel
  rw [e]
  exact H _ _ (s.join s2)
end Go.Proofs.Ytdpkpcmoabfofaa.Si
end
section
namespace Go.Proofs.Ytdpkpcmoabfofaa.Si
open Go.Hp Go.Proofs.Ytdpkpcmoabfofaa
set_option linter.unusedVariables false
set_option linter.unusedSimpArgs false

/-- A key with a zero byte behind it. -/
def nx0 (k : KT) : KT := k ++ ⟨#[0]⟩
def gtk (k : KT) (y : It) : Bool := Op.bytesLess k.toList y.1.toList
def putL (L : List It) (b : List It) : List It := b.foldl (lput lt) L
def fromOf : Option KT → KT
  | none => ⟨#[]⟩
  | some k => nx0 k
def page (L : List It) (f : KT) (n : Nat) : List It := firstN (L.drop (pos lt L (f, 0))) n
def lastK (x : It) (r : List It) : KT := ((x :: r).getLast (List.cons_ne_nil _ _)).1
def pgO (n : Nat) : Nat → List It → KT → List (List It) → List KT
  | 0, _, _, _ => []
  | k + 1, L, f, bs => match page L f n with
    | [] => []
    | x :: r => (x :: r).map (·.1) ++ pgO n k (putL L (bs.headD [])) (nx0 (lastK x r)) bs.tail
/-- The words behind a key. -/
def gtO (a : Option KT) (y : It) : Bool := match a with
  | none => true
  | some k => gtk k y
def beh (L : List It) (a : Option KT) : List It := L.filter (gtO a)
def spO (n : Nat) : Nat → List It → Option KT → List (List It) → List KT
  | 0, _, _, _ => []
  | k + 1, L, a, bs => match (beh L a).take n with
    | [] => []
    | x :: r => (x :: r).map (·.1) ++ spO n k (putL L (bs.headD [])) (some (lastK x r)) bs.tail
theorem less_nx0 : ∀ x k : List UInt8, Op.bytesLess x (k ++ [0]) = !Op.bytesLess k x
  | [], [] => rfl
  | [], b :: k => rfl
  | a :: x, [] => by
    rw [List.nil_append, bytesLess_cons]
    have h1 : Op.bytesLess x [] = false := by cases x <;> rfl
    have h2 : Op.bytesLess [] (a :: x) = true := rfl
    have h3 : ¬ a < 0 := by exact UInt8.not_lt_zero
    rw [h1, h2]; simp [h3]
  | a :: x, b :: k => by
    rw [List.cons_append, bytesLess_cons, bytesLess_cons, less_nx0 x k]
    by_cases h : a < b
    · have h1 : ¬ b < a := by rw [UInt8.lt_iff_toNat_lt] at *; omega
      have h2 : ¬ b = a := by intro e; subst e; exact h1 h
      simp [h, h1, h2]
    · by_cases h1 : a = b
      · subst h1; simp [h]
      · have h2 : b < a := by
          rw [UInt8.lt_iff_toNat_lt] at *
          have : a.toNat ≠ b.toNat := fun e => h1 (UInt8.toNat_inj.1 e)
          omega
        simp [h, h1, h2]
theorem nx0_list (k : KT) : (nx0 k).toList = k.toList ++ [0] := by
  unfold nx0
  rw [Go.ByteArray.toList_eq, Go.ByteArray.toList_eq, ByteArray.data_append, Array.toList_append]
theorem lt_from (a : Option KT) (y : It) (w : VT) : lt y (fromOf a, w) = !gtO a y := by
  cases a with
  | none =>
    show Op.bytesLess y.1.toList (⟨#[]⟩ : ByteArray).toList = false
    have e : (⟨#[]⟩ : ByteArray).toList = [] := by rw [Go.ByteArray.toList_eq]
    have e2 : ∀ l : List UInt8, Op.bytesLess l [] = false := fun l => by cases l <;> rfl
    rw [e]; exact e2 _
  | some k =>
    show Op.bytesLess y.1.toList (nx0 k).toList = _
    rw [nx0_list, less_nx0]; rfl
/-- What comes behind in an ascending list is an end of it. -/
theorem beh_drop {L : List It} (ha : Asc lt L) (a : Option KT) (w : VT) : beh L a = L.drop (pos lt L (fromOf a, w)) := by
  obtain ⟨h1, h2⟩ := asc_pos swo (x := (fromOf a, w)) ha
  have e : L = L.take (pos lt L (fromOf a, w)) ++ L.drop (pos lt L (fromOf a, w)) := (List.take_append_drop _ _).symm
  unfold beh
  conv => lhs; rw [e]
  rw [List.filter_append, List.filter_eq_nil_iff.2 (fun y hy => ?_), List.filter_eq_self.2 (fun y hy => ?_), List.nil_append]
  · have := h2 y hy
    rw [lt_from] at this
    simpa using this
  · have := h1 y hy
    rw [lt_from] at this
    simpa using this
theorem page_eq {L : List It} {n : Nat} (ha : Asc lt L) (hn : 1 ≤ n) (a : Option KT) : page L (fromOf a) n = (beh L a).take n := by
  unfold page firstN
  rw [← beh_drop ha a 0]
  split
  · rename_i h
    rw [List.take_of_length_le]
    rcases h with h | h <;> omega
  · rw [Int.toNat_natCast]
theorem putL_asc : ∀ {b L : List It}, Asc lt L → Asc lt (putL L b)
  | [], _, h => h
  | x :: b, L, h => putL_asc (b := b) (asc_lput swo h)
theorem pgO_eq {n : Nat} (hn : 1 ≤ n) : ∀ (k : Nat) (L : List It) (a : Option KT) (bs : List (List It)), Asc lt L → pgO n k L (fromOf a) bs = spO n k L a bs
  | 0, _, _, _, _ => rfl
  | k + 1, L, a, bs, ha => by
    rw [pgO, spO, page_eq ha hn]
    cases h : (beh L a).take n with
    | nil => rfl
    | cons x r =>
      simp only
      rw [← pgO_eq hn k _ (some (lastK x r)) bs.tail (putL_asc ha)]; rfl
/-- What comes behind the last word of a page. -/
theorem beh_next {L : List It} {a : Option KT} {n : Nat} {x : It} {r : List It} (ha : Asc lt L) (h : (beh L a).take n = x :: r) : beh L (some (lastK x r)) = (beh L a).drop n := by
  have e : beh L a = (x :: r) ++ (beh L a).drop n := by rw [← h, List.take_append_drop]
  have hs : Asc lt (beh L a) := asc_of_sub ha List.filter_sublist
  have hl : lastK x r = ((x :: r).getLast (List.cons_ne_nil _ _)).1 := rfl
  have hmem : (x :: r).getLast (List.cons_ne_nil _ _) ∈ x :: r := List.getLast_mem _
  generalize (x :: r).getLast (List.cons_ne_nil _ _) = z at hl hmem
  have hz : z ∈ beh L a := by rw [e]; exact List.mem_append.2 (.inl hmem)
  have hg : gtO a z = true := (List.mem_filter.1 hz).2
  have e2 : beh L (some (lastK x r)) = (beh L a).filter (gtk (lastK x r)) := by
    unfold beh
    rw [List.filter_filter]
    refine List.filter_congr fun y _ => ?_
    show gtk (lastK x r) y = (gtk (lastK x r) y && gtO a y)
    cases hy : gtk (lastK x r) y with
    | false => rfl
    | true =>
      rw [Bool.true_and]
      cases a with
      | none => rfl
      | some k =>
        have : Op.bytesLess k.toList z.1.toList = true := hg
        have h2 : Op.bytesLess z.1.toList y.1.toList = true := by rw [← hl]; exact hy
        exact (bytesLess_tr _ _ _ this h2).symm
  rw [e2]
  conv => lhs; rw [e]
  rw [List.filter_append]
  rw [e] at hs
  obtain ⟨s1, s2, s3⟩ := asc_app hs
  have last : ∀ y ∈ x :: r, lt z y = false := by
    intro y hy
    obtain ⟨i, hi, rfl⟩ := List.mem_iff_getElem.1 hy
    have hz2 : (x :: r).getLast (List.cons_ne_nil _ _) = (x :: r)[(x :: r).length - 1] := List.getLast_eq_getElem _
    have : z.1 = ((x :: r)[(x :: r).length - 1]).1 := by rw [← hz2]; exact hl.symm.trans rfl
    have key : lt ((x :: r)[(x :: r).length - 1]) (x :: r)[i] = false := by
      by_cases hij : i = (x :: r).length - 1
      · subst hij; exact swo.irr _
      · exact swo.asym (List.pairwise_iff_getElem.1 s1 i ((x :: r).length - 1) hi (by simp) (by omega))
    unfold lt at key ⊢
    rw [this]; exact key
  rw [List.filter_eq_nil_iff.2 (fun y hy => ?_), List.filter_eq_self.2 (fun y hy => ?_), List.nil_append]
  · have := s3 z hmem y hy
    show Op.bytesLess (lastK x r).toList y.1.toList = true
    rw [hl]; exact this
  · have := last y hy
    show ¬ Op.bytesLess (lastK x r).toList y.1.toList = true
    rw [hl]
    exact fun h => by rw [show lt z y = true from h] at this; cases this
theorem spO_nil {n : Nat} (hn : 1 ≤ n) : ∀ (k : Nat) (L : List It) (a : Option KT), Asc lt L → (beh L a).length < k → spO n k L a [] = (beh L a).map (·.1)
  | 0, _, _, _, h => absurd h (Nat.not_lt_zero _)
  | k + 1, L, a, ha, hl => by
    rw [spO]
    cases h : (beh L a).take n with
    | nil =>
      have : beh L a = [] := by
        rcases List.take_eq_nil_iff.1 h with e | e
        · omega
        · exact e
      rw [this]; rfl
    | cons x r =>
      simp only
      have e : beh L a = (x :: r) ++ (beh L a).drop n := by rw [← h, List.take_append_drop]
      have hn2 := beh_next ha h
      show _ ++ spO n k L (some (lastK x r)) [] = _
      have hlen : (beh L (some (lastK x r))).length < k := by
        rw [hn2, List.length_drop]
        have : (beh L a).length = _ := congrArg List.length e
        rw [List.length_append, List.length_cons] at this
        omega
      rw [spO_nil hn k L _ ha hlen, hn2]
      conv => rhs; rw [e]
      rw [List.map_append]
/-- A key stays when words are set. -/
theorem putL_key : ∀ {b L : List It} {y : It}, y ∈ L → Asc lt L → ∃ z ∈ putL L b, z.1.toList = y.1.toList
  | [], _, y, h, _ => ⟨y, h, rfl⟩
  | x :: b, L, y, h, ha => by
    have ha' := asc_lput (x := x) swo ha
    have : ∃ z ∈ lput lt L x, z.1.toList = y.1.toList := by
      have h1 := lget_lput swo (l := L) (x := x) (y := y) ha
      have h2 : lget lt L y = some y := (lget_mem swo ha).2 ⟨h, swo.irr _, swo.irr _⟩
      rw [h2] at h1
      split at h1
      · obtain ⟨m1, m2, m3⟩ := (lget_mem swo ha').1 h1
        exact ⟨x, m1, bytesLess_tri _ _ m2 m3⟩
      · exact ⟨y, ((lget_mem swo ha').1 h1).1, rfl⟩
    obtain ⟨z, hz, e⟩ := this
    obtain ⟨z2, hz2, e2⟩ := putL_key (b := b) hz ha'
    exact ⟨z2, hz2, e2.trans e⟩
theorem putL_len : ∀ (b L : List It), (putL L b).length ≤ L.length + b.length
  | [], _ => Nat.le_refl _
  | x :: b, L => by
    have h1 := putL_len b (lput lt L x)
    have h2 : (lput lt L x).length = _ := lput_length
    show (putL (lput lt L x) b).length ≤ _
    rw [List.length_cons]
    split at h2 <;> omega
theorem putL_app (L a b : List It) : putL (putL L a) b = putL L (a ++ b) := by unfold putL; rw [List.foldl_append]
/-- What is still to be read becomes less with each page. -/
theorem rest_less {L b c : List It} {a : Option KT} {n : Nat} {x : It} {r : List It} (ha : Asc lt L) (h : (beh L a).take n = x :: r) : (beh (putL (putL L b) c) (some (lastK x r))).length < (beh (putL L (b ++ c)) a).length := by
  rw [putL_app]
  have hz : (x :: r).getLast (List.cons_ne_nil _ _) ∈ x :: r := List.getLast_mem _
  have hl : lastK x r = ((x :: r).getLast (List.cons_ne_nil _ _)).1 := rfl
  generalize (x :: r).getLast (List.cons_ne_nil _ _) = z at hl hz
  rw [← h] at hz
  have hz := List.mem_of_mem_take hz
  have hzL := (List.mem_filter.1 hz).1
  have hg : gtO a z = true := (List.mem_filter.1 hz).2
  obtain ⟨y, hy, ey⟩ := putL_key (b := b ++ c) hzL ha
  generalize putL L (b ++ c) = F at *
  have e2 : beh F (some (lastK x r)) = (beh F a).filter (gtk (lastK x r)) := by
    unfold beh
    rw [List.filter_filter]
    refine List.filter_congr fun y _ => ?_
    show gtk (lastK x r) y = (gtk (lastK x r) y && gtO a y)
    cases hy : gtk (lastK x r) y with
    | false => rfl
    | true =>
      rw [Bool.true_and]
      cases a with
      | none => rfl
      | some k =>
        have : Op.bytesLess k.toList z.1.toList = true := hg
        have h2 : Op.bytesLess z.1.toList y.1.toList = true := by rw [← hl]; exact hy
        exact (bytesLess_tr _ _ _ this h2).symm
  rw [e2]
  refine List.length_filter_lt_length_iff_exists.2 ⟨y, List.mem_filter.2 ⟨hy, ?_⟩, ?_⟩
  · cases a with
    | none => rfl
    | some k =>
      have : Op.bytesLess k.toList z.1.toList = true := hg
      show Op.bytesLess k.toList y.1.toList = true
      rw [ey]; exact this
  · show ¬ Op.bytesLess (lastK x r).toList y.1.toList = true
    rw [hl, ey, bytesLess_irr]; exact Bool.false_ne_true
end Go.Proofs.Ytdpkpcmoabfofaa.Si
end
