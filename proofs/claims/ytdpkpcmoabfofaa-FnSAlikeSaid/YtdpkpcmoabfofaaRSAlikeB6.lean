/-
  Texts of this claim, laid together: KtIu KUIu KVIu Sb Sc Sd Se Sf Sg.
  Conditions: as each of them tells.
-/
import Derived.Test.YtdpkpcmoabfofaaRSAlikeB5
set_option linter.unusedVariables false
set_option linter.unusedSimpArgs false
open List (set_cons_zero set_cons_succ eraseIdx_cons_zero eraseIdx_cons_succ cons_append nil_append map_append map_cons map_flatMap map_nil flatMap_cons flatMap_append flatMap_nil append_nil append_assoc length_cons length_nil length_append take_succ_cons drop_succ_cons take_zero drop_zero take_nil drop_nil size_toArray length_map)
section
namespace Go.Proofs.Ytdpkpcmoabfofaa.Iu
open Go.Hp Go.Proofs.Ytdpkpcmoabfofaa
set_option maxHeartbeats 4000000
variable {h0 h : Heap} {Z E : List Rg} {Q : Value → Heap → Prop}
attribute [local irreducible] load1 loadN store1 storeN fld nilck lenV idx arith cmpI notV extr mkSl app cpy slc ifV
def Taken (mx : Bool) (x : It) (l l' : List It) (y : It) (ok : Bool) : Prop :=
  if mx then ok = true ∧ l = l' ++ [y] else match lget lt l x with
    | none => ok = false ∧ y = emp ∧ l' = l
    | some z => ok = true ∧ y = z ∧ l' = ldel lt l x
def DelOk (h0 : Heap) (Z : List Rg) (tb m : Nat) (iso : Int) (k : Nat) : Prop := ∀ (t : GT It k) {h : Heap} {E : List Rg} {Q : Value → Heap → Prop} {pb po lo : Nat} (mx : Bool) (x : It), t.pt.Fl m lo → Asc lt t.pt.items → t.pt.items.length ≤ 4611686018427387903 → Gd iso t → 1 ≤ t.nd.its.length →
  St h0 Z ((pb, po, [ptr t.id 0]) :: (t.all enc ++ E)) h →
  (∀ (t' : GT It k) h' y ok, t'.id = t.id → Gd iso t' → t'.pt.Fl m (t.nd.its.length - if ok then 1 else 0) → Taken mx x t.pt.items t'.pt.items y ok → St h0 Z ((pb, po, [ptr t.id 0]) :: (t'.all enc ++ E)) h' → Q (.tuple #[.agg (enc y).toArray, .bool ok]) h') →
  Map_iu_delete.call #[ptr tb 0, ptr pb po, .bool mx, kv x.1] h Q
theorem del_leaf {tb m : Nat} {iso mn : Int} {ctr : Option Addr} (hT0 : (tb, 0, hd0 iso ctr) ∈ Z) (hT4 : (tb, 4, hd4 mn m) ∈ Z) (hm1 : m ≤ 1024) : DelOk h0 Z tb m iso 0 := by
  intro (d : Nd It) h E Q pb po lo mx x fl ha hsz g h1 s H; obtain ⟨own, n, is', cnt, its, iv, ib, io, isp, kb, kv', krb, kro, ksp⟩ := d
  have w : Own 1 iv its.length ib io (its.flatMap enc) isp := g.wf.1
  have hiso : is' = iso := g.iso
  have hcn : cnt = its.length := g.cn
  subst hiso; subst hcn
  have hl : its.length ≤ m := fl.2
  have h1 : 1 ≤ its.length := h1
  have ha : Asc lt its := ha
  have hi : ∀ {E h}, St h0 Z E h → cl h tb 0 = some (.int .u64 is') := fun s => by have := s.getZ hT0 (j := 0) (by simp); simpa using this
  have s : St h0 Z ((pb, po, [ptr n 0]) :: (n, 0, [.int .u64 is', .int .i64 its.length, iv, .pointer none]) :: (ib, io, its.flatMap enc ++ isp) :: E) h := s
  show Map_iu_delete.call #[ptr tb 0, ptr pb po, .bool mx, kv x.1] h Q
  refine Map_iu_delete.body _ _ _ _ _ _ ?_; unfold Map_iu_delete.sh; refine s.r_alloc fun t8 h s => ?_; refine isoLoad_ok (hi s) (by have := s.get (k := 1) (j := 0) rfl (by simp); simpa using this) (fun _ => s.cl0 2 rfl rfl) ?_
  have s : St h0 Z ((t8, 0, enc emp) :: (pb, po, [ptr n 0]) :: (n, 0, [.int .u64 is', .int .i64 its.length, iv, .pointer none]) :: (ib, io, its.flatMap enc ++ isp) :: E) h := s
  have fin : ∀ (i : Nat) (hi : i < its.length) (kk : Value), Taken mx x its (its.eraseIdx i) its[i] true → Map_iu_delete.j1 (ptr tb 0) (.bool mx) kk (ptr t8 0) (ptr n 0) (.int .i64 i) (.bool true) h Q := by
    intro i hi kk hT; unfold Map_iu_delete.j1; refine leaf_ok (a := none) (s.cl0 2 rfl rfl) ?_; refine r_if (fun _ => ?_) (fun e => absurd e (by simp))
    refine r_if (fun _ => ?_) (fun e => absurd e (by simp))
    refine r_nil ?_; refine r_fld ?_; refine St.r_load0 s 2 rfl rfl ?_
    (refine Own.idx (by assumption) rfl (by first | omega | (simp; done) | (simp; omega)) ?_)
    (refine s.r_loadF encl 3 rfl (List.getElem?_eq_getElem (by first | omega | (simp; done) | (simp; omega))) ?_)
    refine s.r_alloc fun t13 h s => ?_
    (refine St.r_storeN0 s 0 rfl rfl (by simp) (enc1 _) ?_; intro h s; try simp only [List.set_cons_zero, List.set_cons_succ] at s)
    refine r_nil ?_; refine r_fld ?_; refine St.r_load0 s 3 rfl rfl ?_; refine w.slcLo encl (i := i) rfl (by omega) fun dd wd => ?_; refine r_nil ?_; refine r_fld ?_; refine St.r_load0 s 3 rfl rfl ?_; refine r_add1 (by omega) ?_; refine (w.rdl s 4 rfl).slcLo encl (i := i + 1) rfl (by omega) fun src rs => ?_; refine s.r_cpyF encl 4 (L := its) (M := its.drop (i + 1)) rfl wd (by simp; omega) rs rfl (fun y _ => enc1 y) fun h s => ?_; refine r_nil ?_; refine r_fld ?_; refine St.r_load0 s 3 rfl rfl ?_; refine r_nil ?_; refine r_fld ?_; refine St.r_load0 s 3 rfl rfl ?_; refine Own.lenV (by assumption) ?_; refine r_sub1 (by omega) (by omega) ?_; refine r_nil ?_; refine r_fld ?_; refine s.r_lzE hT4 0 (enc emp) rfl (by simp) rfl ?_
    (refine Own.idx (by assumption) rfl (by first | omega | (simp; done) | (simp; omega)) ?_)
    (refine s.r_storeF encl 4 rfl (by first | omega | (simp; done) | (simp; omega)) (enc1 _) ?_; intro h s; try simp only [List.set_cons_zero, List.set_cons_succ] at s)
    refine r_nil ?_; refine r_fld ?_; refine St.r_load0 s 3 rfl rfl ?_; refine r_nil ?_; refine r_fld ?_; refine St.r_load0 s 3 rfl rfl ?_; refine Own.lenV (by assumption) ?_; refine r_sub1 (by omega) (by omega) ?_; refine (w.list encl (del_len its emp hi)).slcHi encl rfl (by rw [del_len _ _ hi]; omega) fun iv2 w2 => ?_
    have s := s.del (f := enc) 4 rfl _ (del_erase its emp hi)
    rw [del_erase its emp hi] at w2; refine r_nil ?_; refine r_fld ?_
    (refine St.r_store0 s 3 rfl (by simp) (Own.one (by assumption)) ?_; intro h s; try simp only [List.set_cons_zero, List.set_cons_succ] at s)
    refine r_nil ?_; refine r_fld ?_; refine St.r_load0 s 3 rfl rfl ?_; refine r_sub1 (by omega) (by omega) ?_; refine r_nil ?_; refine r_fld ?_
    (refine St.r_store0 s 3 rfl (by simp) rfl ?_; intro h s; try simp only [List.set_cons_zero, List.set_cons_succ] at s)
    refine St.r_loadN0 s 0 rfl (by simp) ?_
    (refine St.r_storeN0 s 1 rfl rfl (by simp) (enc1 _) ?_; intro h s; try simp only [List.set_cons_zero, List.set_cons_succ] at s)
    refine St.r_loadN0 s 1 rfl (by simp) ?_
    have hel : (its.eraseIdx i).length = its.length - 1 := by rw [List.length_eraseIdx, if_pos hi]
    obtain ⟨t', ht1, gt, ht2, ht3, ht4⟩ := mk_leaf (iso := is') (n := n) w2; refine H t' h its[i] true ht1 gt ?_ ?_ ((s.perm (E' := (t13, 0, enc its[i]) :: (t8, 0, enc its[i]) :: ((pb, po, [ptr n 0]) :: (t'.all enc ++ E))) ?_).drop 2)
    · rw [ht2]; exact fl_leaf (Nat.le_of_eq hel.symm) (by omega)
    · rw [ht2]; exact hT
    · rw [ht4]
      rw [hel]
      ((apply perm_rg; intro f; simp only [set_cons_zero, set_cons_succ, eraseIdx_cons_zero, eraseIdx_cons_succ, cons_append, nil_append, map_append, map_cons, map_nil, List.sum_append, List.sum_cons, List.sum_nil, map_flatMap, Nat.add_zero, Nat.zero_add]; ac_rfl))
  refine r_if (fun hmx => ?_) (fun hmx => ?_)
  · subst hmx
    refine r_nil ?_; refine r_fld ?_; refine St.r_load0 s 2 rfl rfl ?_; refine Own.lenV (by assumption) ?_; refine r_sub1 (by omega) (by omega) ?_; refine fin (its.length - 1) (by omega) _ ?_; obtain ⟨R, z, e⟩ := last_of h1; subst e
    show _ ∧ _
    refine ⟨rfl, ?_⟩
    have := eraseIdx_at (P := R) (S := []) (y := z) rfl
    simp only [List.length_append, List.length_singleton, Nat.add_sub_cancel, this]
    simp
  · subst hmx
    refine search_ok (x := x) ha (by omega) (s.cl0 2 rfl rfl) (w.rdl s 3 rfl) ?_; refine r_ext rfl ?_; refine r_ext rfl ?_
    cases hg : lget lt its x with
    | some z =>
      obtain ⟨hp, hz, h3, h4⟩ := lget_some hg; refine fin (pos lt its x) hp _ ?_
      show (match lget lt its x with | none => _ | some z => _ : Prop)
      rw [hg]; exact ⟨rfl, hz, by rw [ldel_some hg, List.eraseIdx_eq_take_drop_succ]⟩
    | none =>
      unfold Map_iu_delete.j1; refine leaf_ok (a := none) (s.cl0 2 rfl rfl) ?_; refine r_if (fun _ => ?_) (fun e => absurd e (by simp))
      refine r_if (fun e => absurd e (by simp)) (fun _ => ?_)
      unfold Map_iu_delete.j6; refine r_nil ?_; refine r_fld ?_; refine s.r_lzE hT4 0 (enc emp) rfl (by simp) rfl ?_
      (refine St.r_storeN0 s 0 rfl rfl (by simp) (enc1 _) ?_; intro h s; try simp only [List.set_cons_zero, List.set_cons_succ] at s)
      refine St.r_loadN0 s 0 rfl (by simp) ?_; refine H _ h emp false rfl g (fl_any fl (Nat.le_refl its.length)) ?_ (s.drop 1)
      show (match lget lt its x with | none => _ | some z => _ : Prop)
      rw [hg]; exact ⟨rfl, rfl, rfl⟩
theorem DelOk.succ {tb m : Nat} {iso mn : Int} {ctr : Option Addr} (hT0 : (tb, 0, hd0 iso ctr) ∈ Z) (hT4 : (tb, 4, hd4 mn m) ∈ Z) (hmn : mn = ((m / 2 : Nat) : Int)) (hm3 : 3 ≤ m) (hm1 : m ≤ 1024) (ho : m % 2 = 1) {k : Nat} (ih : DelOk h0 Z tb m iso k) : DelOk h0 Z tb m iso (k + 1) := by
  intro t h E Q pb po lo mx x fl ha hsz g h1 s H; obtain ⟨d, ts⟩ := t; obtain ⟨own, n, is', cnt, its, iv, ib, io, isp, kb, kv', krb, kro, ksp⟩ := d
  have w : Own 1 iv its.length ib io (its.flatMap enc) isp := g.own
  have wK : Own 1 kv' ((ts.map GT.id).map pp).length krb kro (((ts.map GT.id).map pp).flatMap fv) ksp := g.ownK
  have hiso : is' = iso := g.iso
  have hcn : cnt = (PT.items (h := k + 1) (its, ts.map GT.pt)).length := g.cn.1
  subst hiso
  have hl : its.length ≤ m := fl.2.1
  have h1 : 1 ≤ its.length := h1
  have hkl : ts.length = its.length + 1 := g.wf.2.2.1
  have hKl : ((ts.map GT.id).map pp).length = ts.length := by rw [List.length_map, List.length_map]
  have fl : PT.Fl m lo (h := k + 1) (its, ts.map GT.pt) := fl
  have ha : Asc lt (PT.items (h := k + 1) (its, ts.map GT.pt)) := ha
  have ha1 : Asc lt its := asc_of_sub ha (PT.its_sub1 ((its, ts.map GT.pt) : PT It (k + 1)))
  have hsz : (PT.items (h := k + 1) (its, ts.map GT.pt)).length ≤ 4611686018427387903 := hsz
  have hi : ∀ {E h}, St h0 Z E h → cl h tb 0 = some (.int .u64 is') := fun s => by have := s.getZ hT0 (j := 0) (by simp); simpa using this
  have s : St h0 Z ((pb, po, [ptr n 0]) :: (((n, 0, [.int .u64 is', .int .i64 cnt, iv, ptr kb 0]) :: (ib, io, its.flatMap enc ++ isp) :: (kb, 0, [kv']) :: (krb, kro, ((ts.map GT.id).map pp).flatMap fv ++ ksp) :: ts.flatMap (GT.all enc)) ++ E)) h := by
    have e := all_eq (k := k + 1) ((⟨own, n, is', cnt, its, iv, ib, io, isp, kb, kv', krb, kro, ksp⟩ : Nd It), ts)
    rw [e] at s; exact s
  subst hcn
  have s : St h0 Z ((pb, po, [ptr n 0]) :: (n, 0, [.int .u64 is', .int .i64 (PT.items (h := k + 1) (its, ts.map GT.pt)).length, iv, ptr kb 0]) :: (ib, io, its.flatMap enc ++ isp) :: (kb, 0, [kv']) :: (krb, kro, ((ts.map GT.id).map pp).flatMap fv ++ ksp) :: (ts.flatMap (GT.all enc) ++ E)) h := s
  have hkid : ∀ {i : Nat} {c : GT It k}, ts[i]? = some c → PT.Fl m (m / 2) c.pt ∧ Gd is' c ∧ 1 ≤ c.nd.its.length ∧ c.pt.items.length ≤ 4611686018427387903 ∧ Asc lt c.pt.items := fun {i c} hc => by
    have hcm := List.mem_of_getElem? hc
    have fc : PT.Fl m (m / 2) c.pt := fl.2.2.2 _ (List.mem_map.2 ⟨c, hcm, rfl⟩)
    refine ⟨fc, g.kid hcm, by have := (fl_its fc).1; omega, ?_, ?_⟩
    rotate_left
    · have hil := (List.getElem?_eq_some_iff.1 hc).1
      obtain ⟨q, hq, _, e⟩ := PT.around fl (i := i) (by show i ≤ its.length; omega)
      have hq : (ts.map GT.pt)[i]? = some q := hq
      rw [List.getElem?_map, hc] at hq
      have := Option.some.inj hq
      subst this
      have ha2 := ha
      rw [e] at ha2; exact (asc_app (asc_app ha2).2.1).1
    have e1 : (inter its ((ts.map GT.pt).map PT.items)).length = _ := inter_length _ _
    have e2 : (inter its ((ts.map GT.pt).map PT.items)).length ≤ 4611686018427387903 := hsz
    have e3 : c.pt.items.length ≤ (((ts.map GT.pt).map PT.items).map List.length).sum := mem_le_sum (by
      rw [List.map_map, List.map_map]; exact List.mem_map.2 ⟨c, hcm, rfl⟩)
    omega
  show Map_iu_delete.call #[ptr tb 0, ptr pb po, .bool mx, kv x.1] h Q
  refine Map_iu_delete.body _ _ _ _ _ _ ?_; unfold Map_iu_delete.sh; refine s.r_alloc fun t8 h s => ?_; refine isoLoad_ok (hi s) (by have := s.get (k := 1) (j := 0) rfl (by simp); simpa using this) (fun _ => s.cl0 2 rfl rfl) ?_
  -- behind the call below the kid
  have fin : ∀ {i : Nat} {c c' : GT It k} {y : It} {ok : Bool} {its' : List It} {t8' t14 : Nat} {h : Heap}, ts[i]? = some c → c'.id = c.id → Gd is' c' → c'.pt.Fl m (c.nd.its.length - if ok then 1 else 0) → its'.length = its.length →
      Taken mx x (PT.items (h := k + 1) (its, ts.map GT.pt)) (PT.items (h := k + 1) (its', (ts.map GT.pt).set i c'.pt)) y ok →
      St h0 Z ((t14, 0, enc y) :: (t8', 0, enc emp) :: (pb, po, [ptr n 0]) :: (n, 0, [.int .u64 is', .int .i64 (PT.items (h := k + 1) (its, ts.map GT.pt)).length, iv, ptr kb 0]) :: (ib, io, its'.flatMap enc ++ isp) :: (kb, 0, [kv']) :: (krb, kro, (((ts.set i c').map GT.id).map pp).flatMap fv ++ ksp) :: ((ts.set i c').flatMap (GT.all enc) ++ E)) h →
      Map_iu_delete.j3 (ptr tb 0) (ptr t8' 0) (ptr n 0) (.int .i64 i) (ptr t14 0) (.bool ok) h Q := by
    intro i c c' y ok its' t8' t14 h hc hid gc' fc' hil hT s; obtain ⟨fc, gc, hc1, _, _⟩ := hkid hc
    have hils : i < ts.length := (List.getElem?_eq_some_iff.1 hc).1
    have w' : Own 1 iv its'.length ib io (its'.flatMap enc) isp := w.list encl hil
    have wK' : Own 1 kv' (((ts.set i c').map GT.id).map pp).length krb kro ((((ts.set i c').map GT.id).map pp).flatMap fv) ksp := by rw [set_ids hc hid]; exact wK
    have gk' : ∀ q ∈ ts.set i c', Gd is' q := fun q hq => by
      rcases List.mem_or_eq_of_mem_set hq with e | e
      · exact g.kid e
      · rw [e]; exact gc'
    have ept : (ts.set i c').map GT.pt = (ts.map GT.pt).set i c'.pt := List.map_set ..
    rw [← ept] at hT
    have hcl := (fl_its fc).1
    unfold Map_iu_delete.j3; refine r_not ?_; refine r_if (fun hn => ?_) (fun hn => ?_)
    · have hn : ok = false := by simpa using hn
      subst hn; refine r_nil ?_; refine r_fld ?_; refine s.r_lzE hT4 0 (enc emp) rfl (by simp) rfl ?_
      (refine St.r_storeN0 s 1 rfl rfl (by simp) (enc1 _) ?_; intro h s; try simp only [List.set_cons_zero, List.set_cons_succ] at s)
      refine St.r_loadN0 s 1 rfl (by simp) ?_
      cases mx with
      | true => exact absurd hT.1 (by decide)
      | false =>
        have hT0' : (match lget lt (PT.items (h := k + 1) (its, ts.map GT.pt)) x with | none => _ | some z => _ : Prop) := hT
        cases hg : lget lt (PT.items (h := k + 1) (its, ts.map GT.pt)) x with
        | some z => rw [hg] at hT0'; exact absurd hT0'.1 (by decide)
        | none =>
          rw [hg] at hT0'; obtain ⟨t', ht1, gt, ht2, ht3, ht4⟩ := mk_inner (n := n) (kb := kb) (iso := is') w' wK' (by rw [List.length_set]; omega) gk'
          have e4 : (PT.items (h := k + 1) (its', (ts.set i c').map GT.pt)).length = (PT.items (h := k + 1) (its, ts.map GT.pt)).length := congrArg List.length hT0'.2.2
          refine H t' h emp false ht1 gt ?_ (by rw [ht2]; show (match lget lt (PT.items (h := k + 1) (its, ts.map GT.pt)) x with | none => _ | some z => _ : Prop); rw [hg]; exact ⟨rfl, rfl, hT0'.2.2⟩)
            ((s.perm (E' := (t14, 0, enc y) :: (t8', 0, enc emp) :: ((pb, po, [ptr n 0]) :: (t'.all enc ++ E))) (by rw [ht4, e4]; ((apply perm_rg; intro f; simp only [set_cons_zero, set_cons_succ, eraseIdx_cons_zero, eraseIdx_cons_succ, cons_append, nil_append, map_append, map_cons, map_nil, List.sum_append, List.sum_cons, List.sum_nil, map_flatMap, Nat.add_zero, Nat.zero_add]; ac_rfl)))).drop 2)
          rw [ht2]; refine fl_inner (by rw [hil]; exact Nat.le_refl _) (by omega) (by rw [List.length_map, List.length_set]; omega) fun q hq => ?_; rw [ept] at hq
          rcases List.mem_or_eq_of_mem_set hq with e | e
          · exact fl.2.2.2 q e
          · rw [e]; exact fc'.mono (by simp; omega)
    · have hn : ok = true := by simpa using hn
      subst hn
      have hcnt : (PT.items (h := k + 1) (its, ts.map GT.pt)).length = (PT.items (h := k + 1) (its', (ts.set i c').map GT.pt)).length + 1 := by
        cases mx with
        | true => have := congrArg List.length hT.2; rw [List.length_append] at this; exact this
        | false =>
          have hT0' : (match lget lt (PT.items (h := k + 1) (its, ts.map GT.pt)) x with | none => _ | some z => _ : Prop) := hT
          have hd := ldel_len (lt := lt) (PT.items (h := k + 1) (its, ts.map GT.pt)) x
          cases hg : lget lt (PT.items (h := k + 1) (its, ts.map GT.pt)) x with
          | none => rw [hg] at hT0'; exact absurd hT0'.1 (by decide)
          | some z =>
            rw [hg] at hT0' hd; rw [hT0'.2.2]
            simpa using hd.symm
      rw [hcnt] at s; refine del_after (i := i) hT0 hT4 hmn hm3 hm1 ho w' wK' gk' (lo := lo) (by rw [ept]; exact fx_set fl (fc'.mono (by simp; omega)) its' hil) (by omega) (by omega) (by omega) s fun t' h' e1 e2 e3 g' s => ?_; refine H t' h' y true e1 g' (by rw [hil] at e3; exact e3) ?_ s
      rw [e2]; exact hT
  have s : St h0 Z ((t8, 0, enc emp) :: (pb, po, [ptr n 0]) :: (n, 0, [.int .u64 is', .int .i64 (PT.items (h := k + 1) (its, ts.map GT.pt)).length, iv, ptr kb 0]) :: (ib, io, its.flatMap enc ++ isp) :: (kb, 0, [kv']) :: (krb, kro, ((ts.map GT.id).map pp).flatMap fv ++ ksp) :: (ts.flatMap (GT.all enc) ++ E)) h := s
  refine r_if (fun hmx => ?_) (fun hmx => ?_)
  · subst hmx
    refine r_nil ?_; refine r_fld ?_; refine St.r_load0 s 2 rfl rfl ?_; refine Own.lenV (by assumption) ?_; refine r_sub1 (by omega) (by omega) ?_; unfold Map_iu_delete.j1; refine leaf_ok (a := some ⟨kb, 0, none⟩) (s.cl0 2 rfl rfl) ?_; refine r_if (fun e => absurd e (by simp)) (fun _ => ?_)
    unfold Map_iu_delete.j2; refine s.r_alloc fun t14 h s => ?_; refine r_if (fun _ => ?_) (fun e => absurd e (by simp))
    refine r_if (fun _ => ?_) (fun e => absurd e (by simp))
    refine r_add (z := ((its.length : Nat) : Int)) (by rw [i64w (by omega) (by omega)]; omega) ?_; obtain ⟨cp, hcp, _, hdel⟩ := PT.del_last fl; obtain ⟨c, hc⟩ : ∃ c, ts[its.length]? = some c := ⟨ts[its.length]'(by omega), List.getElem?_eq_getElem (by omega)⟩
    have : cp = c.pt := by
      have hcp : (ts.map GT.pt)[its.length]? = some cp := hcp
      rw [List.getElem?_map, hc] at hcp; exact (Option.some.inj hcp).symm
    subst this; obtain ⟨fc, gc, hc1, hcsz, hac⟩ := hkid hc; refine r_nil ?_; refine r_fld ?_; refine St.r_load0 s 3 rfl rfl ?_; refine r_nil ?_; refine St.r_load0 s 5 rfl rfl ?_
    (refine Own.idx (by assumption) rfl (by first | omega | (simp; done) | (simp; omega)) ?_)
    refine r_nil ?_; refine r_fld ?_; refine r_fld ?_; refine s.r_lz hT4 0 rfl rfl ?_; rw [← fpv] at s; obtain ⟨E', sk, back⟩ := lend_kid (A := (t14, 0, enc emp) :: (t8, 0, enc emp) :: (pb, po, [ptr n 0]) :: (n, 0, [.int .u64 is', .int .i64 (PT.items (h := k + 1) (its, ts.map GT.pt)).length, iv, ptr kb 0]) :: (ib, io, its.flatMap enc ++ isp) :: (kb, 0, [kv']) :: []) (E := E) (kb := kb) (kv := kv') hc s; refine ih c true emp fc hac hcsz gc hc1 sk fun c' h' y ok hid gc' fc' hT s => ?_
    have s := back c' h' hid s
    rw [fpv] at s
    have s : St h0 Z ((t14, 0, enc emp) :: (t8, 0, enc emp) :: (pb, po, [ptr n 0]) :: (n, 0, [.int .u64 is', .int .i64 (PT.items (h := k + 1) (its, ts.map GT.pt)).length, iv, ptr kb 0]) :: (ib, io, its.flatMap enc ++ isp) :: (kb, 0, [kv']) :: (krb, kro, (((ts.set its.length c').map GT.id).map pp).flatMap fv ++ ksp) :: ((ts.set its.length c').flatMap (GT.all enc) ++ E)) h' := s
    refine r_ext rfl ?_; refine r_ext rfl ?_
    (refine St.r_storeN0 s 0 rfl rfl (by simp) (enc1 _) ?_; intro h s; try simp only [List.set_cons_zero, List.set_cons_succ] at s)
    obtain ⟨rfl, hT2⟩ : ok = true ∧ c.pt.items = c'.pt.items ++ [y] := hT; refine fin hc hid gc' fc' rfl ⟨rfl, ?_⟩ s
    exact hdel c'.pt y hT2
  · subst hmx
    refine search_ok (x := x) ha1 (by omega) (s.cl0 2 rfl rfl) (w.rdl s 3 rfl) ?_; refine r_ext rfl ?_; refine r_ext rfl ?_; unfold Map_iu_delete.j1; refine leaf_ok (a := some ⟨kb, 0, none⟩) (s.cl0 2 rfl rfl) ?_; refine r_if (fun e => absurd e (by simp)) (fun _ => ?_)
    unfold Map_iu_delete.j2; refine s.r_alloc fun t14 h s => ?_
    have hple := pos_le (lt := lt) its x
    have s : St h0 Z ((t14, 0, enc emp) :: (t8, 0, enc emp) :: (pb, po, [ptr n 0]) :: (n, 0, [.int .u64 is', .int .i64 (PT.items (h := k + 1) (its, ts.map GT.pt)).length, iv, ptr kb 0]) :: (ib, io, its.flatMap enc ++ isp) :: (kb, 0, [kv']) :: (krb, kro, ((ts.map GT.id).map pp).flatMap fv ++ ksp) :: (ts.flatMap (GT.all enc) ++ E)) h := s
    obtain ⟨c, hc⟩ : ∃ c, ts[pos lt its x]? = some c := ⟨ts[pos lt its x]'(by omega), List.getElem?_eq_getElem (by omega)⟩
    have hcp : (ts.map GT.pt)[pos lt its x]? = some c.pt := by rw [List.getElem?_map, hc]; rfl
    obtain ⟨fc, gc, hc1, hcsz, hac⟩ := hkid hc
    cases hg : lget lt its x with
    | some z =>
      obtain ⟨hp, hz, h3, h4⟩ := lget_some hg; obtain ⟨cp, hcp2, _, _, hgt, hdel⟩ := PT.del_own swo fl ha hg
      have hgt : lget lt (PT.items (h := k + 1) (its, ts.map GT.pt)) x = some z := hgt
      have : cp = c.pt := Option.some.inj (hcp2.symm.trans hcp)
      subst this
      have hpz : its[pos lt its x]? = some z := by rw [List.getElem?_eq_getElem hp, hz]
      have hT2 : ∀ (c' : GT It k) y, c.pt.items = c'.pt.items ++ [y] → Taken false x (PT.items (h := k + 1) (its, ts.map GT.pt)) (PT.items (h := k + 1) (its.set (pos lt its x) y, (ts.map GT.pt).set (pos lt its x) c'.pt)) z true := fun c' y e => by
        show (match lget lt (PT.items (h := k + 1) (its, ts.map GT.pt)) x with | none => _ | some z => _ : Prop)
        rw [hgt]; exact ⟨rfl, rfl, hdel c'.pt y e⟩
      refine r_if (fun _ => ?_) (fun e => absurd e (by simp))
      refine r_if (fun e => absurd e (by simp)) (fun _ => ?_)
      refine r_nil ?_; refine r_fld ?_; refine St.r_load0 s 3 rfl rfl ?_
      (refine Own.idx (by assumption) rfl (by first | omega | (simp; done) | (simp; omega)) ?_)
      refine s.r_loadF encl 4 rfl (by assumption) ?_
      (refine St.r_storeN0 s 0 rfl rfl (by simp) (enc1 _) ?_; intro h s; try simp only [List.set_cons_zero, List.set_cons_succ] at s)
      refine r_nil ?_; refine r_fld ?_; refine St.r_load0 s 3 rfl rfl ?_; refine r_nil ?_; refine St.r_load0 s 5 rfl rfl ?_
      (refine Own.idx (by assumption) rfl (by first | omega | (simp; done) | (simp; omega)) ?_)
      refine r_nil ?_; refine r_fld ?_; refine r_fld ?_; refine s.r_lz hT4 0 rfl rfl ?_
      constructor
      · rw [← fpv] at s
        obtain ⟨E', sk, back⟩ := lend_kid (A := (t14, 0, enc z) :: (t8, 0, enc emp) :: (pb, po, [ptr n 0]) :: (n, 0, [.int .u64 is', .int .i64 (PT.items (h := k + 1) (its, ts.map GT.pt)).length, iv, ptr kb 0]) :: (ib, io, its.flatMap enc ++ isp) :: (kb, 0, [kv']) :: []) (E := E) (kb := kb) (kv := kv') hc s; refine ih c true emp fc hac hcsz gc hc1 sk fun c' h' y ok hid gc' fc' hT s => ?_
        have s := back c' h' hid s
        rw [fpv] at s
        have s : St h0 Z ((t14, 0, enc z) :: (t8, 0, enc emp) :: (pb, po, [ptr n 0]) :: (n, 0, [.int .u64 is', .int .i64 (PT.items (h := k + 1) (its, ts.map GT.pt)).length, iv, ptr kb 0]) :: (ib, io, its.flatMap enc ++ isp) :: (kb, 0, [kv']) :: (krb, kro, (((ts.set (pos lt its x) c').map GT.id).map pp).flatMap fv ++ ksp) :: ((ts.set (pos lt its x) c').flatMap (GT.all enc) ++ E)) h' := s
        obtain ⟨rfl, hT3⟩ : ok = true ∧ c.pt.items = c'.pt.items ++ [y] := hT; refine r_ext rfl ?_; refine r_ext rfl ?_; refine s.r_alloc fun t16 h s => ?_
        (refine St.r_storeN0 s 0 rfl rfl (by simp) (enc1 _) ?_; intro h s; try simp only [List.set_cons_zero, List.set_cons_succ] at s)
        refine r_nil ?_; refine r_fld ?_; refine St.r_load0 s 4 rfl rfl ?_; refine St.r_loadN0 s 0 rfl (by simp) ?_
        (refine Own.idx (by assumption) rfl (by first | omega | (simp; done) | (simp; omega)) ?_)
        (refine s.r_storeF encl 5 rfl (by first | omega | (simp; done) | (simp; omega)) (enc1 _) ?_; intro h s; try simp only [List.set_cons_zero, List.set_cons_succ] at s)
        exact fin hc hid gc' fc' (List.length_set ..) (hT2 c' y hT3) (s.drop 1)
      · refine s.r_alloc fun t16 h s => ?_
        refine ⟨by exact St.r_still0 s 4 rfl rfl, by exact St.r_still0 s 6 rfl rfl, s.r_stillZ hT4 0 rfl rfl, ?_⟩
        rw [← fpv] at s; obtain ⟨E', sk, back⟩ := lend_kid (A := (t16, 0, enc emp) :: (t14, 0, enc z) :: (t8, 0, enc emp) :: (pb, po, [ptr n 0]) :: (n, 0, [.int .u64 is', .int .i64 (PT.items (h := k + 1) (its, ts.map GT.pt)).length, iv, ptr kb 0]) :: (ib, io, its.flatMap enc ++ isp) :: (kb, 0, [kv']) :: []) (E := E) (kb := kb) (kv := kv') hc s; refine ih c true emp fc hac hcsz gc hc1 sk fun c' h' y ok hid gc' fc' hT s => ?_
        have s := back c' h' hid s
        rw [fpv] at s
        have s : St h0 Z ((t16, 0, enc emp) :: (t14, 0, enc z) :: (t8, 0, enc emp) :: (pb, po, [ptr n 0]) :: (n, 0, [.int .u64 is', .int .i64 (PT.items (h := k + 1) (its, ts.map GT.pt)).length, iv, ptr kb 0]) :: (ib, io, its.flatMap enc ++ isp) :: (kb, 0, [kv']) :: (krb, kro, (((ts.set (pos lt its x) c').map GT.id).map pp).flatMap fv ++ ksp) :: ((ts.set (pos lt its x) c').flatMap (GT.all enc) ++ E)) h' := s
        obtain ⟨rfl, hT3⟩ : ok = true ∧ c.pt.items = c'.pt.items ++ [y] := hT; refine r_ext rfl ?_; refine r_ext rfl ?_
        (refine St.r_storeN0 s 0 rfl rfl (by simp) (enc1 _) ?_; intro h s; try simp only [List.set_cons_zero, List.set_cons_succ] at s)
        refine r_nil ?_; refine r_fld ?_; refine St.r_load0 s 4 rfl rfl ?_; refine St.r_loadN0 s 0 rfl (by simp) ?_
        (refine Own.idx (by assumption) rfl (by first | omega | (simp; done) | (simp; omega)) ?_)
        (refine s.r_storeF encl 5 rfl (by first | omega | (simp; done) | (simp; omega)) (enc1 _) ?_; intro h s; try simp only [List.set_cons_zero, List.set_cons_succ] at s)
        exact fin hc hid gc' fc' (List.length_set ..) (hT2 c' y hT3) (s.drop 1)
    | none =>
      obtain ⟨cp, hcp2, _, _, hgt, hdel⟩ := PT.del_kid swo fl ha hg
      have hgt : lget lt (PT.items (h := k + 1) (its, ts.map GT.pt)) x = lget lt cp.items x := hgt
      have : cp = c.pt := Option.some.inj (hcp2.symm.trans hcp)
      subst this; refine r_if (fun e => absurd e (by simp)) (fun _ => ?_)
      refine r_nil ?_; refine r_fld ?_; refine St.r_load0 s 3 rfl rfl ?_; refine r_nil ?_; refine St.r_load0 s 5 rfl rfl ?_
      (refine Own.idx (by assumption) rfl (by first | omega | (simp; done) | (simp; omega)) ?_)
      rw [← fpv] at s; obtain ⟨E', sk, back⟩ := lend_kid (A := (t14, 0, enc emp) :: (t8, 0, enc emp) :: (pb, po, [ptr n 0]) :: (n, 0, [.int .u64 is', .int .i64 (PT.items (h := k + 1) (its, ts.map GT.pt)).length, iv, ptr kb 0]) :: (ib, io, its.flatMap enc ++ isp) :: (kb, 0, [kv']) :: []) (E := E) (kb := kb) (kv := kv') hc s; refine ih c false x fc hac hcsz gc hc1 sk fun c' h' y ok hid gc' fc' hT s => ?_
      have s := back c' h' hid s
      rw [fpv] at s
      have s : St h0 Z ((t14, 0, enc emp) :: (t8, 0, enc emp) :: (pb, po, [ptr n 0]) :: (n, 0, [.int .u64 is', .int .i64 (PT.items (h := k + 1) (its, ts.map GT.pt)).length, iv, ptr kb 0]) :: (ib, io, its.flatMap enc ++ isp) :: (kb, 0, [kv']) :: (krb, kro, (((ts.set (pos lt its x) c').map GT.id).map pp).flatMap fv ++ ksp) :: ((ts.set (pos lt its x) c').flatMap (GT.all enc) ++ E)) h' := s
      refine r_ext rfl ?_; refine r_ext rfl ?_
      (refine St.r_storeN0 s 0 rfl rfl (by simp) (enc1 _) ?_; intro h s; try simp only [List.set_cons_zero, List.set_cons_succ] at s)
      refine fin hc hid gc' fc' rfl ?_ s
      have hT : (match lget lt c.pt.items x with | none => _ | some z => _ : Prop) := hT
      show (match lget lt (PT.items (h := k + 1) (its, ts.map GT.pt)) x with | none => _ | some z => _ : Prop)
      rw [hgt]
      cases hg2 : lget lt c.pt.items x with
      | none =>
        rw [hg2] at hT; refine ⟨hT.1, hT.2.1, ?_⟩
        exact (hdel c'.pt (by rw [hT.2.2, ldel_none hg2])).trans (ldel_none (hgt.trans hg2))
      | some z =>
        rw [hg2] at hT; exact ⟨hT.1, hT.2.1, hdel c'.pt hT.2.2⟩
theorem DelOk.all {tb m : Nat} {iso mn : Int} {ctr : Option Addr} (hT0 : (tb, 0, hd0 iso ctr) ∈ Z) (hT4 : (tb, 4, hd4 mn m) ∈ Z) (hmn : mn = ((m / 2 : Nat) : Int)) (hm3 : 3 ≤ m) (hm1 : m ≤ 1024) (ho : m % 2 = 1) : ∀ k, DelOk h0 Z tb m iso k
  | 0 => del_leaf hT0 hT4 hm1
  | k + 1 => DelOk.succ hT0 hT4 hmn hm3 hm1 ho (DelOk.all hT0 hT4 hmn hm3 hm1 ho k)
theorem rt_of {iso : Int} {m k : Nat} {t : GT It (k + 1)} (f : t.pt.Fl m 0) (h0 : t.nd.its.length = 0) : ∃ c, t.2 = [c] ∧ t.pt.items = c.pt.items := by
  obtain ⟨d, ts⟩ := t
  have hl : ts.length = d.its.length + 1 := by have := f.2.2.1; simpa [GT.pt] using this
  have h0 : d.its.length = 0 := h0
  have hts : ts.length = 1 := by omega
  obtain ⟨c, e⟩ : ∃ c, ts = [c] := by
    cases ts with
    | nil => simp at hts
    | cons c r => cases r with
      | nil => exact ⟨c, rfl⟩
      | cons _ _ => simp at hts
  subst e; refine ⟨c, rfl, ?_⟩
  have h0 : d.its.length = 0 := h0
  show inter d.its ([c.pt.items]) = c.pt.items
  rw [List.length_eq_zero_iff.1 h0]
  simp [inter]
def rH : Rt → Nat
  | none => 0
  | some t => t.1 + 1
theorem inner_items {m lo k : Nat} {x : PT It (k + 1)} (hm : 3 ≤ m) (f : x.Fl m lo) : x.items ≠ [] := by
  intro e
  have hl : x.2.length = x.1.length + 1 := f.2.2.1
  obtain ⟨c, r, hc⟩ : ∃ c r, x.2 = c :: r := head_of (by omega)
  have hf := f.2.2.2 c (by rw [hc]; simp)
  have h1 := hf.le.1
  have h2 := (PT.its_sub c).length_le
  have h3 : (inter x.1 (x.2.map PT.items)).length = 0 := by
    have : inter x.1 (x.2.map PT.items) = [] := e
    rw [this]; rfl
  rw [inter_length, hc] at h3
  simp only [List.map_cons, List.sum_cons] at h3
  omega
theorem Delete_okH {tb m : Nat} {iso : Int} {ctr : Option Addr} {g : Rt} {x : It} (M : MapOk m iso g) (hsz : (rPt g).items.length ≤ 4611686018427387903) (s : St h0 Z ((tb, 0, hdr iso ctr (rA g) (rPt g).items.length ((m / 2 : Nat) : Int) m) :: (rAll g ++ E)) h)
    (H : ∀ (g' : Rt) h', (rPt g').items = ldel lt (rPt g).items x → MapOk m iso g' → (rH g' = rH g ∨ rH g' + 1 = rH g) → St h0 Z ((tb, 0, hdr iso ctr (rA g') (rPt g').items.length ((m / 2 : Nat) : Int) m) :: (rAll g' ++ E)) h' → Q (.tuple #[old (lget lt (rPt g).items x), .bool (lget lt (rPt g).items x).isSome]) h') :
    Map_iu_Delete.call #[ptr tb 0, kv x.1] h Q := by
  have key : ∀ g' : Rt, (rPt g').items = ldel lt (rPt g).items x → rGd iso g' → (rPt g').Fl m → MapOk m iso g' := fun g' e gd f => ⟨gd, f, by rw [e]; exact asc_of_sub M.asc (ldel_sub _ _), M.m3, M.m1, M.odd⟩
  refine Map_iu_Delete.body _ _ _ _ ?_; unfold Map_iu_Delete.sh
  have htb : h0.size ≤ tb := (s.e _ (List.mem_cons_self ..)).2 (by simp)
  refine s.r_alloc fun t4 h s => ?_
  have s := s.drop 1
  cases g with
  | none =>
    refine r_nil ?_; refine r_fld ?_; refine St.r_load0 s 0 rfl rfl ?_; refine r_eqNilP ?_; refine r_if (fun _ => ?_) (fun e => absurd e (by simp [rA]))
    refine r_nil ?_; refine r_fld ?_; refine r_fldZE zall s 0 rfl (by simp) ?_; refine r_ld00 ?_; refine r_st00 ?_; refine r_ld00 ?_; exact H none h rfl (key none rfl trivial trivial) (.inl rfl) s
  | some t =>
    obtain ⟨k, t⟩ := t
    have s := hdr_cut s
    obtain ⟨s1, back⟩ := St.borrow (A := [(tb, 0, hd0 iso ctr), (tb, 4, hd4 ((m / 2 : Nat) : Int) m)]) (E := (tb, 2, [ptr t.id 0]) :: (tb, 3, [.int .i64 t.pt.items.length]) :: (t.all enc ++ E)) s
    have hT0 : (tb, 0, hd0 iso ctr) ∈ [(tb, 0, hd0 iso ctr), (tb, 4, hd4 ((m / 2 : Nat) : Int) m)] ++ Z := List.mem_cons_self ..
    have hT4 : (tb, 4, hd4 ((m / 2 : Nat) : Int) m) ∈ [(tb, 0, hd0 iso ctr), (tb, 4, hd4 ((m / 2 : Nat) : Int) m)] ++ Z := List.mem_cons_of_mem _ (List.mem_cons_self ..)
    have s := s1
    refine r_nil ?_; refine r_fld ?_; refine s.r_loadI 0 0 rfl rfl rfl ?_; refine r_eqNilP ?_; refine r_if (fun e => absurd e (by simp)) (fun _ => ?_)
    unfold Map_iu_Delete.j1; refine r_nil ?_; refine r_fld ?_
    have h1 : 1 ≤ t.nd.its.length := (fl_its M.fl).1
    have s2 : St h0 ([(tb, 0, hd0 iso ctr), (tb, 4, hd4 ((m / 2 : Nat) : Int) m)] ++ Z) ((tb, 0 + 2, [ptr t.id 0]) :: (t.all enc ++ ((tb, 3, [.int .i64 t.pt.items.length]) :: E))) h := s.perm (by ((apply perm_rg; intro f; simp only [set_cons_zero, set_cons_succ, eraseIdx_cons_zero, eraseIdx_cons_succ, cons_append, nil_append, map_append, map_cons, map_nil, List.sum_append, List.sum_cons, List.sum_nil, map_flatMap, Nat.add_zero, Nat.zero_add]; ac_rfl)))
    refine DelOk.all hT0 hT4 rfl M.m3 M.m1 M.odd k t false x M.fl M.asc hsz M.gd h1 s2 fun t' h' y ok e1 g' f' hT s => ?_
    have s : St h0 ([(tb, 0, hd0 iso ctr), (tb, 4, hd4 ((m / 2 : Nat) : Int) m)] ++ Z) ((tb, 2, [ptr t.id 0]) :: (tb, 3, [.int .i64 t.pt.items.length]) :: (t'.all enc ++ E)) h' := s.perm (by ((apply perm_rg; intro f; simp only [set_cons_zero, set_cons_succ, eraseIdx_cons_zero, eraseIdx_cons_succ, cons_append, nil_append, map_append, map_cons, map_nil, List.sum_append, List.sum_cons, List.sum_nil, map_flatMap, Nat.add_zero, Nat.zero_add]; ac_rfl)))
    have hT : (match lget lt t.pt.items x with | none => _ | some z => _ : Prop) := hT
    have H : ∀ (g' : Rt) h', (rPt g').items = ldel lt t.pt.items x → MapOk m iso g' → (rH g' = k + 1 ∨ rH g' + 1 = k + 1) → St h0 Z ((tb, 0, hdr iso ctr (rA g') (rPt g').items.length ((m / 2 : Nat) : Int) m) :: (rAll g' ++ E)) h' → Q (.tuple #[old (lget lt t.pt.items x), .bool (lget lt t.pt.items x).isSome]) h' := H
    have key : ∀ g' : Rt, (rPt g').items = ldel lt t.pt.items x → rGd iso g' → (rPt g').Fl m → MapOk m iso g' := key
    have hdl := ldel_len (lt := lt) t.pt.items x
    have hsz : t.pt.items.length ≤ 4611686018427387903 := hsz
    refine r_ext rfl ?_; refine r_ext rfl ?_; refine s.r_alloc fun t6 h s => ?_
    (refine St.r_storeN0 s 0 rfl rfl (by simp) (enc1 _) ?_; intro h s; try simp only [List.set_cons_zero, List.set_cons_succ] at s)
    refine r_not ?_
    cases hg : lget lt t.pt.items x with
    | none =>
      rw [hg] at hT H; obtain ⟨rfl, rfl, e3⟩ := hT; refine r_if (fun _ => ?_) (fun e => absurd e (by simp))
      refine r_nil ?_; refine r_fld ?_; refine r_fldZT zall s htb hT4 (by simp) ?_; refine r_ld00 ?_; refine r_st00 ?_; refine r_ld00 ?_
      have e4 : t'.pt.items = ldel lt t.pt.items x := by rw [ldel_none hg]; exact e3
      refine H (some ⟨k, t'⟩) h e4 (key (some ⟨k, t'⟩) e4 g' (f'.mono (by simp; omega))) (.inl rfl) ?_
      have s := hdr_glue (back _ h (s.drop 1))
      show St h0 Z ((tb, 0, hdr iso ctr (some ⟨t'.id, 0, none⟩) t'.pt.items.length ((m / 2 : Nat) : Int) m) :: (t'.all enc ++ E)) h
      rw [e1, e3]; exact s
    | some z =>
      rw [hg] at hT H hdl; obtain ⟨rfl, rfl, e3⟩ := hT; refine r_if (fun e => absurd e (by simp)) (fun _ => ?_)
      have fin : ∀ (g2 : Rt) h, (rPt g2).items = ldel lt t.pt.items x → rGd iso g2 → ((rPt g2).items ≠ [] → (rPt g2).Fl m) → (rH g2 = k + 1 ∨ rH g2 + 1 = k + 1) → ((rPt g2).items = [] → k = 0) →
          St h0 ([(tb, 0, hd0 iso ctr), (tb, 4, hd4 ((m / 2 : Nat) : Int) m)] ++ Z) ((t6, 0, enc y) :: (tb, 2, [.pointer (rA g2)]) :: (tb, 3, [.int .i64 t.pt.items.length]) :: (rAll g2 ++ E)) h → Map_iu_Delete.j3 (ptr tb 0) (ptr t4 0) (ptr t6 0) h Q := by
        intro g2 h e4 gd2 f2 hH hE s
        have hl1 : t.pt.items.length = (rPt g2).items.length + 1 := by rw [e4]; simpa using hdl.symm
        unfold Map_iu_Delete.j3; refine r_nil ?_; refine r_fld ?_; refine s.r_loadI 2 0 rfl rfl rfl ?_; refine r_sub1 (by omega) (by omega) ?_; refine r_nil ?_; refine r_fld ?_
        (refine s.r_storeI 2 0 rfl rfl (by simp) rfl ?_; intro h s; try simp only [List.set_cons_zero, List.set_cons_succ] at s)
        refine r_nil ?_; refine r_fld ?_; refine s.r_loadI 2 0 rfl rfl rfl ?_; refine r_cmpI ?_; refine r_if (fun hz => ?_) (fun hz => ?_)
        · have hz : (rPt g2).items.length = 0 := by simp at hz; omega
          have e5 : ldel lt t.pt.items x = [] := by rw [← e4]; exact List.length_eq_zero_iff.1 hz
          refine r_nil ?_; refine r_fld ?_
          (refine s.r_storeI 1 0 rfl rfl (by simp) rfl ?_; intro h s; try simp only [List.set_cons_zero, List.set_cons_succ] at s)
          unfold Map_iu_Delete.j4; refine r_fldZE zall s 0 rfl (by simp) ?_; refine r_ld00 ?_; refine r_st00 ?_; refine r_ld00 ?_; refine H none h (by rw [e5]; rfl) (key none (by rw [e5]; rfl) trivial trivial) (.inr (by have := hE (List.length_eq_zero_iff.1 hz); show 0 + 1 = k + 1; omega)) ?_; rw [show t.pt.items.length - 1 = 0 by omega] at s
          have s2 : St h0 _ ((tb, 2, [.pointer none]) :: (tb, 3, [.int .i64 ((0 : Nat) : Int)]) :: E) h := (s.drop 1).sub (List.Sublist.cons_cons _ (List.Sublist.cons_cons _ (List.sublist_append_right _ _)))
          exact hdr_glue (back _ h s2)
        · have hz : (rPt g2).items.length ≠ 0 := by intro e; simp at hz; omega
          unfold Map_iu_Delete.j4; refine r_fldZE zall s 0 rfl (by simp) ?_; refine r_ld00 ?_; refine r_st00 ?_; refine r_ld00 ?_; refine H g2 h e4 (key g2 e4 gd2 (f2 (fun e => hz (by rw [e]; rfl)))) hH ?_
          have s := hdr_glue (back _ h (s.drop 1))
          rw [hl1, Nat.add_sub_cancel] at s; exact s
      unfold Map_iu_Delete.j2
      have s : St h0 ([(tb, 0, hd0 iso ctr), (tb, 4, hd4 ((m / 2 : Nat) : Int) m)] ++ Z) ((t6, 0, enc y) :: (tb, 2, [ptr t.id 0]) :: (tb, 3, [.int .i64 t.pt.items.length]) :: (t'.all enc ++ E)) h := s
      have wt := g'.own
      rw [all_eq t', e1] at s
      have s : St h0 ([(tb, 0, hd0 iso ctr), (tb, 4, hd4 ((m / 2 : Nat) : Int) m)] ++ Z) ((t6, 0, enc y) :: (tb, 2, [ptr t.id 0]) :: (tb, 3, [.int .i64 t.pt.items.length]) :: (t.id, 0, [.int .u64 t'.nd.iso, .int .i64 t'.nd.cnt, t'.nd.iv, GT.kp t']) :: (t'.nd.ib, t'.nd.io, t'.nd.its.flatMap enc ++ t'.nd.isp) :: (GT.rest t' ++ E)) h := s
      have base : t'.nd.its.length ≠ 0 ∨ t'.pt.items = [] → Map_iu_Delete.j3 (ptr tb 0) (ptr t4 0) (ptr t6 0) h Q := fun hb => by
        refine fin (some ⟨k, t'⟩) h e3 g' (fun hne => ?_) (.inl rfl) (fun he => ?_) ?_
        · rcases hb with hb | hb
          · exact (fl_any (lo' := 1) f' (by rw [GT.pt_its]; omega) : t'.pt.Fl m 1)
          · exact absurd hb hne
        · cases k with
          | zero => rfl
          | succ k => exact absurd he (inner_items M.m3 f')
        · show St h0 _ ((t6, 0, enc y) :: (tb, 2, [ptr t'.id 0]) :: (tb, 3, [.int .i64 t.pt.items.length]) :: (t'.all enc ++ E)) h
          rw [all_eq t', e1]; exact s
      refine r_nil ?_; refine r_fld ?_; refine s.r_loadI 1 0 rfl rfl rfl ?_; refine r_nil ?_; refine r_fld ?_; refine St.r_load0 s 3 rfl rfl ?_; refine Own.lenV (by assumption) ?_; refine r_cmpI ?_; refine r_br (fun hz => ?_) (fun hz => ?_)
      · have hz : t'.nd.its.length = 0 := by have := eq_of_beq hz; omega
        refine r_nil ?_; refine r_fld ?_; refine s.r_loadI 1 0 rfl rfl rfl ?_
        cases k with
        | zero =>
          refine leaf_ok (a := none) (s.cl0 3 rfl rfl) ?_; refine r_not ?_; refine r_if (fun e => absurd e (by simp)) (fun _ => ?_)
          exact base (.inr (List.length_eq_zero_iff.1 hz))
        | succ k =>
          refine leaf_ok (a := some ⟨t'.1.kb, 0, none⟩) (s.cl0 3 rfl rfl) ?_; refine r_not ?_; refine r_if (fun _ => ?_) (fun e => absurd e (by simp))
          obtain ⟨c, ec, eit⟩ := rt_of (iso := iso) (f'.mono (Nat.zero_le _)) hz
          have wK := g'.ownK
          have s : St h0 ([(tb, 0, hd0 iso ctr), (tb, 4, hd4 ((m / 2 : Nat) : Int) m)] ++ Z) ((t6, 0, enc y) :: (tb, 2, [ptr t.id 0]) :: (tb, 3, [.int .i64 t.pt.items.length]) :: (t.id, 0, [.int .u64 t'.nd.iso, .int .i64 t'.nd.cnt, t'.nd.iv, ptr t'.1.kb 0]) :: (t'.nd.ib, t'.nd.io, t'.nd.its.flatMap enc ++ t'.nd.isp) ::
            (t'.1.kb, 0, [t'.1.kv]) :: (t'.1.krb, t'.1.kro, ((t'.2.map GT.id).map pp).flatMap fv ++ t'.1.ksp) :: (t'.2.flatMap (GT.all enc) ++ E)) h := s
          have hc0 : ((t'.2.map GT.id).map pp)[0]? = some (ptr c.id 0) := by rw [ec]; rfl
          have hkl0 : 0 < ((t'.2.map GT.id).map pp).length := by rw [ec]; simp
          refine r_nil ?_; refine r_fld ?_; refine s.r_loadI 1 0 rfl rfl rfl ?_; refine r_nil ?_; refine r_fld ?_; refine St.r_load0 s 3 rfl rfl ?_; refine r_nil ?_; refine St.r_load0 s 5 rfl rfl ?_
          (refine Own.idx (by assumption) rfl (by first | omega | (simp; done) | (simp; omega)) ?_)
          refine s.r_loadV 6 rfl (by assumption) ?_; refine r_nil ?_; refine r_fld ?_
          (refine s.r_storeI 1 0 rfl rfl (by simp) rfl ?_; intro h s; try simp only [List.set_cons_zero, List.set_cons_succ] at s)
          refine fin (some ⟨k, c⟩) h (by rw [← e3, eit]; rfl) (g'.kid (by rw [ec]; simp)) (fun _ => ?_) (.inr rfl) (fun he => ?_) ((s.perm (E' := (t.id, 0, [.int .u64 t'.nd.iso, .int .i64 t'.nd.cnt, t'.nd.iv, ptr t'.1.kb 0]) :: (t'.nd.ib, t'.nd.io, t'.nd.its.flatMap enc ++ t'.nd.isp) :: (t'.1.kb, 0, [t'.1.kv]) :: (t'.1.krb, t'.1.kro, ((t'.2.map GT.id).map pp).flatMap fv ++ t'.1.ksp) :: ((t6, 0, enc y) :: (tb, 2, [ptr c.id 0]) :: (tb, 3, [.int .i64 t.pt.items.length]) :: (c.all enc ++ E))) ?_).drop 4)
          · have m3 := M.m3
            have := f'.2.2.2 c.pt (List.mem_map.2 ⟨c, by rw [ec]; simp, rfl⟩)
            exact this.mono (by omega)
          · have m3 := M.m3
            have hf := f'.2.2.2 c.pt (List.mem_map.2 ⟨c, by rw [ec]; simp, rfl⟩)
            have h8 := hf.le.1
            have h9 := (PT.its_sub c.pt).length_le
            have he : c.pt.items = [] := he
            rw [he] at h9
            simp at h9
            rw [h9] at h8
            simp at h8
            omega
          · have e6 : t'.2.flatMap (GT.all enc) = c.all enc := by rw [ec]; simp
            rw [e6]
            ((apply perm_rg; intro f; simp only [set_cons_zero, set_cons_succ, eraseIdx_cons_zero, eraseIdx_cons_succ, cons_append, nil_append, map_append, map_cons, map_nil, List.sum_append, List.sum_cons, List.sum_nil, map_flatMap, Nat.add_zero, Nat.zero_add]; ac_rfl))
      · have hz : t'.nd.its.length ≠ 0 := by intro e; simp [e] at hz
        exact base (.inl hz)
theorem Delete_ok {tb m : Nat} {iso : Int} {ctr : Option Addr} {g : Rt} {x : It} (M : MapOk m iso g) (hsz : (rPt g).items.length ≤ 4611686018427387903) (s : St h0 Z ((tb, 0, hdr iso ctr (rA g) (rPt g).items.length ((m / 2 : Nat) : Int) m) :: (rAll g ++ E)) h)
    (H : ∀ (g' : Rt) h', (rPt g').items = ldel lt (rPt g).items x → MapOk m iso g' → St h0 Z ((tb, 0, hdr iso ctr (rA g') (rPt g').items.length ((m / 2 : Nat) : Int) m) :: (rAll g' ++ E)) h' → Q (.tuple #[old (lget lt (rPt g).items x), .bool (lget lt (rPt g).items x).isSome]) h') :
    Map_iu_Delete.call #[ptr tb 0, kv x.1] h Q := Delete_okH M hsz s fun g' h' e m _ s => H g' h' e m s
end Go.Proofs.Ytdpkpcmoabfofaa.Iu
end
section
namespace Go.Proofs.Ytdpkpcmoabfofaa.Iu
open Go.Hp Go.Proofs.Ytdpkpcmoabfofaa
variable {h0 h : Heap} {Z E : List Rg} {Q : Value → Heap → Prop}
theorem topIso : ∀ {k : Nat} {t : GT It k}, ∃ a2 a3 a4, (t.id, 0, [.int .u64 t.nd.iso, a2, a3, a4]) ∈ t.all enc
  | 0, d => ⟨_, _, _, List.mem_cons_self ..⟩
  | _ + 1, t => ⟨_, _, _, List.mem_append.2 (.inl (List.mem_cons_self ..))⟩
theorem found_at {lt : It → It → Bool} (o : Swo lt) {its : List It} {x : It} (ha : Asc lt its) {i : Nat} (hi : i < its.length) (h1 : lt x its[i] = false) (h2 : lt its[i] x = false) : pos lt its x = i ∧ (lget lt its x).isSome = true := by
  have hs : ∀ i j (hi : i < its.length) (hj : j < its.length), i < j → lt its[i] its[j] = true := fun i j hi hj hij => List.pairwise_iff_getElem.1 ha i j hi hj hij
  have e : pos lt its x = i := pos_uni (by omega) (fun j hj hjl => o.tr1 (hs j i hj hi hjl) h1) (fun _ => h2)
  refine ⟨e, ?_⟩
  unfold lget; rw [e, List.getElem?_eq_getElem hi, Option.bind_some, h1]; rfl
theorem PT.height_le {m : Nat} (hm : 3 ≤ m) : ∀ {k lo : Nat} {t : PT It k}, t.Fl m lo → 1 ≤ lo → k < t.items.length
  | 0, lo, t, f, hl => by have f : lo ≤ List.length (α := It) t := f.1; show 0 < List.length (α := It) t; omega
  | k + 1, lo, t, f, hl => by
    have h1 := f.1
    have h2 := f.2.2.1
    obtain ⟨c, r, e⟩ := head_of (l := t.2) (by omega)
    have hc := PT.height_le hm (f.2.2.2 c (by rw [e]; simp)) (by omega)
    have h3 : (inter t.1 (t.2.map PT.items)).length = _ := inter_length _ _
    show k + 1 < (inter t.1 (t.2.map PT.items)).length
    rw [h3, e]
    simp only [List.map_cons, List.sum_cons]
    omega
theorem Own.slcAll {α : Type} {f : α → List Value} {sz : Nat} (hf : ∀ x, (f x).length = sz) {K : Value → Prop} {v : Value} {b o : Nat} {L : List α} {sp : List Value} (w : Own sz v L.length b o (L.flatMap f) sp)
    (H : ∀ v', Own sz v' (L.drop 0).length b (o + 0 * sz) ((L.drop 0).flatMap f) sp → K v') : slc sz v none none none K := by
  have w0 := w
  obtain ⟨a, cap, e, h1, h2, h3, h4⟩ := w.ex; subst e; refine ⟨a, L.length, cap, 0, L.length, cap, rfl, rfl, rfl, rfl, H _ ?_⟩
  have ea : (if cap = 0 then a else a.map (·.add (0 * sz))) = a := by
    split
    · rfl
    · rw [Nat.zero_mul]; cases a <;> rfl
  rw [ea, List.drop_zero, Nat.zero_mul, Nat.add_zero, Nat.sub_zero, Nat.sub_zero]; exact w0
def bmp {It : Type} (sd : Bool) (δ : Int) : {h : Nat} → GT It h → GT It h
  | 0, d => ({ (d : Nd It) with cnt := Nd.cnt d + δ } : Nd It)
  | _ + 1, t => ({ t.1 with cnt := t.1.cnt + δ }, t.2.modify (if sd then t.2.length - 1 else 0) (bmp sd δ))
theorem bmp_id {It : Type} {sd : Bool} {δ : Int} : ∀ {h : Nat} (t : GT It h), (bmp sd δ t).id = t.id
  | 0, _ => rfl
  | _ + 1, _ => rfl
theorem modify_at {β : Type} {l : List β} {f : β → β} {c : β} {i : Nat} (hc : l[i]? = some c) : l.modify i f = l.set i (f c) := by
  obtain ⟨hi, rfl⟩ := List.getElem?_eq_some_iff.1 hc
  apply List.ext_getElem?
  intro j; rw [List.getElem?_modify, List.getElem?_set]
  by_cases e : i = j
  · subst e; simp [hi, List.getElem?_eq_getElem hi]
  · simp [e]
def Ends (sd : Bool) (x : It) (R l : List It) : Prop := if sd then l = R ++ [x] else l = x :: R
theorem Ends.len {sd : Bool} {x : It} {R l : List It} (e : Ends sd x R l) : l.length = R.length + 1 := by
  unfold Ends at e; split at e <;> rw [e] <;> simp
theorem items_set {m lo k : Nat} {its : List It} {kids : List (PT It k)} {i : Nat} {c c' : PT It k} (fl : PT.Fl m lo (h := k + 1) (its, kids)) (hi : i ≤ its.length) (hc : kids[i]? = some c) (hc' : PT.Fl m (m / 2) c') :
    PT.Fl m lo (h := k + 1) (its, kids.set i c') ∧ ∃ A B, PT.items (h := k + 1) (its, kids) = A ++ (c.items ++ B) ∧ PT.items (h := k + 1) (its, kids.set i c') = A ++ (c'.items ++ B) ∧ (i = 0 → A = []) ∧ (i = its.length → B = []) := by
  have hkl : kids.length = its.length + 1 := fl.2.2.1
  have f' : PT.Fl m lo (h := k + 1) (its, kids.set i c') := by
    refine ⟨fl.1, fl.2.1, ?_, fun q hq => ?_⟩
    · show (kids.set i c').length = its.length + 1
      rw [List.length_set]; exact hkl
    · rcases List.mem_or_eq_of_mem_set (show q ∈ kids.set i c' from hq) with e | e
      · exact fl.2.2.2 q e
      · rw [e]; exact hc'
  refine ⟨f', lz (its.take i) ((kids.take i).map PT.items), rz (its.drop i) ((kids.drop (i + 1)).map PT.items), ?_, ?_, fun e => ?_, fun e => ?_⟩
  · obtain ⟨c0, h0, _, e⟩ := PT.around (t := ((its, kids) : PT It (k + 1))) fl hi
    have h0 : kids[i]? = some c0 := h0
    rw [hc] at h0; rw [← Option.some.inj h0] at e; exact e
  · obtain ⟨c0, h0, _, e⟩ := PT.around (t := ((its, kids.set i c') : PT It (k + 1))) f' hi
    have h0 : (kids.set i c')[i]? = some c0 := h0
    rw [List.getElem?_set_self (by omega)] at h0; rw [← Option.some.inj h0] at e
    have e1 : (kids.set i c').take i = kids.take i := List.take_set_of_le (Nat.le_refl _)
    have e2 : (kids.set i c').drop (i + 1) = kids.drop (i + 1) := List.drop_set_of_lt (by omega)
    have e : PT.items (h := k + 1) (its, kids.set i c') = lz (its.take i) (((kids.set i c').take i).map PT.items) ++ (c'.items ++ rz (its.drop i) (((kids.set i c').drop (i + 1)).map PT.items)) := e
    rw [e1, e2] at e; exact e
  · subst e; rfl
  · subst e; rw [List.drop_length]; rfl
theorem ends_del (o : Swo lt) {sd : Bool} {x : It} {R l : List It} (e : Ends sd x R l) (ha : Asc lt l) : lget lt l x = some x ∧ ldel lt l x = R := by
  obtain ⟨i, hi, hx, he⟩ : ∃ i, ∃ hi : i < l.length, l[i] = x ∧ l.eraseIdx i = R := by
    unfold Ends at e
    split at e
    · subst e; exact ⟨R.length, by simp, by simp, by rw [eraseIdx_at (P := R) (S := []) (y := x) rfl, List.append_nil]⟩
    · subst e; exact ⟨0, by simp, rfl, rfl⟩
  obtain ⟨p1, p2⟩ := found_at o ha hi (x := x) (by rw [hx]; exact o.irr x) (by rw [hx]; exact o.irr x); obtain ⟨y, hy⟩ := Option.isSome_iff_exists.1 p2; obtain ⟨hp, h1, _, _⟩ := lget_some hy
  have h2 : l[pos lt l x]? = some x := by rw [p1, List.getElem?_eq_getElem hi, hx]
  rw [List.getElem?_eq_getElem hp, h1] at h2; refine ⟨by rw [hy]; exact h2, ?_⟩
  rw [ldel_some hy, ← List.eraseIdx_eq_take_drop_succ, p1, he]
def Popped (sd : Bool) (r : Option It) (l l' : List It) : Prop := match r with
  | none => l = [] ∧ l' = []
  | some x => Ends sd x l' l
def popEnd (tb : Nat) (t2 t6 : Value) (h : Heap) (Q : Value → Heap → Prop) : Prop :=
  nilck (ptr tb 0) fun a => fld 3 a fun t90 => load1 t90 h fun t91 => arith (· - ·) t91 (.int .i64 1) fun t92 => nilck (ptr tb 0) fun b => fld 3 b fun t94 => store1 t94 t92 h fun h => nilck (ptr tb 0) fun c => fld 3 c fun t97 => load1 t97 h fun t98 =>
    cmpI (fun a b => a == b) t98 (.int .i64 0) fun t99 => ifV t99
      (nilck (ptr tb 0) fun d => fld 2 d fun t102 => store1 t102 (.pointer none) h fun h => fld 0 t6 fun t1 => load1 t1 h fun t2' => fldZ Try.prog 0 t6 h fun t3 => loadN 0 t3 h fun t4 => storeN 0 t2 t4 h fun h => loadN 0 t2 h fun r => Q (.tuple #[t2', r, (.bool true)]) h)
      (fld 0 t6 fun t1 => load1 t1 h fun t2' => fldZ Try.prog 0 t6 h fun t3 => loadN 0 t3 h fun t4 => storeN 0 t2 t4 h fun h => loadN 0 t2 h fun r => Q (.tuple #[t2', r, (.bool true)]) h)
namespace PopMin
theorem up_pop {tr t2 t5 : Value} {iso : Int} {m : Nat} (hm : m ≤ 1024) : ∀ {k : Nat} (c : GT It k) {lo : Nat} {E : List Rg} {h : Heap}, c.pt.Fl m lo → Gd iso c → c.pt.items.length ≤ 4611686018427387903 → St h0 Z ((bmp false (-1) c).all enc ++ E) h → (∀ h', St h0 Z (c.all enc ++ E) h' → Map_iu_PopMin.j3 tr t2 t5 h' Q) →
    LoopOk (fun c s h K1 => Map_iu_PopMin.l5.b (c.getD 0 undef) (c.getD 1 undef) (c.getD 2 undef) (s.getD 0 undef) h K1 Q) [tr, t2, t5] k [ptr c.id 0] h
  | 0, (d : Nd It), lo, E, h, fl, g, hsz, s, H => by
    obtain ⟨own, n, is', cnt, its, iv, ib, io, isp, kb, kv', krb, kro, ksp⟩ := d; intro K
    have s : St h0 Z ((n, 0, [.int .u64 is', .int .i64 (cnt + -1), iv, .pointer none]) :: (ib, io, its.flatMap enc ++ isp) :: E) h := s
    have hcn : cnt = its.length := g.cn
    have hsz : its.length ≤ 4611686018427387903 := hsz
    show Map_iu_PopMin.l5.b tr t2 t5 (ptr n 0) h K Q
    unfold Map_iu_PopMin.l5.b; refine r_nil ?_; refine r_fld ?_; refine St.r_load0 s 0 rfl rfl ?_; refine r_add (z := cnt) (by rw [i64w (by omega) (by omega)]; omega) ?_; refine r_nil ?_; refine r_fld ?_; refine St.r_store0 s 0 rfl (by simp) rfl ?_; intro h s
    try simp only [List.set_cons_zero, List.set_cons_succ] at s
    refine leaf_ok (a := none) (s.get (k := 0) (j := 3) rfl (by simp)) ?_; refine r_if (fun _ => ?_) (fun e => absurd e (by simp))
    exact H h s
  | k + 1, t, lo, E, h, fl, g, hsz, s, H => by
    obtain ⟨d, ts⟩ := t; obtain ⟨own, n, is', cnt, its, iv, ib, io, isp, kb, kv', krb, kro, ksp⟩ := d; intro K HK
    have hkl : ts.length = its.length + 1 := g.wf.2.2.1
    have wK : Own 1 kv' ts.length krb kro ((ts.map GT.id).map fun m => ptr m 0) ksp := g.wf.2.1
    have hcn : cnt = (PT.items (h := k + 1) (its, ts.map GT.pt)).length := g.cn.1
    have hsz : (PT.items (h := k + 1) (its, ts.map GT.pt)).length ≤ 4611686018427387903 := hsz
    obtain ⟨c, hc⟩ : ∃ c, ts[0]? = some c := ⟨ts[0]'(by omega), List.getElem?_eq_getElem (by omega)⟩
    have hcm := List.mem_of_getElem? hc
    have hcm2 : c.pt ∈ ts.map GT.pt := List.mem_map.2 ⟨c, hcm, rfl⟩
    have hfc : PT.Fl m (m / 2) c.pt := fl.2.2.2 _ hcm2
    have hlm : its.length ≤ m := fl.2.1
    have hcsz : c.pt.items.length ≤ 4611686018427387903 := by
      have h1 : (inter its ((ts.map GT.pt).map PT.items)).length = _ := inter_length _ _
      have h2 : (inter its ((ts.map GT.pt).map PT.items)).length ≤ 4611686018427387903 := hsz
      have h3 : c.pt.items.length ≤ (((ts.map GT.pt).map PT.items).map List.length).sum := mem_le_sum (by
        rw [List.map_map, List.map_map]; exact List.mem_map.2 ⟨c, hcm, rfl⟩)
      omega
    have s : St h0 Z ((n, 0, [.int .u64 is', .int .i64 (cnt + -1), iv, ptr kb 0]) :: (ib, io, its.flatMap enc ++ isp) :: (kb, 0, [kv']) :: (krb, kro, (((ts.modify (0) (bmp false (-1))).map GT.id).map fun m => ptr m 0) ++ ksp) :: ((ts.modify (0) (bmp false (-1))).flatMap (GT.all enc) ++ E)) h := s
    rw [modify_at hc, mfp] at s
    have hi := (List.getElem?_eq_some_iff.1 hc).1
    have hc' : (ts.set (0) (bmp false (-1) c))[0]? = some (bmp false (-1) c) := List.getElem?_set_self hi
    have etake : (ts.set (0) (bmp false (-1) c)).take (0) = ts.take (0) := List.take_set_of_le (Nat.le_refl _)
    have edrop : (ts.set (0) (bmp false (-1) c)).drop (0 + 1) = ts.drop (0 + 1) := List.drop_set_of_lt (by omega)
    rw [flat_at3 (GT.all enc) hc', etake, edrop, set_ids hc (bmp_id c)] at s
    show Map_iu_PopMin.l5.b tr t2 t5 (ptr n 0) h K Q
    unfold Map_iu_PopMin.l5.b; refine r_nil ?_; refine r_fld ?_; refine St.r_load0 s 0 rfl rfl ?_; refine r_add (z := cnt) (by rw [i64w (by omega) (by omega)]; omega) ?_; refine r_nil ?_; refine r_fld ?_; refine St.r_store0 s 0 rfl (by simp) rfl ?_; intro h s
    try simp only [List.set_cons_zero, List.set_cons_succ] at s
    refine leaf_ok (a := some ⟨kb, 0, Option.none⟩) (s.get (k := 0) (j := 3) rfl (by simp)) ?_; refine r_if (fun e => absurd e (by simp)) (fun _ => ?_)
    unfold Map_iu_PopMin.j6; refine r_nil ?_; refine r_fld ?_; refine St.r_load0 s 0 rfl rfl ?_; refine r_nil ?_; refine St.r_load0 s 2 rfl rfl ?_; refine wK.idx (n := 0) rfl (by omega) ?_; refine r_loadM1 s 3 rfl hc ?_
    have := up_pop (tr := tr) (t2 := t2) (t5 := t5) hm c (E := (n, 0, [.int .u64 is', .int .i64 cnt, iv, ptr kb 0]) :: (ib, io, its.flatMap enc ++ isp) :: (kb, 0, [kv']) :: (krb, kro, (ts.map GT.id).flatMap fp ++ ksp) :: ((ts.take (0)).flatMap (GT.all enc) ++ ((ts.drop (0 + 1)).flatMap (GT.all enc) ++ E))) hfc (g.kid hcm) hcsz (s.perm (by ((apply perm_rg; intro f; simp only [set_cons_zero, set_cons_succ, eraseIdx_cons_zero, eraseIdx_cons_succ, cons_append, nil_append, map_append, map_cons, map_nil, List.sum_append, List.sum_cons, List.sum_nil, map_flatMap, Nat.add_zero, Nat.zero_add]; ac_rfl)))) fun h' s => ?_
    · exact HK _ _ this
    · refine H h' ?_
      have s1 : St h0 Z ((n, 0, [.int .u64 is', .int .i64 cnt, iv, ptr kb 0]) :: (ib, io, its.flatMap enc ++ isp) :: (kb, 0, [kv']) :: (krb, kro, (ts.map GT.id).flatMap fp ++ ksp) :: (ts.flatMap (GT.all enc) ++ E)) h' := s.perm (by rw [flat_at3 (GT.all enc) hc]; ((apply perm_rg; intro f; simp only [set_cons_zero, set_cons_succ, eraseIdx_cons_zero, eraseIdx_cons_succ, cons_append, nil_append, map_append, map_cons, map_nil, List.sum_append, List.sum_cons, List.sum_nil, map_flatMap, Nat.add_zero, Nat.zero_add]; ac_rfl)))
      rw [← mfp] at s1; exact s1
theorem down_pop {t2 : Value} {tb t5 m : Nat} {iso : Int} {ctr : Option Addr} (hT0 : (tb, 0, hd0 iso ctr) ∈ Z) (hT4 : (tb, 4, hd4 ((m / 2 : Nat) : Int) m) ∈ Z) (hm : m ≤ 1024) (hm3 : 3 ≤ m) : ∀ {k : Nat} (c : GT It k) {lo : Nat} {E : List Rg} {h : Heap}, 1 ≤ lo → (lo = m / 2 ∨ lo = 1) → c.pt.Fl m lo → Gd iso c → c.pt.items.length ≤ 4611686018427387903 → St h0 Z (c.all enc ++ ((t5, 0, enc emp) :: E)) h →
    (∀ (c' : GT It k) h' x R, Ends false x R c.pt.items → c'.pt.items = R → (c'.pt.Fl m lo ∨ (lo ≠ m / 2 ∧ R = [])) → c'.id = c.id → Gd iso c' → St h0 Z (c'.all enc ++ ((t5, 0, enc x) :: E)) h' → popEnd tb t2 (ptr t5 0) h' Q) →
    (∀ h' x R, Ends false x R c.pt.items → St h0 Z ((bmp false (-1) c).all enc ++ ((t5, 0, enc x) :: E)) h' → Map_iu_PopMin.j2 (ptr tb 0) t2 (ptr t5 0) h' Q) →
    LoopOk (fun c s h K1 => Map_iu_PopMin.l7.b (c.getD 0 undef) (c.getD 1 undef) (c.getD 2 undef) (s.getD 0 undef) h K1 Q) [ptr tb 0, t2, ptr t5 0] k [ptr c.id 0] h
  | 0, (d : Nd It), lo, E, h, hlo, hlo2, fl, g, hsz, s, H1, H2 => by
    obtain ⟨own, n, is', cnt, its, iv, ib, io, isp, kb, kv', krb, kro, ksp⟩ := d; intro K
    have hw : own = true := g.mine
    have hiso : is' = iso := g.wf.2.1 hw
    subst hiso; subst hw
    have w : Own 1 iv its.length ib io (its.flatMap enc) isp := g.wf.1
    have s : St h0 Z ((n, 0, [.int .u64 is', .int .i64 cnt, iv, .pointer none]) :: (ib, io, its.flatMap enc ++ isp) :: (t5, 0, enc emp) :: E) h := s
    have hcn : cnt = its.length := g.cn
    have hl1 : lo ≤ its.length := fl.1
    have hl2 : its.length ≤ m := fl.2
    have hE : Ends false (its[0]'(by omega)) (its.eraseIdx (0)) its := by
      cases its with
      | nil => simp at hl1; omega
      | cons a r => rfl
    have hx : its[0]? = some (its[0]'(by omega)) := List.getElem?_eq_getElem (by omega)
    generalize hxg : its[0]'(by omega) = x at *
    show Map_iu_PopMin.l7.b (ptr tb 0) t2 (ptr t5 0) (ptr n 0) h K Q
    unfold Map_iu_PopMin.l7.b; refine r_nil ?_; refine r_fld ?_; refine St.r_load0 s 0 rfl rfl ?_; refine r_sub (z := cnt + -1) (by rw [i64w (by omega) (by omega)]; omega) ?_; refine r_nil ?_; refine r_fld ?_; refine St.r_store0 s 0 rfl (by simp) rfl ?_; intro h s
    try simp only [List.set_cons_zero, List.set_cons_succ] at s
    refine leaf_ok (a := none) (s.get (k := 0) (j := 3) rfl (by simp)) ?_; refine r_if (fun _ => ?_) (fun e => absurd e (by simp))
    refine r_nil ?_; refine r_fld ?_; refine St.r_load0 s 0 rfl rfl ?_; refine w.idx (n := 0) rfl (by omega) ?_; refine s.r_loadF encl 1 rfl hx ?_; refine St.r_storeN0 s 2 rfl rfl (by simp) (enc1 x) ?_; intro h s
    have s : St h0 Z ((n, 0, [.int .u64 is', .int .i64 (cnt + -1), iv, .pointer none]) :: (ib, io, its.flatMap enc ++ isp) :: (t5, 0, enc x) :: E) h := s
    refine r_nil ?_; refine r_fld ?_; refine St.r_load0 s 0 rfl rfl ?_; refine w.lenV ?_; refine r_nil ?_; refine r_fld ?_; refine s.r_lz hT4 1 rfl rfl ?_; refine r_cmpI ?_; refine r_if (fun _ => H2 h x _ hE s) (fun hne => ?_)
    have hne : its.length ≠ m / 2 := by have := hne; simp at this; omega
    have hel : (its.eraseIdx (0)).length = its.length - 1 := by rw [List.length_eraseIdx, if_pos (by omega)]
    unfold Map_iu_PopMin.j9; refine r_nil ?_; refine r_fld ?_; refine St.r_load0 s 0 rfl rfl ?_; refine Own.slcAll encl w fun dd wd => ?_; refine r_nil ?_; refine r_fld ?_; refine St.r_load0 s 0 rfl rfl ?_; refine (w.rdl s 1 rfl).slcLo encl (i := 1) rfl (by omega) fun src rs => ?_; refine s.r_cpyF encl 1 (i := 0) (L := its) (M := its.drop 1) rfl wd (by simp) rs rfl (fun y _ => enc1 y) fun h s => ?_; refine r_nil ?_; refine r_fld ?_; refine St.r_load0 s 0 rfl rfl ?_; refine r_nil ?_; refine r_fld ?_; refine St.r_load0 s 0 rfl rfl ?_; refine w.lenV ?_; refine r_sub (z := ((its.length - 1 : Nat) : Int)) (by rw [i64w (by omega) (by omega)]; omega) ?_; refine r_nil ?_; refine r_fld ?_; refine s.r_lzE hT4 0 (enc emp) rfl (by simp) rfl ?_
    have hdl := del_len its emp (i := 0) (by omega)
    have hX := hdl
    rw [List.length_set] at hX
    have her := del_erase its emp (i := 0) (by omega)
    refine w.idx (n := its.length - 1) rfl (by omega) ?_; refine s.r_storeF encl 1 rfl (by rw [hX]; omega) (enc1 emp) ?_; intro h s
    refine r_nil ?_; refine r_fld ?_; refine St.r_load0 s 0 rfl rfl ?_; refine r_nil ?_; refine r_fld ?_; refine St.r_load0 s 0 rfl rfl ?_; refine w.lenV ?_; refine r_sub (z := ((its.length - 1 : Nat) : Int)) (by rw [i64w (by omega) (by omega)]; omega) ?_; refine (w.list encl hdl).slcHi encl rfl (by rw [hdl]; omega) fun iv2 w2 => ?_
    have s := s.del (f := enc) 1 rfl _ her
    rw [her] at w2; refine r_nil ?_; refine r_fld ?_; refine St.r_store0 s 0 rfl (by simp) w2.one ?_; intro h s
    refine H1 (⟨true, n, is', cnt + -1, its.eraseIdx (0), iv2, ib, io, _, kb, kv', krb, kro, ksp⟩ : Nd It) h x _ hE rfl ?_ rfl (Gd.leaf w2 rfl rfl (by show cnt + -1 = ((its.eraseIdx (0)).length : Int); rw [hel, hcn]; omega)) s
    rcases Nat.lt_or_ge lo its.length with e | e
    · left
      show lo ≤ (its.eraseIdx (0)).length ∧ (its.eraseIdx (0)).length ≤ m
      rw [hel]; omega
    · right
      exact ⟨by omega, List.length_eq_zero_iff.1 (by rw [hel]; omega)⟩
  | k + 1, t, lo, E, h, hlo, hlo2, fl, g, hsz, s, H1, H2 => by
    obtain ⟨d, ts⟩ := t; obtain ⟨own, n, is', cnt, its, iv, ib, io, isp, kb, kv', krb, kro, ksp⟩ := d; intro K HK
    have hw : own = true := g.mine.1
    have hiso : is' = iso := g.wf.1.2.1 hw
    subst hiso; subst hw
    have hkl : ts.length = its.length + 1 := g.wf.2.2.1
    have wK : Own 1 kv' ts.length krb kro ((ts.map GT.id).map fun m => ptr m 0) ksp := g.wf.2.1
    have hcn : cnt = (PT.items (h := k + 1) (its, ts.map GT.pt)).length := g.cn.1
    have hsz : (PT.items (h := k + 1) (its, ts.map GT.pt)).length ≤ 4611686018427387903 := hsz
    have hlm : its.length ≤ m := fl.2.1
    have hl1 : lo ≤ its.length := fl.1
    obtain ⟨c, hc⟩ : ∃ c, ts[0]? = some c := ⟨ts[0]'(by omega), List.getElem?_eq_getElem (by omega)⟩
    have hcm := List.mem_of_getElem? hc
    have hcm2 : c.pt ∈ ts.map GT.pt := List.mem_map.2 ⟨c, hcm, rfl⟩
    have hfc : PT.Fl m (m / 2) c.pt := fl.2.2.2 _ hcm2
    have fl : PT.Fl m lo (h := k + 1) (its, ts.map GT.pt) := fl
    have hcsz : c.pt.items.length ≤ 4611686018427387903 := by
      have h1 : (inter its ((ts.map GT.pt).map PT.items)).length = _ := inter_length _ _
      have h2 : (inter its ((ts.map GT.pt).map PT.items)).length ≤ 4611686018427387903 := hsz
      have h3 : c.pt.items.length ≤ (((ts.map GT.pt).map PT.items).map List.length).sum := mem_le_sum (by
        rw [List.map_map, List.map_map]; exact List.mem_map.2 ⟨c, hcm, rfl⟩)
      omega
    have hc2 : ts[0]? = some c := by
      exact hc
    have hcp : (ts.map GT.pt)[0]? = some c.pt := by rw [List.getElem?_map, hc]; rfl
    have up : ∀ {x : It} {R0 : List It} (c' : PT It k), Ends false x R0 c.pt.items → c'.items = R0 → PT.Fl m (m / 2) c' → ∃ R, Ends false x R (PT.items (h := k + 1) (its, ts.map GT.pt)) ∧ PT.items (h := k + 1) (its, (ts.map GT.pt).set (0) c') = R ∧ PT.Fl m lo (h := k + 1) (its, (ts.map GT.pt).set (0) c') := fun {x R0} c' he hr hf => by
      obtain ⟨f', A, B, e1, e2, e3, e4⟩ := items_set fl (by omega : 0 ≤ its.length) hcp hf; refine ⟨_, ?_, rfl, f'⟩
      rw [e1, e2, hr]
      have he : c.pt.items = x :: R0 := he
      show _ = x :: _
      rw [e3 rfl, he]; rfl
    have up0 : ∀ {x : It} {R0 : List It}, Ends false x R0 c.pt.items → ∃ R, Ends false x R (PT.items (h := k + 1) (its, ts.map GT.pt)) := fun {x R0} he => by
      obtain ⟨_, A, B, e1, _, e3, e4⟩ := items_set fl (by omega : 0 ≤ its.length) hcp hfc; rw [e1]
      have he : c.pt.items = x :: R0 := he
      exact ⟨R0 ++ B, by rw [e3 rfl, he]; rfl⟩
    have s : St h0 Z ((n, 0, [.int .u64 is', .int .i64 cnt, iv, ptr kb 0]) :: (ib, io, its.flatMap enc ++ isp) :: (kb, 0, [kv']) :: (krb, kro, ((ts.map GT.id).map fun m => ptr m 0) ++ ksp) :: (ts.flatMap (GT.all enc) ++ ((t5, 0, enc emp) :: E))) h := s
    rw [mfp, flat_at3 (GT.all enc) hc] at s
    show Map_iu_PopMin.l7.b (ptr tb 0) t2 (ptr t5 0) (ptr n 0) h K Q
    unfold Map_iu_PopMin.l7.b; refine r_nil ?_; refine r_fld ?_; refine St.r_load0 s 0 rfl rfl ?_; refine r_sub (z := cnt + -1) (by rw [i64w (by omega) (by omega)]; omega) ?_; refine r_nil ?_; refine r_fld ?_; refine St.r_store0 s 0 rfl (by simp) rfl ?_; intro h s
    try simp only [List.set_cons_zero, List.set_cons_succ] at s
    refine leaf_ok (a := some ⟨kb, 0, Option.none⟩) (s.get (k := 0) (j := 3) rfl (by simp)) ?_; refine r_if (fun e => absurd e (by simp)) (fun _ => ?_)
    unfold Map_iu_PopMin.j8; refine r_nil ?_; refine r_fld ?_; refine St.r_load0 s 0 rfl rfl ?_; refine r_nil ?_; refine St.r_load0 s 2 rfl rfl ?_; refine wK.idx (n := 0) rfl (by omega) ?_
    have hcell : cl h krb (kro + 0 * 1) = some (ptr c.id 0) := by
      have hid : (ts.map GT.id)[0]? = some c.id := by rw [List.getElem?_map, hc]; rfl
      obtain ⟨hi, he⟩ := List.getElem?_eq_some_iff.1 hid
      have := s.get (k := 3) (j := 0 * 1) rfl (by rw [List.length_append, flat_len fpl]; omega)
      rw [this, List.getElem?_append_left (by rw [flat_len fpl]; omega)]
      have h2 := flat_get (f := fp) fpl (ts.map GT.id) (0) hi 0 (by decide)
      rw [Nat.add_zero] at h2; rw [h2, he]; rfl
    have hciso : cl h c.id 0 = some (.int .u64 is') := by
      have hown : c.nd.own = true := (g.kid hcm).mine.nd
      obtain ⟨a2, a3, a4, hmem⟩ := topIso (t := c)
      have hci : c.nd.iso = is' := by
        have := (g.kid hcm).wf
        cases k with
        | zero => exact this.2.1 hown
        | succ k => exact this.1.2.1 hown
      rw [hci] at hmem
      have hmm : (c.id, 0, [.int .u64 is', a2, a3, a4]) ∈ c.all enc ++ (ts.drop (0 + 1)).flatMap (GT.all enc) := List.mem_append.2 (.inl hmem)
      have hmm := List.mem_append.2 (.inr hmm : _ ∈ (ts.take (0)).flatMap (GT.all enc) ∨ _)
      have hmm := List.mem_append.2 (.inl hmm : _ ∨ _ ∈ (t5, 0, enc emp) :: E)
      have := (s.e _ (List.mem_cons_of_mem _ (List.mem_cons_of_mem _ (List.mem_cons_of_mem _ (List.mem_cons_of_mem _ hmm))))).1.at0 0 rfl
      exact this
    refine isoLoad_ok (n := c.id) (iso := is') (by have := s.getZ hT0 (j := 0) (by simp); simpa using this) hcell (fun _ => hciso) ?_
    have := down_pop (t2 := t2) (t5 := t5) hT0 hT4 hm hm3 c (E := (n, 0, [.int .u64 is', .int .i64 (cnt + -1), iv, ptr kb 0]) :: (ib, io, its.flatMap enc ++ isp) :: (kb, 0, [kv']) :: (krb, kro, (ts.map GT.id).flatMap fp ++ ksp) :: ((ts.take (0)).flatMap (GT.all enc) ++ ((ts.drop (0 + 1)).flatMap (GT.all enc) ++ E))) (by omega) (.inl rfl) hfc (g.kid hcm) hcsz (s.perm (by ((apply perm_rg; intro f; simp only [set_cons_zero, set_cons_succ, eraseIdx_cons_zero, eraseIdx_cons_succ, cons_append, nil_append, map_append, map_cons, map_nil, List.sum_append, List.sum_cons, List.sum_nil, map_flatMap, Nat.add_zero, Nat.zero_add]; ac_rfl)))) (fun c' h' x R0 a1 a2 a3 a4 a5 s => ?_) (fun h' x R0 a1 s => ?_)
    · exact HK _ _ this
    · have hf' : PT.Fl m (m / 2) c'.pt := by
        rcases a3 with e | e
        · exact e
        · exact absurd rfl e.1
      obtain ⟨R, u1, u2, u3⟩ := up c'.pt a1 a2 hf'
      have ept : (ts.set (0) c').map GT.pt = (ts.map GT.pt).set (0) c'.pt := by rw [List.map_set]
      have hi := (List.getElem?_eq_some_iff.1 hc).1
      have hc' : (ts.set (0) c')[0]? = some c' := List.getElem?_set_self hi
      have etake : (ts.set (0) c').take (0) = ts.take (0) := List.take_set_of_le (Nat.le_refl _)
      have edrop : (ts.set (0) c').drop (0 + 1) = ts.drop (0 + 1) := List.drop_set_of_lt (by omega)
      have hlen := u1.len
      refine H1 ((⟨true, n, is', cnt + -1, its, iv, ib, io, isp, kb, kv', krb, kro, ksp⟩ : Nd It), ts.set (0) c') h' x R u1 (by show PT.items (h := k + 1) (its, (ts.set (0) c').map GT.pt) = _; rw [ept]; exact u2) (.inl (by show PT.Fl m lo (h := k + 1) (its, (ts.set (0) c').map GT.pt); rw [ept]; exact u3)) rfl
        (Gd.setKid (d := ⟨true, n, is', cnt, its, iv, ib, io, isp, kb, kv', krb, kro, ksp⟩) g hc a4 a5 (by
          show cnt + -1 = ((PT.items (h := k + 1) (its, (ts.set (0) c').map GT.pt)).length : Int); rw [ept, u2]; omega)) ?_
      have s1 : St h0 Z ((n, 0, [.int .u64 is', .int .i64 (cnt + -1), iv, ptr kb 0]) :: (ib, io, its.flatMap enc ++ isp) :: (kb, 0, [kv']) :: (krb, kro, ((ts.set (0) c').map GT.id).flatMap fp ++ ksp) :: ((ts.set (0) c').flatMap (GT.all enc) ++ ((t5, 0, enc x) :: E))) h' :=
        s.perm (by rw [set_ids hc a4, flat_at3 (GT.all enc) hc', etake, edrop]; ((apply perm_rg; intro f; simp only [set_cons_zero, set_cons_succ, eraseIdx_cons_zero, eraseIdx_cons_succ, cons_append, nil_append, map_append, map_cons, map_nil, List.sum_append, List.sum_cons, List.sum_nil, map_flatMap, Nat.add_zero, Nat.zero_add]; ac_rfl)))
      rw [← mfp] at s1; exact s1
    · obtain ⟨R, u1⟩ := up0 a1
      refine H2 h' x R u1 ?_
      have hi := (List.getElem?_eq_some_iff.1 hc2).1
      have hc' : (ts.set (0) (bmp false (-1) c))[0]? = some (bmp false (-1) c) := List.getElem?_set_self hi
      have etake : (ts.set (0) (bmp false (-1) c)).take (0) = ts.take (0) := by rw [List.take_set_of_le (Nat.le_refl _)]
      have edrop : (ts.set (0) (bmp false (-1) c)).drop (0 + 1) = ts.drop (0 + 1) := by rw [List.drop_set_of_lt (by omega)]
      have s1 : St h0 Z ((n, 0, [.int .u64 is', .int .i64 (cnt + -1), iv, ptr kb 0]) :: (ib, io, its.flatMap enc ++ isp) :: (kb, 0, [kv']) :: (krb, kro, ((ts.modify (0) (bmp false (-1))).map GT.id).flatMap fp ++ ksp) :: ((ts.modify (0) (bmp false (-1))).flatMap (GT.all enc) ++ ((t5, 0, enc x) :: E))) h' :=
        s.perm (by rw [modify_at hc2, set_ids hc2 (bmp_id c), flat_at3 (GT.all enc) hc', etake, edrop]; ((apply perm_rg; intro f; simp only [set_cons_zero, set_cons_succ, eraseIdx_cons_zero, eraseIdx_cons_succ, cons_append, nil_append, map_append, map_cons, map_nil, List.sum_append, List.sum_cons, List.sum_nil, map_flatMap, Nat.add_zero, Nat.zero_add]; ac_rfl)))
      rw [← mfp] at s1; exact s1
theorem ok {tb m : Nat} {iso : Int} {ctr : Option Addr} {g : Rt} (M : MapOk m iso g) (hsz : (rPt g).items.length ≤ 4611686018427387903)
    (s : St h0 Z ((tb, 0, hdr iso ctr (rA g) (rPt g).items.length ((m / 2 : Nat) : Int) m) :: (rAll g ++ E)) h)
    (H : ∀ (r : Option It) (g' : Rt) h', Popped false r (rPt g).items (rPt g').items → MapOk m iso g' → St h0 Z ((tb, 0, hdr iso ctr (rA g') (rPt g').items.length ((m / 2 : Nat) : Int) m) :: (rAll g' ++ E)) h' → Q (.tuple #[kv (r.getD emp).1, vv (r.getD emp).2, .bool r.isSome]) h') :
    Map_iu_PopMin.call #[ptr tb 0] h Q := by
  refine Map_iu_PopMin.body _ _ _ ?_; unfold Map_iu_PopMin.sh; refine s.r_alloc fun t2 h s => ?_
  have s := s.drop 1
  cases g with
  | none =>
    refine r_nil ?_; refine r_fld ?_; refine St.r_load0 s 0 rfl rfl ?_; refine r_eqNilP ?_; refine r_if (fun _ => ?_) (fun e => absurd e (by simp [rA]))
    refine r_nil (r_fld (r_fld ?_))
    refine St.r_load0 s 0 rfl rfl ?_; refine r_nil (r_fld ?_)
    refine r_fldZE zall s 0 rfl (by simp) ?_; refine r_ld00 ?_; refine r_st00 ?_; refine r_ld00 ?_; exact H none none h ⟨rfl, rfl⟩ M s
  | some t =>
    obtain ⟨k, t⟩ := t
    have hkk : k < t.pt.items.length := PT.height_le M.m3 (t := t.pt) M.fl (Nat.le_refl _)
    have s := hdr_cut s
    obtain ⟨s1, back⟩ := St.borrow (A := [(tb, 0, hd0 iso ctr), (tb, 4, hd4 ((m / 2 : Nat) : Int) m)]) (E := (tb, 2, [ptr t.id 0]) :: (tb, 3, [.int .i64 t.pt.items.length]) :: (t.all enc ++ E)) s
    have z0 : (tb, 0, hd0 iso ctr) ∈ [(tb, 0, hd0 iso ctr), (tb, 4, hd4 ((m / 2 : Nat) : Int) m)] ++ Z := List.mem_cons_self ..
    have z4 : (tb, 4, hd4 ((m / 2 : Nat) : Int) m) ∈ [(tb, 0, hd0 iso ctr), (tb, 4, hd4 ((m / 2 : Nat) : Int) m)] ++ Z := List.mem_cons_of_mem _ (List.mem_cons_self ..)
    have hgd : Gd iso t := M.gd
    have hfl : t.pt.Fl m 1 := M.fl
    have hasc : Asc lt t.pt.items := M.asc
    have hszt : t.pt.items.length ≤ 4611686018427387903 := hsz
    have s := s1
    refine r_nil ?_; refine r_fld ?_; refine s.r_loadI 0 0 rfl rfl rfl ?_; refine r_eqNilP ?_; refine r_if (fun e => absurd e (by simp)) (fun _ => ?_)
    unfold Map_iu_PopMin.j1
    have hiso : ∀ {Z' E' : List Rg} {h : Heap}, St h0 Z' (t.all enc ++ E') h → cl h t.id 0 = some (.int .u64 iso) := fun s => by
      obtain ⟨a2, a3, a4, hmem⟩ := topIso (t := t)
      have hown := hgd.mine.nd
      have hci : t.nd.iso = iso := by
        have := hgd.wf
        cases k with
        | zero => exact this.2.1 hown
        | succ k => exact this.1.2.1 hown
      rw [hci] at hmem; exact (s.e _ (List.mem_append.2 (.inl hmem))).1.at0 0 rfl
    refine r_nil ?_; refine r_fld ?_; refine isoLoad_ok (n := t.id) (iso := iso) (by have := s1.getZ z0 (j := 0) (by simp); simpa using this) (by have := s1.get (k := 0) (j := 0) rfl (by simp); simpa using this) (fun _ => hiso (s1.perm (E' := t.all enc ++ ((tb, 2, [ptr t.id 0]) :: (tb, 3, [.int .i64 t.pt.items.length]) :: E)) (by ((apply perm_rg; intro f; simp only [set_cons_zero, set_cons_succ, eraseIdx_cons_zero, eraseIdx_cons_succ, cons_append, nil_append, map_append, map_cons, map_nil, List.sum_append, List.sum_cons, List.sum_nil, map_flatMap, Nat.add_zero, Nat.zero_add]; ac_rfl))))) ?_; refine s1.r_alloc fun t5 h s1 => ?_; refine (down_pop (t2 := ptr t2 0) (t5 := t5) z0 z4 M.m1 M.m3 t (E := (tb, 2, [ptr t.id 0]) :: (tb, 3, [.int .i64 t.pt.items.length]) :: E) (Nat.le_refl 1) (.inr rfl) hfl hgd hszt (s1.perm (by ((apply perm_rg; intro f; simp only [set_cons_zero, set_cons_succ, eraseIdx_cons_zero, eraseIdx_cons_succ, cons_append, nil_append, map_append, map_cons, map_nil, List.sum_append, List.sum_cons, List.sum_nil, map_flatMap, Nat.add_zero, Nat.zero_add]; ac_rfl)))) (fun c' h' x R a1 a2 a3 a4 a5 s => ?_) (fun h' x R a1 s => ?_)).loop
    · have hlen := a1.len
      unfold popEnd
      have s : St h0 ([(tb, 0, hd0 iso ctr), (tb, 4, hd4 ((m / 2 : Nat) : Int) m)] ++ Z) ((tb, 3, [.int .i64 t.pt.items.length]) :: (tb, 2, [ptr t.id 0]) :: (t5, 0, enc x) :: (c'.all enc ++ E)) h' := s.perm (by ((apply perm_rg; intro f; simp only [set_cons_zero, set_cons_succ, eraseIdx_cons_zero, eraseIdx_cons_succ, cons_append, nil_append, map_append, map_cons, map_nil, List.sum_append, List.sum_cons, List.sum_nil, map_flatMap, Nat.add_zero, Nat.zero_add]; ac_rfl)))
      refine r_nil ?_; refine r_fld ?_; refine s.r_load1 0 (o := 3) (j := 0) rfl rfl ?_; refine r_sub (z := (R.length : Int)) (by rw [i64w (by omega) (by omega)]; omega) ?_; refine r_nil ?_; refine r_fld ?_; refine St.r_store1 s 0 (o := 3) (j := 0) rfl (by simp) rfl ?_; intro h s
      refine r_nil ?_; refine r_fld ?_; refine s.r_load1 0 (o := 3) (j := 0) rfl rfl ?_; refine r_cmpI ?_; refine r_if (fun e => ?_) (fun e => ?_)
      · have hR : R = [] := by simpa using e
        subst hR; refine r_nil ?_; refine r_fld ?_; refine St.r_store1 s 1 (o := 2) (j := 0) rfl (by simp) rfl ?_; intro h s
        refine r_fld (n := 0) ?_; refine s.r_load1 2 (o := 0) (j := 0) rfl rfl ?_; refine r_fldZE zall s 2 rfl (by simp) ?_; refine r_ld00 ?_; refine r_st00 ?_; refine r_ld00 ?_; refine H (some x) none h a1 (MapOk.none M.m3 M.m1 M.odd) ?_
        have s2 := back _ h s
        refine hdr_glue ?_; exact (s2.perm (E' := (c'.all enc) ++ ((t5, 0, enc x) :: (tb, 0, hd0 iso ctr) :: (tb, 4, hd4 ((m / 2 : Nat) : Int) m) :: (tb, 2, [.pointer none]) :: (tb, 3, [.int .i64 (([] : List It).length : Nat)]) :: E)) (by ((apply perm_rg; intro f; simp only [set_cons_zero, set_cons_succ, eraseIdx_cons_zero, eraseIdx_cons_succ, cons_append, nil_append, map_append, map_cons, map_nil, List.sum_append, List.sum_cons, List.sum_nil, map_flatMap, Nat.add_zero, Nat.zero_add]; ac_rfl)))).sub (List.Sublist.trans (List.sublist_cons_self ..) (List.sublist_append_right _ _))
      · have hR : R ≠ [] := fun hR => by subst hR; simp at e
        refine r_fld (n := 0) ?_; refine s.r_load1 2 (o := 0) (j := 0) rfl rfl ?_; refine r_fldZE zall s 2 rfl (by simp) ?_; refine r_ld00 ?_; refine r_st00 ?_; refine r_ld00 ?_
        have hf : c'.pt.Fl m 1 := by
          rcases a3 with e | e
          · exact e
          · exact absurd e.2 hR
        have hsub : Asc lt R := by
          have := (ends_del swo a1 hasc).2
          rw [← this]; exact asc_of_sub hasc (ldel_sub _ _)
        refine H (some x) (some ⟨k, c'⟩) h (by show Ends false x c'.pt.items t.pt.items; rw [a2]; exact a1) ⟨a5, hf, by show Asc lt c'.pt.items; rw [a2]; exact hsub, M.m3, M.m1, M.odd⟩ ?_
        have s2 := back _ h s
        show St h0 Z ((tb, 0, hdr iso ctr (some ⟨c'.id, 0, Option.none⟩) c'.pt.items.length ((m / 2 : Nat) : Int) m) :: (c'.all enc ++ E)) h
        refine hdr_glue ?_; rw [a2, a4]; exact (s2.perm (E' := (t5, 0, enc x) :: (tb, 0, hd0 iso ctr) :: (tb, 4, hd4 ((m / 2 : Nat) : Int) m) :: (tb, 2, [ptr t.id 0]) :: (tb, 3, [.int .i64 (R.length : Nat)]) :: (c'.all enc ++ E)) (by ((apply perm_rg; intro f; simp only [set_cons_zero, set_cons_succ, eraseIdx_cons_zero, eraseIdx_cons_succ, cons_append, nil_append, map_append, map_cons, map_nil, List.sum_append, List.sum_cons, List.sum_nil, map_flatMap, Nat.add_zero, Nat.zero_add]; ac_rfl)))).drop 1
    · obtain ⟨d1, d2⟩ := ends_del swo a1 hasc
      unfold Map_iu_PopMin.j2
      have s : St h0 ([(tb, 0, hd0 iso ctr), (tb, 4, hd4 ((m / 2 : Nat) : Int) m)] ++ Z) ((tb, 2, [ptr t.id 0]) :: (tb, 3, [.int .i64 t.pt.items.length]) :: (t5, 0, enc x) :: ((bmp false (-1) t).all enc ++ E)) h' := s.perm (by ((apply perm_rg; intro f; simp only [set_cons_zero, set_cons_succ, eraseIdx_cons_zero, eraseIdx_cons_succ, cons_append, nil_append, map_append, map_cons, map_nil, List.sum_append, List.sum_cons, List.sum_nil, map_flatMap, Nat.add_zero, Nat.zero_add]; ac_rfl)))
      refine r_nil ?_; refine r_fld ?_; refine s.r_load1 0 (o := 2) (j := 0) rfl rfl ?_; refine (up_pop M.m1 t (E := (tb, 2, [ptr t.id 0]) :: (tb, 3, [.int .i64 t.pt.items.length]) :: (t5, 0, enc x) :: E) hfl hgd hszt (s.perm (by ((apply perm_rg; intro f; simp only [set_cons_zero, set_cons_succ, eraseIdx_cons_zero, eraseIdx_cons_succ, cons_append, nil_append, map_append, map_cons, map_nil, List.sum_append, List.sum_cons, List.sum_nil, map_flatMap, Nat.add_zero, Nat.zero_add]; ac_rfl)))) fun h' s => ?_).loop
      have s2 := back ((tb, 2, [ptr t.id 0]) :: (tb, 3, [.int .i64 t.pt.items.length]) :: (t5, 0, enc x) :: (t.all enc ++ E)) h' (s.perm (by ((apply perm_rg; intro f; simp only [set_cons_zero, set_cons_succ, eraseIdx_cons_zero, eraseIdx_cons_succ, cons_append, nil_append, map_append, map_cons, map_nil, List.sum_append, List.sum_cons, List.sum_nil, map_flatMap, Nat.add_zero, Nat.zero_add]; ac_rfl))))
      have s4 : St h0 Z ((tb, 0, hd0 iso ctr) :: (tb, 4, hd4 ((m / 2 : Nat) : Int) m) :: (tb, 2, [ptr t.id 0]) :: (tb, 3, [.int .i64 t.pt.items.length]) :: (t5, 0, enc x) :: (t.all enc ++ E)) h' := s2
      have s5 : St h0 Z ((tb, 0, hdr iso ctr (rA (some ⟨k, t⟩)) (rPt (some ⟨k, t⟩)).items.length ((m / 2 : Nat) : Int) m) :: (t5, 0, enc x) :: (rAll (some ⟨k, t⟩) ++ E)) h' := hdr_glue s4
      unfold Map_iu_PopMin.j3; refine r_fld (n := 0) ?_; refine s5.r_load1 1 (o := 0) (j := 0) rfl rfl ?_; refine Delete_ok (x := x) (E := (t5, 0, enc x) :: E) M hsz (s5.perm (by ((apply perm_rg; intro f; simp only [set_cons_zero, set_cons_succ, eraseIdx_cons_zero, eraseIdx_cons_succ, cons_append, nil_append, map_append, map_cons, map_nil, List.sum_append, List.sum_cons, List.sum_nil, map_flatMap, Nat.add_zero, Nat.zero_add]; ac_rfl)))) fun g' h e1 M' s => ?_
      have s : St h0 Z ((t5, 0, enc x) :: (tb, 0, hdr iso ctr (rA g') (rPt g').items.length ((m / 2 : Nat) : Int) m) :: (rAll g' ++ E)) h := s.perm (by ((apply perm_rg; intro f; simp only [set_cons_zero, set_cons_succ, eraseIdx_cons_zero, eraseIdx_cons_succ, cons_append, nil_append, map_append, map_cons, map_nil, List.sum_append, List.sum_cons, List.sum_nil, map_flatMap, Nat.add_zero, Nat.zero_add]; ac_rfl)))
      have hl : lget lt (rPt (some ⟨k, t⟩)).items x = some x := d1
      rw [hl]; refine r_ext rfl ?_; refine r_ext rfl ?_; refine s.r_alloc fun t7 h s => ?_
      have s := s.drop 1
      refine r_st00 ?_; refine r_if (fun _ => ?_) (fun e => absurd e (by simp))
      refine r_fld (n := 0) ?_; refine s.r_load1 0 (o := 0) (j := 0) rfl rfl ?_; refine r_ld00 ?_; refine r_st00 ?_; refine r_ld00 ?_; refine H (some x) g' h ?_ M' (s.drop 1)
      show Ends false x (rPt g').items t.pt.items
      rw [e1]
      have : ldel lt (rPt (some ⟨k, t⟩)).items x = R := d2
      rw [this]; exact a1
end PopMin
namespace PopMax
theorem up_pop {tr t2 t5 : Value} {iso : Int} {m : Nat} (hm : m ≤ 1024) : ∀ {k : Nat} (c : GT It k) {lo : Nat} {E : List Rg} {h : Heap}, c.pt.Fl m lo → Gd iso c → c.pt.items.length ≤ 4611686018427387903 → St h0 Z ((bmp true (-1) c).all enc ++ E) h → (∀ h', St h0 Z (c.all enc ++ E) h' → Map_iu_PopMax.j3 tr t2 t5 h' Q) →
    LoopOk (fun c s h K1 => Map_iu_PopMax.l5.b (c.getD 0 undef) (c.getD 1 undef) (c.getD 2 undef) (s.getD 0 undef) h K1 Q) [tr, t2, t5] k [ptr c.id 0] h
  | 0, (d : Nd It), lo, E, h, fl, g, hsz, s, H => by
    obtain ⟨own, n, is', cnt, its, iv, ib, io, isp, kb, kv', krb, kro, ksp⟩ := d; intro K
    have s : St h0 Z ((n, 0, [.int .u64 is', .int .i64 (cnt + -1), iv, .pointer none]) :: (ib, io, its.flatMap enc ++ isp) :: E) h := s
    have hcn : cnt = its.length := g.cn
    have hsz : its.length ≤ 4611686018427387903 := hsz
    show Map_iu_PopMax.l5.b tr t2 t5 (ptr n 0) h K Q
    unfold Map_iu_PopMax.l5.b; refine r_nil ?_; refine r_fld ?_; refine St.r_load0 s 0 rfl rfl ?_; refine r_add (z := cnt) (by rw [i64w (by omega) (by omega)]; omega) ?_; refine r_nil ?_; refine r_fld ?_; refine St.r_store0 s 0 rfl (by simp) rfl ?_; intro h s
    try simp only [List.set_cons_zero, List.set_cons_succ] at s
    refine leaf_ok (a := none) (s.get (k := 0) (j := 3) rfl (by simp)) ?_; refine r_if (fun _ => ?_) (fun e => absurd e (by simp))
    exact H h s
  | k + 1, t, lo, E, h, fl, g, hsz, s, H => by
    obtain ⟨d, ts⟩ := t; obtain ⟨own, n, is', cnt, its, iv, ib, io, isp, kb, kv', krb, kro, ksp⟩ := d; intro K HK
    have hkl : ts.length = its.length + 1 := g.wf.2.2.1
    have wK : Own 1 kv' ts.length krb kro ((ts.map GT.id).map fun m => ptr m 0) ksp := g.wf.2.1
    have hcn : cnt = (PT.items (h := k + 1) (its, ts.map GT.pt)).length := g.cn.1
    have hsz : (PT.items (h := k + 1) (its, ts.map GT.pt)).length ≤ 4611686018427387903 := hsz
    obtain ⟨c, hc⟩ : ∃ c, ts[ts.length - 1]? = some c := ⟨ts[ts.length - 1]'(by omega), List.getElem?_eq_getElem (by omega)⟩
    have hcm := List.mem_of_getElem? hc
    have hcm2 : c.pt ∈ ts.map GT.pt := List.mem_map.2 ⟨c, hcm, rfl⟩
    have hfc : PT.Fl m (m / 2) c.pt := fl.2.2.2 _ hcm2
    have hlm : its.length ≤ m := fl.2.1
    have hcsz : c.pt.items.length ≤ 4611686018427387903 := by
      have h1 : (inter its ((ts.map GT.pt).map PT.items)).length = _ := inter_length _ _
      have h2 : (inter its ((ts.map GT.pt).map PT.items)).length ≤ 4611686018427387903 := hsz
      have h3 : c.pt.items.length ≤ (((ts.map GT.pt).map PT.items).map List.length).sum := mem_le_sum (by
        rw [List.map_map, List.map_map]; exact List.mem_map.2 ⟨c, hcm, rfl⟩)
      omega
    have s : St h0 Z ((n, 0, [.int .u64 is', .int .i64 (cnt + -1), iv, ptr kb 0]) :: (ib, io, its.flatMap enc ++ isp) :: (kb, 0, [kv']) :: (krb, kro, (((ts.modify (ts.length - 1) (bmp true (-1))).map GT.id).map fun m => ptr m 0) ++ ksp) :: ((ts.modify (ts.length - 1) (bmp true (-1))).flatMap (GT.all enc) ++ E)) h := s
    rw [modify_at hc, mfp] at s
    have hi := (List.getElem?_eq_some_iff.1 hc).1
    have hc' : (ts.set (ts.length - 1) (bmp true (-1) c))[ts.length - 1]? = some (bmp true (-1) c) := List.getElem?_set_self hi
    have etake : (ts.set (ts.length - 1) (bmp true (-1) c)).take (ts.length - 1) = ts.take (ts.length - 1) := List.take_set_of_le (Nat.le_refl _)
    have edrop : (ts.set (ts.length - 1) (bmp true (-1) c)).drop (ts.length - 1 + 1) = ts.drop (ts.length - 1 + 1) := List.drop_set_of_lt (by omega)
    rw [flat_at3 (GT.all enc) hc', etake, edrop, set_ids hc (bmp_id c)] at s
    show Map_iu_PopMax.l5.b tr t2 t5 (ptr n 0) h K Q
    unfold Map_iu_PopMax.l5.b; refine r_nil ?_; refine r_fld ?_; refine St.r_load0 s 0 rfl rfl ?_; refine r_add (z := cnt) (by rw [i64w (by omega) (by omega)]; omega) ?_; refine r_nil ?_; refine r_fld ?_; refine St.r_store0 s 0 rfl (by simp) rfl ?_; intro h s
    try simp only [List.set_cons_zero, List.set_cons_succ] at s
    refine leaf_ok (a := some ⟨kb, 0, Option.none⟩) (s.get (k := 0) (j := 3) rfl (by simp)) ?_; refine r_if (fun e => absurd e (by simp)) (fun _ => ?_)
    unfold Map_iu_PopMax.j6; refine r_nil ?_; refine r_fld ?_; refine St.r_load0 s 0 rfl rfl ?_; refine r_nil ?_; refine St.r_load0 s 2 rfl rfl ?_; refine r_nil ?_; refine r_fld ?_; refine St.r_load0 s 0 rfl rfl ?_; refine r_nil ?_; refine St.r_load0 s 2 rfl rfl ?_; refine wK.lenV ?_; refine r_sub (z := ((ts.length - 1 : Nat) : Int)) (by rw [i64w (by omega) (by omega)]; omega) ?_; refine wK.idx (n := ts.length - 1) rfl (by omega) ?_; refine r_loadM1 s 3 rfl hc ?_
    have := up_pop (tr := tr) (t2 := t2) (t5 := t5) hm c (E := (n, 0, [.int .u64 is', .int .i64 cnt, iv, ptr kb 0]) :: (ib, io, its.flatMap enc ++ isp) :: (kb, 0, [kv']) :: (krb, kro, (ts.map GT.id).flatMap fp ++ ksp) :: ((ts.take (ts.length - 1)).flatMap (GT.all enc) ++ ((ts.drop (ts.length - 1 + 1)).flatMap (GT.all enc) ++ E))) hfc (g.kid hcm) hcsz (s.perm (by ((apply perm_rg; intro f; simp only [set_cons_zero, set_cons_succ, eraseIdx_cons_zero, eraseIdx_cons_succ, cons_append, nil_append, map_append, map_cons, map_nil, List.sum_append, List.sum_cons, List.sum_nil, map_flatMap, Nat.add_zero, Nat.zero_add]; ac_rfl)))) fun h' s => ?_
    · exact HK _ _ this
    · refine H h' ?_
      have s1 : St h0 Z ((n, 0, [.int .u64 is', .int .i64 cnt, iv, ptr kb 0]) :: (ib, io, its.flatMap enc ++ isp) :: (kb, 0, [kv']) :: (krb, kro, (ts.map GT.id).flatMap fp ++ ksp) :: (ts.flatMap (GT.all enc) ++ E)) h' := s.perm (by rw [flat_at3 (GT.all enc) hc]; ((apply perm_rg; intro f; simp only [set_cons_zero, set_cons_succ, eraseIdx_cons_zero, eraseIdx_cons_succ, cons_append, nil_append, map_append, map_cons, map_nil, List.sum_append, List.sum_cons, List.sum_nil, map_flatMap, Nat.add_zero, Nat.zero_add]; ac_rfl)))
      rw [← mfp] at s1; exact s1
theorem down_pop {t2 : Value} {tb t5 m : Nat} {iso : Int} {ctr : Option Addr} (hT0 : (tb, 0, hd0 iso ctr) ∈ Z) (hT4 : (tb, 4, hd4 ((m / 2 : Nat) : Int) m) ∈ Z) (hm : m ≤ 1024) (hm3 : 3 ≤ m) : ∀ {k : Nat} (c : GT It k) {lo : Nat} {E : List Rg} {h : Heap}, 1 ≤ lo → (lo = m / 2 ∨ lo = 1) → c.pt.Fl m lo → Gd iso c → c.pt.items.length ≤ 4611686018427387903 → St h0 Z (c.all enc ++ ((t5, 0, enc emp) :: E)) h →
    (∀ (c' : GT It k) h' x R, Ends true x R c.pt.items → c'.pt.items = R → (c'.pt.Fl m lo ∨ (lo ≠ m / 2 ∧ R = [])) → c'.id = c.id → Gd iso c' → St h0 Z (c'.all enc ++ ((t5, 0, enc x) :: E)) h' → popEnd tb t2 (ptr t5 0) h' Q) →
    (∀ h' x R, Ends true x R c.pt.items → St h0 Z ((bmp true (-1) c).all enc ++ ((t5, 0, enc x) :: E)) h' → Map_iu_PopMax.j2 (ptr tb 0) t2 (ptr t5 0) h' Q) →
    LoopOk (fun c s h K1 => Map_iu_PopMax.l7.b (c.getD 0 undef) (c.getD 1 undef) (c.getD 2 undef) (s.getD 0 undef) h K1 Q) [ptr tb 0, t2, ptr t5 0] k [ptr c.id 0] h
  | 0, (d : Nd It), lo, E, h, hlo, hlo2, fl, g, hsz, s, H1, H2 => by
    obtain ⟨own, n, is', cnt, its, iv, ib, io, isp, kb, kv', krb, kro, ksp⟩ := d; intro K
    have hw : own = true := g.mine
    have hiso : is' = iso := g.wf.2.1 hw
    subst hiso; subst hw
    have w : Own 1 iv its.length ib io (its.flatMap enc) isp := g.wf.1
    have s : St h0 Z ((n, 0, [.int .u64 is', .int .i64 cnt, iv, .pointer none]) :: (ib, io, its.flatMap enc ++ isp) :: (t5, 0, enc emp) :: E) h := s
    have hcn : cnt = its.length := g.cn
    have hl1 : lo ≤ its.length := fl.1
    have hl2 : its.length ≤ m := fl.2
    have hE : Ends true (its[its.length - 1]'(by omega)) (its.eraseIdx (its.length - 1)) its := by
      show its = its.eraseIdx (its.length - 1) ++ [its[its.length - 1]'(by omega)]
      obtain ⟨R, z, e⟩ := last_of (l := its) (by omega); subst e
      have := eraseIdx_at (P := R) (S := []) (y := z) rfl
      simp only [List.length_append, List.length_singleton, Nat.add_sub_cancel, this]
      simp
    have hx : its[its.length - 1]? = some (its[its.length - 1]'(by omega)) := List.getElem?_eq_getElem (by omega)
    generalize hxg : its[its.length - 1]'(by omega) = x at *
    show Map_iu_PopMax.l7.b (ptr tb 0) t2 (ptr t5 0) (ptr n 0) h K Q
    unfold Map_iu_PopMax.l7.b; refine r_nil ?_; refine r_fld ?_; refine St.r_load0 s 0 rfl rfl ?_; refine r_sub (z := cnt + -1) (by rw [i64w (by omega) (by omega)]; omega) ?_; refine r_nil ?_; refine r_fld ?_; refine St.r_store0 s 0 rfl (by simp) rfl ?_; intro h s
    try simp only [List.set_cons_zero, List.set_cons_succ] at s
    refine leaf_ok (a := none) (s.get (k := 0) (j := 3) rfl (by simp)) ?_; refine r_if (fun _ => ?_) (fun e => absurd e (by simp))
    refine r_nil ?_; refine r_fld ?_; refine St.r_load0 s 0 rfl rfl ?_; refine r_nil ?_; refine r_fld ?_; refine St.r_load0 s 0 rfl rfl ?_; refine w.lenV ?_; refine r_sub (z := ((its.length - 1 : Nat) : Int)) (by rw [i64w (by omega) (by omega)]; omega) ?_; refine w.idx (n := its.length - 1) rfl (by omega) ?_; refine s.r_loadF encl 1 rfl hx ?_; refine St.r_storeN0 s 2 rfl rfl (by simp) (enc1 x) ?_; intro h s
    have s : St h0 Z ((n, 0, [.int .u64 is', .int .i64 (cnt + -1), iv, .pointer none]) :: (ib, io, its.flatMap enc ++ isp) :: (t5, 0, enc x) :: E) h := s
    refine r_nil ?_; refine r_fld ?_; refine St.r_load0 s 0 rfl rfl ?_; refine w.lenV ?_; refine r_nil ?_; refine r_fld ?_; refine s.r_lz hT4 1 rfl rfl ?_; refine r_cmpI ?_; refine r_if (fun _ => H2 h x _ hE s) (fun hne => ?_)
    have hne : its.length ≠ m / 2 := by have := hne; simp at this; omega
    have hel : (its.eraseIdx (its.length - 1)).length = its.length - 1 := by rw [List.length_eraseIdx, if_pos (by omega)]
    unfold Map_iu_PopMax.j9; refine r_nil ?_; refine r_fld ?_; refine St.r_load0 s 0 rfl rfl ?_; refine r_nil ?_; refine r_fld ?_; refine St.r_load0 s 0 rfl rfl ?_; refine w.lenV ?_; refine r_sub (z := ((its.length - 1 : Nat) : Int)) (by rw [i64w (by omega) (by omega)]; omega) ?_; refine r_nil ?_; refine r_fld ?_; refine s.r_lzE hT4 0 (enc emp) rfl (by simp) rfl ?_
    have hX : its.length = its.length := rfl
    have hdl : (its.set (its.length - 1) emp).length = its.length := List.length_set ..
    have her : (its.set (its.length - 1) emp).take (its.length - 1) = its.eraseIdx (its.length - 1) := by
      rw [List.take_set_of_le (Nat.le_refl _), List.eraseIdx_eq_take_drop_succ, List.drop_of_length_le (by omega), List.append_nil]
    refine w.idx (n := its.length - 1) rfl (by omega) ?_; refine s.r_storeF encl 1 rfl (by rw [hX]; omega) (enc1 emp) ?_; intro h s
    refine r_nil ?_; refine r_fld ?_; refine St.r_load0 s 0 rfl rfl ?_; refine r_nil ?_; refine r_fld ?_; refine St.r_load0 s 0 rfl rfl ?_; refine w.lenV ?_; refine r_sub (z := ((its.length - 1 : Nat) : Int)) (by rw [i64w (by omega) (by omega)]; omega) ?_; refine (w.list encl hdl).slcHi encl rfl (by rw [hdl]; omega) fun iv2 w2 => ?_
    have s := s.del (f := enc) 1 rfl _ her
    rw [her] at w2; refine r_nil ?_; refine r_fld ?_; refine St.r_store0 s 0 rfl (by simp) w2.one ?_; intro h s
    refine H1 (⟨true, n, is', cnt + -1, its.eraseIdx (its.length - 1), iv2, ib, io, _, kb, kv', krb, kro, ksp⟩ : Nd It) h x _ hE rfl ?_ rfl (Gd.leaf w2 rfl rfl (by show cnt + -1 = ((its.eraseIdx (its.length - 1)).length : Int); rw [hel, hcn]; omega)) s
    rcases Nat.lt_or_ge lo its.length with e | e
    · left
      show lo ≤ (its.eraseIdx (its.length - 1)).length ∧ (its.eraseIdx (its.length - 1)).length ≤ m
      rw [hel]; omega
    · right
      exact ⟨by omega, List.length_eq_zero_iff.1 (by rw [hel]; omega)⟩
  | k + 1, t, lo, E, h, hlo, hlo2, fl, g, hsz, s, H1, H2 => by
    obtain ⟨d, ts⟩ := t; obtain ⟨own, n, is', cnt, its, iv, ib, io, isp, kb, kv', krb, kro, ksp⟩ := d; intro K HK
    have hw : own = true := g.mine.1
    have hiso : is' = iso := g.wf.1.2.1 hw
    subst hiso; subst hw
    have hkl : ts.length = its.length + 1 := g.wf.2.2.1
    have wK : Own 1 kv' ts.length krb kro ((ts.map GT.id).map fun m => ptr m 0) ksp := g.wf.2.1
    have hcn : cnt = (PT.items (h := k + 1) (its, ts.map GT.pt)).length := g.cn.1
    have hsz : (PT.items (h := k + 1) (its, ts.map GT.pt)).length ≤ 4611686018427387903 := hsz
    have hlm : its.length ≤ m := fl.2.1
    have hl1 : lo ≤ its.length := fl.1
    obtain ⟨c, hc⟩ : ∃ c, ts[its.length]? = some c := ⟨ts[its.length]'(by omega), List.getElem?_eq_getElem (by omega)⟩
    have hcm := List.mem_of_getElem? hc
    have hcm2 : c.pt ∈ ts.map GT.pt := List.mem_map.2 ⟨c, hcm, rfl⟩
    have hfc : PT.Fl m (m / 2) c.pt := fl.2.2.2 _ hcm2
    have fl : PT.Fl m lo (h := k + 1) (its, ts.map GT.pt) := fl
    have hcsz : c.pt.items.length ≤ 4611686018427387903 := by
      have h1 : (inter its ((ts.map GT.pt).map PT.items)).length = _ := inter_length _ _
      have h2 : (inter its ((ts.map GT.pt).map PT.items)).length ≤ 4611686018427387903 := hsz
      have h3 : c.pt.items.length ≤ (((ts.map GT.pt).map PT.items).map List.length).sum := mem_le_sum (by
        rw [List.map_map, List.map_map]; exact List.mem_map.2 ⟨c, hcm, rfl⟩)
      omega
    have hc2 : ts[ts.length - 1]? = some c := by
      rw [show ts.length - 1 = its.length by omega]; exact hc
    have hcp : (ts.map GT.pt)[its.length]? = some c.pt := by rw [List.getElem?_map, hc]; rfl
    have up : ∀ {x : It} {R0 : List It} (c' : PT It k), Ends true x R0 c.pt.items → c'.items = R0 → PT.Fl m (m / 2) c' → ∃ R, Ends true x R (PT.items (h := k + 1) (its, ts.map GT.pt)) ∧ PT.items (h := k + 1) (its, (ts.map GT.pt).set (its.length) c') = R ∧ PT.Fl m lo (h := k + 1) (its, (ts.map GT.pt).set (its.length) c') := fun {x R0} c' he hr hf => by
      obtain ⟨f', A, B, e1, e2, e3, e4⟩ := items_set fl (by omega : its.length ≤ its.length) hcp hf; refine ⟨_, ?_, rfl, f'⟩
      rw [e1, e2, hr]
      have he : c.pt.items = R0 ++ [x] := he
      show _ = _ ++ [x]
      rw [e4 rfl, he, List.append_nil, List.append_nil, List.append_assoc]
    have up0 : ∀ {x : It} {R0 : List It}, Ends true x R0 c.pt.items → ∃ R, Ends true x R (PT.items (h := k + 1) (its, ts.map GT.pt)) := fun {x R0} he => by
      obtain ⟨_, A, B, e1, _, e3, e4⟩ := items_set fl (by omega : its.length ≤ its.length) hcp hfc; rw [e1]
      have he : c.pt.items = R0 ++ [x] := he
      exact ⟨A ++ R0, by rw [e4 rfl, he, List.append_nil]; exact (List.append_assoc ..).symm⟩
    have s : St h0 Z ((n, 0, [.int .u64 is', .int .i64 cnt, iv, ptr kb 0]) :: (ib, io, its.flatMap enc ++ isp) :: (kb, 0, [kv']) :: (krb, kro, ((ts.map GT.id).map fun m => ptr m 0) ++ ksp) :: (ts.flatMap (GT.all enc) ++ ((t5, 0, enc emp) :: E))) h := s
    rw [mfp, flat_at3 (GT.all enc) hc] at s
    show Map_iu_PopMax.l7.b (ptr tb 0) t2 (ptr t5 0) (ptr n 0) h K Q
    unfold Map_iu_PopMax.l7.b; refine r_nil ?_; refine r_fld ?_; refine St.r_load0 s 0 rfl rfl ?_; refine r_sub (z := cnt + -1) (by rw [i64w (by omega) (by omega)]; omega) ?_; refine r_nil ?_; refine r_fld ?_; refine St.r_store0 s 0 rfl (by simp) rfl ?_; intro h s
    try simp only [List.set_cons_zero, List.set_cons_succ] at s
    refine leaf_ok (a := some ⟨kb, 0, Option.none⟩) (s.get (k := 0) (j := 3) rfl (by simp)) ?_; refine r_if (fun e => absurd e (by simp)) (fun _ => ?_)
    unfold Map_iu_PopMax.j8; refine r_nil ?_; refine r_fld ?_; refine St.r_load0 s 0 rfl rfl ?_; refine r_nil ?_; refine St.r_load0 s 2 rfl rfl ?_; refine r_nil ?_; refine r_fld ?_; refine St.r_load0 s 0 rfl rfl ?_; refine r_nil ?_; refine St.r_load0 s 2 rfl rfl ?_; refine wK.lenV ?_; refine r_sub (z := ((its.length : Nat) : Int)) (by rw [i64w (by omega) (by omega)]; omega) ?_; refine wK.idx (n := its.length) rfl (by omega) ?_
    have hcell : cl h krb (kro + its.length * 1) = some (ptr c.id 0) := by
      have hid : (ts.map GT.id)[its.length]? = some c.id := by rw [List.getElem?_map, hc]; rfl
      obtain ⟨hi, he⟩ := List.getElem?_eq_some_iff.1 hid
      have := s.get (k := 3) (j := its.length * 1) rfl (by rw [List.length_append, flat_len fpl]; omega)
      rw [this, List.getElem?_append_left (by rw [flat_len fpl]; omega)]
      have h2 := flat_get (f := fp) fpl (ts.map GT.id) (its.length) hi 0 (by decide)
      rw [Nat.add_zero] at h2; rw [h2, he]; rfl
    have hciso : cl h c.id 0 = some (.int .u64 is') := by
      have hown : c.nd.own = true := (g.kid hcm).mine.nd
      obtain ⟨a2, a3, a4, hmem⟩ := topIso (t := c)
      have hci : c.nd.iso = is' := by
        have := (g.kid hcm).wf
        cases k with
        | zero => exact this.2.1 hown
        | succ k => exact this.1.2.1 hown
      rw [hci] at hmem
      have hmm : (c.id, 0, [.int .u64 is', a2, a3, a4]) ∈ c.all enc ++ (ts.drop (its.length + 1)).flatMap (GT.all enc) := List.mem_append.2 (.inl hmem)
      have hmm := List.mem_append.2 (.inr hmm : _ ∈ (ts.take (its.length)).flatMap (GT.all enc) ∨ _)
      have hmm := List.mem_append.2 (.inl hmm : _ ∨ _ ∈ (t5, 0, enc emp) :: E)
      have := (s.e _ (List.mem_cons_of_mem _ (List.mem_cons_of_mem _ (List.mem_cons_of_mem _ (List.mem_cons_of_mem _ hmm))))).1.at0 0 rfl
      exact this
    refine isoLoad_ok (n := c.id) (iso := is') (by have := s.getZ hT0 (j := 0) (by simp); simpa using this) hcell (fun _ => hciso) ?_
    have := down_pop (t2 := t2) (t5 := t5) hT0 hT4 hm hm3 c (E := (n, 0, [.int .u64 is', .int .i64 (cnt + -1), iv, ptr kb 0]) :: (ib, io, its.flatMap enc ++ isp) :: (kb, 0, [kv']) :: (krb, kro, (ts.map GT.id).flatMap fp ++ ksp) :: ((ts.take (its.length)).flatMap (GT.all enc) ++ ((ts.drop (its.length + 1)).flatMap (GT.all enc) ++ E))) (by omega) (.inl rfl) hfc (g.kid hcm) hcsz (s.perm (by ((apply perm_rg; intro f; simp only [set_cons_zero, set_cons_succ, eraseIdx_cons_zero, eraseIdx_cons_succ, cons_append, nil_append, map_append, map_cons, map_nil, List.sum_append, List.sum_cons, List.sum_nil, map_flatMap, Nat.add_zero, Nat.zero_add]; ac_rfl)))) (fun c' h' x R0 a1 a2 a3 a4 a5 s => ?_) (fun h' x R0 a1 s => ?_)
    · exact HK _ _ this
    · have hf' : PT.Fl m (m / 2) c'.pt := by
        rcases a3 with e | e
        · exact e
        · exact absurd rfl e.1
      obtain ⟨R, u1, u2, u3⟩ := up c'.pt a1 a2 hf'
      have ept : (ts.set (its.length) c').map GT.pt = (ts.map GT.pt).set (its.length) c'.pt := by rw [List.map_set]
      have hi := (List.getElem?_eq_some_iff.1 hc).1
      have hc' : (ts.set (its.length) c')[its.length]? = some c' := List.getElem?_set_self hi
      have etake : (ts.set (its.length) c').take (its.length) = ts.take (its.length) := List.take_set_of_le (Nat.le_refl _)
      have edrop : (ts.set (its.length) c').drop (its.length + 1) = ts.drop (its.length + 1) := List.drop_set_of_lt (by omega)
      have hlen := u1.len
      refine H1 ((⟨true, n, is', cnt + -1, its, iv, ib, io, isp, kb, kv', krb, kro, ksp⟩ : Nd It), ts.set (its.length) c') h' x R u1 (by show PT.items (h := k + 1) (its, (ts.set (its.length) c').map GT.pt) = _; rw [ept]; exact u2) (.inl (by show PT.Fl m lo (h := k + 1) (its, (ts.set (its.length) c').map GT.pt); rw [ept]; exact u3)) rfl
        (Gd.setKid (d := ⟨true, n, is', cnt, its, iv, ib, io, isp, kb, kv', krb, kro, ksp⟩) g hc a4 a5 (by
          show cnt + -1 = ((PT.items (h := k + 1) (its, (ts.set (its.length) c').map GT.pt)).length : Int); rw [ept, u2]; omega)) ?_
      have s1 : St h0 Z ((n, 0, [.int .u64 is', .int .i64 (cnt + -1), iv, ptr kb 0]) :: (ib, io, its.flatMap enc ++ isp) :: (kb, 0, [kv']) :: (krb, kro, ((ts.set (its.length) c').map GT.id).flatMap fp ++ ksp) :: ((ts.set (its.length) c').flatMap (GT.all enc) ++ ((t5, 0, enc x) :: E))) h' :=
        s.perm (by rw [set_ids hc a4, flat_at3 (GT.all enc) hc', etake, edrop]; ((apply perm_rg; intro f; simp only [set_cons_zero, set_cons_succ, eraseIdx_cons_zero, eraseIdx_cons_succ, cons_append, nil_append, map_append, map_cons, map_nil, List.sum_append, List.sum_cons, List.sum_nil, map_flatMap, Nat.add_zero, Nat.zero_add]; ac_rfl)))
      rw [← mfp] at s1; exact s1
    · obtain ⟨R, u1⟩ := up0 a1
      refine H2 h' x R u1 ?_
      have hi := (List.getElem?_eq_some_iff.1 hc2).1
      have hc' : (ts.set (ts.length - 1) (bmp true (-1) c))[ts.length - 1]? = some (bmp true (-1) c) := List.getElem?_set_self hi
      have etake : (ts.set (ts.length - 1) (bmp true (-1) c)).take (ts.length - 1) = ts.take (its.length) := by rw [List.take_set_of_le (Nat.le_refl _)]; congr 1; omega
      have edrop : (ts.set (ts.length - 1) (bmp true (-1) c)).drop (ts.length - 1 + 1) = ts.drop (its.length + 1) := by rw [List.drop_set_of_lt (by omega)]; congr 1; omega
      have s1 : St h0 Z ((n, 0, [.int .u64 is', .int .i64 (cnt + -1), iv, ptr kb 0]) :: (ib, io, its.flatMap enc ++ isp) :: (kb, 0, [kv']) :: (krb, kro, ((ts.modify (ts.length - 1) (bmp true (-1))).map GT.id).flatMap fp ++ ksp) :: ((ts.modify (ts.length - 1) (bmp true (-1))).flatMap (GT.all enc) ++ ((t5, 0, enc x) :: E))) h' :=
        s.perm (by rw [modify_at hc2, set_ids hc2 (bmp_id c), flat_at3 (GT.all enc) hc', etake, edrop]; ((apply perm_rg; intro f; simp only [set_cons_zero, set_cons_succ, eraseIdx_cons_zero, eraseIdx_cons_succ, cons_append, nil_append, map_append, map_cons, map_nil, List.sum_append, List.sum_cons, List.sum_nil, map_flatMap, Nat.add_zero, Nat.zero_add]; ac_rfl)))
      rw [← mfp] at s1; exact s1
theorem ok {tb m : Nat} {iso : Int} {ctr : Option Addr} {g : Rt} (M : MapOk m iso g) (hsz : (rPt g).items.length ≤ 4611686018427387903)
    (s : St h0 Z ((tb, 0, hdr iso ctr (rA g) (rPt g).items.length ((m / 2 : Nat) : Int) m) :: (rAll g ++ E)) h)
    (H : ∀ (r : Option It) (g' : Rt) h', Popped true r (rPt g).items (rPt g').items → MapOk m iso g' → St h0 Z ((tb, 0, hdr iso ctr (rA g') (rPt g').items.length ((m / 2 : Nat) : Int) m) :: (rAll g' ++ E)) h' → Q (.tuple #[kv (r.getD emp).1, vv (r.getD emp).2, .bool r.isSome]) h') :
    Map_iu_PopMax.call #[ptr tb 0] h Q := by
  refine Map_iu_PopMax.body _ _ _ ?_; unfold Map_iu_PopMax.sh; refine s.r_alloc fun t2 h s => ?_
  have s := s.drop 1
  cases g with
  | none =>
    refine r_nil ?_; refine r_fld ?_; refine St.r_load0 s 0 rfl rfl ?_; refine r_eqNilP ?_; refine r_if (fun _ => ?_) (fun e => absurd e (by simp [rA]))
    refine r_nil (r_fld (r_fld ?_))
    refine St.r_load0 s 0 rfl rfl ?_; refine r_nil (r_fld ?_)
    refine r_fldZE zall s 0 rfl (by simp) ?_; refine r_ld00 ?_; refine r_st00 ?_; refine r_ld00 ?_; exact H none none h ⟨rfl, rfl⟩ M s
  | some t =>
    obtain ⟨k, t⟩ := t
    have hkk : k < t.pt.items.length := PT.height_le M.m3 (t := t.pt) M.fl (Nat.le_refl _)
    have s := hdr_cut s
    obtain ⟨s1, back⟩ := St.borrow (A := [(tb, 0, hd0 iso ctr), (tb, 4, hd4 ((m / 2 : Nat) : Int) m)]) (E := (tb, 2, [ptr t.id 0]) :: (tb, 3, [.int .i64 t.pt.items.length]) :: (t.all enc ++ E)) s
    have z0 : (tb, 0, hd0 iso ctr) ∈ [(tb, 0, hd0 iso ctr), (tb, 4, hd4 ((m / 2 : Nat) : Int) m)] ++ Z := List.mem_cons_self ..
    have z4 : (tb, 4, hd4 ((m / 2 : Nat) : Int) m) ∈ [(tb, 0, hd0 iso ctr), (tb, 4, hd4 ((m / 2 : Nat) : Int) m)] ++ Z := List.mem_cons_of_mem _ (List.mem_cons_self ..)
    have hgd : Gd iso t := M.gd
    have hfl : t.pt.Fl m 1 := M.fl
    have hasc : Asc lt t.pt.items := M.asc
    have hszt : t.pt.items.length ≤ 4611686018427387903 := hsz
    have s := s1
    refine r_nil ?_; refine r_fld ?_; refine s.r_loadI 0 0 rfl rfl rfl ?_; refine r_eqNilP ?_; refine r_if (fun e => absurd e (by simp)) (fun _ => ?_)
    unfold Map_iu_PopMax.j1
    have hiso : ∀ {Z' E' : List Rg} {h : Heap}, St h0 Z' (t.all enc ++ E') h → cl h t.id 0 = some (.int .u64 iso) := fun s => by
      obtain ⟨a2, a3, a4, hmem⟩ := topIso (t := t)
      have hown := hgd.mine.nd
      have hci : t.nd.iso = iso := by
        have := hgd.wf
        cases k with
        | zero => exact this.2.1 hown
        | succ k => exact this.1.2.1 hown
      rw [hci] at hmem; exact (s.e _ (List.mem_append.2 (.inl hmem))).1.at0 0 rfl
    refine r_nil ?_; refine r_fld ?_; refine isoLoad_ok (n := t.id) (iso := iso) (by have := s1.getZ z0 (j := 0) (by simp); simpa using this) (by have := s1.get (k := 0) (j := 0) rfl (by simp); simpa using this) (fun _ => hiso (s1.perm (E' := t.all enc ++ ((tb, 2, [ptr t.id 0]) :: (tb, 3, [.int .i64 t.pt.items.length]) :: E)) (by ((apply perm_rg; intro f; simp only [set_cons_zero, set_cons_succ, eraseIdx_cons_zero, eraseIdx_cons_succ, cons_append, nil_append, map_append, map_cons, map_nil, List.sum_append, List.sum_cons, List.sum_nil, map_flatMap, Nat.add_zero, Nat.zero_add]; ac_rfl))))) ?_; refine s1.r_alloc fun t5 h s1 => ?_; refine (down_pop (t2 := ptr t2 0) (t5 := t5) z0 z4 M.m1 M.m3 t (E := (tb, 2, [ptr t.id 0]) :: (tb, 3, [.int .i64 t.pt.items.length]) :: E) (Nat.le_refl 1) (.inr rfl) hfl hgd hszt (s1.perm (by ((apply perm_rg; intro f; simp only [set_cons_zero, set_cons_succ, eraseIdx_cons_zero, eraseIdx_cons_succ, cons_append, nil_append, map_append, map_cons, map_nil, List.sum_append, List.sum_cons, List.sum_nil, map_flatMap, Nat.add_zero, Nat.zero_add]; ac_rfl)))) (fun c' h' x R a1 a2 a3 a4 a5 s => ?_) (fun h' x R a1 s => ?_)).loop
    · have hlen := a1.len
      unfold popEnd
      have s : St h0 ([(tb, 0, hd0 iso ctr), (tb, 4, hd4 ((m / 2 : Nat) : Int) m)] ++ Z) ((tb, 3, [.int .i64 t.pt.items.length]) :: (tb, 2, [ptr t.id 0]) :: (t5, 0, enc x) :: (c'.all enc ++ E)) h' := s.perm (by ((apply perm_rg; intro f; simp only [set_cons_zero, set_cons_succ, eraseIdx_cons_zero, eraseIdx_cons_succ, cons_append, nil_append, map_append, map_cons, map_nil, List.sum_append, List.sum_cons, List.sum_nil, map_flatMap, Nat.add_zero, Nat.zero_add]; ac_rfl)))
      refine r_nil ?_; refine r_fld ?_; refine s.r_load1 0 (o := 3) (j := 0) rfl rfl ?_; refine r_sub (z := (R.length : Int)) (by rw [i64w (by omega) (by omega)]; omega) ?_; refine r_nil ?_; refine r_fld ?_; refine St.r_store1 s 0 (o := 3) (j := 0) rfl (by simp) rfl ?_; intro h s
      refine r_nil ?_; refine r_fld ?_; refine s.r_load1 0 (o := 3) (j := 0) rfl rfl ?_; refine r_cmpI ?_; refine r_if (fun e => ?_) (fun e => ?_)
      · have hR : R = [] := by simpa using e
        subst hR; refine r_nil ?_; refine r_fld ?_; refine St.r_store1 s 1 (o := 2) (j := 0) rfl (by simp) rfl ?_; intro h s
        refine r_fld (n := 0) ?_; refine s.r_load1 2 (o := 0) (j := 0) rfl rfl ?_; refine r_fldZE zall s 2 rfl (by simp) ?_; refine r_ld00 ?_; refine r_st00 ?_; refine r_ld00 ?_; refine H (some x) none h a1 (MapOk.none M.m3 M.m1 M.odd) ?_
        have s2 := back _ h s
        refine hdr_glue ?_; exact (s2.perm (E' := (c'.all enc) ++ ((t5, 0, enc x) :: (tb, 0, hd0 iso ctr) :: (tb, 4, hd4 ((m / 2 : Nat) : Int) m) :: (tb, 2, [.pointer none]) :: (tb, 3, [.int .i64 (([] : List It).length : Nat)]) :: E)) (by ((apply perm_rg; intro f; simp only [set_cons_zero, set_cons_succ, eraseIdx_cons_zero, eraseIdx_cons_succ, cons_append, nil_append, map_append, map_cons, map_nil, List.sum_append, List.sum_cons, List.sum_nil, map_flatMap, Nat.add_zero, Nat.zero_add]; ac_rfl)))).sub (List.Sublist.trans (List.sublist_cons_self ..) (List.sublist_append_right _ _))
      · have hR : R ≠ [] := fun hR => by subst hR; simp at e
        refine r_fld (n := 0) ?_; refine s.r_load1 2 (o := 0) (j := 0) rfl rfl ?_; refine r_fldZE zall s 2 rfl (by simp) ?_; refine r_ld00 ?_; refine r_st00 ?_; refine r_ld00 ?_
        have hf : c'.pt.Fl m 1 := by
          rcases a3 with e | e
          · exact e
          · exact absurd e.2 hR
        have hsub : Asc lt R := by
          have := (ends_del swo a1 hasc).2
          rw [← this]; exact asc_of_sub hasc (ldel_sub _ _)
        refine H (some x) (some ⟨k, c'⟩) h (by show Ends true x c'.pt.items t.pt.items; rw [a2]; exact a1) ⟨a5, hf, by show Asc lt c'.pt.items; rw [a2]; exact hsub, M.m3, M.m1, M.odd⟩ ?_
        have s2 := back _ h s
        show St h0 Z ((tb, 0, hdr iso ctr (some ⟨c'.id, 0, Option.none⟩) c'.pt.items.length ((m / 2 : Nat) : Int) m) :: (c'.all enc ++ E)) h
        refine hdr_glue ?_; rw [a2, a4]; exact (s2.perm (E' := (t5, 0, enc x) :: (tb, 0, hd0 iso ctr) :: (tb, 4, hd4 ((m / 2 : Nat) : Int) m) :: (tb, 2, [ptr t.id 0]) :: (tb, 3, [.int .i64 (R.length : Nat)]) :: (c'.all enc ++ E)) (by ((apply perm_rg; intro f; simp only [set_cons_zero, set_cons_succ, eraseIdx_cons_zero, eraseIdx_cons_succ, cons_append, nil_append, map_append, map_cons, map_nil, List.sum_append, List.sum_cons, List.sum_nil, map_flatMap, Nat.add_zero, Nat.zero_add]; ac_rfl)))).drop 1
    · obtain ⟨d1, d2⟩ := ends_del swo a1 hasc
      unfold Map_iu_PopMax.j2
      have s : St h0 ([(tb, 0, hd0 iso ctr), (tb, 4, hd4 ((m / 2 : Nat) : Int) m)] ++ Z) ((tb, 2, [ptr t.id 0]) :: (tb, 3, [.int .i64 t.pt.items.length]) :: (t5, 0, enc x) :: ((bmp true (-1) t).all enc ++ E)) h' := s.perm (by ((apply perm_rg; intro f; simp only [set_cons_zero, set_cons_succ, eraseIdx_cons_zero, eraseIdx_cons_succ, cons_append, nil_append, map_append, map_cons, map_nil, List.sum_append, List.sum_cons, List.sum_nil, map_flatMap, Nat.add_zero, Nat.zero_add]; ac_rfl)))
      refine r_nil ?_; refine r_fld ?_; refine s.r_load1 0 (o := 2) (j := 0) rfl rfl ?_; refine (up_pop M.m1 t (E := (tb, 2, [ptr t.id 0]) :: (tb, 3, [.int .i64 t.pt.items.length]) :: (t5, 0, enc x) :: E) hfl hgd hszt (s.perm (by ((apply perm_rg; intro f; simp only [set_cons_zero, set_cons_succ, eraseIdx_cons_zero, eraseIdx_cons_succ, cons_append, nil_append, map_append, map_cons, map_nil, List.sum_append, List.sum_cons, List.sum_nil, map_flatMap, Nat.add_zero, Nat.zero_add]; ac_rfl)))) fun h' s => ?_).loop
      have s2 := back ((tb, 2, [ptr t.id 0]) :: (tb, 3, [.int .i64 t.pt.items.length]) :: (t5, 0, enc x) :: (t.all enc ++ E)) h' (s.perm (by ((apply perm_rg; intro f; simp only [set_cons_zero, set_cons_succ, eraseIdx_cons_zero, eraseIdx_cons_succ, cons_append, nil_append, map_append, map_cons, map_nil, List.sum_append, List.sum_cons, List.sum_nil, map_flatMap, Nat.add_zero, Nat.zero_add]; ac_rfl))))
      have s4 : St h0 Z ((tb, 0, hd0 iso ctr) :: (tb, 4, hd4 ((m / 2 : Nat) : Int) m) :: (tb, 2, [ptr t.id 0]) :: (tb, 3, [.int .i64 t.pt.items.length]) :: (t5, 0, enc x) :: (t.all enc ++ E)) h' := s2
      have s5 : St h0 Z ((tb, 0, hdr iso ctr (rA (some ⟨k, t⟩)) (rPt (some ⟨k, t⟩)).items.length ((m / 2 : Nat) : Int) m) :: (t5, 0, enc x) :: (rAll (some ⟨k, t⟩) ++ E)) h' := hdr_glue s4
      unfold Map_iu_PopMax.j3; refine r_fld (n := 0) ?_; refine s5.r_load1 1 (o := 0) (j := 0) rfl rfl ?_; refine Delete_ok (x := x) (E := (t5, 0, enc x) :: E) M hsz (s5.perm (by ((apply perm_rg; intro f; simp only [set_cons_zero, set_cons_succ, eraseIdx_cons_zero, eraseIdx_cons_succ, cons_append, nil_append, map_append, map_cons, map_nil, List.sum_append, List.sum_cons, List.sum_nil, map_flatMap, Nat.add_zero, Nat.zero_add]; ac_rfl)))) fun g' h e1 M' s => ?_
      have s : St h0 Z ((t5, 0, enc x) :: (tb, 0, hdr iso ctr (rA g') (rPt g').items.length ((m / 2 : Nat) : Int) m) :: (rAll g' ++ E)) h := s.perm (by ((apply perm_rg; intro f; simp only [set_cons_zero, set_cons_succ, eraseIdx_cons_zero, eraseIdx_cons_succ, cons_append, nil_append, map_append, map_cons, map_nil, List.sum_append, List.sum_cons, List.sum_nil, map_flatMap, Nat.add_zero, Nat.zero_add]; ac_rfl)))
      have hl : lget lt (rPt (some ⟨k, t⟩)).items x = some x := d1
      rw [hl]; refine r_ext rfl ?_; refine r_ext rfl ?_; refine s.r_alloc fun t7 h s => ?_
      have s := s.drop 1
      refine r_st00 ?_; refine r_if (fun _ => ?_) (fun e => absurd e (by simp))
      refine r_fld (n := 0) ?_; refine s.r_load1 0 (o := 0) (j := 0) rfl rfl ?_; refine r_ld00 ?_; refine r_st00 ?_; refine r_ld00 ?_; refine H (some x) g' h ?_ M' (s.drop 1)
      show Ends true x (rPt g').items t.pt.items
      rw [e1]
      have : ldel lt (rPt (some ⟨k, t⟩)).items x = R := d2
      rw [this]; exact a1
end PopMax
end Go.Proofs.Ytdpkpcmoabfofaa.Iu
end
section
namespace Go.Proofs.Ytdpkpcmoabfofaa.Iu
open Go.Hp Go.Proofs.Ytdpkpcmoabfofaa
variable {h0 h : Heap} {Z E : List Rg} {Q : Value → Heap → Prop}
namespace DelAt
abbrev fu (i : Nat) : List Value := [.int .u8 (i : Nat)]
theorem ful (i : Nat) : (fu i).length = 1 := rfl
def PathIn : List Nat → {k : Nat} → GT It k → Prop
  | [], _, _ => True
  | _ :: q, 0, _ => q = []
  | i :: q, _ + 1, t => ∃ c, t.2[i]? = some c ∧ PathIn q c
def bmpP (δ : Int) : List Nat → {k : Nat} → GT It k → GT It k
  | [], _, t => t
  | _ :: _, 0, d => ({ (d : Nd It) with cnt := Nd.cnt d + δ } : Nd It)
  | i :: q, _ + 1, t => ({ t.1 with cnt := t.1.cnt + δ }, t.2.modify i (bmpP δ q))
theorem bmpP_id {δ : Int} : ∀ (q : List Nat) {k : Nat} (t : GT It k), (bmpP δ q t).id = t.id
  | [], _, _ => rfl
  | _ :: _, 0, _ => rfl
  | _ :: _, _ + 1, _ => rfl
theorem up_at {tr r5 t8 v : Value} {iso : Int} {m pb po : Nat} {P : List Nat} {sp : List Value} (hm : m ≤ 255) (w : Own 1 v P.length pb po (P.flatMap fu) sp) (hP : ∀ p ∈ P, p ≤ 255) (hPl : P.length ≤ 4611686018427387903) : ∀ (q : List Nat) {k : Nat} (c : GT It k) {lo j : Nat} {E : List Rg} {h : Heap} {nv : Value},
    c.pt.Fl m lo → Gd iso c → c.pt.items.length ≤ 4611686018427387903 → PathIn q c → P.drop j = q → j ≤ P.length → (q ≠ [] → nv = ptr c.id 0) → St h0 Z ((pb, po, P.flatMap fu ++ sp) :: ((bmpP (-1) q c).all enc ++ E)) h →
    (∀ h', St h0 Z ((pb, po, P.flatMap fu ++ sp) :: (c.all enc ++ E)) h' → Map_iu_DeleteAt.j3 tr r5 t8 h' Q) →
    LoopOk (fun c s h K1 => Map_iu_DeleteAt.l5.b (c.getD 0 undef) (c.getD 1 undef) (c.getD 2 undef) (c.getD 3 undef) (s.getD 0 undef) (s.getD 1 undef) h K1 Q) [tr, r5, v, t8] q.length [nv, .int .i64 (j : Nat)] h := by
  intro q
  induction q with
  | nil =>
    intro k c lo j E h nv fl g hsz hp hq hj hnv s H
    have hjl : P.length ≤ j := List.drop_eq_nil_iff.1 hq
    intro K
    show Map_iu_DeleteAt.l5.b tr r5 v t8 nv (.int .i64 (j : Nat)) h K Q
    unfold Map_iu_DeleteAt.l5.b; refine w.lenV ?_; refine r_cmpI ?_; refine r_if (fun e => absurd (of_decide_eq_true e) (by omega)) (fun _ => ?_)
    exact H h s
  | cons i q ih =>
    intro k c lo j E h nv fl g hsz hp hq hj hnv s H
    have hjl : j < P.length := by
      rcases Nat.lt_or_ge j P.length with e | e
      · exact e
      · rw [List.drop_of_length_le e] at hq; cases hq
    have hd := List.drop_eq_getElem_cons hjl
    rw [hd] at hq
    have hi : P[j] = i := (List.cons.inj hq).1
    have hq' : P.drop (j + 1) = q := (List.cons.inj hq).2
    have hPi : P[j]? = some i := by rw [List.getElem?_eq_getElem hjl, hi]
    have hi255 : i ≤ 255 := hP i (by rw [← hi]; exact List.getElem_mem hjl)
    have hnv : nv = ptr c.id 0 := hnv (by simp)
    subst hnv; intro K HK
    show Map_iu_DeleteAt.l5.b tr r5 v t8 (ptr c.id 0) (.int .i64 (j : Nat)) h K Q
    unfold Map_iu_DeleteAt.l5.b; refine w.lenV ?_; refine r_cmpI ?_; refine r_if (fun _ => ?_) (fun e => absurd (of_decide_eq_false e) (by omega))
    have main : ∀ {h : Heap}, St h0 Z ((pb, po, P.flatMap fu ++ sp) :: ((bmpP (-1) (i :: q) c).all enc ++ E)) h → Map_iu_DeleteAt.j6 tr r5 v t8 (ptr c.id 0) (.int .i64 (j : Nat)) h K Q := fun {h} s => by
      cases k with
      | zero =>
        obtain ⟨own, n, is', cnt, its, iv, ib, io, isp, kb, kv', krb, kro, ksp⟩ := (c : Nd It)
        have hqn : q = [] := hp
        subst hqn
        have s : St h0 Z ((pb, po, P.flatMap fu ++ sp) :: (n, 0, [.int .u64 is', .int .i64 (cnt + -1), iv, .pointer none]) :: (ib, io, its.flatMap enc ++ isp) :: E) h := s
        have hcn : cnt = its.length := g.cn
        have hsz : its.length ≤ 4611686018427387903 := hsz
        show Map_iu_DeleteAt.j6 tr r5 v t8 (ptr n 0) (.int .i64 (j : Nat)) h K Q
        unfold Map_iu_DeleteAt.j6; refine r_nil ?_; refine r_fld ?_; refine St.r_load0 s 1 rfl rfl ?_; refine r_add (z := cnt) (by rw [i64w (by omega) (by omega)]; omega) ?_; refine r_nil ?_; refine r_fld ?_; refine St.r_store0 s 1 rfl (by simp) rfl ?_; intro h s
        refine leaf_ok (a := none) (s.get (k := 1) (j := 3) rfl (by simp)) ?_; refine r_not ?_; refine r_if (fun e => absurd e (by simp)) (fun _ => ?_)
        unfold Map_iu_DeleteAt.j7; refine r_add1 (by omega) ?_; exact HK _ _ (ih (k := 0) ((⟨own, n, is', cnt, its, iv, ib, io, isp, kb, kv', krb, kro, ksp⟩ : Nd It)) (E := E) fl g hsz trivial hq' hjl (fun e => absurd rfl e) s fun h' s => H h' s)
      | succ k =>
        obtain ⟨d, ts⟩ := c; obtain ⟨own, n, is', cnt, its, iv, ib, io, isp, kb, kv', krb, kro, ksp⟩ := d; obtain ⟨c, hc0, hp⟩ := hp
        have hc0 : ts[i]? = some c := hc0
        have hkl : ts.length = its.length + 1 := g.wf.2.2.1
        have wK : Own 1 kv' ts.length krb kro ((ts.map GT.id).map fun m => ptr m 0) ksp := g.wf.2.1
        have hcn : cnt = (PT.items (h := k + 1) (its, ts.map GT.pt)).length := g.cn.1
        have hsz : (PT.items (h := k + 1) (its, ts.map GT.pt)).length ≤ 4611686018427387903 := hsz
        have hcm := List.mem_of_getElem? hc0
        have hcm2 : c.pt ∈ ts.map GT.pt := List.mem_map.2 ⟨c, hcm, rfl⟩
        have hfc : PT.Fl m (m / 2) c.pt := fl.2.2.2 _ hcm2
        have hcsz : c.pt.items.length ≤ 4611686018427387903 := by
          have h1 : (inter its ((ts.map GT.pt).map PT.items)).length = _ := inter_length _ _
          have h2 : (inter its ((ts.map GT.pt).map PT.items)).length ≤ 4611686018427387903 := hsz
          have h3 : c.pt.items.length ≤ (((ts.map GT.pt).map PT.items).map List.length).sum := mem_le_sum (by
            rw [List.map_map, List.map_map]; exact List.mem_map.2 ⟨c, hcm, rfl⟩)
          omega
        have hi := (List.getElem?_eq_some_iff.1 hc0).1
        have s : St h0 Z ((pb, po, P.flatMap fu ++ sp) :: ((n, 0, [.int .u64 is', .int .i64 (cnt + -1), iv, ptr kb 0]) :: (ib, io, its.flatMap enc ++ isp) :: (kb, 0, [kv']) :: (krb, kro, (((ts.modify i (bmpP (-1) q)).map GT.id).map fun m => ptr m 0) ++ ksp) :: ((ts.modify i (bmpP (-1) q)).flatMap (GT.all enc) ++ E))) h := s
        rw [modify_at hc0, mfp] at s
        have hc' : (ts.set i (bmpP (-1) q c))[i]? = some (bmpP (-1) q c) := List.getElem?_set_self hi
        have etake : (ts.set i (bmpP (-1) q c)).take i = ts.take i := List.take_set_of_le (Nat.le_refl _)
        have edrop : (ts.set i (bmpP (-1) q c)).drop (i + 1) = ts.drop (i + 1) := List.drop_set_of_lt (by omega)
        rw [flat_at3 (GT.all enc) hc', etake, edrop, set_ids hc0 (bmpP_id q c)] at s
        show Map_iu_DeleteAt.j6 tr r5 v t8 (ptr n 0) (.int .i64 (j : Nat)) h K Q
        unfold Map_iu_DeleteAt.j6; refine r_nil ?_; refine r_fld ?_; refine St.r_load0 s 1 rfl rfl ?_; refine r_add (z := cnt) (by rw [i64w (by omega) (by omega)]; omega) ?_; refine r_nil ?_; refine r_fld ?_; refine St.r_store0 s 1 rfl (by simp) rfl ?_; intro h s
        refine leaf_ok (a := some ⟨kb, 0, Option.none⟩) (s.get (k := 1) (j := 3) rfl (by simp)) ?_; refine r_not ?_; refine r_if (fun _ => ?_) (fun e => absurd e (by simp))
        refine r_nil ?_; refine r_fld ?_; refine St.r_load0 s 1 rfl rfl ?_; refine r_nil ?_; refine St.r_load0 s 3 rfl rfl ?_; refine w.idx (n := j) rfl hjl ?_; refine s.r_load1F ful (r := 0) 0 rfl hPi rfl ?_; refine wK.idx (n := i) rfl hi ?_; refine r_loadM1 s 4 rfl hc0 ?_; unfold Map_iu_DeleteAt.j7; refine r_add1 (by omega) ?_
        have := ih c (nv := ptr c.id 0) (E := (n, 0, [.int .u64 is', .int .i64 cnt, iv, ptr kb 0]) :: (ib, io, its.flatMap enc ++ isp) :: (kb, 0, [kv']) :: (krb, kro, (ts.map GT.id).flatMap fp ++ ksp) :: ((ts.take i).flatMap (GT.all enc) ++ ((ts.drop (i + 1)).flatMap (GT.all enc) ++ E))) hfc (g.kid hcm) hcsz hp hq' hjl (fun _ => rfl) (s.perm (by ((apply perm_rg; intro f; simp only [set_cons_zero, set_cons_succ, eraseIdx_cons_zero, eraseIdx_cons_succ, cons_append, nil_append, map_append, map_cons, map_nil, List.sum_append, List.sum_cons, List.sum_nil, map_flatMap, Nat.add_zero, Nat.zero_add]; ac_rfl)))) fun h' s => ?_
        · exact HK _ _ this
        · refine H h' ?_
          have s1 : St h0 Z ((pb, po, P.flatMap fu ++ sp) :: ((n, 0, [.int .u64 is', .int .i64 cnt, iv, ptr kb 0]) :: (ib, io, its.flatMap enc ++ isp) :: (kb, 0, [kv']) :: (krb, kro, (ts.map GT.id).flatMap fp ++ ksp) :: (ts.flatMap (GT.all enc) ++ E))) h' := s.perm (by rw [flat_at3 (GT.all enc) hc0]; ((apply perm_rg; intro f; simp only [set_cons_zero, set_cons_succ, eraseIdx_cons_zero, eraseIdx_cons_succ, cons_append, nil_append, map_append, map_cons, map_nil, List.sum_append, List.sum_cons, List.sum_nil, map_flatMap, Nat.add_zero, Nat.zero_add]; ac_rfl)))
          rw [← mfp] at s1; exact s1
    exact main s
theorem topCnt {iso : Int} : ∀ {k : Nat} {t : GT It k}, Gd iso t → ∃ a1 a2 a3, (t.id, 0, [a1, Value.int .i64 t.pt.items.length, a2, a3]) ∈ t.all enc
  | 0, d, g => by
    have e : (Nd.cnt d : Int) = ((Nd.its d).length : Nat) := g.cn
    refine ⟨.int .u64 (Nd.iso d), Nd.iv d, .pointer none, ?_⟩
    show (Nd.n d, 0, [_, Value.int .i64 ((Nd.its d).length : Nat), _, _]) ∈ Nd.leaf enc d
    rw [← e]; exact List.mem_cons_self ..
  | k + 1, t, g => by
    have e : t.1.cnt = (GT.pt (h := k + 1) t).items.length := g.cn.1
    refine ⟨.int .u64 t.1.iso, t.1.iv, ptr t.1.kb 0, ?_⟩
    rw [← e]; exact List.mem_append_left _ (List.mem_cons_self ..)
theorem items_set2 {m lo k : Nat} {its : List It} {kids : List (PT It k)} {i : Nat} {c c' : PT It k} (fl : PT.Fl m lo (h := k + 1) (its, kids)) (hi : i ≤ its.length) (hc : kids[i]? = some c) (hc' : PT.Fl m (m / 2) c') :
    PT.Fl m lo (h := k + 1) (its, kids.set i c') ∧ PT.items (h := k + 1) (its, kids.set i c') = lz (its.take i) ((kids.take i).map PT.items) ++ (c'.items ++ rz (its.drop i) ((kids.drop (i + 1)).map PT.items)) := by
  have hkl : kids.length = its.length + 1 := fl.2.2.1
  have f' : PT.Fl m lo (h := k + 1) (its, kids.set i c') := by
    refine ⟨fl.1, fl.2.1, ?_, fun q hq => ?_⟩
    · show (kids.set i c').length = its.length + 1
      rw [List.length_set]; exact hkl
    · rcases List.mem_or_eq_of_mem_set (show q ∈ kids.set i c' from hq) with e | e
      · exact fl.2.2.2 q e
      · rw [e]; exact hc'
  refine ⟨f', ?_⟩
  obtain ⟨c0, h0, _, e⟩ := PT.around (t := ((its, kids.set i c') : PT It (k + 1))) f' hi
  have h0 : (kids.set i c')[i]? = some c0 := h0
  rw [List.getElem?_set_self (by omega)] at h0; rw [← Option.some.inj h0] at e
  have e1 : (kids.set i c').take i = kids.take i := List.take_set_of_le (Nat.le_refl _)
  have e2 : (kids.set i c').drop (i + 1) = kids.drop (i + 1) := List.drop_set_of_lt (by omega)
  have e : PT.items (h := k + 1) (its, kids.set i c') = lz (its.take i) (((kids.set i c').take i).map PT.items) ++ (c'.items ++ rz (its.drop i) (((kids.set i c').drop (i + 1)).map PT.items)) := e
  rw [e1, e2] at e; exact e
theorem erase_mid {α : Type} {A C B : List α} {r : Nat} (hr : r < C.length) : (A ++ (C ++ B)).eraseIdx (A.length + r) = A ++ (C.eraseIdx r ++ B) := by
  rw [List.eraseIdx_append_of_length_le (by omega), Nat.add_sub_cancel_left, List.eraseIdx_append_of_lt_length hr]
theorem down_at {r5 : Value} {tb t8 m : Nat} {iso : Int} {ctr : Option Addr} {x : It} (hT0 : (tb, 0, hd0 iso ctr) ∈ Z) (hT4 : (tb, 4, hd4 ((m / 2 : Nat) : Int) m) ∈ Z) (hm : m ≤ 255) (hm3 : 3 ≤ m) : ∀ {k : Nat} (c : GT It k) {lo i b ofs : Nat} {P : List Nat} {v : Value} {sp : List Value} {E : List Rg} {h : Heap},
    1 ≤ lo → (lo = m / 2 ∨ lo = 1) → c.pt.Fl m lo → Gd iso c → c.pt.items.length ≤ 4611686018427387903 → c.pt.items[i]? = some x → (∀ p ∈ P, p ≤ 255) → P.length + k ≤ 1099511627776 → Own 1 v P.length b ofs (P.flatMap fu) sp → St h0 Z ((t8, 0, enc emp) :: (b, ofs, P.flatMap fu ++ sp) :: (c.all enc ++ E)) h →
    (∀ (c' : GT It k) h' rg, c'.pt.items = c.pt.items.eraseIdx i → (c'.pt.Fl m lo ∨ (lo ≠ m / 2 ∧ c'.pt.items = [])) → c'.id = c.id → Gd iso c' → St h0 Z ((t8, 0, enc x) :: rg :: (c'.all enc ++ E)) h' → popEnd tb r5 (ptr t8 0) h' Q) →
    (∀ h' q v' b' o' sp', PathIn q c → q ≠ [] → (∀ p ∈ P ++ q, p ≤ 255) → q.length ≤ k + 1 → Own 1 v' (P ++ q).length b' o' ((P ++ q).flatMap fu) sp' → St h0 Z ((t8, 0, enc x) :: (b', o', (P ++ q).flatMap fu ++ sp') :: ((bmpP (-1) q c).all enc ++ E)) h' → Map_iu_DeleteAt.j2 (ptr tb 0) r5 v' (ptr t8 0) h' Q) →
    LoopOk (fun c s h K1 => Map_iu_DeleteAt.l8.b (c.getD 0 undef) (c.getD 1 undef) (c.getD 2 undef) (s.getD 0 undef) (s.getD 1 undef) (s.getD 2 undef) h K1 Q) [ptr tb 0, r5, ptr t8 0] k [.int .i64 (i : Nat), v, ptr c.id 0] h
  | 0, (d : Nd It), lo, i, b, ofs, P, v, sp, E, h, hlo, hlo2, fl, g, hsz, hx, hP, hPl, wv, s, H1, H2 => by
    obtain ⟨own, n, is', cnt, its, iv, ib, io, isp, kb, kv', krb, kro, ksp⟩ := d; intro K
    have hw : own = true := g.mine
    have hiso : is' = iso := g.wf.2.1 hw
    subst hiso; subst hw
    have w : Own 1 iv its.length ib io (its.flatMap enc) isp := g.wf.1
    have s : St h0 Z ((t8, 0, enc emp) :: (b, ofs, P.flatMap fu ++ sp) :: (n, 0, [.int .u64 is', .int .i64 cnt, iv, .pointer none]) :: (ib, io, its.flatMap enc ++ isp) :: E) h := s
    have hcn : cnt = its.length := g.cn
    have hl1 : lo ≤ its.length := fl.1
    have hl2 : its.length ≤ m := fl.2
    have hx : its[i]? = some x := hx
    obtain ⟨hi, hxe⟩ := List.getElem?_eq_some_iff.1 hx
    show Map_iu_DeleteAt.l8.b (ptr tb 0) r5 (ptr t8 0) (.int .i64 (i : Nat)) v (ptr n 0) h K Q
    unfold Map_iu_DeleteAt.l8.b; refine r_nil ?_; refine r_fld ?_; refine St.r_load0 s 2 rfl rfl ?_; refine r_sub (z := cnt + -1) (by rw [i64w (by omega) (by omega)]; omega) ?_; refine r_nil ?_; refine r_fld ?_; refine St.r_store0 s 2 rfl (by simp) rfl ?_; intro h s
    refine leaf_ok (a := none) (s.get (k := 2) (j := 3) rfl (by simp)) ?_; refine r_if (fun _ => ?_) (fun e => absurd e (by simp))
    refine r_nil ?_; refine r_fld ?_; refine St.r_load0 s 2 rfl rfl ?_; refine w.idx (n := i) rfl hi ?_; refine s.r_loadF encl 3 rfl hx ?_; refine St.r_storeN0 s 0 rfl rfl (by simp) (enc1 x) ?_; intro h s
    have s : St h0 Z ((t8, 0, enc x) :: (b, ofs, P.flatMap fu ++ sp) :: (n, 0, [.int .u64 is', .int .i64 (cnt + -1), iv, .pointer none]) :: (ib, io, its.flatMap enc ++ isp) :: E) h := s
    refine r_nil ?_; refine r_fld ?_; refine St.r_load0 s 2 rfl rfl ?_; refine w.lenV ?_; refine r_nil ?_; refine r_fld ?_; refine s.r_lz hT4 1 rfl rfl ?_; refine r_cmpI ?_; refine r_if (fun _ => ?_) (fun hne => ?_)
    · refine r_cvI (z := (i : Int)) (by show (i : Int) % 256 = i; omega) ?_
      refine St.r_mkSl (sz := 1) (cs := fu i) s (by ((simp only [fillV, fill1, Value.cells, zeros_succ, zeros_zero, size_toArray, length_cons, length_nil, length_append, take_succ_cons, take_zero, take_nil, drop_succ_cons, drop_zero, drop_nil, cons_append, nil_append, append_nil, Nat.reduceAdd, Nat.reduceMul, Nat.reduceLeDiff, Nat.reduceEqDiff, and_self, and_true, true_and, if_true, Nat.le_refl, Nat.zero_add, Nat.add_zero, Nat.zero_mul, reduceIte, if_false] <;> rfl))) rfl fun q h s w1 => ?_; refine s.r_appL (f := fu) (L := P) (M := [i]) 2 rfl wv rfl (by have := w1.rdl s 0 rfl; simpa using this) (fun _ _ => by simp [one1]) (by rw [List.length_singleton]; omega) (by rw [List.length_singleton]; omega) fun v' b' o' sp' h s w' => ?_; refine H2 h [i] v' b' o' sp' rfl (by simp) (fun p hp => ?_) (Nat.le_refl _) w' (s.drop 1)
      rcases List.mem_append.1 hp with e | e
      · exact hP p e
      · rw [List.mem_singleton.1 e]; omega
    · have hne : its.length ≠ m / 2 := by have := hne; simp at this; omega
      have hel : (its.eraseIdx i).length = its.length - 1 := by rw [List.length_eraseIdx, if_pos hi]
      have hdl := del_len its emp hi
      have hX := hdl
      rw [List.length_set] at hX
      have her := del_erase its emp hi
      unfold Map_iu_DeleteAt.j15; refine r_nil ?_; refine r_fld ?_; refine St.r_load0 s 2 rfl rfl ?_; refine w.slcLo encl (i := i) rfl (by omega) fun dd wd => ?_; refine r_nil ?_; refine r_fld ?_; refine St.r_load0 s 2 rfl rfl ?_; refine r_add1 (by omega) ?_; refine (w.rdl s 3 rfl).slcLo encl (i := i + 1) rfl (by omega) fun src rs => ?_; refine s.r_cpyF encl 3 (i := i) (L := its) (M := its.drop (i + 1)) rfl wd (by simp; omega) rs rfl (fun y _ => enc1 y) fun h s => ?_; refine r_nil ?_; refine r_fld ?_; refine St.r_load0 s 2 rfl rfl ?_; refine r_nil ?_; refine r_fld ?_; refine St.r_load0 s 2 rfl rfl ?_; refine w.lenV ?_; refine r_sub (z := ((its.length - 1 : Nat) : Int)) (by rw [i64w (by omega) (by omega)]; omega) ?_; refine r_nil ?_; refine r_fld ?_; refine s.r_lzE hT4 0 (enc emp) rfl (by simp) rfl ?_; refine w.idx (n := its.length - 1) rfl (by omega) ?_; refine s.r_storeF encl 3 rfl (by rw [hX]; omega) (enc1 emp) ?_; intro h s
      refine r_nil ?_; refine r_fld ?_; refine St.r_load0 s 2 rfl rfl ?_; refine r_nil ?_; refine r_fld ?_; refine St.r_load0 s 2 rfl rfl ?_; refine w.lenV ?_; refine r_sub (z := ((its.length - 1 : Nat) : Int)) (by rw [i64w (by omega) (by omega)]; omega) ?_; refine (w.list encl hdl).slcHi encl rfl (by rw [hdl]; omega) fun iv2 w2 => ?_
      have s := s.del (f := enc) 3 rfl _ her
      rw [her] at w2; refine r_nil ?_; refine r_fld ?_; refine St.r_store0 s 2 rfl (by simp) w2.one ?_; intro h s
      refine H1 (⟨true, n, is', cnt + -1, its.eraseIdx i, iv2, ib, io, _, kb, kv', krb, kro, ksp⟩ : Nd It) h _ rfl ?_ rfl (Gd.leaf w2 rfl rfl (by show cnt + -1 = ((its.eraseIdx i).length : Int); rw [hel, hcn]; omega)) s
      rcases Nat.lt_or_ge lo its.length with e | e
      · left
        show lo ≤ (its.eraseIdx i).length ∧ (its.eraseIdx i).length ≤ m
        rw [hel]; omega
      · right
        exact ⟨by omega, List.length_eq_zero_iff.1 (by show (its.eraseIdx i).length = 0; rw [hel]; omega)⟩
  | k + 1, t, lo, i, b, ofs, P, v, sp, E, h, hlo, hlo2, fl, g, hsz, hx, hP, hPl, wv, s, H1, H2 => by
    obtain ⟨d, ts⟩ := t; obtain ⟨own, n, is', cnt, its, iv, ib, io, isp, kb, kv', krb, kro, ksp⟩ := d; intro K HK
    have hw : own = true := g.mine.1
    have hiso : is' = iso := g.wf.1.2.1 hw
    subst hiso; subst hw
    have hkl : ts.length = its.length + 1 := g.wf.2.2.1
    have w : Own 1 iv its.length ib io (its.flatMap enc) isp := g.wf.1.1
    have wK : Own 1 kv' ts.length krb kro ((ts.map GT.id).map fun m => ptr m 0) ksp := g.wf.2.1
    have hcn : cnt = (PT.items (h := k + 1) (its, ts.map GT.pt)).length := g.cn.1
    have hsz : (PT.items (h := k + 1) (its, ts.map GT.pt)).length ≤ 4611686018427387903 := hsz
    have hlm : its.length ≤ m := fl.2.1
    have hl1 : lo ≤ its.length := fl.1
    have fl : PT.Fl m lo (h := k + 1) (its, ts.map GT.pt) := fl
    have hx : (PT.items (h := k + 1) (its, ts.map GT.pt))[i]? = some x := hx
    obtain ⟨hil, _⟩ := List.getElem?_eq_some_iff.1 hx
    have s : St h0 Z ((t8, 0, enc emp) :: (b, ofs, P.flatMap fu ++ sp) :: (n, 0, [.int .u64 is', .int .i64 cnt, iv, ptr kb 0]) :: (ib, io, its.flatMap enc ++ isp) :: (kb, 0, [kv']) :: (krb, kro, ((ts.map GT.id).map fun m => ptr m 0) ++ ksp) :: (ts.flatMap (GT.all enc) ++ E)) h := s
    rw [mfp] at s
    have hpl : ∀ i, ((ts.take i).map fun t => t.pt.items) = (((ts.map GT.pt).take i).map PT.items) := fun i => by rw [← List.map_take, List.map_map]; rfl
    have hsplit : ∀ i (hi : i ≤ its.length) c, ts[i]? = some c → PT.items (h := k + 1) (its, ts.map GT.pt) = lz (its.take i) ((ts.take i).map fun t => t.pt.items) ++ (c.pt.items ++ rz (its.drop i) (((ts.map GT.pt).drop (i + 1)).map PT.items)) := by
      intro i hi c hc; obtain ⟨c', hc', _, e⟩ := PT.around (t := ((its, ts.map GT.pt) : PT It (k + 1))) fl hi
      have hc' : (ts.map GT.pt)[i]? = some c' := hc'
      rw [List.getElem?_map, hc] at hc'
      have : c' = c.pt := (Option.some.inj hc').symm
      subst this; rw [hpl]; exact e
    show Map_iu_DeleteAt.l8.b (ptr tb 0) r5 (ptr t8 0) (.int .i64 (i : Nat)) v (ptr n 0) h K Q
    unfold Map_iu_DeleteAt.l8.b; refine r_nil ?_; refine r_fld ?_; refine St.r_load0 s 2 rfl rfl ?_; refine r_sub (z := cnt + -1) (by rw [i64w (by omega) (by omega)]; omega) ?_; refine r_nil ?_; refine r_fld ?_; refine St.r_store0 s 2 rfl (by simp) rfl ?_; intro h s
    refine leaf_ok (a := some ⟨kb, 0, Option.none⟩) (s.get (k := 2) (j := 3) rfl (by simp)) ?_; refine r_if (fun e => absurd e (by simp)) (fun _ => ?_)
    have s : St h0 Z ((t8, 0, enc emp) :: (b, ofs, P.flatMap fu ++ sp) :: (n, 0, [.int .u64 is', .int .i64 (cnt + -1), iv, ptr kb 0]) :: (ib, io, its.flatMap enc ++ isp) :: (kb, 0, [kv']) :: (krb, kro, (ts.map GT.id).flatMap fp ++ ksp) :: (ts.flatMap (GT.all enc) ++ E)) h := s
    unfold Map_iu_DeleteAt.j9; refine loop_ghost (fun q st h' => ∃ (j r : Nat), q = its.length - j ∧ j ≤ its.length ∧ st = [.int .i64 (r : Nat), v, .int .i64 (j : Nat)] ∧ r + (lz (its.take j) ((ts.take j).map fun t => t.pt.items)).length = i ∧ St h0 Z ((t8, 0, enc emp) :: (b, ofs, P.flatMap fu ++ sp) :: (n, 0, [.int .u64 is', .int .i64 (cnt + -1), iv, ptr kb 0]) :: (ib, io, its.flatMap enc ++ isp) :: (kb, 0, [kv']) :: (krb, kro, (ts.map GT.id).flatMap fp ++ ksp) :: (ts.flatMap (GT.all enc) ++ E)) h') (n0 := its.length) ⟨0, i, rfl, Nat.zero_le _, rfl, by simp [lz], s⟩ ?_; clear s
    rintro q st h ⟨j, r, rfl, hj, rfl, hr, s⟩ K2 HK2
    obtain ⟨c, hc⟩ : ∃ c, ts[j]? = some c := ⟨ts[j]'(by omega), List.getElem?_eq_getElem (by omega)⟩
    have hcm := List.mem_of_getElem? hc
    have hcm2 : c.pt ∈ ts.map GT.pt := List.mem_map.2 ⟨c, hcm, rfl⟩
    have hfc : PT.Fl m (m / 2) c.pt := fl.2.2.2 _ hcm2
    have hs := hsplit j hj c hc
    have hsl := congrArg List.length hs
    simp only [List.length_append] at hsl
    have hcp : (ts.map GT.pt)[j]? = some c.pt := by rw [List.getElem?_map, hc]; rfl
    have hi2 : i = (lz (its.take j) ((ts.take j).map fun t => t.pt.items)).length + r := by omega
    -- on to the kid
    have go : r < c.pt.items.length → Map_iu_DeleteAt.j10 (ptr tb 0) (.int .i64 (r : Nat)) r5 v (ptr t8 0) (ptr n 0) (.int .i64 (j : Nat)) h K Q := fun hrc => by
      have hxc : c.pt.items[r]? = some x := by
        rw [hs, hi2, List.getElem?_append_right (Nat.le_add_right ..), Nat.add_sub_cancel_left, List.getElem?_append_left hrc] at hx; exact hx
      unfold Map_iu_DeleteAt.j10; refine r_cvI (z := (j : Int)) (by show (j : Int) % 256 = j; omega) ?_; refine St.r_mkSl (sz := 1) (cs := fu j) s (by ((simp only [fillV, fill1, Value.cells, zeros_succ, zeros_zero, size_toArray, length_cons, length_nil, length_append, take_succ_cons, take_zero, take_nil, drop_succ_cons, drop_zero, drop_nil, cons_append, nil_append, append_nil, Nat.reduceAdd, Nat.reduceMul, Nat.reduceLeDiff, Nat.reduceEqDiff, and_self, and_true, true_and, if_true, Nat.le_refl, Nat.zero_add, Nat.add_zero, Nat.zero_mul, reduceIte, if_false] <;> rfl))) rfl fun q h s w1 => ?_; refine s.r_appL (f := fu) (L := P) (M := [j]) 2 rfl wv rfl (by have := w1.rdl s 0 rfl; simpa using this) (fun _ _ => by simp [one1]) (by rw [List.length_singleton]; omega) (by rw [List.length_singleton]; omega) fun v' b' o' sp' h s w' => ?_
      have s : St h0 Z ((t8, 0, enc emp) :: (b', o', (P ++ [j]).flatMap fu ++ sp') :: (n, 0, [.int .u64 is', .int .i64 (cnt + -1), iv, ptr kb 0]) :: (ib, io, its.flatMap enc ++ isp) :: (kb, 0, [kv']) :: (krb, kro, (ts.map GT.id).flatMap fp ++ ksp) :: (ts.flatMap (GT.all enc) ++ E)) h := s.drop 1
      rw [flat_at3 (GT.all enc) hc] at s; refine r_nil ?_; refine r_fld ?_; refine St.r_load0 s 2 rfl rfl ?_; refine r_nil ?_; refine St.r_load0 s 4 rfl rfl ?_; refine wK.idx (n := j) rfl (by omega) ?_
      have hcell : cl h krb (kro + j * 1) = some (ptr c.id 0) := by
        have hid : (ts.map GT.id)[j]? = some c.id := by rw [List.getElem?_map, hc]; rfl
        obtain ⟨hi, he⟩ := List.getElem?_eq_some_iff.1 hid
        have := s.get (k := 5) (j := j * 1) rfl (by rw [List.length_append, flat_len fpl]; omega)
        rw [this, List.getElem?_append_left (by rw [flat_len fpl]; omega)]
        have h2 := flat_get (f := fp) fpl (ts.map GT.id) j hi 0 (by decide)
        rw [Nat.add_zero] at h2; rw [h2, he]; rfl
      have hciso : cl h c.id 0 = some (.int .u64 is') := by
        have hown : c.nd.own = true := (g.kid hcm).mine.nd
        obtain ⟨a2, a3, a4, hmem⟩ := topIso (t := c)
        have hci : c.nd.iso = is' := by
          have := (g.kid hcm).wf
          cases k with
          | zero => exact this.2.1 hown
          | succ k => exact this.1.2.1 hown
        rw [hci] at hmem
        have hmm : (c.id, 0, [.int .u64 is', a2, a3, a4]) ∈ c.all enc ++ (ts.drop (j + 1)).flatMap (GT.all enc) := List.mem_append.2 (.inl hmem)
        have hmm := List.mem_append.2 (.inr hmm : _ ∈ (ts.take j).flatMap (GT.all enc) ∨ _)
        have hmm := List.mem_append.2 (.inl hmm : _ ∨ _ ∈ E)
        exact (s.e _ (List.mem_cons_of_mem _ (List.mem_cons_of_mem _ (List.mem_cons_of_mem _ (List.mem_cons_of_mem _ (List.mem_cons_of_mem _ (List.mem_cons_of_mem _ hmm))))))).1.at0 0 rfl
      refine isoLoad_ok (n := c.id) (iso := is') (by have := s.getZ hT0 (j := 0) (by simp); simpa using this) hcell (fun _ => hciso) ?_
      have := down_at (r5 := r5) (t8 := t8) (x := x) hT0 hT4 hm hm3 c (lo := m / 2) (i := r) (P := P ++ [j]) (E := (n, 0, [.int .u64 is', .int .i64 (cnt + -1), iv, ptr kb 0]) :: (ib, io, its.flatMap enc ++ isp) :: (kb, 0, [kv']) :: (krb, kro, (ts.map GT.id).flatMap fp ++ ksp) :: ((ts.take j).flatMap (GT.all enc) ++ ((ts.drop (j + 1)).flatMap (GT.all enc) ++ E))) (by omega) (.inl rfl) hfc (g.kid hcm) (by omega) hxc (fun p hp => by
          rcases List.mem_append.1 hp with e | e
          · exact hP p e
          · rw [List.mem_singleton.1 e]; omega) (by rw [List.length_append, List.length_singleton]; omega) w' (s.perm (by ((apply perm_rg; intro f; simp only [set_cons_zero, set_cons_succ, eraseIdx_cons_zero, eraseIdx_cons_succ, cons_append, nil_append, map_append, map_cons, map_nil, List.sum_append, List.sum_cons, List.sum_nil, map_flatMap, Nat.add_zero, Nat.zero_add]; ac_rfl)))) (fun c' h' rg a2 a3 a4 a5 s => ?_) (fun h' q v2 b2 o2 sp2 a1 a2 a3 a4 w2 s => ?_)
      · exact HK _ _ this
      · have hf' : PT.Fl m (m / 2) c'.pt := by
          rcases a3 with e | e
          · exact e
          · exact absurd rfl e.1
        obtain ⟨u3, u2⟩ := items_set2 fl hj hcp hf'
        have ept : (ts.set j c').map GT.pt = (ts.map GT.pt).set j c'.pt := by rw [List.map_set]
        have eit : PT.items (h := k + 1) (its, (ts.map GT.pt).set j c'.pt) = (PT.items (h := k + 1) (its, ts.map GT.pt)).eraseIdx i := by
          rw [u2, hs, a2, ← hpl, hi2, erase_mid hrc]
        have hi := (List.getElem?_eq_some_iff.1 hc).1
        have hc' : (ts.set j c')[j]? = some c' := List.getElem?_set_self hi
        have etake : (ts.set j c').take j = ts.take j := List.take_set_of_le (Nat.le_refl _)
        have edrop : (ts.set j c').drop (j + 1) = ts.drop (j + 1) := List.drop_set_of_lt (by omega)
        refine H1 ((⟨true, n, is', cnt + -1, its, iv, ib, io, isp, kb, kv', krb, kro, ksp⟩ : Nd It), ts.set j c') h' rg (by show PT.items (h := k + 1) (its, (ts.set j c').map GT.pt) = _; rw [ept]; exact eit) (.inl (by show PT.Fl m lo (h := k + 1) (its, (ts.set j c').map GT.pt); rw [ept]; exact u3)) rfl
          (Gd.setKid (d := ⟨true, n, is', cnt, its, iv, ib, io, isp, kb, kv', krb, kro, ksp⟩) g hc a4 a5 (by
            show cnt + -1 = ((PT.items (h := k + 1) (its, (ts.set j c').map GT.pt)).length : Int); rw [ept, eit, List.length_eraseIdx, if_pos hil]; omega)) ?_
        have s1 : St h0 Z ((t8, 0, enc x) :: rg :: ((n, 0, [.int .u64 is', .int .i64 (cnt + -1), iv, ptr kb 0]) :: (ib, io, its.flatMap enc ++ isp) :: (kb, 0, [kv']) :: (krb, kro, ((ts.set j c').map GT.id).flatMap fp ++ ksp) :: ((ts.set j c').flatMap (GT.all enc) ++ E))) h' :=
          s.perm (by rw [set_ids hc a4, flat_at3 (GT.all enc) hc', etake, edrop]; ((apply perm_rg; intro f; simp only [set_cons_zero, set_cons_succ, eraseIdx_cons_zero, eraseIdx_cons_succ, cons_append, nil_append, map_append, map_cons, map_nil, List.sum_append, List.sum_cons, List.sum_nil, map_flatMap, Nat.add_zero, Nat.zero_add]; ac_rfl)))
        rw [← mfp] at s1; exact s1
      · rw [List.append_assoc] at a3 w2 s
        refine H2 h' (j :: q) v2 b2 o2 sp2 ⟨c, hc, a1⟩ (by simp) a3 (by simp; omega) w2 ?_
        have hi := (List.getElem?_eq_some_iff.1 hc).1
        have hc' : (ts.set j (bmpP (-1) q c))[j]? = some (bmpP (-1) q c) := List.getElem?_set_self hi
        have etake : (ts.set j (bmpP (-1) q c)).take j = ts.take j := List.take_set_of_le (Nat.le_refl _)
        have edrop : (ts.set j (bmpP (-1) q c)).drop (j + 1) = ts.drop (j + 1) := List.drop_set_of_lt (by omega)
        have s1 : St h0 Z ((t8, 0, enc x) :: (b2, o2, (P ++ ([j] ++ q)).flatMap fu ++ sp2) :: ((n, 0, [.int .u64 is', .int .i64 (cnt + -1), iv, ptr kb 0]) :: (ib, io, its.flatMap enc ++ isp) :: (kb, 0, [kv']) :: (krb, kro, ((ts.modify j (bmpP (-1) q)).map GT.id).flatMap fp ++ ksp) :: ((ts.modify j (bmpP (-1) q)).flatMap (GT.all enc) ++ E))) h' :=
          s.perm (by rw [modify_at hc, set_ids hc (bmpP_id q c), flat_at3 (GT.all enc) hc', etake, edrop]; ((apply perm_rg; intro f; simp only [set_cons_zero, set_cons_succ, eraseIdx_cons_zero, eraseIdx_cons_succ, cons_append, nil_append, map_append, map_cons, map_nil, List.sum_append, List.sum_cons, List.sum_nil, map_flatMap, Nat.add_zero, Nat.zero_add]; ac_rfl)))
        rw [← mfp] at s1; exact s1
    show Map_iu_DeleteAt.l11.b (ptr tb 0) r5 (ptr t8 0) (ptr n 0) (.int .i64 (r : Nat)) v (.int .i64 (j : Nat)) h K K2 Q
    unfold Map_iu_DeleteAt.l11.b; refine r_nil ?_; refine r_fld ?_; refine St.r_load0 s 2 rfl rfl ?_; refine w.lenV ?_; refine r_cmpI ?_; refine r_if (fun hlt => ?_) (fun hge => ?_)
    · have hlt : j < its.length := by have := of_decide_eq_true hlt; omega
      have et : its.take (j + 1) = its.take j ++ [its[j]] := List.take_succ_eq_append_getElem hlt
      have ek : ts.take (j + 1) = ts.take j ++ [c] := by rw [List.take_add_one, hc]; rfl
      have ez : lz (its.take (j + 1)) ((ts.take (j + 1)).map fun t => t.pt.items) = lz (its.take j) ((ts.take j).map fun t => t.pt.items) ++ (c.pt.items ++ [its[j]]) := by
        rw [et, ek, List.map_append, List.map_cons, List.map_nil, lz_snoc _ _ _ _ (by simp; omega)]
      obtain ⟨rest, hrest⟩ : ∃ rest, rz (its.drop j) (((ts.map GT.pt).drop (j + 1)).map PT.items) = its[j] :: rest := by
        have e1 : its.drop j = its[j] :: its.drop (j + 1) := List.drop_eq_getElem_cons hlt
        have e2 : (ts.map GT.pt).drop (j + 1) = (ts.map GT.pt)[j + 1]'(by simp; omega) :: (ts.map GT.pt).drop (j + 1 + 1) := List.drop_eq_getElem_cons (by simp; omega)
        rw [e1, e2, List.map_cons, rz_cons]; exact ⟨_, rfl⟩
      obtain ⟨a1, a2, a3, hmem⟩ := topCnt (g.kid hcm)
      have hmem2 : (c.id, 0, [a1, Value.int .i64 c.pt.items.length, a2, a3]) ∈ ((t8, 0, enc emp) :: (b, ofs, P.flatMap fu ++ sp) :: (n, 0, [.int .u64 is', .int .i64 (cnt + -1), iv, ptr kb 0]) :: (ib, io, its.flatMap enc ++ isp) :: (kb, 0, [kv']) :: (krb, kro, (ts.map GT.id).flatMap fp ++ ksp) :: (ts.flatMap (GT.all enc) ++ E)) ++ Z :=
        List.mem_append_left _ (List.mem_cons_of_mem _ (List.mem_cons_of_mem _ (List.mem_cons_of_mem _ (List.mem_cons_of_mem _ (List.mem_cons_of_mem _ (List.mem_cons_of_mem _ (List.mem_append_left _ (List.mem_flatMap.2 ⟨c, hcm, hmem⟩))))))))
      have kc : ∀ {K : Value → Prop}, K (.int .i64 c.pt.items.length) → load1 (ptr c.id (0 + 1)) h K := fun H => s.r_loadM (j := 1) hmem2 rfl H
      have kid : ∀ {K : Value → Prop}, K (ptr c.id 0) → nilck (ptr n 0) fun t145 => fld 3 t145 fun t146 => load1 t146 h fun t147 => nilck t147 fun t148 => load1 t148 h fun t149 => idx 1 t149 (.int .i64 (j : Nat)) fun t150 => load1 t150 h K := fun H => by
        refine r_nil ?_; refine r_fld ?_; refine St.r_load0 s 2 rfl rfl ?_; refine r_nil ?_; refine St.r_load0 s 4 rfl rfl ?_; refine wK.idx (n := j) rfl (by omega) ?_; exact r_loadM1 s 5 rfl hc H
      unfold Map_iu_DeleteAt.j12; refine kid ?_; refine r_nil ?_; refine r_fld ?_; refine kc ?_; refine r_cmpI ?_; refine r_if (fun e => go (by have := of_decide_eq_true e; omega)) (fun e1 => ?_)
      have e1 := of_decide_eq_false e1
      refine kid ?_; refine r_nil ?_; refine r_fld ?_; refine kc ?_; refine r_cmpI ?_; refine r_if (fun e2 => ?_) (fun e2 => ?_)
      · have e2 : r = c.pt.items.length := by have := e2; simp at this; omega
        have hxj : its[j] = x := by
          rw [hs, hi2, List.getElem?_append_right (Nat.le_add_right ..), Nat.add_sub_cancel_left, List.getElem?_append_right (by omega), e2, Nat.sub_self, hrest] at hx; exact Option.some.inj hx
        refine r_nil ?_; refine r_fld ?_; refine St.r_load0 s 2 rfl rfl ?_; refine w.idx (n := j) rfl hlt ?_; refine s.r_loadF encl 3 rfl (List.getElem?_eq_getElem hlt) ?_; rw [hxj]; refine St.r_storeN0 s 0 rfl rfl (by simp) (enc1 x) ?_; intro h s
        have s : St h0 Z ((t8, 0, enc x) :: (b, ofs, P.flatMap fu ++ sp) :: (n, 0, [.int .u64 is', .int .i64 (cnt + -1), iv, ptr kb 0]) :: (ib, io, its.flatMap enc ++ isp) :: (kb, 0, [kv']) :: (krb, kro, (ts.map GT.id).flatMap fp ++ ksp) :: (ts.flatMap (GT.all enc) ++ E)) h := s
        refine r_cvI (z := (j : Int)) (by show (j : Int) % 256 = j; omega) ?_; refine St.r_mkSl (sz := 1) (cs := fu j) s (by ((simp only [fillV, fill1, Value.cells, zeros_succ, zeros_zero, size_toArray, length_cons, length_nil, length_append, take_succ_cons, take_zero, take_nil, drop_succ_cons, drop_zero, drop_nil, cons_append, nil_append, append_nil, Nat.reduceAdd, Nat.reduceMul, Nat.reduceLeDiff, Nat.reduceEqDiff, and_self, and_true, true_and, if_true, Nat.le_refl, Nat.zero_add, Nat.add_zero, Nat.zero_mul, reduceIte, if_false] <;> rfl))) rfl fun q h s w1 => ?_; refine s.r_appL (f := fu) (L := P) (M := [j]) 2 rfl wv rfl (by have := w1.rdl s 0 rfl; simpa using this) (fun _ _ => by simp [one1]) (by rw [List.length_singleton]; omega) (by rw [List.length_singleton]; omega) fun v' b' o' sp' h s w' => ?_; refine H2 h [j] v' b' o' sp' ⟨c, hc, trivial⟩ (by simp) (fun p hp => ?_) (by simp) w' ?_
        · rcases List.mem_append.1 hp with e | e
          · exact hP p e
          · rw [List.mem_singleton.1 e]; omega
        · have s1 : St h0 Z ((t8, 0, enc x) :: (b', o', (P ++ [j]).flatMap fu ++ sp') :: ((n, 0, [.int .u64 is', .int .i64 (cnt + -1), iv, ptr kb 0]) :: (ib, io, its.flatMap enc ++ isp) :: (kb, 0, [kv']) :: (krb, kro, ((ts.modify j (bmpP (-1) [])).map GT.id).flatMap fp ++ ksp) :: ((ts.modify j (bmpP (-1) [])).flatMap (GT.all enc) ++ E))) h := by
            have em : ts.modify j (bmpP (-1) []) = ts := by
              rw [modify_at hc]; obtain ⟨hi, he⟩ := List.getElem?_eq_some_iff.1 hc
              show ts.set j c = ts
              rw [← he, List.set_getElem_self]
            rw [em]; exact s.drop 1
          rw [← mfp] at s1; exact s1
      · have e2 : r ≠ c.pt.items.length := by have := e2; simp at this; omega
        unfold Map_iu_DeleteAt.j14; refine kid ?_; refine r_nil ?_; refine r_fld ?_; refine kc ?_; refine r_add1 (by omega) ?_; refine r_sub (z := ((r - (c.pt.items.length + 1) : Nat) : Int)) (by rw [i64w (by omega) (by omega)]; omega) ?_; unfold Map_iu_DeleteAt.j13; refine r_add1 (by omega) ?_; refine HK2 (its.length - (j + 1)) _ _ (by omega) ⟨j + 1, r - (c.pt.items.length + 1), rfl, hlt, rfl, ?_, s⟩
        rw [ez]; simp only [List.length_append, List.length_singleton]; omega
    · have hge : j = its.length := by have := of_decide_eq_false hge; omega
      subst hge; refine go ?_
      have hr0 : rz (its.drop its.length) (((ts.map GT.pt).drop (its.length + 1)).map PT.items) = [] := by rw [List.drop_length]; rfl
      rw [hr0, List.length_nil] at hsl
      omega
theorem r_slcA0 {b : Nat} {K : Value → Prop} (H : K (.slice (some ⟨b, 0, none⟩) 0 8)) : slcA 8 1 (ptr b 0) none (some (.int .i64 0)) K :=
  ⟨⟨b, 0, none⟩, 0, 0, rfl, ⟨.i64, 0, rfl, by omega, by omega, by simp⟩, rfl, H⟩
def AtI (i : Int) (r : Option It) (l l' : List It) : Prop := (¬ (0 ≤ i ∧ i < l.length) ∧ r = none ∧ l' = l) ∨ (∃ (n : Nat) (x : It), i = n ∧ l[n]? = some x ∧ r = some x ∧ l' = l.eraseIdx n)
theorem DeleteAt_ok {tb m : Nat} {iso i : Int} {ctr : Option Addr} {g : Rt} (M : MapOk m iso g) (hm : m ≤ 255) (hsz : (rPt g).items.length ≤ 4294967296)
    (s : St h0 Z ((tb, 0, hdr iso ctr (rA g) (rPt g).items.length ((m / 2 : Nat) : Int) m) :: (rAll g ++ E)) h)
    (H : ∀ (r : Option It) (g' : Rt) h', AtI i r (rPt g).items (rPt g').items → MapOk m iso g' → St h0 Z ((tb, 0, hdr iso ctr (rA g') (rPt g').items.length ((m / 2 : Nat) : Int) m) :: (rAll g' ++ E)) h' → Q (.tuple #[kv (r.getD emp).1, vv (r.getD emp).2, .bool r.isSome]) h') :
    Map_iu_DeleteAt.call #[ptr tb 0, .int .i64 i] h Q := by
  refine Map_iu_DeleteAt.body _ _ _ _ ?_; unfold Map_iu_DeleteAt.sh; refine s.r_alloc fun t4 h s => ?_
  have s := s.drop 1
  have out : ¬ (0 ≤ i ∧ i < (rPt g).items.length) → nilck (ptr tb 0) fun t29 => fld 4 t29 fun t30 => fld 0 t30 fun t31 => load1 t31 h fun t32 => nilck (ptr tb 0) fun t34 => fld 4 t34 fun t35 => fldZ Try.prog 0 t35 h fun t36 => loadN 0 t36 h fun t37 => storeN 0 (ptr t4 0) t37 h fun h => loadN 0 (ptr t4 0) h fun r => Q (.tuple #[t32, r, (.bool false)]) h := fun hn => by
    refine r_nil ?_; refine r_fld ?_; refine r_fld ?_; refine St.r_load0 s 0 rfl rfl ?_; refine r_nil ?_; refine r_fld ?_; refine r_fldZE zall s 0 rfl (by simp) ?_; refine r_ld00 ?_; refine r_st00 ?_; refine r_ld00 ?_; exact H none g h (.inl ⟨hn, rfl, rfl⟩) M s
  refine r_nil ?_; refine r_fld ?_; refine St.r_load0 s 0 rfl rfl ?_; refine r_eqNilP ?_
  refine r_br (fun e0 => ?_) (fun e0 => out (by
    cases g with
    | none => show ¬ (0 ≤ i ∧ i < ((0 : Nat) : Int)); omega
    | some t => simp [rA] at e0))
  refine r_cmpI ?_; refine r_br (fun e1 => ?_) (fun e1 => out (by have := of_decide_eq_true e1; omega))
  have e1 := of_decide_eq_false e1
  refine r_nil ?_; refine r_fld ?_; refine St.r_load0 s 0 rfl rfl ?_; refine r_cmpI ?_; refine r_if (fun e2 => out (by have := of_decide_eq_true e2; omega)) (fun e2 => ?_)
  have e2 := of_decide_eq_false e2
  clear out
  cases g with
  | none => simp [rA] at e0
  | some t =>
    obtain ⟨k, t⟩ := t
    have hszt0 : t.pt.items.length ≤ 4294967296 := hsz
    obtain ⟨n, rfl⟩ : ∃ n : Nat, i = n := ⟨i.toNat, by omega⟩
    have hn : n < t.pt.items.length := by
      have e2 : ¬ ((n : Int) ≥ (t.pt.items.length : Nat)) := e2
      omega
    have hx : t.pt.items[n]? = some (t.pt.items[n]) := List.getElem?_eq_getElem hn
    generalize t.pt.items[n] = x at hx
    have hkk : k < t.pt.items.length := PT.height_le M.m3 (t := t.pt) M.fl (Nat.le_refl _)
    have s := hdr_cut s
    obtain ⟨s1, back⟩ := St.borrow (A := [(tb, 0, hd0 iso ctr), (tb, 4, hd4 ((m / 2 : Nat) : Int) m)]) (E := (tb, 2, [ptr t.id 0]) :: (tb, 3, [.int .i64 t.pt.items.length]) :: (t.all enc ++ E)) s
    have z0 : (tb, 0, hd0 iso ctr) ∈ [(tb, 0, hd0 iso ctr), (tb, 4, hd4 ((m / 2 : Nat) : Int) m)] ++ Z := List.mem_cons_self ..
    have z4 : (tb, 4, hd4 ((m / 2 : Nat) : Int) m) ∈ [(tb, 0, hd0 iso ctr), (tb, 4, hd4 ((m / 2 : Nat) : Int) m)] ++ Z := List.mem_cons_of_mem _ (List.mem_cons_self ..)
    have hgd : Gd iso t := M.gd
    have hfl : t.pt.Fl m 1 := M.fl
    have hasc : Asc lt t.pt.items := M.asc
    have hszt : t.pt.items.length ≤ 4611686018427387903 := by omega
    have hdel : lget lt t.pt.items x = some x ∧ ldel lt t.pt.items x = t.pt.items.eraseIdx n := by
      have hxe : t.pt.items[n] = x := (List.getElem?_eq_some_iff.1 hx).2
      obtain ⟨p1, p2⟩ := found_at swo hasc hn (x := x) (by rw [hxe]; exact swo.irr x) (by rw [hxe]; exact swo.irr x); obtain ⟨y, hy⟩ := Option.isSome_iff_exists.1 p2; obtain ⟨hp, h1, _, _⟩ := lget_some hy
      have h2 : t.pt.items[pos lt t.pt.items x]? = some x := by rw [p1]; exact hx
      rw [List.getElem?_eq_getElem hp, h1] at h2; refine ⟨by rw [hy]; exact h2, ?_⟩
      rw [ldel_some hy, ← List.eraseIdx_eq_take_drop_succ, p1]
    have s := s1
    unfold Map_iu_DeleteAt.j1
    have hiso : ∀ {Z' E' : List Rg} {h : Heap}, St h0 Z' (t.all enc ++ E') h → cl h t.id 0 = some (.int .u64 iso) := fun s => by
      obtain ⟨a2, a3, a4, hmem⟩ := topIso (t := t)
      have hown := hgd.mine.nd
      have hci : t.nd.iso = iso := by
        have := hgd.wf
        cases k with
        | zero => exact this.2.1 hown
        | succ k => exact this.1.2.1 hown
      rw [hci] at hmem; exact (s.e _ (List.mem_append.2 (.inl hmem))).1.at0 0 rfl
    refine s1.r_alloc fun t6 h s1 => ?_; refine r_slcA0 ?_; refine s1.r_alloc fun t8 h s1 => ?_; refine r_nil ?_; refine r_fld ?_
    have s1 : St h0 ([(tb, 0, hd0 iso ctr), (tb, 4, hd4 ((m / 2 : Nat) : Int) m)] ++ Z) ((t8, 0, enc emp) :: (t6, 0, ([] : List Nat).flatMap fu ++ [.int .u8 0, .int .u8 0, .int .u8 0, .int .u8 0, .int .u8 0, .int .u8 0, .int .u8 0, .int .u8 0]) :: (t.all enc ++ ((tb, 2, [ptr t.id 0]) :: (tb, 3, [.int .i64 t.pt.items.length]) :: E))) h := s1.perm (by ((apply perm_rg; intro f; simp only [set_cons_zero, set_cons_succ, eraseIdx_cons_zero, eraseIdx_cons_succ, cons_append, nil_append, map_append, map_cons, map_nil, List.sum_append, List.sum_cons, List.sum_nil, map_flatMap, Nat.add_zero, Nat.zero_add]; ac_rfl)))
    refine isoLoad_ok (n := t.id) (iso := iso) (by have := s1.getZ z0 (j := 0) (by simp); simpa using this) ?_ (fun _ => hiso (s1.perm (E' := t.all enc ++ ((t8, 0, enc emp) :: (t6, 0, ([] : List Nat).flatMap fu ++ [.int .u8 0, .int .u8 0, .int .u8 0, .int .u8 0, .int .u8 0, .int .u8 0, .int .u8 0, .int .u8 0]) :: (tb, 2, [ptr t.id 0]) :: (tb, 3, [.int .i64 t.pt.items.length]) :: E)) (by ((apply perm_rg; intro f; simp only [set_cons_zero, set_cons_succ, eraseIdx_cons_zero, eraseIdx_cons_succ, cons_append, nil_append, map_append, map_cons, map_nil, List.sum_append, List.sum_cons, List.sum_nil, map_flatMap, Nat.add_zero, Nat.zero_add]; ac_rfl))))) ?_
    · have s2 := s1.perm (E' := (tb, 2, [ptr t.id 0]) :: (t8, 0, enc emp) :: (t6, 0, ([] : List Nat).flatMap fu ++ [.int .u8 0, .int .u8 0, .int .u8 0, .int .u8 0, .int .u8 0, .int .u8 0, .int .u8 0, .int .u8 0]) :: (t.all enc ++ ((tb, 3, [.int .i64 t.pt.items.length]) :: E))) (by ((apply perm_rg; intro f; simp only [set_cons_zero, set_cons_succ, eraseIdx_cons_zero, eraseIdx_cons_succ, cons_append, nil_append, map_append, map_cons, map_nil, List.sum_append, List.sum_cons, List.sum_nil, map_flatMap, Nat.add_zero, Nat.zero_add]; ac_rfl)))
      have := s2.get (k := 0) (j := 0) rfl (by simp)
      simpa using this
    have w0 : Own 1 (.slice (some ⟨t6, 0, none⟩) 0 8) ([] : List Nat).length t6 0 (([] : List Nat).flatMap fu) [.int .u8 0, .int .u8 0, .int .u8 0, .int .u8 0, .int .u8 0, .int .u8 0, .int .u8 0, .int .u8 0] := ⟨_, 8, rfl, rfl, by simp, by simp, fun _ => rfl⟩
    refine (down_at (r5 := ptr t4 0) (t8 := t8) (x := x) z0 z4 hm M.m3 t (i := n) (P := []) (E := (tb, 2, [ptr t.id 0]) :: (tb, 3, [.int .i64 t.pt.items.length]) :: E) (Nat.le_refl 1) (.inr rfl) hfl hgd (by omega) hx (fun p hp => absurd hp List.not_mem_nil) (by simp; omega) w0 s1 (fun c' h' rg a2 a3 a4 a5 s => ?_) (fun h' q v' b' o' sp' a1 a2 a3 a4 w s => ?_)).loop
    · have hlen : (t.pt.items.eraseIdx n).length = t.pt.items.length - 1 := by rw [List.length_eraseIdx, if_pos hn]
      generalize hR : t.pt.items.eraseIdx n = R at *
      unfold popEnd
      have s : St h0 ([(tb, 0, hd0 iso ctr), (tb, 4, hd4 ((m / 2 : Nat) : Int) m)] ++ Z) ((tb, 3, [.int .i64 t.pt.items.length]) :: (tb, 2, [ptr t.id 0]) :: (t8, 0, enc x) :: rg :: (c'.all enc ++ E)) h' := s.perm (by ((apply perm_rg; intro f; simp only [set_cons_zero, set_cons_succ, eraseIdx_cons_zero, eraseIdx_cons_succ, cons_append, nil_append, map_append, map_cons, map_nil, List.sum_append, List.sum_cons, List.sum_nil, map_flatMap, Nat.add_zero, Nat.zero_add]; ac_rfl)))
      refine r_nil ?_; refine r_fld ?_; refine s.r_load1 0 (o := 3) (j := 0) rfl rfl ?_; refine r_sub (z := (R.length : Int)) (by rw [i64w (by omega) (by omega)]; omega) ?_; refine r_nil ?_; refine r_fld ?_; refine St.r_store1 s 0 (o := 3) (j := 0) rfl (by simp) rfl ?_; intro h s
      refine r_nil ?_; refine r_fld ?_; refine s.r_load1 0 (o := 3) (j := 0) rfl rfl ?_; refine r_cmpI ?_; refine r_if (fun e => ?_) (fun e => ?_)
      · have hR0 : R = [] := by simpa using e
        subst hR0; refine r_nil ?_; refine r_fld ?_; refine St.r_store1 s 1 (o := 2) (j := 0) rfl (by simp) rfl ?_; intro h s
        refine r_fld (n := 0) ?_; refine s.r_load1 2 (o := 0) (j := 0) rfl rfl ?_; refine r_fldZE zall s 2 rfl (by simp) ?_; refine r_ld00 ?_; refine r_st00 ?_; refine r_ld00 ?_; refine H (some x) none h (.inr ⟨n, x, rfl, hx, rfl, hR.symm⟩) (MapOk.none M.m3 M.m1 M.odd) ?_
        have s2 := back _ h s
        refine hdr_glue ?_; exact (s2.perm (E' := (c'.all enc) ++ ((t8, 0, enc x) :: rg :: (tb, 0, hd0 iso ctr) :: (tb, 4, hd4 ((m / 2 : Nat) : Int) m) :: (tb, 2, [.pointer none]) :: (tb, 3, [.int .i64 (([] : List It).length : Nat)]) :: E)) (by ((apply perm_rg; intro f; simp only [set_cons_zero, set_cons_succ, eraseIdx_cons_zero, eraseIdx_cons_succ, cons_append, nil_append, map_append, map_cons, map_nil, List.sum_append, List.sum_cons, List.sum_nil, map_flatMap, Nat.add_zero, Nat.zero_add]; ac_rfl)))).sub (List.Sublist.trans (List.sublist_cons_self ..) (List.Sublist.trans (List.sublist_cons_self ..) (List.sublist_append_right _ _)))
      · have hR0 : R ≠ [] := fun hR => by subst hR; simp at e
        refine r_fld (n := 0) ?_; refine s.r_load1 2 (o := 0) (j := 0) rfl rfl ?_; refine r_fldZE zall s 2 rfl (by simp) ?_; refine r_ld00 ?_; refine r_st00 ?_; refine r_ld00 ?_
        have hf : c'.pt.Fl m 1 := by
          rcases a3 with e | e
          · exact e
          · exact absurd (a2.symm.trans e.2) hR0
        have hsub : Asc lt R := by rw [← hdel.2]; exact asc_of_sub hasc (ldel_sub _ _)
        refine H (some x) (some ⟨k, c'⟩) h (.inr ⟨n, x, rfl, hx, rfl, by show c'.pt.items = _; rw [a2]; exact hR.symm⟩) ⟨a5, hf, by show Asc lt c'.pt.items; rw [a2]; exact hsub, M.m3, M.m1, M.odd⟩ ?_
        have s2 := back _ h s
        show St h0 Z ((tb, 0, hdr iso ctr (some ⟨c'.id, 0, Option.none⟩) c'.pt.items.length ((m / 2 : Nat) : Int) m) :: (c'.all enc ++ E)) h
        refine hdr_glue ?_; rw [a2, a4]; exact (s2.perm (E' := (t8, 0, enc x) :: rg :: (tb, 0, hd0 iso ctr) :: (tb, 4, hd4 ((m / 2 : Nat) : Int) m) :: (tb, 2, [ptr t.id 0]) :: (tb, 3, [.int .i64 (R.length : Nat)]) :: (c'.all enc ++ E)) (by ((apply perm_rg; intro f; simp only [set_cons_zero, set_cons_succ, eraseIdx_cons_zero, eraseIdx_cons_succ, cons_append, nil_append, map_append, map_cons, map_nil, List.sum_append, List.sum_cons, List.sum_nil, map_flatMap, Nat.add_zero, Nat.zero_add]; ac_rfl)))).drop 2
    · obtain ⟨d1, d2⟩ := hdel
      have w' : Own 1 v' q.length b' o' (q.flatMap fu) sp' := w
      have s : St h0 ([(tb, 0, hd0 iso ctr), (tb, 4, hd4 ((m / 2 : Nat) : Int) m)] ++ Z) ((tb, 2, [ptr t.id 0]) :: (tb, 3, [.int .i64 t.pt.items.length]) :: (t8, 0, enc x) :: (b', o', q.flatMap fu ++ sp') :: ((bmpP (-1) q t).all enc ++ E)) h' := s.perm (by simp only [List.nil_append]; ((apply perm_rg; intro f; simp only [set_cons_zero, set_cons_succ, eraseIdx_cons_zero, eraseIdx_cons_succ, cons_append, nil_append, map_append, map_cons, map_nil, List.sum_append, List.sum_cons, List.sum_nil, map_flatMap, Nat.add_zero, Nat.zero_add]; ac_rfl)))
      unfold Map_iu_DeleteAt.j2; refine r_nil ?_; refine r_fld ?_; refine s.r_load1 0 (o := 2) (j := 0) rfl rfl ?_; refine (up_at (tr := ptr tb 0) (r5 := ptr t4 0) (t8 := ptr t8 0) (v := v') hm w' a3 (by omega) q t (j := 0) (E := (tb, 2, [ptr t.id 0]) :: (tb, 3, [.int .i64 t.pt.items.length]) :: (t8, 0, enc x) :: E) hfl hgd (by omega) a1 rfl (Nat.zero_le _) (fun _ => rfl) (s.perm (by ((apply perm_rg; intro f; simp only [set_cons_zero, set_cons_succ, eraseIdx_cons_zero, eraseIdx_cons_succ, cons_append, nil_append, map_append, map_cons, map_nil, List.sum_append, List.sum_cons, List.sum_nil, map_flatMap, Nat.add_zero, Nat.zero_add]; ac_rfl)))) fun h' s => ?_).loop
      have s2 := back ((tb, 2, [ptr t.id 0]) :: (tb, 3, [.int .i64 t.pt.items.length]) :: (t8, 0, enc x) :: (b', o', q.flatMap fu ++ sp') :: (t.all enc ++ E)) h' (s.perm (by ((apply perm_rg; intro f; simp only [set_cons_zero, set_cons_succ, eraseIdx_cons_zero, eraseIdx_cons_succ, cons_append, nil_append, map_append, map_cons, map_nil, List.sum_append, List.sum_cons, List.sum_nil, map_flatMap, Nat.add_zero, Nat.zero_add]; ac_rfl))))
      have s4 : St h0 Z ((tb, 0, hd0 iso ctr) :: (tb, 4, hd4 ((m / 2 : Nat) : Int) m) :: (tb, 2, [ptr t.id 0]) :: (tb, 3, [.int .i64 t.pt.items.length]) :: (t8, 0, enc x) :: (b', o', q.flatMap fu ++ sp') :: (t.all enc ++ E)) h' := s2
      have s5 : St h0 Z ((tb, 0, hdr iso ctr (rA (some ⟨k, t⟩)) (rPt (some ⟨k, t⟩)).items.length ((m / 2 : Nat) : Int) m) :: (t8, 0, enc x) :: (b', o', q.flatMap fu ++ sp') :: (rAll (some ⟨k, t⟩) ++ E)) h' := hdr_glue s4
      unfold Map_iu_DeleteAt.j3; refine r_fld (n := 0) ?_; refine s5.r_load1 1 (o := 0) (j := 0) rfl rfl ?_; refine Delete_ok (x := x) (E := (t8, 0, enc x) :: (b', o', q.flatMap fu ++ sp') :: E) M (by omega) (s5.perm (by ((apply perm_rg; intro f; simp only [set_cons_zero, set_cons_succ, eraseIdx_cons_zero, eraseIdx_cons_succ, cons_append, nil_append, map_append, map_cons, map_nil, List.sum_append, List.sum_cons, List.sum_nil, map_flatMap, Nat.add_zero, Nat.zero_add]; ac_rfl)))) fun g' h e1 M' s => ?_
      have s : St h0 Z ((t8, 0, enc x) :: (b', o', q.flatMap fu ++ sp') :: (tb, 0, hdr iso ctr (rA g') (rPt g').items.length ((m / 2 : Nat) : Int) m) :: (rAll g' ++ E)) h := s.perm (by ((apply perm_rg; intro f; simp only [set_cons_zero, set_cons_succ, eraseIdx_cons_zero, eraseIdx_cons_succ, cons_append, nil_append, map_append, map_cons, map_nil, List.sum_append, List.sum_cons, List.sum_nil, map_flatMap, Nat.add_zero, Nat.zero_add]; ac_rfl)))
      have hl : lget lt (rPt (some ⟨k, t⟩)).items x = some x := d1
      rw [hl]; refine r_ext rfl ?_; refine r_ext rfl ?_; refine s.r_alloc fun t7 h s => ?_
      have s := s.drop 1
      refine r_st00 ?_; refine r_if (fun _ => ?_) (fun e => absurd e (by simp))
      refine r_fld (n := 0) ?_; refine s.r_load1 0 (o := 0) (j := 0) rfl rfl ?_; refine r_ld00 ?_; refine r_st00 ?_; refine r_ld00 ?_; refine H (some x) g' h (.inr ⟨n, x, rfl, hx, rfl, ?_⟩) M' (s.drop 2)
      rw [e1]; exact d2
end DelAt
end Go.Proofs.Ytdpkpcmoabfofaa.Iu
end
section
namespace Go.Proofs.Ytdpkpcmoabfofaa.Iu
open Go.Hp Go.Proofs.Ytdpkpcmoabfofaa
variable {h0 h hA : Heap} {Z E : List Rg} {Q : Value → Heap → Prop}
def kc : Option KT → List Value
  | none => [.int .i64 0, .bool false]
  | some k => [.int .i64 k, .bool true]
theorem kcl (o : Option KT) : (kc o).length = 2 := by cases o <;> rfl
theorem kc1 (o : Option KT) : ∀ y ∈ kc o, one1 y = true := by cases o <;> simp [kc, one1]
theorem key_ok {k : KT} {b : Bool} (H : ∀ E' h', St h [] E' h' → Q (.agg (kc (if b then some k else none)).toArray) h') : i_key.call #[kv k, .bool b] h Q := by
  refine i_key.body _ _ _ _ ?_; unfold i_key.sh
  have s := St.start h
  refine s.r_alloc fun t4 h s => ?_; refine r_not ?_
  cases b with
  | false =>
    refine r_if (fun _ => ?_) (fun e => absurd e (by decide))
    refine r_build (cs := kc none) rfl ?_; refine St.r_storeN0 s 0 rfl (kcl none) (by simp) (kc1 none) ?_; intro h s
    refine St.r_loadN0 s 0 rfl (Nat.le_refl 2) ?_; exact H _ h s
  | true =>
    refine r_if (fun e => absurd e (by decide)) (fun _ => ?_)
    unfold i_key.j1; refine r_build (cs := kc (some k)) rfl ?_; refine St.r_storeN0 s 0 rfl (kcl _) (by simp) (kc1 _) ?_; intro h s
    refine St.r_loadN0 s 0 rfl (Nat.le_refl 2) ?_; exact H _ h s
theorem more_ok {F : List (Option KT)} {o : Option KT} {v : Value} {b of : Nat} {sp : List Value} {KV : Value → Heap → Prop} (hF : F.length ≤ 8589934592) (w : Own 2 v F.length b of (F.flatMap kc) sp) (s : St h0 Z ((b, of, F.flatMap kc ++ sp) :: E) h)
    (H : ∀ v' b' o' sp' R h', Own 2 v' (F ++ [o]).length b' o' ((F ++ [o]).flatMap kc) sp' → St h0 Z ((b', o', (F ++ [o]).flatMap kc ++ sp') :: (R ++ E)) h' → KV v' h') :
    mkSl (if 1 * 2 = 0 then [] else zeros [(.int .i64 0), (.bool false)] 1) 1 [(0 * 2, 2, .agg (kc o).toArray)] 81 h fun t h => app 81 2 16 [(.int .i64 0), (.bool false)] v t h KV := by
  refine St.r_mkSl (sz := 2) (cs := kc o) s (by cases o <;> ((simp only [fillV, fill1, Value.cells, zeros_succ, zeros_zero, size_toArray, length_cons, length_nil, length_append, take_succ_cons, take_zero, take_nil, drop_succ_cons, drop_zero, drop_nil, cons_append, nil_append, append_nil, Nat.reduceAdd, Nat.reduceMul, Nat.reduceLeDiff, Nat.reduceEqDiff, and_self, and_true, true_and, if_true, Nat.le_refl, Nat.zero_add, Nat.add_zero, Nat.zero_mul, reduceIte, if_false] <;> rfl))) (kcl o) fun q5 h s wq => ?_; refine s.r_appL (f := kc) (L := F) (M := [o]) 1 rfl w rfl (by have := wq.rdl s 0 (by rw [List.append_nil]; rfl); simpa using this) (fun y _ => kc1 y) (by rw [List.length_singleton]; omega) (by rw [List.length_singleton]; omega) fun v' b' o' sp' h s w' => ?_; exact H v' b' o' sp' [(q5, 0, kc o)] h w' (s.perm (List.Perm.swap _ _ _))
def rv (sd : Bool) (l : List It) : List It := if sd then l.reverse else l
theorem rv_len (sd : Bool) (l : List It) : (rv sd l).length = l.length := by unfold rv; split <;> simp
theorem rv_pop {sd : Bool} {r : Option It} {L L' : List It} (p : Popped sd r L L') {y : It} {Y : List It} (e : rv sd L = y :: Y) : r = some y ∧ rv sd L' = Y := by
  cases r with
  | none =>
    have p : L = [] ∧ L' = [] := p
    rw [p.1] at e; cases sd <;> simp [rv] at e
  | some x =>
    have p : Ends sd x L' L := p
    unfold Ends at p; unfold rv at e ⊢
    cases sd with
    | false =>
      simp only [Bool.false_eq_true, if_false] at p e ⊢
      rw [p] at e; obtain ⟨rfl, rfl⟩ := List.cons.inj e; exact ⟨rfl, rfl⟩
    | true =>
      simp only [if_true] at p e ⊢
      rw [p, List.reverse_append] at e; obtain ⟨rfl, rfl⟩ := List.cons.inj e; exact ⟨rfl, rfl⟩
def fnK (L : List It) : List (Option KT) := L.map fun x => some x.1
theorem fnK_snoc {L : List It} {j : Nat} (hj : j < L.length) : fnK (L.take j) ++ [some L[j].1] = fnK (L.take (j + 1)) := by
  rw [List.take_succ_eq_append_getElem hj]; unfold fnK; rw [List.map_append]; rfl
theorem fnK_len (L : List It) : (fnK L).length = L.length := List.length_map _
theorem Hd.some {mn mx : Int} {g : Rt} (hd : Hd mn mx g) (h : (rPt g).items ≠ []) : mn = 31 ∧ mx = 63 := by
  rcases hd with h | ⟨_, _, rfl⟩
  · exact h
  · exact absurd rfl h
theorem PopMinS_ok {tb : Nat} {g : Rt} (M : MapOk 63 0 g) (hl : (rPt g).items.length ≤ 4611686018427387903) (s : St h0 Z ((tb, 0, hdr 0 none (rA g) (rPt g).items.length 31 63) :: (rAll g ++ E)) h)
    (H : ∀ (r : Option It) (g' : Rt) h', Popped false r (rPt g).items (rPt g').items → MapOk 63 0 g' → St h0 Z ((tb, 0, hdr 0 none (rA g') (rPt g').items.length 31 63) :: (rAll g' ++ E)) h' → Q (.tuple #[kv (r.getD emp).1, .bool r.isSome]) h') : Set_i_PopMin.call #[ptr tb 0] h Q := by
  refine Set_i_PopMin.body _ _ _ ?_; unfold Set_i_PopMin.sh; refine r_nil (r_fld ?_)
  refine PopMin.ok M hl s fun r g' h p M' s => ?_; refine r_ext rfl (r_ext rfl (r_ext rfl ?_))
  refine s.r_alloc fun t5 h s => ?_; refine r_st00 ?_; exact H r g' h p M' (s.drop 1)
theorem PopMaxS_ok {tb : Nat} {g : Rt} (M : MapOk 63 0 g) (hl : (rPt g).items.length ≤ 4611686018427387903) (s : St h0 Z ((tb, 0, hdr 0 none (rA g) (rPt g).items.length 31 63) :: (rAll g ++ E)) h)
    (H : ∀ (r : Option It) (g' : Rt) h', Popped true r (rPt g).items (rPt g').items → MapOk 63 0 g' → St h0 Z ((tb, 0, hdr 0 none (rA g') (rPt g').items.length 31 63) :: (rAll g' ++ E)) h' → Q (.tuple #[kv (r.getD emp).1, .bool r.isSome]) h') : Set_i_PopMax.call #[ptr tb 0] h Q := by
  refine Set_i_PopMax.body _ _ _ ?_; unfold Set_i_PopMax.sh; refine r_nil (r_fld ?_)
  refine PopMax.ok M hl s fun r g' h p M' s => ?_; refine r_ext rfl (r_ext rfl (r_ext rfl ?_))
  refine s.r_alloc fun t5 h s => ?_; refine r_st00 ?_; exact H r g' h p M' (s.drop 1)
theorem DelAtS_ok {tb : Nat} {g : Rt} {i : Int} (M : MapOk 63 0 g) (hl : (rPt g).items.length ≤ 4294967296) (s : St h0 Z ((tb, 0, hdr 0 none (rA g) (rPt g).items.length 31 63) :: (rAll g ++ E)) h)
    (H : ∀ (r : Option It) (g' : Rt) h', DelAt.AtI i r (rPt g).items (rPt g').items → MapOk 63 0 g' → St h0 Z ((tb, 0, hdr 0 none (rA g') (rPt g').items.length 31 63) :: (rAll g' ++ E)) h' → Q (.tuple #[kv (r.getD emp).1, .bool r.isSome]) h') : Set_i_DeleteAt.call #[ptr tb 0, .int .i64 i] h Q := by
  refine Set_i_DeleteAt.body _ _ _ _ ?_; unfold Set_i_DeleteAt.sh; refine r_nil (r_fld ?_)
  refine DelAt.DeleteAt_ok M (by decide) hl s fun r g' h p M' s => ?_; refine r_ext rfl (r_ext rfl (r_ext rfl ?_))
  refine s.r_alloc fun t5 h s => ?_; refine r_st00 ?_; exact H r g' h p M' (s.drop 1)
theorem left_ok {tb : Nat} {g : Rt} {mn mx : Int} (M : MapOk 63 0 g) (he : (rPt g).items = []) (s : St h0 Z ((tb, 0, hdr 0 none (rA g) (rPt g).items.length mn mx) :: (rAll g ++ E)) h)
    (H : ∀ v h', Rdl 1 h' v 0 [] → (∃ R, St h0 Z (R ++ E) h') → Q v h') : Set_i_Keys.call #[ptr tb 0] h Q := by
  refine Set_i_Keys.body _ _ _ ?_; unfold Set_i_Keys.sh; refine r_nil (r_fld ?_)
  refine Keys_ok (E := E) M (by rw [he]; exact Nat.zero_le _) s fun v b o sp h' w s => ?_; rw [he] at w s; refine H v h' ?_ ⟨_ :: _, s⟩
  exact w.rdl s 0 rfl
theorem SPops_ok {sd : Bool} {l : List KT} {v vb : Value} (hr : Rdl 1 hA v l.length (l.flatMap fk)) (hl : l.length ≤ 2147483647) (hb : Rdl 1 hA vb (setT l).length ((List.replicate (setT l).length sd).flatMap fun b => [.bool b]))
    (H : ∀ v1 v2 E' h', Rdl 2 h' v1 (setT l).length ((fnK (rv sd (setT l))).flatMap kc) → Rdl 1 h' v2 0 [] → St hA [] E' h' → Q (.tuple #[v1, v2]) h') : i_SPops.call #[v, vb] hA Q := by
  refine i_SPops.body _ _ _ _ ?_; unfold i_SPops.sh
  have hle := setT_len l
  refine growS_ok hr hl fun g tb mn mx E' h e M hd s => ?_; refine hb.lenV ?_
  have hX := rv_len sd (setT l)
  generalize hXe : rv sd (setT l) = X at *
  have hm : mn = 31 ∧ mx = 63 ∨ (setT l).length = 0 := by
    by_cases h0 : (setT l) = []
    · exact .inr (by rw [h0]; rfl)
    · exact .inl (hd.some (by rw [e]; exact h0))
  refine loop_ghost (fun q st h' => ∃ (j : Nat) (g : Rt) (v' : Value) (b o : Nat) (sp : List Value) (R : List Rg), q = (setT l).length - j ∧ j ≤ (setT l).length ∧ st = [v', .int .i64 (j : Nat)] ∧ rv sd (rPt g).items = X.drop j ∧ MapOk 63 0 g ∧ Own 2 v' (fnK (X.take j)).length b o ((fnK (X.take j)).flatMap kc) sp ∧ St hA [] ((tb, 0, hdr 0 none (rA g) (rPt g).items.length mn mx) :: (rAll g ++ ((b, o, (fnK (X.take j)).flatMap kc ++ sp) :: R))) h') (n0 := (setT l).length)
    ⟨0, g, .slice none 0 0, 0, 0, [], E', rfl, Nat.zero_le _, rfl, by rw [e, List.drop_zero, hXe], M, Own.nil 2 0 0, (s.empty 0 0).perm (by
      show List.Perm ((tb, 0, hdr 0 none (rA g) (rPt g).items.length mn mx) :: (rAll g ++ ((0, 0, []) :: E'))) _
      ((apply perm_rg; intro f; simp only [set_cons_zero, set_cons_succ, eraseIdx_cons_zero, eraseIdx_cons_succ, cons_append, nil_append, map_append, map_cons, map_nil, List.sum_append, List.sum_cons, List.sum_nil, map_flatMap, Nat.add_zero, Nat.zero_add]; ac_rfl)))⟩ ?_
  clear s M hd e g
  rintro q st h ⟨j, g, v', b, o, sp, R, rfl, hj, rfl, e, M, w, s⟩ K HK
  have hgl : (rPt g).items.length = X.length - j := by rw [← rv_len sd, e, List.length_drop]
  unfold i_SPops.l2.b; refine r_cmpI ?_; refine r_if (fun hlt => ?_) (fun hge => ?_)
  · have hlt : j < (setT l).length := by have := of_decide_eq_true hlt; omega
    have hjX : j < X.length := by omega
    obtain ⟨rfl, rfl⟩ : mn = 31 ∧ mx = 63 := by
      rcases hm with h | h
      · exact h
      · omega
    have ed := List.drop_eq_getElem_cons hjX
    rw [ed] at e; unfold i_SPops.j3; refine (hb.st (s)).at (f := fun b => [.bool b]) (l := List.replicate (setT l).length sd) (n := j) rfl (fun _ => rfl) rfl (by simp) (by simpa using hlt) fun b3 o3 hbb => ?_; rw [List.getElem_replicate] at hbb; refine hbb.load0 rfl ?_
    have go : ∀ {g' : Rt} {r : Option It} {h : Heap}, Popped sd r (rPt g).items (rPt g').items → MapOk 63 0 g' → St hA [] ((tb, 0, hdr 0 none (rA g') (rPt g').items.length 31 63) :: (rAll g' ++ ((b, o, (fnK (X.take j)).flatMap kc ++ sp) :: R))) h →
        i_key.call #[kv (r.getD emp).1, .bool r.isSome] h fun t24 h => mkSl (if 1 * 2 = 0 then [] else zeros [(.int .i64 0), (.bool false)] 1) 1 [(0 * 2, 2, t24)] 81 h fun t25 h => app 81 2 16 [(.int .i64 0), (.bool false)] v' t25 h fun t26 h => i_SPops.j4 (ptr tb 0) t26 vb (.int .i64 ((setT l).length : Nat)) (.int .i64 (j : Nat)) h K Q := fun {g' r h} p M' s => by
      obtain ⟨rfl, e'⟩ := rv_pop p e; refine key_ok fun E2 h s2 => ?_
      have s := (s.join s2).perm (E' := (b, o, (fnK (X.take j)).flatMap kc ++ sp) :: ((tb, 0, hdr 0 none (rA g') (rPt g').items.length 31 63) :: (rAll g' ++ (R ++ E2)))) (by ((apply perm_rg; intro f; simp only [set_cons_zero, set_cons_succ, eraseIdx_cons_zero, eraseIdx_cons_succ, cons_append, nil_append, map_append, map_cons, map_nil, List.sum_append, List.sum_cons, List.sum_nil, map_flatMap, Nat.add_zero, Nat.zero_add]; ac_rfl)))
      refine more_ok (o := some X[j].1) (by rw [fnK_len, List.length_take]; omega) w s fun v2 b2 o2 sp2 R2 h w2 s => ?_; rw [fnK_snoc hjX] at w2 s; unfold i_SPops.j4; refine r_add1 (by omega) ?_; exact HK ((setT l).length - (j + 1)) _ _ (by omega) ⟨j + 1, g', v2, b2, o2, sp2, R2 ++ (R ++ E2), rfl, hlt, rfl, e', M', w2, s.perm (by ((apply perm_rg; intro f; simp only [set_cons_zero, set_cons_succ, eraseIdx_cons_zero, eraseIdx_cons_succ, cons_append, nil_append, map_append, map_cons, map_nil, List.sum_append, List.sum_cons, List.sum_nil, map_flatMap, Nat.add_zero, Nat.zero_add]; ac_rfl)))⟩
    cases sd with
    | true =>
      refine r_if (fun _ => ?_) (fun e => absurd e (by decide))
      refine PopMaxS_ok M (by omega) s fun r g' h p M' s => ?_; refine r_ext rfl (r_ext rfl ?_)
      exact go p M' s
    | false =>
      refine r_if (fun e => absurd e (by decide)) (fun _ => ?_)
      refine PopMinS_ok M (by omega) s fun r g' h p M' s => ?_; refine r_ext rfl (r_ext rfl ?_)
      exact go p M' s
  · have hge : j = (setT l).length := by have := of_decide_eq_false hge; omega
    subst hge
    have he : (rPt g).items = [] := List.length_eq_zero_iff.1 (by omega)
    rw [List.take_of_length_le (by omega)] at w s; unfold i_SPops.j1; refine left_ok M he s fun v2 h' r2 ⟨R2, s⟩ => ?_
    have s : St hA [] ((b, o, (fnK X).flatMap kc ++ sp) :: (R2 ++ R)) h' := s.perm (by ((apply perm_rg; intro f; simp only [set_cons_zero, set_cons_succ, eraseIdx_cons_zero, eraseIdx_cons_succ, cons_append, nil_append, map_append, map_cons, map_nil, List.sum_append, List.sum_cons, List.sum_nil, map_flatMap, Nat.add_zero, Nat.zero_add]; ac_rfl)))
    refine H v' v2 _ h' ?_ r2 s
    have := w.rdl s 0 rfl
    rw [fnK_len, hX] at this; exact this
end Go.Proofs.Ytdpkpcmoabfofaa.Iu
end
section
namespace Go.Proofs.Ytdpkpcmoabfofaa.Iu
open Go.Hp Go.Proofs.Ytdpkpcmoabfofaa
variable {h0 h hA : Heap} {Z E : List Rg} {Q : Value → Heap → Prop}
theorem at0 {r : Option It} {L L' : List It} (p : DelAt.AtI 0 r L L') {y : It} {Y : List It} (e : L = y :: Y) : r = some y ∧ L' = Y := by
  subst e
  rcases p with ⟨h, -, -⟩ | ⟨n, x, h, hx, rfl, rfl⟩
  · exact absurd ⟨Int.le_refl 0, by rw [List.length_cons]; omega⟩ h
  · have : n = 0 := by omega
    subst this
    cases hx
    exact ⟨rfl, rfl⟩
theorem SDeleteAt_ok {l : List KT} {v vb : Value} (hr : Rdl 1 hA v l.length (l.flatMap fk)) (hl : l.length ≤ 2147483647) (hb : Rdl 1 hA vb (setT l).length ((List.replicate (setT l).length (0 : Int)).flatMap fk))
    (H : ∀ v1 v2 E' h', Rdl 2 h' v1 (setT l).length ((fnK (setT l)).flatMap kc) → Rdl 1 h' v2 0 [] → St hA [] E' h' → Q (.tuple #[v1, v2]) h') : i_SDeleteAt.call #[v, vb] hA Q := by
  refine i_SDeleteAt.body _ _ _ _ ?_; unfold i_SDeleteAt.sh
  have hle := setT_len l
  refine growS_ok hr hl fun g tb mn mx E' h e M hd s => ?_; refine hb.lenV ?_; obtain ⟨X, hXe⟩ : ∃ X, X = setT l := ⟨_, rfl⟩
  have hX : X.length = (setT l).length := by rw [hXe]
  have hm : mn = 31 ∧ mx = 63 ∨ (setT l).length = 0 := by
    by_cases h0 : (setT l) = []
    · exact .inr (by rw [h0]; rfl)
    · exact .inl (hd.some (by rw [e]; exact h0))
  refine loop_ghost (fun q st h' => ∃ (j : Nat) (g : Rt) (v' : Value) (b o : Nat) (sp : List Value) (R : List Rg), q = (setT l).length - j ∧ j ≤ (setT l).length ∧ st = [v', .int .i64 (j : Nat)] ∧ (rPt g).items = X.drop j ∧ MapOk 63 0 g ∧ Own 2 v' (fnK (X.take j)).length b o ((fnK (X.take j)).flatMap kc) sp ∧ St hA [] ((tb, 0, hdr 0 none (rA g) (rPt g).items.length mn mx) :: (rAll g ++ ((b, o, (fnK (X.take j)).flatMap kc ++ sp) :: R))) h') (n0 := (setT l).length)
    ⟨0, g, .slice none 0 0, 0, 0, [], E', rfl, Nat.zero_le _, rfl, by rw [e, List.drop_zero, hXe], M, Own.nil 2 0 0, (s.empty 0 0).perm (by
      show List.Perm ((tb, 0, hdr 0 none (rA g) (rPt g).items.length mn mx) :: (rAll g ++ ((0, 0, []) :: E'))) _
      ((apply perm_rg; intro f; simp only [set_cons_zero, set_cons_succ, eraseIdx_cons_zero, eraseIdx_cons_succ, cons_append, nil_append, map_append, map_cons, map_nil, List.sum_append, List.sum_cons, List.sum_nil, map_flatMap, Nat.add_zero, Nat.zero_add]; ac_rfl)))⟩ ?_
  clear s M hd e g
  rintro q st h ⟨j, g, v', b, o, sp, R, rfl, hj, rfl, e, M, w, s⟩ K HK
  have hgl : (rPt g).items.length = X.length - j := by rw [e, List.length_drop]
  unfold i_SDeleteAt.l2.b; refine r_cmpI ?_; refine r_if (fun hlt => ?_) (fun hge => ?_)
  · have hlt : j < (setT l).length := by have := of_decide_eq_true hlt; omega
    have hjX : j < X.length := by omega
    obtain ⟨rfl, rfl⟩ : mn = 31 ∧ mx = 63 := by
      rcases hm with h | h
      · exact h
      · omega
    have ed := List.drop_eq_getElem_cons hjX
    rw [ed] at e; unfold i_SDeleteAt.j3; refine (hb.st s).at (f := fk) (l := List.replicate (setT l).length (0 : Int)) (n := j) rfl fkl rfl (by simp) (by simpa using hlt) fun b3 o3 hbb => ?_; rw [List.getElem_replicate] at hbb; refine hbb.load0 rfl ?_; refine DelAtS_ok M (by omega) s fun r g' h p M' s => ?_; refine r_ext rfl (r_ext rfl ?_)
    obtain ⟨rfl, e'⟩ := at0 p e; refine key_ok fun E2 h s2 => ?_
    have s := (s.join s2).perm (E' := (b, o, (fnK (X.take j)).flatMap kc ++ sp) :: ((tb, 0, hdr 0 none (rA g') (rPt g').items.length 31 63) :: (rAll g' ++ (R ++ E2)))) (by ((apply perm_rg; intro f; simp only [set_cons_zero, set_cons_succ, eraseIdx_cons_zero, eraseIdx_cons_succ, cons_append, nil_append, map_append, map_cons, map_nil, List.sum_append, List.sum_cons, List.sum_nil, map_flatMap, Nat.add_zero, Nat.zero_add]; ac_rfl)))
    refine more_ok (o := some X[j].1) (by rw [fnK_len, List.length_take]; omega) w s fun v2 b2 o2 sp2 R2 h w2 s => ?_; rw [fnK_snoc hjX] at w2 s; unfold i_SDeleteAt.j4; refine r_add1 (by omega) ?_; exact HK ((setT l).length - (j + 1)) _ _ (by omega) ⟨j + 1, g', v2, b2, o2, sp2, R2 ++ (R ++ E2), rfl, hlt, rfl, e', M', w2, s.perm (by ((apply perm_rg; intro f; simp only [set_cons_zero, set_cons_succ, eraseIdx_cons_zero, eraseIdx_cons_succ, cons_append, nil_append, map_append, map_cons, map_nil, List.sum_append, List.sum_cons, List.sum_nil, map_flatMap, Nat.add_zero, Nat.zero_add]; ac_rfl)))⟩
  · have hge : j = (setT l).length := by have := of_decide_eq_false hge; omega
    subst hge
    have he : (rPt g).items = [] := List.length_eq_zero_iff.1 (by omega)
    rw [List.take_of_length_le (by omega)] at w s; unfold i_SDeleteAt.j1; refine left_ok M he s fun v2 h' r2 ⟨R2, s⟩ => ?_
    have s : St hA [] ((b, o, (fnK X).flatMap kc ++ sp) :: (R2 ++ R)) h' := s.perm (by ((apply perm_rg; intro f; simp only [set_cons_zero, set_cons_succ, eraseIdx_cons_zero, eraseIdx_cons_succ, cons_append, nil_append, map_append, map_cons, map_nil, List.sum_append, List.sum_cons, List.sum_nil, map_flatMap, Nat.add_zero, Nat.zero_add]; ac_rfl)))
    refine H v' v2 _ h' ?_ r2 s
    have := w.rdl s 0 rfl
    rw [fnK_len, hX, hXe] at this; exact this
def plc (n : Nat) : List Int := (List.range n).map fun i : Nat => (i : Int)
theorem plc_len (n : Nat) : (plc n).length = n := by unfold plc; rw [List.length_map, List.length_range]
theorem plc_at {n j : Nat} (h : j < (plc n).length) : (plc n)[j] = (j : Int) := by
  have e : (plc n)[j]? = some (j : Int) := by
    unfold plc; rw [List.getElem?_map, List.getElem?_range (by rw [plc_len] at h; exact h)]; rfl
  rw [List.getElem?_eq_getElem h] at e; exact Option.some.inj e
theorem SGetAt_ok {l : List KT} {v vb : Value} (hr : Rdl 1 hA v l.length (l.flatMap fk)) (hl : l.length ≤ 2147483647) (hb : Rdl 1 hA vb (setT l).length ((plc (setT l).length).flatMap fk))
    (H : ∀ v1 E' h', Rdl 2 h' v1 (setT l).length ((fnK (setT l)).flatMap kc) → St hA [] E' h' → Q v1 h') : i_SGetAt.call #[v, vb] hA Q := by
  refine i_SGetAt.body _ _ _ _ ?_; unfold i_SGetAt.sh
  have hle := setT_len l
  refine growS_ok hr hl fun g tb mn mx E' h e M hd s => ?_; refine hb.lenV ?_; obtain ⟨X, hXe⟩ : ∃ X, X = setT l := ⟨_, rfl⟩
  have hX : X.length = (setT l).length := by rw [hXe]
  refine loop_ghost (fun q st h' => ∃ (j : Nat) (v' : Value) (b o : Nat) (sp : List Value) (R : List Rg), q = (setT l).length - j ∧ j ≤ (setT l).length ∧ st = [v', .int .i64 (j : Nat)] ∧ Own 2 v' (fnK (X.take j)).length b o ((fnK (X.take j)).flatMap kc) sp ∧ St hA [] ((tb, 0, hdr 0 none (rA g) (rPt g).items.length mn mx) :: (rAll g ++ ((b, o, (fnK (X.take j)).flatMap kc ++ sp) :: R))) h') (n0 := (setT l).length)
    ⟨0, .slice none 0 0, 0, 0, [], E', rfl, Nat.zero_le _, rfl, Own.nil 2 0 0, (s.empty 0 0).perm (by
      show List.Perm ((tb, 0, hdr 0 none (rA g) (rPt g).items.length mn mx) :: (rAll g ++ ((0, 0, []) :: E'))) _
      ((apply perm_rg; intro f; simp only [set_cons_zero, set_cons_succ, eraseIdx_cons_zero, eraseIdx_cons_succ, cons_append, nil_append, map_append, map_cons, map_nil, List.sum_append, List.sum_cons, List.sum_nil, map_flatMap, Nat.add_zero, Nat.zero_add]; ac_rfl)))⟩ ?_
  clear s
  rintro q st h ⟨j, v', b, o, sp, R, rfl, hj, rfl, w, s⟩ K HK
  unfold i_SGetAt.l2.b; refine r_cmpI ?_; refine r_if (fun hlt => ?_) (fun hge => ?_)
  · have hlt : j < (setT l).length := by have := of_decide_eq_true hlt; omega
    have hjX : j < X.length := by omega
    unfold i_SGetAt.j3; refine (hb.st s).at (f := fk) (l := plc (setT l).length) (n := j) rfl fkl rfl (plc_len _).symm (by rw [plc_len]; exact hlt) fun b3 o3 hbb => ?_; rw [plc_at] at hbb; refine hbb.load0 rfl ?_; refine Set_i_GetAt.body _ _ _ _ ?_; unfold Set_i_GetAt.sh; refine r_nil (r_fld ?_)
    refine GetAt_ok M (by rw [e]; omega) s fun h s => ?_
    have ek : atK (rPt g).items ((j : Nat) : Int) = some X[j] := by
      unfold atK; rw [if_pos (by omega), Int.toNat_natCast, e, ← hXe]; exact List.getElem?_eq_getElem hjX
    rw [ek]; refine r_ext rfl (r_ext rfl (r_ext rfl ?_))
    refine s.r_alloc fun t5 h s => ?_; refine r_st00 ?_
    have s : St hA [] ((tb, 0, hdr 0 none (rA g) (rPt g).items.length mn mx) :: (rAll g ++ ((b, o, (fnK (X.take j)).flatMap kc ++ sp) :: R))) h := s.drop 1
    refine r_ext rfl (r_ext rfl ?_)
    refine key_ok fun E2 h s2 => ?_
    have s := (s.join s2).perm (E' := (b, o, (fnK (X.take j)).flatMap kc ++ sp) :: ((tb, 0, hdr 0 none (rA g) (rPt g).items.length mn mx) :: (rAll g ++ (R ++ E2)))) (by ((apply perm_rg; intro f; simp only [set_cons_zero, set_cons_succ, eraseIdx_cons_zero, eraseIdx_cons_succ, cons_append, nil_append, map_append, map_cons, map_nil, List.sum_append, List.sum_cons, List.sum_nil, map_flatMap, Nat.add_zero, Nat.zero_add]; ac_rfl)))
    refine more_ok (o := some X[j].1) (by rw [fnK_len, List.length_take]; omega) w s fun v2 b2 o2 sp2 R2 h w2 s => ?_; rw [fnK_snoc hjX] at w2 s; unfold i_SGetAt.j4; refine r_add1 (by omega) ?_; exact HK ((setT l).length - (j + 1)) _ _ (by omega) ⟨j + 1, v2, b2, o2, sp2, R2 ++ (R ++ E2), rfl, hlt, rfl, w2, s.perm (by ((apply perm_rg; intro f; simp only [set_cons_zero, set_cons_succ, eraseIdx_cons_zero, eraseIdx_cons_succ, cons_append, nil_append, map_append, map_cons, map_nil, List.sum_append, List.sum_cons, List.sum_nil, map_flatMap, Nat.add_zero, Nat.zero_add]; ac_rfl)))⟩
  · have hge : j = (setT l).length := by have := of_decide_eq_false hge; omega
    subst hge; rw [List.take_of_length_le (by omega)] at w s; unfold i_SGetAt.j1
    have s : St hA [] ((b, o, (fnK X).flatMap kc ++ sp) :: ((tb, 0, hdr 0 none (rA g) (rPt g).items.length mn mx) :: (rAll g ++ R))) h := s.perm (by ((apply perm_rg; intro f; simp only [set_cons_zero, set_cons_succ, eraseIdx_cons_zero, eraseIdx_cons_succ, cons_append, nil_append, map_append, map_cons, map_nil, List.sum_append, List.sum_cons, List.sum_nil, map_flatMap, Nat.add_zero, Nat.zero_add]; ac_rfl)))
    refine H v' _ h ?_ s
    have := w.rdl s 0 rfl
    rw [fnK_len, hX, hXe] at this; exact this
end Go.Proofs.Ytdpkpcmoabfofaa.Iu
end
section
namespace Go.Proofs.Ytdpkpcmoabfofaa.Iu
open Go.Hp Go.Proofs.Ytdpkpcmoabfofaa
variable {h0 h hA : Heap} {Z E : List Rg} {Q : Value → Heap → Prop} {ti to tb m : Nat}
theorem Iter_ok {tb : Nat} (H : ∀ E' h', St hA [] E' h' → Q (.agg (itC tb false false false (.slice none 0 0) emp).toArray) h') : Map_iu_Iter.call #[ptr tb 0] hA Q := by
  refine Map_iu_Iter.body _ _ _ ?_; unfold Map_iu_Iter.sh
  have s := St.start hA
  refine s.r_alloc fun t2 h s => ?_; refine Map_iu_iter.body _ _ _ _ ?_; unfold Map_iu_iter.sh; refine s.r_alloc fun t4 h s => ?_; refine s.r_alloc fun t5 h s => ?_; refine r_fld ?_; refine St.r_store0 s 0 rfl (by simp) rfl ?_; intro h s
  try simp only [List.set_cons_zero, List.set_cons_succ] at s
  refine r_fld ?_; refine St.r_store0 s 0 rfl (by simp) rfl ?_; intro h s
  try simp only [List.set_cons_zero, List.set_cons_succ] at s
  have s : St hA [] [(t5, 0, itC tb false false false (.slice none 0 0) emp), (t4, 0, [.pointer none, .bool false, .bool false, .bool false, .bool false, .slice none 0 0, .int .i64 0]), (t2, 0, [.pointer none, .bool false, .bool false, .bool false, .bool false, .slice none 0 0, .int .i64 0])] h := s
  refine St.r_loadN0 s 0 rfl (Nat.le_refl 7) ?_; refine St.r_storeN0 s 1 (ys := itC tb false false false (.slice none 0 0) emp) rfl rfl (by simp) (by simp [itC, one1]) ?_; intro h s
  have s : St hA [] [(t5, 0, itC tb false false false (.slice none 0 0) emp), (t4, 0, itC tb false false false (.slice none 0 0) emp), (t2, 0, [.pointer none, .bool false, .bool false, .bool false, .bool false, .slice none 0 0, .int .i64 0])] h := s
  refine St.r_loadN0 s 1 rfl (Nat.le_refl 7) ?_; refine St.r_storeN0 s 2 (ys := itC tb false false false (.slice none 0 0) emp) rfl rfl (by simp) (by simp [itC, one1]) ?_; intro h s
  have s : St hA [] [(t5, 0, itC tb false false false (.slice none 0 0) emp), (t4, 0, itC tb false false false (.slice none 0 0) emp), (t2, 0, itC tb false false false (.slice none 0 0) emp)] h := s
  refine St.r_loadN0 s 2 rfl (Nat.le_refl 7) ?_; exact H _ h s
theorem IterS_ok {tb : Nat} (H : ∀ E' h', St hA [] E' h' → Q (.agg (itC tb false false false (.slice none 0 0) emp).toArray) h') : Set_i_Iter.call #[ptr tb 0] hA Q := by
  refine Set_i_Iter.body _ _ _ ?_; unfold Set_i_Iter.sh
  have s := St.start hA
  refine s.r_alloc fun t2 h s => ?_; refine r_nil (r_fld ?_)
  refine Iter_ok fun E2 h2 s2 => ?_
  have s := (s.join s2).perm List.perm_append_comm
  have s : St hA [] ((t2, 0, [.pointer none, .bool false, .bool false, .bool false, .bool false, .slice none 0 0, .int .i64 0]) :: E2) h2 := s
  refine r_build (cs := itC tb false false false (.slice none 0 0) emp) rfl ?_; refine St.r_storeN0 s 0 (ys := itC tb false false false (.slice none 0 0) emp) rfl rfl (by simp) (by simp [itC, one1]) ?_; intro h2 s
  have s : St hA [] ((t2, 0, itC tb false false false (.slice none 0 0) emp) :: E2) h2 := s
  refine St.r_loadN0 s 0 rfl (Nat.le_refl 7) ?_; exact H _ h2 s
theorem ItAt.cell {g : Rt} {ps : Pos} {A : List Rg} (T : Tr Z g tb m) (I : ItAt g tb ti to ps A) : ∃ sk as_ ae sv x R, A = (ti, to, itC tb sk as_ ae sv x) :: R ∧ ∀ n, ps = .at' n → (rPt g).items[n]? = some x := by
  obtain ⟨sk, as_, ae, sv, y, b, o, F, sp, R, w, rfl, hs⟩ := I; refine ⟨sk, as_, ae, sv, y, _, rfl, fun n e => ?_⟩
  subst e; obtain ⟨-, t, rfl, pl⟩ := hs; obtain ⟨iso, hn⟩ := T.nd; exact pl.at ((hn t rfl).hl T.m3)
theorem Tr.of_map {g : Rt} {tb : Nat} {mn mx : Int} (M : MapOk 63 0 g) (hd : (tb, 0, hdr 0 none (rA g) (rPt g).items.length mn mx) ∈ Z) (hn : ∀ r ∈ rAll g, r ∈ Z) (few : (rPt g).items.length ≤ 4294967296) : Tr Z g tb 63 where
  hd := ⟨_, _, _, _, _, hd⟩
  nd := ⟨0, fun t e => by subst e; exact ⟨M.gd, M.fl, hn⟩⟩
  asc := M.asc
  m3 := M.m3
  m1 := M.m1
  few := few
def mvC (op : Int) : List Value := [.int .i64 op, .int .i64 0, .int .i64 0]
theorem mvCl (op : Int) : (mvC op).length = 3 := rfl
def opA (sd : Bool) : Int := if sd then 1 else 0
def opB (sd : Bool) : Int := if sd then 3 else 2
def mvs (sd : Bool) (n : Nat) : List Int := opA sd :: List.replicate n (opB sd)
theorem mvs_len (sd : Bool) (n : Nat) : (mvs sd n).length = n + 1 := by unfold mvs; rw [List.length_cons, List.length_replicate]
theorem mvs_at {sd : Bool} {n j : Nat} (h : j < (mvs sd n).length) : (mvs sd n)[j] = if j = 0 then opA sd else opB sd := by
  cases j with
  | zero => rfl
  | succ j =>
    rw [if_neg (Nat.succ_ne_zero j)]
    have hj : j < n := by rw [mvs_len] at h; omega
    have e : (mvs sd n)[j + 1]? = some (opB sd) := by
      show (List.replicate n (opB sd))[j]? = _
      rw [List.getElem?_replicate, if_pos hj]
    rw [List.getElem?_eq_getElem h] at e; exact Option.some.inj e
def stp (sd : Bool) (n j : Nat) : Pos := if j = 0 then .new else .at' (if sd then n - j else j - 1)
def outI (X : List It) (j : Nat) : List (Option KT) := fnK (X.take j) ++ if X.length < j then [none] else []
theorem outI_lt {X : List It} {j : Nat} (h : j < X.length) : outI X j ++ [some X[j].1] = outI X (j + 1) := by
  unfold outI; rw [if_neg (by omega), if_neg (by omega), List.append_nil, List.append_nil]; exact fnK_snoc h
theorem outI_eq {X : List It} {j : Nat} (h : j = X.length) : outI X j ++ [none] = outI X (j + 1) := by
  subst h; unfold outI; rw [if_neg (by omega), if_pos (by omega), List.append_nil, List.take_of_length_le (Nat.le_refl _), List.take_of_length_le (by omega)]
theorem outI_len {X : List It} {j : Nat} : (outI X j).length ≤ X.length + 1 := by
  unfold outI; rw [List.length_append, fnK_len, List.length_take]; split <;> simp <;> omega
theorem SIter_ok {sd : Bool} {l : List KT} {v vm : Value} (hr : Rdl 1 hA v l.length (l.flatMap fk)) (hl : l.length ≤ 2147483647) (hb : Rdl 3 hA vm ((setT l).length + 1) ((mvs sd (setT l).length).flatMap mvC))
    (H : ∀ v1 E' h', Rdl 2 h' v1 ((setT l).length + 1) ((fnK (rv sd (setT l)) ++ [none]).flatMap kc) → St hA [] E' h' → Q v1 h') : i_SIter.call #[v, vm] hA Q := by
  refine i_SIter.body _ _ _ _ ?_; unfold i_SIter.sh
  have hle := setT_len l
  refine growS_ok hr hl fun g tb mn mx E' h e M hd s => ?_; refine IterS_ok fun E2 h s2 => ?_
  have s := s.join s2
  refine s.r_alloc fun t5 h s => ?_; refine St.r_storeN0 s 0 (ys := itC tb false false false (.slice none 0 0) emp) rfl rfl (by simp) (by simp [itC, one1]) ?_; intro h s
  have s : St hA [] (((tb, 0, hdr 0 none (rA g) (rPt g).items.length mn mx) :: rAll g) ++ ((t5, 0, itC tb false false false (.slice none 0 0) emp) :: (E2 ++ E'))) h := s.perm (by
    show List.Perm _ ((t5, 0, itC tb false false false (.slice none 0 0) emp) :: (E2 ++ ((tb, 0, hdr 0 none (rA g) (rPt g).items.length mn mx) :: (rAll g ++ E'))))
    ((apply perm_rg; intro f; simp only [set_cons_zero, set_cons_succ, eraseIdx_cons_zero, eraseIdx_cons_succ, cons_append, nil_append, map_append, map_cons, map_nil, List.sum_append, List.sum_cons, List.sum_nil, map_flatMap, Nat.add_zero, Nat.zero_add]; ac_rfl)))
  obtain ⟨s1, back⟩ := s.borrow
  have T : Tr (((tb, 0, hdr 0 none (rA g) (rPt g).items.length mn mx) :: rAll g) ++ []) g tb 63 := Tr.of_map M (List.mem_append.2 (.inl (List.mem_cons_self ..))) (fun r hr => List.mem_append.2 (.inl (List.mem_cons_of_mem _ hr))) (by rw [e]; omega)
  refine hb.lenV ?_; obtain ⟨X, hXe⟩ : ∃ X, X = rv sd (setT l) := ⟨_, rfl⟩
  have hX : X.length = (setT l).length := by rw [hXe, rv_len]
  obtain ⟨n, hn⟩ : ∃ n, n = (setT l).length := ⟨_, rfl⟩; rw [← hn] at hb H hX hle ⊢
  have hgn : (rPt g).items.length = n := by rw [e, hn]
  -- what lies at the place of step j
  have hpl : ∀ j, j < n → ∀ x, (rPt g).items[if sd then n - 1 - j else j]? = some x → X[j]? = some x := fun j hj x hx => by
    rw [e] at hx; rw [hXe]; unfold rv
    cases sd with
    | false => exact hx
    | true =>
      simp only [if_true] at hx ⊢
      rw [List.getElem?_reverse (by omega), ← hn]; exact hx
  rw [← hXe] at H
  refine loop_ghost (fun q st h' => ∃ (j : Nat) (v' : Value) (b o : Nat) (sp : List Value) (A R : List Rg) (ps : Pos), q = n + 1 - j ∧ j ≤ n + 1 ∧ st = [v', .int .i64 (j : Nat)] ∧ Own 2 v' (outI X j).length b o ((outI X j).flatMap kc) sp ∧ ItAt g tb t5 0 ps A ∧ (j ≤ n → ps = stp sd n j) ∧ St hA (((tb, 0, hdr 0 none (rA g) (rPt g).items.length mn mx) :: rAll g) ++ []) (A ++ ((b, o, (outI X j).flatMap kc ++ sp) :: R)) h') (n0 := n + 1)
    ⟨0, .slice none 0 0, 0, 0, [], [(t5, 0, itC tb false false false (.slice none 0 0) emp), (0, 0, [])], E2 ++ E', .new, rfl, Nat.zero_le _, rfl, by unfold outI; rw [if_neg (by omega)]; exact Own.nil 2 0 0, ⟨false, false, false, .slice none 0 0, emp, 0, 0, [], [], [], Own.nil 2 0 0, rfl, rfl, rfl⟩, fun _ => rfl, by
      have e0 : outI X 0 = [] := by unfold outI; rw [if_neg (by omega)]; rfl
      rw [e0]
      exact ((s1.empty 0 0).empty 0 0).perm (by
        show List.Perm ((t5, 0, itC tb false false false (.slice none 0 0) emp) :: (0, 0, []) :: (0, 0, []) :: (E2 ++ E')) ((0, 0, []) :: (0, 0, []) :: (t5, 0, itC tb false false false (.slice none 0 0) emp) :: (E2 ++ E'))
        ((apply perm_rg; intro f; simp only [set_cons_zero, set_cons_succ, eraseIdx_cons_zero, eraseIdx_cons_succ, cons_append, nil_append, map_append, map_cons, map_nil, List.sum_append, List.sum_cons, List.sum_nil, map_flatMap, Nat.add_zero, Nat.zero_add]; ac_rfl)))⟩ ?_
  clear s s1
  rintro q st h ⟨j, v', b, o, sp, A, R, ps, rfl, hj, rfl, w, I, hps, s⟩ K HK
  unfold i_SIter.l2.b; refine r_cmpI ?_; refine r_if (fun hlt => ?_) (fun hge => ?_)
  · have hlt : j < n + 1 := by have := of_decide_eq_true hlt; omega
    have hps := hps (by omega)
    subst hps; unfold i_SIter.j3; refine (hb.st s).at (f := mvC) (l := mvs sd n) (n := j) rfl mvCl rfl (mvs_len _ _).symm (by rw [mvs_len]; exact hlt) fun b3 o3 hbb => ?_; rw [mvs_at] at hbb; refine hbb.loadN rfl ?_; refine s.r_alloc fun t8 h s => ?_; refine St.r_storeN0 s 0 (ys := mvC (if j = 0 then opA sd else opB sd)) rfl rfl (by simp) (by simp [mvC, one1]) ?_; intro h s
    have s : St hA (((tb, 0, hdr 0 none (rA g) (rPt g).items.length mn mx) :: rAll g) ++ []) ((t8, 0, mvC (if j = 0 then opA sd else opB sd)) :: (A ++ ((b, o, (outI X j).flatMap kc ++ sp) :: R))) h := s
    refine r_fld ?_; refine St.r_load0 s 0 (v := .int .i64 (if j = 0 then opA sd else opB sd)) rfl rfl ?_
    have s : St hA (((tb, 0, hdr 0 none (rA g) (rPt g).items.length mn mx) :: rAll g) ++ []) (A ++ ((b, o, (outI X j).flatMap kc ++ sp) :: ((t8, 0, mvC (if j = 0 then opA sd else opB sd)) :: R))) h := s.perm (by ((apply perm_rg; intro f; simp only [set_cons_zero, set_cons_succ, eraseIdx_cons_zero, eraseIdx_cons_succ, cons_append, nil_append, map_append, map_cons, map_nil, List.sum_append, List.sum_cons, List.sum_nil, map_flatMap, Nat.add_zero, Nat.zero_add]; ac_rfl)))
    -- what holds behind the move
    have go : ∀ {bb : Bool} {ps' : Pos} {A' : List Rg} {h : Heap}, bb = decide (j < n) → (j < n → ps' = .at' (if sd then n - 1 - j else j)) → ItAt g tb t5 0 ps' A' → St hA (((tb, 0, hdr 0 none (rA g) (rPt g).items.length mn mx) :: rAll g) ++ []) (A' ++ ((b, o, (outI X j).flatMap kc ++ sp) :: ((t8, 0, mvC (if j = 0 then opA sd else opB sd)) :: R))) h →
        i_SIter.j5 (ptr t5 0) v' (.bool bb) vm (.int .i64 ((n + 1 : Nat) : Int)) (.int .i64 (j : Nat)) h K Q := fun {bb ps' A' h} eb hp I s => by
      obtain ⟨sk, as_, ae, sv, x, R0, rfl, hy⟩ := I.cell T; unfold i_SIter.j5; refine SetIter_i_Key.body _ _ _ ?_; unfold SetIter_i_Key.sh; refine r_nil (r_fld ?_)
      refine MapIter_iu_Key.body _ _ _ ?_; unfold MapIter_iu_Key.sh; refine r_nil (r_fld (r_fld ?_))
      refine St.r_load0 s 0 (v := kv x.1) rfl rfl ?_; refine key_ok fun E3 h s3 => ?_
      have s := (s.join s3).perm (E' := (b, o, (outI X j).flatMap kc ++ sp) :: (((t5, 0, itC tb sk as_ ae sv x) :: R0) ++ ((t8, 0, mvC (if j = 0 then opA sd else opB sd)) :: (R ++ E3)))) (by ((apply perm_rg; intro f; simp only [set_cons_zero, set_cons_succ, eraseIdx_cons_zero, eraseIdx_cons_succ, cons_append, nil_append, map_append, map_cons, map_nil, List.sum_append, List.sum_cons, List.sum_nil, map_flatMap, Nat.add_zero, Nat.zero_add]; ac_rfl)))
      have eo : outI X j ++ [if bb then some x.1 else none] = outI X (j + 1) := by
        by_cases hjn : j < n
        · rw [eb, decide_eq_true hjn, if_pos rfl]
          have hx := hpl j hjn x (hy _ (hp hjn))
          obtain ⟨hj2, rfl⟩ := List.getElem?_eq_some_iff.1 hx; exact outI_lt hj2
        · rw [eb, decide_eq_false hjn]
          exact outI_eq (by omega)
      refine more_ok (o := if bb then some x.1 else none) (by have := outI_len (X := X) (j := j); omega) w s fun v2 b2 o2 sp2 R2 h w2 s => ?_; rw [eo] at w2 s; unfold i_SIter.j4; refine r_add1 (by omega) ?_; refine HK (n + 1 - (j + 1)) _ _ (by omega) ⟨j + 1, v2, b2, o2, sp2, (t5, 0, itC tb sk as_ ae sv x) :: R0, R2 ++ ((t8, 0, mvC (if j = 0 then opA sd else opB sd)) :: (R ++ E3)), ps', rfl, by omega, rfl, w2, I, fun hjn => ?_, s.perm (by ((apply perm_rg; intro f; simp only [set_cons_zero, set_cons_succ, eraseIdx_cons_zero, eraseIdx_cons_succ, cons_append, nil_append, map_append, map_cons, map_nil, List.sum_append, List.sum_cons, List.sum_nil, map_flatMap, Nat.add_zero, Nat.zero_add]; ac_rfl)))⟩
      rw [hp (by omega)]
      have e5 : n - (j + 1) = n - 1 - j := by omega
      unfold stp; rw [if_neg (Nat.succ_ne_zero j), e5, Nat.add_sub_cancel]
    have pick : (j = 0 ∧ sd = false) ∨ (j = 0 ∧ sd = true) ∨ (j ≠ 0 ∧ sd = false) ∨ (j ≠ 0 ∧ sd = true) := by
      by_cases h0 : j = 0 <;> cases sd <;> simp [h0]
    rcases pick with ⟨rfl, rfl⟩ | ⟨rfl, rfl⟩ | ⟨hj0, rfl⟩ | ⟨hj0, rfl⟩
    · refine r_cmpI ?_
      refine r_if (fun e => absurd e (by decide)) (fun _ => ?_)
      refine r_cmpI ?_; refine r_if (fun e => absurd e (by decide)) (fun _ => ?_)
      refine r_cmpI ?_; refine r_if (fun e => absurd e (by decide)) (fun _ => ?_)
      refine r_cmpI ?_; refine r_if (fun e => absurd e (by decide)) (fun _ => ?_)
      refine r_cmpI ?_; unfold i_SIter.j6; refine r_if (fun e => absurd e (by decide)) (fun _ => ?_)
      refine SetIter_i_First.body _ _ _ ?_; unfold SetIter_i_First.sh; refine r_nil (r_fld ?_)
      refine First_ok T I s (fun hn0 A' h' I' s => ?_) (fun hn0 A' h' I' s => ?_)
      · have : n = 0 := by rw [← hgn, hn0]; rfl
        exact go (by rw [decide_eq_false (by omega)]) (fun h => absurd h (by omega)) I' s
      · exact go (by rw [decide_eq_true (by omega)]) (fun _ => rfl) I' s
    · refine r_cmpI ?_
      refine r_if (fun _ => ?_) (fun e => absurd e (by decide))
      refine SetIter_i_Last.body _ _ _ ?_; unfold SetIter_i_Last.sh; refine r_nil (r_fld ?_)
      refine Last_ok T I s (fun hn0 A' h' I' s => ?_) (fun hn0 A' h' I' s => ?_)
      · have : n = 0 := by rw [← hgn, hn0]; rfl
        exact go (by rw [decide_eq_false (by omega)]) (fun h => absurd h (by omega)) I' s
      · exact go (by rw [decide_eq_true (by omega)]) (fun _ => by rw [hgn]; rfl) I' s
    · have eop : (if j = 0 then opA false else opB false) = 2 := by rw [if_neg hj0]; rfl
      rw [eop] at s go ⊢; refine r_cmpI ?_; refine r_if (fun e => absurd e (by decide)) (fun _ => ?_)
      refine r_cmpI ?_; refine r_if (fun _ => ?_) (fun e => absurd e (by decide))
      refine SetIter_i_Next.body _ _ _ ?_; unfold SetIter_i_Next.sh; refine r_nil (r_fld ?_)
      have est : stp false n j = .at' (j - 1) := by unfold stp; rw [if_neg hj0]; rfl
      rw [est] at I; refine Next_ok T I s fun bb ps' A' h' hr I' s => ?_
      rcases hr with ⟨h1, rfl, rfl⟩ | ⟨h1, rfl, rfl⟩
      · exact go (by rw [decide_eq_true (by omega)]) (fun _ => by rw [show j - 1 + 1 = j by omega]; rfl) I' s
      · exact go (by rw [decide_eq_false (by omega)]) (fun h => absurd h (by omega)) I' s
    · have eop : (if j = 0 then opA true else opB true) = 3 := by rw [if_neg hj0]; rfl
      rw [eop] at s go ⊢; refine r_cmpI ?_; refine r_if (fun e => absurd e (by decide)) (fun _ => ?_)
      refine r_cmpI ?_; refine r_if (fun e => absurd e (by decide)) (fun _ => ?_)
      refine r_cmpI ?_; refine r_if (fun _ => ?_) (fun e => absurd e (by decide))
      refine SetIter_i_Prev.body _ _ _ ?_; unfold SetIter_i_Prev.sh; refine r_nil (r_fld ?_)
      have est : stp true n j = .at' (n - j) := by unfold stp; rw [if_neg hj0]; rfl
      rw [est] at I; refine Prev_ok T I s fun bb ps' A' h' hr I' s => ?_
      rcases hr with ⟨h1, rfl, rfl⟩ | ⟨h1, rfl, rfl⟩
      · exact go (by rw [decide_eq_true (by omega)]) (fun _ => by rw [show n - j - 1 = n - 1 - j by omega]; rfl) I' s
      · exact go (by rw [decide_eq_false (by omega)]) (fun h => absurd h (by omega)) I' s
  · have hge : j = n + 1 := by have := of_decide_eq_false hge; omega
    subst hge
    have eo : outI X (n + 1) = fnK X ++ [none] := by unfold outI; rw [if_pos (by omega), List.take_of_length_le (by omega)]
    rw [eo] at w s; unfold i_SIter.j1
    have s : St hA _ ((b, o, (fnK X ++ [none]).flatMap kc ++ sp) :: (A ++ R)) h := s.perm (by ((apply perm_rg; intro f; simp only [set_cons_zero, set_cons_succ, eraseIdx_cons_zero, eraseIdx_cons_succ, cons_append, nil_append, map_append, map_cons, map_nil, List.sum_append, List.sum_cons, List.sum_nil, map_flatMap, Nat.add_zero, Nat.zero_add]; ac_rfl)))
    refine H v' _ h ?_ (back _ _ s)
    have := w.rdl s 0 rfl
    rw [List.length_append, fnK_len, hX] at this; exact this
end Go.Proofs.Ytdpkpcmoabfofaa.Iu
end
section
namespace Go.Proofs.Ytdpkpcmoabfofaa.Iu
open Go.Hp Go.Proofs.Ytdpkpcmoabfofaa
variable {h0 h hA : Heap} {Z E : List Rg} {Q : Value → Heap → Prop}
theorem ltI {a b : Int} (h : (decide (a < b)) = true) : a < b := of_decide_eq_true h
theorem geI {a b : Int} (h : (decide (a < b)) = false) : b ≤ a := Int.not_lt.1 (of_decide_eq_false h)
theorem fk1 (k : KT) : ∀ y ∈ fk k, one1 y = true := by simp [one1]
theorem fk_map (L : List KT) : L.flatMap fk = L.map kv := (List.map_eq_flatMap ..).symm
theorem st1 {L : List KT} {x : KT} {i b o : Nat} {sp : List Value} {KH : Heap → Prop} (s : St h0 Z ((b, o, L.flatMap fk ++ sp) :: E) h) (hi : i < L.length) (H : ∀ h', St h0 Z ((b, o, (L.set i x).flatMap fk ++ sp) :: E) h' → KH h') : store1 (ptr b (o + i * 1)) (kv x) h KH := by
  rw [fk_map] at s; refine St.r_store1 s 0 (j := i * 1) rfl (by rw [List.length_append, List.length_map]; omega) rfl fun h' s' => H h' ?_
  have s' : St h0 Z ((b, o, (L.map kv ++ sp).set (i * 1) (kv x)) :: E) h' := s'
  rw [Nat.mul_one, List.set_append_left _ _ (by rw [List.length_map]; exact hi), ← List.map_set] at s'; rw [fk_map]; exact s'
theorem ReverseN_ok {P : List KT} {v : Value} {b o : Nat} {sp : List Value} (w : Own 1 v P.length b o (P.flatMap fk) sp) (hl : P.length ≤ 4294967296) (s : St h0 Z ((b, o, P.flatMap fk ++ sp) :: E) h)
    (H : ∀ h', St h0 Z ((b, o, P.reverse.flatMap fk ++ sp) :: E) h' → Q (.tuple #[]) h') : sl_Reverse_inti.call #[v] h Q := by
  refine sl_Reverse_inti.body _ _ _ ?_; unfold sl_Reverse_inti.sh; refine w.lenV ?_; refine r_subI (by omega) (by omega) ?_
  refine loop_ghost (fun q st h' => ∃ (i : Nat) (M : List KT), q = P.length - i ∧ 2 * i ≤ P.length + 1 ∧ i ≤ P.length ∧ st = [.int .i64 (i : Nat), .int .i64 ((P.length : Int) - 1 - i)] ∧ M.length = P.length ∧ (∀ k, k < P.length → M[k]? = if k < i ∨ P.length - i ≤ k then P[P.length - 1 - k]? else P[k]?) ∧ St h0 Z ((b, o, M.flatMap fk ++ sp) :: E) h') (n0 := P.length)
    ⟨0, P, rfl, by omega, Nat.zero_le _, by simp, rfl, fun k hk => by rw [if_neg (by omega)], s⟩ ?_
  clear s
  rintro q st g ⟨i, M, rfl, hi2, hi, rfl, hM, hMk, s⟩ K HK
  have wM : Own 1 v M.length b o (M.flatMap fk) sp := w.list fkl hM
  unfold sl_Reverse_inti.l1.b; refine r_cmpI ?_; refine r_if (fun hlt => ?_) (fun hge => ?_)
  · have hlt := ltI hlt
    have hi' : i < M.length := by omega
    have hj' : P.length - 1 - i < M.length := by omega
    have ej : (P.length : Int) - 1 - i = ((P.length - 1 - i : Nat) : Int) := by omega
    have hx1 := hMk i (by omega)
    have hx2 := hMk (P.length - 1 - i) (by omega)
    rw [if_neg (by omega)] at hx1 hx2; unfold sl_Reverse_inti.j2; rw [ej]; refine wM.idx (n := P.length - 1 - i) rfl hj' ?_; refine s.r_load1F fkl (r := 0) 0 rfl (List.getElem?_eq_getElem hj') rfl ?_; refine wM.idx (n := i) rfl hi' ?_; refine s.r_load1F fkl (r := 0) 0 rfl (List.getElem?_eq_getElem hi') rfl ?_; refine wM.idx (n := i) rfl hi' ?_; refine st1 (x := M[P.length - 1 - i]) s hi' fun g s => ?_; refine wM.idx (n := P.length - 1 - i) rfl hj' ?_; refine st1 (x := M[i]) s (by rw [List.length_set]; exact hj') fun g s => ?_
    have s : St h0 Z ((b, o, ((M.set i M[P.length - 1 - i]).set (P.length - 1 - i) M[i]).flatMap fk ++ sp) :: E) g := s
    unfold sl_Reverse_inti.j3; refine r_add1 (by omega) ?_; refine r_subI (by omega) (by omega) ?_; refine HK (P.length - (i + 1)) _ _ (by omega) ⟨i + 1, _, rfl, by omega, by omega, ?_, by rw [List.length_set, List.length_set]; exact hM, fun k hk => ?_, s⟩
    · have : ((P.length - 1 - i : Nat) : Int) - 1 = (P.length : Int) - 1 - ((i + 1 : Nat) : Int) := by omega
      rw [this]
    · rw [List.getElem?_eq_getElem hi'] at hx1
      rw [List.getElem?_eq_getElem hj'] at hx2
      by_cases e1 : P.length - 1 - i = k
      · subst e1
        rw [List.getElem?_set_self (by rw [List.length_set]; exact hj'), if_pos (by omega), show P.length - 1 - (P.length - 1 - i) = i by omega]; exact hx1
      · rw [List.getElem?_set_ne e1]
        by_cases e2 : i = k
        · subst e2
          rw [List.getElem?_set_self hi', if_pos (by omega)]; exact hx2
        · rw [List.getElem?_set_ne e2, hMk k hk]
          by_cases e3 : k < i ∨ P.length - i ≤ k
          · rw [if_pos e3, if_pos (by omega)]
          · rw [if_neg e3, if_neg (by omega)]
  · have hge := geI hge
    have e : M = P.reverse := by
      refine List.ext_getElem? fun k => ?_
      rcases Nat.lt_or_ge k P.length with hk | hk
      · rw [hMk k hk, List.getElem?_reverse hk]
        split
        · rfl
        · rw [show P.length - 1 - k = k by omega]
      · rw [List.getElem?_eq_none (by omega), List.getElem?_eq_none (by rw [List.length_reverse]; exact hk)]
    rw [e] at s; exact H g s
theorem CloneN_ok {hA : Heap} {l : List KT} {v : Value} (hr : Rdl 1 hA v l.length (l.flatMap fk)) (hl : l.length ≤ 4294967296)
    (H : ∀ v' b o sp E' h', Own 1 v' l.length b o (l.flatMap fk) sp → St hA [] ((b, o, l.flatMap fk ++ sp) :: E') h' → Q v' h') : sl_Clone_inti.call #[v] hA Q := by
  refine sl_Clone_inti.body _ _ _ ?_; unfold sl_Clone_inti.sh
  have s := St.start hA
  have hr0 := hr
  obtain ⟨a, cap, e, _, hc, _⟩ := hr0; subst e; refine ⟨a, _, _, rfl, ?_⟩
  refine r_if (fun ha => ?_) (fun ha => ?_)
  · have : l = [] := by
      cases l with
      | nil => rfl
      | cons x r =>
        obtain ⟨b, o, e, _⟩ := hc (by simp); subst e; cases ha
    subst this; exact H _ 0 0 [] _ _ (Own.nil 1 0 0) (s.empty 0 0)
  · unfold sl_Clone_inti.j1
    refine St.r_mkSl (sz := 1) (cs := []) s (by ((simp only [fillV, fill1, Value.cells, zeros_succ, zeros_zero, size_toArray, length_cons, length_nil, length_append, take_succ_cons, take_zero, take_nil, drop_succ_cons, drop_zero, drop_nil, cons_append, nil_append, append_nil, Nat.reduceAdd, Nat.reduceMul, Nat.reduceLeDiff, Nat.reduceEqDiff, and_self, and_true, true_and, if_true, Nat.le_refl, Nat.zero_add, Nat.add_zero, Nat.zero_mul, reduceIte, if_false] <;> rfl))) rfl fun q h s wq => ?_; refine s.r_appL (f := fk) (L := []) (M := l) 0 rfl wq rfl (hr.st s) (fun _ _ => fk1 _) (by simp; omega) (by simp; omega) fun v' b' o' sp' h s w' => ?_; exact H _ _ _ _ _ _ w' s
theorem turnedN_ok {P : List KT} {v : Value} (hr : Rdl 1 hA v P.length (P.flatMap fk)) (hl : P.length ≤ 4294967296)
    (H : ∀ w E' h', Rdl 1 h' w P.reverse.length (P.reverse.flatMap fk) → St hA [] E' h' → Q w h') : l_turned_i.call #[v] hA Q := by
  refine l_turned_i.body _ _ _ ?_; unfold l_turned_i.sh; refine CloneN_ok hr hl fun v' b o sp E' g w s => ?_; refine ReverseN_ok w hl s fun g s => ?_; exact H v' _ g ((w.list fkl (List.length_reverse ..)).rdl s 0 rfl) s
theorem ReverseK_ok {P : List (Option KT)} {v : Value} {b o : Nat} {sp : List Value} (w : Own 2 v P.length b o (P.flatMap kc) sp) (hl : P.length ≤ 4294967296) (s : St h0 Z ((b, o, P.flatMap kc ++ sp) :: E) h)
    (H : ∀ h', St h0 Z ((b, o, P.reverse.flatMap kc ++ sp) :: E) h' → Q (.tuple #[]) h') : sl_Reverse_implKeyimplKey.call #[v] h Q := by
  refine sl_Reverse_implKeyimplKey.body _ _ _ ?_; unfold sl_Reverse_implKeyimplKey.sh; refine w.lenV ?_; refine r_subI (by omega) (by omega) ?_
  refine loop_ghost (fun q st h' => ∃ (i : Nat) (M : List (Option KT)), q = P.length - i ∧ 2 * i ≤ P.length + 1 ∧ i ≤ P.length ∧ st = [.int .i64 (i : Nat), .int .i64 ((P.length : Int) - 1 - i)] ∧ M.length = P.length ∧ (∀ k, k < P.length → M[k]? = if k < i ∨ P.length - i ≤ k then P[P.length - 1 - k]? else P[k]?) ∧ St h0 Z ((b, o, M.flatMap kc ++ sp) :: E) h') (n0 := P.length)
    ⟨0, P, rfl, by omega, Nat.zero_le _, by simp, rfl, fun k hk => by rw [if_neg (by omega)], s⟩ ?_
  clear s
  rintro q st g ⟨i, M, rfl, hi2, hi, rfl, hM, hMk, s⟩ K HK
  have wM : Own 2 v M.length b o (M.flatMap kc) sp := w.list kcl hM
  unfold sl_Reverse_implKeyimplKey.l1.b; refine r_cmpI ?_; refine r_if (fun hlt => ?_) (fun hge => ?_)
  · have hlt := ltI hlt
    have hi' : i < M.length := by omega
    have hj' : P.length - 1 - i < M.length := by omega
    have ej : (P.length : Int) - 1 - i = ((P.length - 1 - i : Nat) : Int) := by omega
    have hx1 := hMk i (by omega)
    have hx2 := hMk (P.length - 1 - i) (by omega)
    rw [if_neg (by omega)] at hx1 hx2; unfold sl_Reverse_implKeyimplKey.j2; rw [ej]; refine wM.idx (n := P.length - 1 - i) rfl hj' ?_; refine s.r_loadF kcl 0 rfl (List.getElem?_eq_getElem hj') ?_; refine wM.idx (n := i) rfl hi' ?_; refine s.r_loadF kcl 0 rfl (List.getElem?_eq_getElem hi') ?_; refine wM.idx (n := i) rfl hi' ?_; refine s.r_storeF (x := M[P.length - 1 - i]) kcl 0 rfl hi' (kc1 _) fun g s => ?_; refine wM.idx (n := P.length - 1 - i) rfl hj' ?_; refine s.r_storeF (x := M[i]) kcl 0 rfl (by rw [List.length_set]; exact hj') (kc1 _) fun g s => ?_
    have s : St h0 Z ((b, o, ((M.set i M[P.length - 1 - i]).set (P.length - 1 - i) M[i]).flatMap kc ++ sp) :: E) g := s
    unfold sl_Reverse_implKeyimplKey.j3; refine r_add1 (by omega) ?_; refine r_subI (by omega) (by omega) ?_; refine HK (P.length - (i + 1)) _ _ (by omega) ⟨i + 1, _, rfl, by omega, by omega, ?_, by rw [List.length_set, List.length_set]; exact hM, fun k hk => ?_, s⟩
    · have : ((P.length - 1 - i : Nat) : Int) - 1 = (P.length : Int) - 1 - ((i + 1 : Nat) : Int) := by omega
      rw [this]
    · rw [List.getElem?_eq_getElem hi'] at hx1
      rw [List.getElem?_eq_getElem hj'] at hx2
      by_cases e1 : P.length - 1 - i = k
      · subst e1
        rw [List.getElem?_set_self (by rw [List.length_set]; exact hj'), if_pos (by omega), show P.length - 1 - (P.length - 1 - i) = i by omega]; exact hx1
      · rw [List.getElem?_set_ne e1]
        by_cases e2 : i = k
        · subst e2
          rw [List.getElem?_set_self hi', if_pos (by omega)]; exact hx2
        · rw [List.getElem?_set_ne e2, hMk k hk]
          by_cases e3 : k < i ∨ P.length - i ≤ k
          · rw [if_pos e3, if_pos (by omega)]
          · rw [if_neg e3, if_neg (by omega)]
  · have hge := geI hge
    have e : M = P.reverse := by
      refine List.ext_getElem? fun k => ?_
      rcases Nat.lt_or_ge k P.length with hk | hk
      · rw [hMk k hk, List.getElem?_reverse hk]
        split
        · rfl
        · rw [show P.length - 1 - k = k by omega]
      · rw [List.getElem?_eq_none (by omega), List.getElem?_eq_none (by rw [List.length_reverse]; exact hk)]
    rw [e] at s; exact H g s
theorem CloneK_ok {hA : Heap} {l : List (Option KT)} {v : Value} (hr : Rdl 2 hA v l.length (l.flatMap kc)) (hl : l.length ≤ 4294967296)
    (H : ∀ v' b o sp E' h', Own 2 v' l.length b o (l.flatMap kc) sp → St hA [] ((b, o, l.flatMap kc ++ sp) :: E') h' → Q v' h') : sl_Clone_implKeyimplKey.call #[v] hA Q := by
  refine sl_Clone_implKeyimplKey.body _ _ _ ?_; unfold sl_Clone_implKeyimplKey.sh
  have s := St.start hA
  have hr0 := hr
  obtain ⟨a, cap, e, _, hc, _⟩ := hr0; subst e; refine ⟨a, _, _, rfl, ?_⟩
  refine r_if (fun ha => ?_) (fun ha => ?_)
  · have : l = [] := by
      cases l with
      | nil => rfl
      | cons x r =>
        obtain ⟨b, o, e, _⟩ := hc (by simp); subst e; cases ha
    subst this; exact H _ 0 0 [] _ _ (Own.nil 2 0 0) (s.empty 0 0)
  · unfold sl_Clone_implKeyimplKey.j1
    refine St.r_mkSl (sz := 2) (cs := []) s (by ((simp only [fillV, fill1, Value.cells, zeros_succ, zeros_zero, size_toArray, length_cons, length_nil, length_append, take_succ_cons, take_zero, take_nil, drop_succ_cons, drop_zero, drop_nil, cons_append, nil_append, append_nil, Nat.reduceAdd, Nat.reduceMul, Nat.reduceLeDiff, Nat.reduceEqDiff, and_self, and_true, true_and, if_true, Nat.le_refl, Nat.zero_add, Nat.add_zero, Nat.zero_mul, reduceIte, if_false] <;> rfl))) rfl fun q h s wq => ?_; refine s.r_appL (f := kc) (L := []) (M := l) 0 rfl wq rfl (hr.st s) (fun _ _ => kc1 _) (by simp; omega) (by simp; omega) fun v' b' o' sp' h s w' => ?_; exact H _ _ _ _ _ _ w' s
theorem turnedK_ok {P : List (Option KT)} {v : Value} (hr : Rdl 2 hA v P.length (P.flatMap kc)) (hl : P.length ≤ 4294967296)
    (H : ∀ w E' h', Rdl 2 h' w P.reverse.length (P.reverse.flatMap kc) → St hA [] E' h' → Q w h') : l_turned_implKey.call #[v] hA Q := by
  refine l_turned_implKey.body _ _ _ ?_; unfold l_turned_implKey.sh; refine CloneK_ok hr hl fun v' b o sp E' g w s => ?_; refine ReverseK_ok w hl s fun g s => ?_; exact H v' _ g ((w.list kcl (List.length_reverse ..)).rdl s 0 rfl) s
theorem turnedKeys_ok {P : List (Option KT)} {v : Value} {n : Nat} (hr : Rdl 2 hA v P.length (P.flatMap kc)) (hl : P.length ≤ 4294967296) (hn : n ≤ P.length)
    (H : ∀ w E' h', Rdl 2 h' w (P.take n).reverse.length ((P.take n).reverse.flatMap kc) → St hA [] E' h' → Q w h') : l_turnedKeys.call #[v, .int .i64 (n : Nat)] hA Q := by
  refine l_turnedKeys.body _ _ _ _ ?_; unfold l_turnedKeys.sh; refine hr.lenV ?_; refine r_cmpI ?_; refine r_if (fun e => absurd (ltI e) (by omega)) (fun _ => ?_)
  unfold l_turnedKeys.j1
  have hfl : ∀ P : List (Option KT), (P.flatMap kc).length = P.length * 2 := fun P => flat_len kcl P
  refine hr.slc (l := 0) (m := n) rfl ⟨.i64, (n : Int), rfl, by omega, by omega, by simp⟩ (Nat.zero_le _) hn fun v' r' => ?_
  have r2 : Rdl 2 hA v' (P.take n).length ((P.take n).flatMap kc) := by
    have e : ((P.flatMap kc).drop (0 * 2)).take ((n - 0) * 2) = (P.take n).flatMap kc := by
      rw [Nat.zero_mul, List.drop_zero, Nat.sub_zero, flat_take kcl]; exact hn
    rw [e] at r'; rw [List.length_take, Nat.min_eq_left hn]; exact r'
  exact turnedK_ok r2 (by rw [List.length_take]; omega) H
theorem places_ok {n : Nat} (hn : n ≤ 4294967296) (H : ∀ w E' h', Rdl 1 h' w n ((plc n).flatMap fk) → St hA [] E' h' → Q w h') : l_places.call #[.int .i64 (n : Nat)] hA Q := by
  refine l_places.body _ _ _ ?_; unfold l_places.sh
  refine loop_ghost (fun q st h' => ∃ (j : Nat) (v' : Value) (b o : Nat) (sp : List Value) (R : List Rg), q = n - j ∧ j ≤ n ∧ st = [v', .int .i64 (j : Nat)] ∧ Own 1 v' ((plc n).take j).length b o (((plc n).take j).flatMap fk) sp ∧ St hA [] ((b, o, ((plc n).take j).flatMap fk ++ sp) :: R) h') (n0 := n)
    ⟨0, .slice none 0 0, 0, 0, [], [], rfl, Nat.zero_le _, rfl, Own.nil 1 0 0, (St.start hA).empty 0 0⟩ ?_
  rintro q st h ⟨j, v', b, o, sp, R, rfl, hj, rfl, w, s⟩ K HK
  have hpl := plc_len n
  unfold l_places.l2.b; refine r_cmpI ?_; refine r_if (fun hlt => ?_) (fun hge => ?_)
  · have hlt : j < n := by have := ltI hlt; omega
    unfold l_places.j3; refine St.r_mkSl (sz := 1) (cs := fk (j : Nat)) s (by ((simp only [fillV, fill1, Value.cells, zeros_succ, zeros_zero, size_toArray, length_cons, length_nil, length_append, take_succ_cons, take_zero, take_nil, drop_succ_cons, drop_zero, drop_nil, cons_append, nil_append, append_nil, Nat.reduceAdd, Nat.reduceMul, Nat.reduceLeDiff, Nat.reduceEqDiff, and_self, and_true, true_and, if_true, Nat.le_refl, Nat.zero_add, Nat.add_zero, Nat.zero_mul, reduceIte, if_false] <;> rfl))) rfl fun q5 h s wq => ?_; refine s.r_appL (f := fk) (L := (plc n).take j) (M := [((j : Nat) : Int)]) 1 rfl w rfl (by have := wq.rdl s 0 (by rw [List.append_nil]; rfl); simpa using this) (fun y _ => fk1 y) (by rw [List.length_singleton, List.length_take]; omega) (by rw [List.length_singleton, List.length_take]; omega) fun v2 b2 o2 sp2 h s w2 => ?_
    have e : (plc n).take j ++ [((j : Nat) : Int)] = (plc n).take (j + 1) := by
      rw [List.take_succ_eq_append_getElem (by omega), plc_at]
    rw [e] at w2 s; unfold l_places.j4; refine r_add1 (by omega) ?_; exact HK (n - (j + 1)) _ _ (by omega) ⟨j + 1, v2, b2, o2, sp2, _, rfl, hlt, rfl, w2, s.perm (List.Perm.swap _ _ _)⟩
  · have hge : j = n := by have := geI hge; omega
    subst hge; rw [List.take_of_length_le (by omega)] at w s; unfold l_places.j1; refine H v' _ h ?_ s
    have := w.rdl s 0 rfl
    rw [hpl] at this; exact this
theorem u64x {n : Int} (h1 : 0 ≤ n) (h2 : n ≤ 9223372036854775807) : IntKind.wrap .u64 n = n := by
  have e : IntKind.wrap .u64 n = n % 18446744073709551616 := rfl
  rw [e]; omega
theorem sh32 {n : Int} (h0 : 0 ≤ n) (h1 : n < 4294967296) : n.fdiv (2 ^ min (32 : Int).toNat IntKind.u64.bits) = 0 := by
  show n.fdiv 4294967296 = 0
  rw [Int.fdiv_eq_ediv_of_nonneg _ (by decide)]; omega
theorem and32 {n : Nat} (h1 : n < 4294967296) : IntKind.wrap .u64 ((BitVec.ofInt IntKind.u64.bits (n : Int) &&& BitVec.ofInt IntKind.u64.bits 4294967295).toNat) = (n : Int) := by
  show IntKind.wrap .u64 (((BitVec.ofInt 64 (n : Int) &&& BitVec.ofInt 64 4294967295).toNat : Nat) : Int) = (n : Int)
  have e1 : BitVec.ofInt 64 (n : Int) = BitVec.ofNat 64 n := BitVec.ofInt_natCast ..
  have e2 : BitVec.ofInt 64 4294967295 = BitVec.ofNat 64 4294967295 := rfl
  have e3 : (BitVec.ofInt 64 (n : Int) &&& BitVec.ofInt 64 4294967295).toNat = n := by
    rw [e1, e2, BitVec.toNat_and, BitVec.toNat_ofNat, BitVec.toNat_ofNat, Nat.mod_eq_of_lt (by omega)]
    have : (4294967295 % 2 ^ 64 : Nat) = 2 ^ 32 - 1 := by decide
    rw [this, Nat.and_two_pow_sub_one_eq_mod, Nat.mod_eq_of_lt (by omega)]
  rw [e3]; exact u64x (by omega) (by omega)
theorem r_mul {x y z : Int} {K : Value → Prop} (hz : IntKind.wrap .u64 (x * y) = z) (H : K (.int .u64 z)) : arith (· * ·) (.int .u64 x) (.int .u64 y) K := ⟨_, _, _, rfl, rfl, by rw [hz]; exact H⟩
theorem Mul_ok {n : Nat} (hn : n < 4294967296) (H : Q (.tuple #[.int .u64 0, .int .u64 (n : Nat)]) h) : bits_Mul.call #[.int .u64 1, .int .u64 (n : Nat)] h Q := by
  refine bits_Mul.body _ _ _ _ ?_; unfold bits_Mul.sh bits_Mul.j1; refine bits_Mul64.body _ _ _ _ ?_; unfold bits_Mul64.sh; refine r_andG (z := 1) (and32 (n := 1) (by decide)) ?_; refine r_shr (z := 0) (by decide) (sh32 (by decide) (by decide)) ?_; refine r_andG (z := (n : Int)) (and32 hn) ?_; refine r_shr (z := 0) (by decide) (sh32 (by omega) (by omega)) ?_; refine r_mul (z := (n : Int)) (by rw [Int.one_mul]; exact u64x (by omega) (by omega)) ?_; refine r_mul (z := 0) (by rw [Int.zero_mul]; rfl) ?_; refine r_shr (z := 0) (by decide) (sh32 (by omega) (by omega)) ?_; refine r_add (z := 0) rfl ?_; refine r_andG (z := 0) (and32 (n := 0) (by decide)) ?_; refine r_shr (z := 0) (by decide) (sh32 (by decide) (by decide)) ?_; refine r_mul (z := 0) rfl ?_; refine r_add (z := 0) rfl ?_; refine r_mul (z := 0) rfl ?_; refine r_add (z := 0) rfl ?_; refine r_shr (z := 0) (by decide) (sh32 (by decide) (by decide)) ?_; refine r_add (z := 0) rfl ?_; refine r_mul (z := (n : Int)) (by rw [Int.one_mul]; exact u64x (by omega) (by omega)) ?_; refine r_ext rfl (r_ext rfl ?_)
  exact H
def fb (b : Bool) : List Value := [.bool b]
theorem fbl (b : Bool) : (fb b).length = 1 := rfl
theorem zeros_B (n : Nat) : zeros [.bool false] n = (List.replicate n false).flatMap fb := by
  induction n with
  | zero => exact zeros_zero _
  | succ n ih => rw [zeros_succ, ih, List.replicate_succ', List.flatMap_append]; rfl
theorem Repeat_ok {n : Nat} {v : Value} (hn : n ≤ 2147483647) (hr : Rdl 1 hA v 1 [.bool true]) (H : ∀ w E' h', Rdl 1 h' w n ((List.replicate n true).flatMap fb) → St hA [] E' h' → Q w h') : sl_Repeat_boolb.call #[v, .int .i64 (n : Nat)] hA Q := by
  refine sl_Repeat_boolb.body _ _ _ _ ?_; unfold sl_Repeat_boolb.sh; refine r_cmpI ?_; refine r_if (fun e => absurd (ltI e) (by omega)) (fun _ => ?_)
  unfold sl_Repeat_boolb.j1; refine hr.lenV ?_; refine r_cvI (z := 1) rfl ?_; refine r_cvI (z := (n : Int)) (u64x (by omega) (by omega)) ?_; refine Mul_ok (by omega) ?_; refine r_ext rfl (r_ext rfl ?_)
  refine r_cmpI ?_; refine r_br (fun _ => ?_) (fun e => absurd e (by decide))
  refine r_cmpI ?_; refine r_if (fun e => absurd (of_decide_eq_true e) (by omega)) (fun _ => ?_)
  unfold sl_Repeat_boolb.j2; refine r_cvI (z := (n : Int)) (i64w (by omega) (by omega)) ?_; refine (St.start hA).r_mks (n := n) (m := n) rfl (Nat.le_refl _) (by omega) (by omega) fun v' b h s w => ?_; rw [Nat.sub_self, zeros_zero, zeros_B] at s w
  have w : Own 1 v' (List.replicate n false).length b 0 ((List.replicate n false).flatMap fb) [] := by rw [List.length_replicate]; exact w
  refine s.r_cpyF (f := fb) fbl 0 (L := List.replicate n false) (M := [true]) (i := 0) (dl := n) (m := 1) (ys := (List.replicate n false).flatMap fb) (sp' := []) rfl (by rw [List.length_replicate] at w; exact w) (by rw [List.length_replicate]; omega) (hr.st s) rfl (by simp [fb, one1]) fun h s => ?_
  have e0 : ((List.replicate n false).take 0 ++ [true].take (min 1 n) ++ (List.replicate n false).drop (0 + min 1 n)) = List.replicate (min 1 n) true ++ List.replicate (n - min 1 n) false := by
    rw [List.take_zero, List.nil_append, List.drop_replicate, Nat.zero_add]
    rcases Nat.eq_zero_or_pos n with h | h
    · subst h; rfl
    · rw [Nat.min_eq_left h]; rfl
  rw [e0] at s
  refine loop_ghost (fun q st h' => ∃ k : Nat, q = n - k ∧ k ≤ n ∧ (n = 0 ∨ 0 < k) ∧ st = [.int .i64 (k : Nat)] ∧ St hA [] [(b, 0, (List.replicate k true ++ List.replicate (n - k) false).flatMap fb ++ [])] h') (n0 := n - min 1 n)
    ⟨min 1 n, rfl, Nat.min_le_right .., by omega, rfl, s⟩ ?_
  clear s
  rintro q st h ⟨k, rfl, hk, hk0, rfl, s⟩ K HK
  have hLl : (List.replicate k true ++ List.replicate (n - k) false).length = n := by rw [List.length_append, List.length_replicate, List.length_replicate]; omega
  have wo : Own 1 v' (List.replicate k true ++ List.replicate (n - k) false).length b 0 ((List.replicate k true ++ List.replicate (n - k) false).flatMap fb) [] := w.list fbl (by rw [hLl, List.length_replicate])
  generalize hL : List.replicate k true ++ List.replicate (n - k) false = L at *
  unfold sl_Repeat_boolb.l4.b; refine wo.lenV ?_; refine r_cmpI ?_; rw [hLl]; refine r_if (fun hlt => ?_) (fun hge => ?_)
  · have hlt : k < n := by have := ltI hlt; omega
    unfold sl_Repeat_boolb.j5; refine wo.slcLo fbl (i := k) rfl (by omega) fun v1 w1 => ?_; refine wo.slcHi fbl (i := k) rfl (by omega) fun v2 w2 => ?_
    have r2 : Rdl 1 h v2 (L.take k).length ((L.take k).flatMap fb) := w2.rdl s 0 (by
      have eL : L.flatMap fb ++ [] = (L.take k).flatMap fb ++ ((L.drop k).flatMap fb ++ []) := by rw [List.append_nil, List.append_nil, ← List.flatMap_append, List.take_append_drop]
      exact congrArg (fun x => some (b, 0, x)) eL)
    have etk : L.take k = List.replicate k true := by rw [← hL, List.take_left' (List.length_replicate ..)]
    rw [etk, List.length_replicate] at r2; rw [List.length_drop, hLl] at w1; refine s.r_cpyF (f := fb) fbl 0 (L := L) (M := List.replicate k true) (i := k) (dl := n - k) (m := k) rfl w1 (by omega) r2 (List.length_replicate ..).symm (by simp [fb, one1]) fun h s => ?_; refine r_add (z := ((k + min k (n - k) : Nat) : Int)) (by rw [i64w (by omega) (by omega)]; omega) ?_
    have e1 : L.take k ++ (List.replicate k true).take (min k (n - k)) ++ L.drop (k + min k (n - k)) = List.replicate (k + min k (n - k)) true ++ List.replicate (n - (k + min k (n - k))) false := by
      have ed : L.drop (k + min k (n - k)) = List.replicate (n - k - min k (n - k)) false := by
        rw [← hL, ← List.drop_drop, List.drop_left' (List.length_replicate ..), List.drop_replicate]
      have em : min (min k (n - k)) k = min k (n - k) := by omega
      rw [etk, ed, List.take_replicate, em, List.replicate_append_replicate, Nat.sub_sub]
    have s : St hA [] [(b, 0, (L.take k ++ (List.replicate k true).take (min k (n - k)) ++ L.drop (k + min k (n - k))).flatMap fb ++ [])] h := s
    rw [e1] at s; exact HK (n - (k + min k (n - k))) _ _ (by omega) ⟨k + min k (n - k), rfl, by omega, .inr (by omega), rfl, s⟩
  · have hge : k = n := by have := geI hge; omega
    unfold sl_Repeat_boolb.j3
    have e : L = List.replicate n true := by rw [← hL, hge, Nat.sub_self]; exact List.append_nil _
    refine H v' _ h ?_ s
    have := wo.rdl s 0 rfl
    rw [hLl, e] at this; exact this
end Go.Proofs.Ytdpkpcmoabfofaa.Iu
end
section
namespace Go.Proofs.Ytdpkpcmoabfofaa.Iu
open Go.Hp Go.Proofs.Ytdpkpcmoabfofaa
variable {h0 h hA : Heap} {Z E : List Rg} {Q : Value → Heap → Prop}
theorem aliveS_ok (H : ∀ E' h', St hA [] E' h' → Q (.bool true) h') : l_aliveS.call #[] hA Q := by
  refine l_aliveS.body _ _ ?_; unfold l_aliveS.sh
  have s := St.start hA
  refine St.r_mkSl (sz := 1) (cs := ([5, 3, 9] : List Int).flatMap fk) s (by ((simp only [fillV, fill1, Value.cells, zeros_succ, zeros_zero, size_toArray, length_cons, length_nil, length_append, take_succ_cons, take_zero, take_nil, drop_succ_cons, drop_zero, drop_nil, cons_append, nil_append, append_nil, Nat.reduceAdd, Nat.reduceMul, Nat.reduceLeDiff, Nat.reduceEqDiff, and_self, and_true, true_and, if_true, Nat.le_refl, Nat.zero_add, Nat.add_zero, Nat.zero_mul, reduceIte, if_false] <;> rfl))) rfl fun b h s w => ?_
  have r : Rdl 1 h (.slice (some ⟨b, 0, none⟩) 3 3) ([5, 3, 9] : List KT).length (([5, 3, 9] : List KT).flatMap fk) := w.rdl s 0 (by rw [List.append_nil]; rfl)
  refine i_SInsert.body _ _ _ ?_; unfold i_SInsert.sh; refine growS_ok r (by decide) fun g tb mn mx E' h e M hd s2 => ?_; refine Set_i_Keys.body _ _ _ ?_; unfold Set_i_Keys.sh; refine r_nil (r_fld ?_)
  have e3 : (setT ([5, 3, 9] : List KT)).length = 3 := by decide
  refine Keys_ok (E := E') M (by rw [e]; omega) s2 fun v b o sp h' w s3 => ?_; refine w.lenV ?_; refine r_cmpI ?_
  have : ((rPt g).items.map (·.1)).length = 3 := by rw [List.length_map, e, e3]
  rw [this]; exact H _ h' (s.join s3)
set_option maxRecDepth 100000 in
theorem eqKey (k : Int) : EqV Try.prog 10000 81 (.agg (kc (some k)).toArray) (.agg (kc (some k)).toArray) true := by
  refine .inr (.inr (.inr ⟨_, _, _, Try.underlying81, by kernel_rfl, rfl, rfl, ?_⟩))
  refine ⟨by decide, .int .i64 k, .int .i64 k, true, ⟨_, Try.underlying3, .inr ⟨by kernel_rfl, rfl⟩⟩, ⟨_, Try.underlying3, .inr ⟨by kernel_rfl, rfl⟩⟩, .inl ⟨_, _, k, k, Try.underlying3, rfl, rfl, by simp⟩, .inr ⟨rfl, ?_⟩⟩
  exact ⟨by decide, .bool true, .bool true, true, ⟨_, Try.underlying4, .inr ⟨by kernel_rfl, rfl⟩⟩, ⟨_, Try.underlying4, .inr ⟨by kernel_rfl, rfl⟩⟩, .inr (.inl ⟨true, true, Try.underlying4, rfl, rfl, by simp⟩), .inr ⟨rfl, rfl⟩⟩
theorem EqualN_ok {L : List KT} {v1 v2 : Value} (h1 : Rdl 1 h v1 L.length (L.flatMap fk)) (h2 : Rdl 1 h v2 L.length (L.flatMap fk)) (hl : L.length ≤ 4294967296) (H : Q (.bool true) h) : sl_Equal_inti.call #[v1, v2] h Q := by
  refine sl_Equal_inti.body _ _ _ _ ?_; unfold sl_Equal_inti.sh; refine h1.lenV ?_; refine h2.lenV ?_; refine r_cmpI ?_; refine r_if (fun e => absurd e (by simp)) (fun _ => ?_)
  unfold sl_Equal_inti.j1; refine h1.lenV ?_
  refine loop_ghost (fun q st h' => ∃ (j : Nat), q = L.length - j ∧ j ≤ L.length ∧ st = [.int .i64 (j : Nat)] ∧ h' = h) (n0 := L.length)
    ⟨0, rfl, Nat.zero_le _, rfl, rfl⟩ ?_
  rintro q st g ⟨j, rfl, hj, rfl, rfl⟩ K HK
  unfold sl_Equal_inti.l3.b; refine r_cmpI ?_; refine r_if (fun hlt => ?_) (fun hge => ?_)
  · have hlt : j < L.length := by have := of_decide_eq_true hlt; omega
    unfold sl_Equal_inti.j4; refine h1.at (f := fk) (n := j) rfl fkl rfl rfl hlt fun b o hrd => ?_; refine hrd.load0 rfl ?_; refine h2.at (f := fk) (n := j) rfl fkl rfl rfl hlt fun b o hrd => ?_; refine hrd.load0 rfl ?_; refine r_cmpI ?_; refine r_if (fun e => absurd e (by simp)) (fun _ => ?_)
    unfold sl_Equal_inti.j5; refine r_add1 (by omega) ?_; exact HK (L.length - (j + 1)) _ _ (by omega) ⟨j + 1, rfl, hlt, rfl, rfl⟩
  · unfold sl_Equal_inti.j2
    exact H
def KL (h : Heap) (u : Value) (X : List It) : Prop := ∃ F : List (Option KT), Rdl 2 h u F.length (F.flatMap kc) ∧ ∀ i (hi : i < X.length), F[i]? = some (some X[i].1)
theorem KL.st {u : Value} {X : List It} (k : KL h0 u X) (s : St h0 Z E h) : KL h u X := by
  obtain ⟨F, r, f⟩ := k; exact ⟨F, r.st s, f⟩
theorem KL.of {u : Value} {X : List It} (r : Rdl 2 h u X.length ((fnK X).flatMap kc)) : KL h u X := by
  refine ⟨fnK X, by rw [fnK_len]; exact r, fun i hi => ?_⟩
  unfold fnK; rw [List.getElem?_map, List.getElem?_eq_getElem hi]; rfl
theorem mvs_snoc (sd : Bool) (j : Nat) : mvs sd j ++ [opB sd] = mvs sd (j + 1) := by
  unfold mvs; rw [List.replicate_succ', List.cons_append]
theorem six_ok {l : List KT} {v3 us : Value} {u : List Value} (hl : (setT l).length ≤ 2147483647) (rk : Rdl 1 h v3 (setT l).length (((setT l).map (·.1)).flatMap fk)) (ru : Rdl 1 h us 6 u) (hu : ∀ k, k < 6 → ∃ w, u[k]? = some w ∧ KL h w (setT l)) (hu0 : ∃ w, u[0]? = some w ∧ Rdl 2 h w ((setT l).length + 1) ((fnK (setT l) ++ [none]).flatMap kc))
    (H : Q (.bool true) h) (live : l_aliveS.call #[] h Q) :
    loopC (fun c s h K1 => l_FnSAlike.l5.b (c.getD 0 undef) (c.getD 1 undef) (c.getD 2 undef) (c.getD 3 undef) (s.getD 0 undef) h K1 Q) [v3, .int .i64 ((setT l).length : Nat), us, .int .i64 (6 : Nat)] [.int .i64 0] h := by
  obtain ⟨n, hn⟩ : ∃ n, n = (setT l).length := ⟨_, rfl⟩; obtain ⟨X, hX⟩ : ∃ X, X = setT l := ⟨_, rfl⟩; rw [← hX] at hu hu0 rk hn hl; rw [← hX]
  refine loop_ghost (fun q st h' => ∃ (k : Nat), q = 6 - k ∧ k ≤ 6 ∧ st = [.int .i64 (k : Nat)] ∧ h' = h) (n0 := 6)
    ⟨0, rfl, Nat.zero_le _, rfl, rfl⟩ ?_
  rintro q st g ⟨k, rfl, hk, rfl, rfl⟩ K HK
  unfold l_FnSAlike.l5.b; refine r_cmpI ?_; refine r_if (fun hlt => ?_) (fun hge => ?_)
  · have hlt : k < 6 := by have := ltI hlt; omega
    unfold l_FnSAlike.j6; obtain ⟨w, hw, F, rF, hF⟩ := hu k hlt
    have hul : u.length = 6 := by obtain ⟨_, _, _, e, _⟩ := ru; omega
    refine ru.idx (n := k) rfl hlt fun bb oo hb => ?_
    have hb1 : Rw g bb oo [w] := by
      have : (u.drop (k * 1)).take 1 = [w] := by
        rw [Nat.mul_one, List.drop_eq_getElem_cons (by omega), List.take_succ_cons, List.take_zero]; rw [List.getElem?_eq_getElem (by omega)] at hw; rw [Option.some.inj hw]
      rw [this] at hb; exact hb
    refine hb1.load0 rfl ?_; refine rF.lenV ?_; refine r_cmpI ?_
    have hFl : X.length ≤ F.length := by
      rcases Nat.eq_zero_or_pos X.length with h0 | h0
      · omega
      · have := (List.getElem?_eq_some_iff.1 (hF (X.length - 1) (by omega))).1; omega
    refine r_br (fun _ => ?_) (fun e => absurd (ltI e) (by omega))
    -- the keys, one after the other
    have fin : l_FnSAlike.j8 v3 (.int .i64 (X.length : Nat)) w us (.int .i64 (6 : Nat)) (.int .i64 (k : Nat)) g K Q := by
      unfold l_FnSAlike.j8; refine rk.lenV ?_
      refine loop_ghost (fun q st h' => ∃ (i : Nat), q = X.length - i ∧ i ≤ X.length ∧ st = [.int .i64 (i : Nat)] ∧ h' = g) (n0 := X.length)
        ⟨0, rfl, Nat.zero_le _, rfl, rfl⟩ ?_
      rintro q st g' ⟨i, rfl, hi, rfl, rfl⟩ K2 HK2
      unfold l_FnSAlike.l9.b; refine r_cmpI ?_; refine r_if (fun hlt2 => ?_) (fun hge2 => ?_)
      · have hlt2 : i < X.length := by have := ltI hlt2; omega
        unfold l_FnSAlike.j10; refine rk.at (f := fk) (l := X.map (·.1)) (n := i) rfl fkl rfl (List.length_map _).symm (by rw [List.length_map]; exact hlt2) fun b1 o1 hb2 => ?_; rw [List.getElem_map] at hb2; refine hb2.load0 rfl ?_
        have hFi := hF i hlt2
        obtain ⟨hiF, eFi⟩ := List.getElem?_eq_some_iff.1 hFi; refine rF.at (f := kc) (l := F) (n := i) rfl kcl rfl rfl hiF fun b1 o1 hb2 => ?_; rw [eFi] at hb2; refine hb2.loadN rfl ?_; refine r_build (cs := kc (some X[i].1)) rfl ?_; refine ⟨_, _, true, rfl, rfl, eqKey _, ?_⟩
        refine r_if (fun e => absurd e (by decide)) (fun _ => ?_)
        unfold l_FnSAlike.j11; refine r_add1 (by omega) ?_; exact HK2 (X.length - (i + 1)) _ _ (by omega) ⟨i + 1, rfl, hlt2, rfl, rfl⟩
      · unfold l_FnSAlike.j7
        refine r_add1 (by omega) ?_; exact HK (6 - (k + 1)) _ _ (by omega) ⟨k + 1, rfl, hlt, rfl, rfl⟩
    refine r_cmpI ?_; refine r_br (fun e => ?_) (fun _ => fin)
    have hk0 : k = 0 := by have := eq_of_beq e; omega
    subst hk0; obtain ⟨w', hw', rw'⟩ := hu0
    have ew : w' = w := Option.some.inj (hw'.symm.trans hw)
    subst ew; refine rw'.lenV ?_; refine r_add1 (by omega) ?_; refine r_cmpI ?_; refine r_br (fun _ => ?_) (fun e => absurd e (by simp))
    refine rw'.at (f := kc) (l := fnK X ++ [none]) (n := X.length) rfl kcl rfl (by rw [List.length_append, fnK_len]; rfl) (by rw [List.length_append, fnK_len, List.length_singleton]; omega) fun b1 o1 hb2 => ?_; rw [List.getElem_append_right (by rw [fnK_len]; exact Nat.le_refl _)] at hb2
    have hb3 : Rw g b1 o1 (kc none) := by simpa [fnK_len] using hb2
    refine r_fld ?_; refine hb3.load (j := 1) rfl ?_; refine r_if (fun e => absurd e (by decide)) (fun _ => ?_)
    exact fin
  · unfold l_FnSAlike.j4
    exact live
end Go.Proofs.Ytdpkpcmoabfofaa.Iu
end
section
namespace Go.Proofs.Ytdpkpcmoabfofaa.Iu
open Go.Hp Go.Proofs.Ytdpkpcmoabfofaa
variable {h0 h hA : Heap} {Z E : List Rg} {Q : Value → Heap → Prop}
theorem zeros_N (n : Nat) : zeros [.int .i64 0] n = (List.replicate n (0 : Int)).flatMap fk := by
  induction n with
  | zero => exact zeros_zero _
  | succ n ih => rw [zeros_succ, ih, List.replicate_succ', List.flatMap_append]; rfl
theorem back_ok (X : List It) : ((fnK X.reverse ++ [none]).take X.length).reverse = fnK X := by
  rw [List.take_left' (by rw [fnK_len, List.length_reverse])]; unfold fnK; rw [List.map_reverse, List.reverse_reverse]
theorem back2_ok (X : List It) : ((fnK X.reverse).take X.length).reverse = fnK X := by
  rw [List.take_of_length_le (by rw [fnK_len, List.length_reverse]; exact Nat.le_refl _)]; unfold fnK; rw [List.map_reverse, List.reverse_reverse]
theorem j3_ok {l : List KT} {v v3 va vb low high cut : Value} (hr : Rdl 1 hA v l.length (l.flatMap fk)) (hl : l.length ≤ 2147483647) (rk : Rdl 1 hA v3 (setT l).length (((setT l).map (·.1)).flatMap fk))
    (ra : Rdl 3 hA va ((setT l).length + 1) ((mvs false (setT l).length).flatMap mvC)) (rb : Rdl 3 hA vb ((setT l).length + 1) ((mvs true (setT l).length).flatMap mvC))
    (rlow : Rdl 2 hA low (setT l).length ((fnK (setT l)).flatMap kc)) (rhigh : Rdl 2 hA high (setT l).length ((fnK (setT l).reverse).flatMap kc)) (rcut : Rdl 2 hA cut (setT l).length ((fnK (setT l)).flatMap kc))
    (H : ∀ E' h', St hA [] E' h' → Q (.bool true) h') : l_FnSAlike.j3 v v3 (.int .i64 ((setT l).length : Nat)) va vb low high cut hA Q := by
  unfold l_FnSAlike.j3
  have hle := setT_len l
  refine SIter_ok (sd := false) hr hl ra fun u0 E1 h1 r0 s => ?_
  have r0 : Rdl 2 h1 u0 ((setT l).length + 1) ((fnK (setT l) ++ [none]).flatMap kc) := r0
  refine SIter_ok (sd := true) (hr.st s) hl (rb.st s) fun u1 E2 h2 r1 s2 => ?_
  have r1 : Rdl 2 h2 u1 (fnK (setT l).reverse ++ [none]).length ((fnK (setT l).reverse ++ [none]).flatMap kc) := by
    rw [List.length_append, fnK_len, List.length_reverse]; exact r1
  have s := s.join s2
  have r0 := r0.st s2
  refine turnedKeys_ok (n := (setT l).length) r1 (by rw [List.length_append, fnK_len, List.length_reverse, List.length_singleton]; omega) (by rw [List.length_append, fnK_len, List.length_reverse]; omega) fun t1 E3 h3 q1 s3 => ?_; rw [back_ok] at q1
  have s := s.join s3
  have r0 := r0.st s3
  refine places_ok (by omega) fun pv E4 h4 rp s4 => ?_
  have s := s.join s4
  have r0 := r0.st s4
  have q1 := q1.st s4
  refine SGetAt_ok (hr.st s) hl rp fun u2 E5 h5 r2 s5 => ?_
  have s := s.join s5
  have r0 := r0.st s5
  have q1 := q1.st s5
  have rh : Rdl 2 h5 high (fnK (setT l).reverse).length ((fnK (setT l).reverse).flatMap kc) := by
    rw [fnK_len, List.length_reverse]; exact rhigh.st s
  refine turnedKeys_ok (n := (setT l).length) rh (by rw [fnK_len, List.length_reverse]; omega) (by rw [fnK_len, List.length_reverse]; exact Nat.le_refl _) fun t4 E6 h6 q4 s6 => ?_; rw [back2_ok] at q4
  have s := s.join s6
  have r0 := r0.st s6
  have q1 := q1.st s6
  have r2 := r2.st s6
  obtain ⟨a0, c0, e0, -⟩ := id r0; obtain ⟨a1, c1, e1, -⟩ := id q1; obtain ⟨a2, c2, e2, -⟩ := id r2; obtain ⟨a3, c3, e3, -⟩ := id rlow; obtain ⟨a4, c4, e4, -⟩ := id q4; obtain ⟨a5, c5, e5, -⟩ := id rcut
  have s0 := St.start h6
  refine St.r_mkSl (sz := 1) (cs := [u0, t1, u2, low, t4, cut]) s0 (by subst e0; subst e1; subst e2; subst e3; subst e4; subst e5; ((simp only [fillV, fill1, Value.cells, zeros_succ, zeros_zero, size_toArray, length_cons, length_nil, length_append, take_succ_cons, take_zero, take_nil, drop_succ_cons, drop_zero, drop_nil, cons_append, nil_append, append_nil, Nat.reduceAdd, Nat.reduceMul, Nat.reduceLeDiff, Nat.reduceEqDiff, and_self, and_true, true_and, if_true, Nat.le_refl, Nat.zero_add, Nat.add_zero, Nat.zero_mul, reduceIte, if_false] <;> rfl))) rfl fun b h7 s7 w => ?_
  have ru := w.rdl s7 0 rfl
  refine ru.lenV ?_
  have sX := s.join s7
  refine six_ok (l := l) (u := [u0, t1, u2, low, t4, cut]) (by omega) (rk.st sX) ru (fun k hk => ?_) ⟨u0, rfl, r0.st s7⟩ (H _ h7 sX) (aliveS_ok fun E8 h8 s8 => H _ _ (sX.join s8))
  have hkl : ∀ {w : Value}, Rdl 2 h6 w (setT l).length ((fnK (setT l)).flatMap kc) → KL h7 w (setT l) := fun r => (KL.of r).st s7
  have : k = 0 ∨ k = 1 ∨ k = 2 ∨ k = 3 ∨ k = 4 ∨ k = 5 := by omega
  rcases this with rfl | rfl | rfl | rfl | rfl | rfl
  · refine ⟨u0, rfl, fnK (setT l) ++ [none], ?_, fun i hi => ?_⟩
    · rw [List.length_append, fnK_len]; exact r0.st s7
    · rw [List.getElem?_append_left (by rw [fnK_len]; exact hi)]
      unfold fnK; rw [List.getElem?_map, List.getElem?_eq_getElem hi]; rfl
  · refine ⟨t1, rfl, hkl ?_⟩
    rw [fnK_len] at q1; exact q1
  · exact ⟨u2, rfl, hkl r2⟩
  · exact ⟨low, rfl, hkl (rlow.st s)⟩
  · refine ⟨t4, rfl, hkl ?_⟩
    rw [fnK_len] at q4; exact q4
  · exact ⟨cut, rfl, hkl (rcut.st s)⟩
theorem j2_ok {l : List KT} {v v3 va vb : Value} (hr : Rdl 1 hA v l.length (l.flatMap fk)) (hl : l.length ≤ 2147483647) (rk : Rdl 1 hA v3 (setT l).length (((setT l).map (·.1)).flatMap fk))
    (ra : Rdl 3 hA va ((setT l).length + 1) ((mvs false (setT l).length).flatMap mvC)) (rb : Rdl 3 hA vb ((setT l).length + 1) ((mvs true (setT l).length).flatMap mvC))
    (H : ∀ E' h', St hA [] E' h' → Q (.bool true) h') : l_FnSAlike.j2 v v3 (.int .i64 ((setT l).length : Nat)) va vb hA Q := by
  unfold l_FnSAlike.j2
  have hle := setT_len l
  refine (St.start hA).r_mks (n := (setT l).length) (m := (setT l).length) rfl (Nat.le_refl _) (by omega) (by omega) fun v1 b1 h1 s w => ?_; rw [Nat.sub_self, zeros_zero, zeros_B] at s w
  have rz : Rdl 1 h1 v1 (setT l).length ((List.replicate (setT l).length false).flatMap fun b => [.bool b]) := w.rdl s 0 rfl
  refine SPops_ok (sd := false) (hr.st s) hl rz fun low left1 E2 h2 rlow rl1 s2 => ?_
  have s := s.join s2
  refine r_ext rfl (r_ext rfl ?_)
  refine St.r_mkSl (sz := 1) (cs := [.bool true]) (St.start h2) (by ((simp only [fillV, fill1, Value.cells, zeros_succ, zeros_zero, size_toArray, length_cons, length_nil, length_append, take_succ_cons, take_zero, take_nil, drop_succ_cons, drop_zero, drop_nil, cons_append, nil_append, append_nil, Nat.reduceAdd, Nat.reduceMul, Nat.reduceLeDiff, Nat.reduceEqDiff, and_self, and_true, true_and, if_true, Nat.le_refl, Nat.zero_add, Nat.add_zero, Nat.zero_mul, reduceIte, if_false] <;> rfl))) rfl fun b h3 s3 w3 => ?_
  have rt := w3.rdl s3 0 rfl
  have s := s.join s3
  refine Repeat_ok (by omega) rt fun v4 E4 h4 r4 s4 => ?_
  have s := s.join s4
  have rlow := (rlow.st s3).st s4
  have rl1 := (rl1.st s3).st s4
  refine SPops_ok (sd := true) (hr.st s) hl r4 fun high left2 E5 h5 rhigh rl2 s5 => ?_
  have s := s.join s5
  have rlow := rlow.st s5
  have rl1 := rl1.st s5
  refine r_ext rfl (r_ext rfl ?_)
  refine (St.start h5).r_mks (n := (setT l).length) (m := (setT l).length) rfl (Nat.le_refl _) (by omega) (by omega) fun v6 b6 h6 s6 w6 => ?_; rw [Nat.sub_self, zeros_zero, zeros_N] at s6 w6
  have r6 : Rdl 1 h6 v6 (setT l).length ((List.replicate (setT l).length (0 : Int)).flatMap fk) := w6.rdl s6 0 rfl
  have s := s.join s6
  have rlow := rlow.st s6
  have rl1 := rl1.st s6
  have rhigh := rhigh.st s6
  have rl2 := rl2.st s6
  refine SDeleteAt_ok (hr.st s) hl r6 fun cut left3 E7 h7 rcut rl3 s7 => ?_
  have s := s.join s7
  have rlow := rlow.st s7
  have rl1 := rl1.st s7
  have rhigh := rhigh.st s7
  have rl2 := rl2.st s7
  refine r_ext rfl (r_ext rfl ?_)
  refine rl1.lenV ?_; refine rl2.lenV ?_; refine r_add (z := 0) rfl ?_; refine rl3.lenV ?_; refine r_add (z := 0) rfl ?_; refine r_cmpI ?_; refine r_br (fun _ => ?_) (fun e => absurd e (by decide))
  refine SLen_ok (hr.st s) hl fun E8 h8 s8 => ?_
  have s := s.join s8
  refine r_cmpI ?_
  have ek : (keysT l).length = (setT l).length := List.length_map _
  rw [ek]; refine r_br (fun _ => ?_) (fun e => absurd e (by simp))
  refine SReverse_ok (hr.st s) hl fun v9 b9 o9 sp9 E9 h9 w9 s9 => ?_
  have r9 := w9.rdl s9 0 rfl
  have s := s.join s9
  refine turnedN_ok r9 (by rw [List.length_reverse, ek]; omega) fun v10 E10 h10 r10 s10 => ?_
  have s := s.join s10
  rw [List.reverse_reverse] at r10
  have rkk : Rdl 1 h10 v3 (keysT l).length ((keysT l).flatMap fk) := by rw [ek]; exact rk.st s
  refine EqualN_ok r10 rkk (by omega) ?_; refine r_not ?_; refine r_if (fun e => absurd e (by decide)) (fun _ => ?_)
  exact j3_ok (hr.st s) hl (rk.st s) (ra.st s) (rb.st s) (((rlow.st s8).st s9).st s10) (((rhigh.st s8).st s9).st s10) (((rcut.st s8).st s9).st s10) fun E' h' s' => H _ _ (s.join s')
theorem l_FnSAlike_ok {l : List KT} {v : Value} (hr : Rdl 1 hA v l.length (l.flatMap fk)) (H : ∀ E' h', St hA [] E' h' → Q (.bool true) h') : l_FnSAlike.call #[v] hA Q := by
  refine l_FnSAlike.body _ _ _ ?_; unfold l_FnSAlike.sh; refine hr.lenV ?_; refine r_cmpI ?_; refine r_if (fun _ => H _ _ (St.start hA)) (fun hle => ?_)
  have hl : l.length ≤ 2147483647 := by have := of_decide_eq_false hle; omega
  have hlt := setT_len l
  unfold l_FnSAlike.j1; refine SScan_ok hr hl fun v3 b3 o3 sp3 E1 h1 w3 s => ?_
  have ek : (keysT l).length = (setT l).length := List.length_map _
  have rk : Rdl 1 h1 v3 (setT l).length (((setT l).map (·.1)).flatMap fk) := by
    have := w3.rdl s 0 rfl
    rw [ek] at this; exact this
  refine rk.lenV ?_; refine r_build (cs := mvC 0) rfl ?_; refine St.r_mkSl (sz := 3) (cs := mvC 0) (St.start h1) (by ((simp only [fillV, fill1, Value.cells, zeros_succ, zeros_zero, size_toArray, length_cons, length_nil, length_append, take_succ_cons, take_zero, take_nil, drop_succ_cons, drop_zero, drop_nil, cons_append, nil_append, append_nil, Nat.reduceAdd, Nat.reduceMul, Nat.reduceLeDiff, Nat.reduceEqDiff, and_self, and_true, true_and, if_true, Nat.le_refl, Nat.zero_add, Nat.add_zero, Nat.zero_mul, reduceIte, if_false] <;> rfl))) rfl fun ba h2 s2 wa => ?_; refine r_build (cs := mvC 1) rfl ?_; refine St.r_mkSl (sz := 3) (cs := mvC 1) s2 (by ((simp only [fillV, fill1, Value.cells, zeros_succ, zeros_zero, size_toArray, length_cons, length_nil, length_append, take_succ_cons, take_zero, take_nil, drop_succ_cons, drop_zero, drop_nil, cons_append, nil_append, append_nil, Nat.reduceAdd, Nat.reduceMul, Nat.reduceLeDiff, Nat.reduceEqDiff, and_self, and_true, true_and, if_true, Nat.le_refl, Nat.zero_add, Nat.add_zero, Nat.zero_mul, reduceIte, if_false] <;> rfl))) rfl fun bb h2 s2 wb => ?_
  refine loop_ghost (fun q st h' => ∃ (j : Nat) (va vb : Value) (b1 o1 b2 o2 : Nat) (sp1 sp2 : List Value) (R : List Rg), q = (setT l).length - j ∧ j ≤ (setT l).length ∧ st = [va, vb, .int .i64 (j : Nat)] ∧ Own 3 va (mvs false j).length b1 o1 ((mvs false j).flatMap mvC) sp1 ∧ Own 3 vb (mvs true j).length b2 o2 ((mvs true j).flatMap mvC) sp2 ∧ St h1 [] ((b1, o1, (mvs false j).flatMap mvC ++ sp1) :: (b2, o2, (mvs true j).flatMap mvC ++ sp2) :: R) h') (n0 := (setT l).length)
    ⟨0, _, _, ba, 0, bb, 0, [], [], [], rfl, Nat.zero_le _, rfl, wa, wb, s2.perm (List.Perm.swap _ _ _)⟩ ?_
  rintro q st h ⟨j, va, vb, b1, o1, b2, o2, sp1, sp2, R, rfl, hj, rfl, wa, wb, s2⟩ K HK
  unfold l_FnSAlike.l12.b; refine r_cmpI ?_; refine r_if (fun hlt2 => ?_) (fun hge => ?_)
  · have hlt2 : j < (setT l).length := by have := ltI hlt2; omega
    unfold l_FnSAlike.j13
    have l1 := mvs_len false j
    have l2 := mvs_len true j
    refine r_build (cs := mvC 2) rfl ?_; refine St.r_mkSl (sz := 3) (cs := mvC 2) s2 (by ((simp only [fillV, fill1, Value.cells, zeros_succ, zeros_zero, size_toArray, length_cons, length_nil, length_append, take_succ_cons, take_zero, take_nil, drop_succ_cons, drop_zero, drop_nil, cons_append, nil_append, append_nil, Nat.reduceAdd, Nat.reduceMul, Nat.reduceLeDiff, Nat.reduceEqDiff, and_self, and_true, true_and, if_true, Nat.le_refl, Nat.zero_add, Nat.add_zero, Nat.zero_mul, reduceIte, if_false] <;> rfl))) rfl fun q5 h s2 wq => ?_; refine s2.r_appL (f := mvC) (L := mvs false j) (M := [(2 : Int)]) 1 rfl wa rfl (by have := wq.rdl s2 0 (by rw [List.append_nil]; rfl); simpa using this) (fun y _ => by simp [mvC, one1]) (by rw [List.length_singleton]; omega) (by rw [List.length_singleton]; omega) fun va' b1' o1' sp1' h s2 wa' => ?_; refine r_build (cs := mvC 3) rfl ?_
    have s2 : St h1 [] ((q5, 0, mvC 2) :: (b1', o1', (mvs false j ++ [(2 : Int)]).flatMap mvC ++ sp1') :: (b2, o2, (mvs true j).flatMap mvC ++ sp2) :: R) h := s2
    refine St.r_mkSl (sz := 3) (cs := mvC 3) s2 (by ((simp only [fillV, fill1, Value.cells, zeros_succ, zeros_zero, size_toArray, length_cons, length_nil, length_append, take_succ_cons, take_zero, take_nil, drop_succ_cons, drop_zero, drop_nil, cons_append, nil_append, append_nil, Nat.reduceAdd, Nat.reduceMul, Nat.reduceLeDiff, Nat.reduceEqDiff, and_self, and_true, true_and, if_true, Nat.le_refl, Nat.zero_add, Nat.add_zero, Nat.zero_mul, reduceIte, if_false] <;> rfl))) rfl fun q6 h s2 wq => ?_; refine s2.r_appL (f := mvC) (L := mvs true j) (M := [(3 : Int)]) 3 rfl wb rfl (by have := wq.rdl s2 0 (by rw [List.append_nil]; rfl); simpa using this) (fun y _ => by simp [mvC, one1]) (by rw [List.length_singleton]; omega) (by rw [List.length_singleton]; omega) fun vb' b2' o2' sp2' h s2 wb' => ?_
    have s2 : St h1 [] ((q6, 0, mvC 3) :: (q5, 0, mvC 2) :: (b1', o1', (mvs false j ++ [opB false]).flatMap mvC ++ sp1') :: (b2', o2', (mvs true j ++ [opB true]).flatMap mvC ++ sp2') :: R) h := s2
    have wa' : Own 3 va' (mvs false j ++ [opB false]).length b1' o1' ((mvs false j ++ [opB false]).flatMap mvC) sp1' := wa'
    have wb' : Own 3 vb' (mvs true j ++ [opB true]).length b2' o2' ((mvs true j ++ [opB true]).flatMap mvC) sp2' := wb'
    rw [mvs_snoc] at wa' wb'; rw [mvs_snoc, mvs_snoc] at s2; unfold l_FnSAlike.j14; refine r_add1 (by omega) ?_; exact HK ((setT l).length - (j + 1)) _ _ (by omega) ⟨j + 1, va', vb', b1', o1', b2', o2', sp1', sp2', (q6, 0, mvC 3) :: (q5, 0, mvC 2) :: R, rfl, hlt2, rfl, wa', wb', s2.perm (by ((apply perm_rg; intro f; simp only [set_cons_zero, set_cons_succ, eraseIdx_cons_zero, eraseIdx_cons_succ, cons_append, nil_append, map_append, map_cons, map_nil, List.sum_append, List.sum_cons, List.sum_nil, map_flatMap, Nat.add_zero, Nat.zero_add]; ac_rfl)))⟩
  · have hge : j = (setT l).length := by have := geI hge; omega
    rw [hge] at wa wb s2
    have ra := wa.rdl s2 0 rfl
    have rb := wb.rdl s2 1 rfl
    rw [mvs_len] at ra rb
    have s3 := s.join s2
    exact j2_ok (hr.st s3) hl (rk.st s2) ra rb fun E' h' s' => H _ _ (s3.join s')
end Go.Proofs.Ytdpkpcmoabfofaa.Iu
end
