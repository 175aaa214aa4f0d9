/-
  Texts of this claim, laid together: Gc Gd Ge Gf Gg Gu Gv GI GJ GZ Ia Ie P0.
  Conditions: as each of them tells.
-/
import Derived.Test.YtgnnidefbeoibaaRGCursorsApartB3
section
namespace Go.Proofs.Ytgnnidefbeoibaa.Gi
open Go.Hp Go.Proofs.Ytgnnidefbeoibaa
set_option linter.unusedVariables false
set_option linter.unusedSimpArgs false
variable {h0 h : Heap} {Z E : List Rg} {Q : Value → Heap → Prop} {lt : It → It → Bool} {lf : Value}

/-- The item that was there. -/
abbrev old (r : Option It) : Value := av (r.getD emp)
theorem snoc_enc (l : List It) (e : It) : l.flatMap enc ++ enc e = (l ++ [e]).flatMap enc := by rw [List.flatMap_append, List.flatMap_singleton]
theorem Gd.leaf {iso : Int} {d : Nd It} (w : Own 2 d.iv d.its.length d.ib d.io (d.its.flatMap enc) d.isp) (ho : d.own = true) (hi : d.iso = iso) (hc : d.cnt = d.its.length) : Gd iso (k := 0) d := ⟨⟨w, by simp [ho, hi]⟩, hc, ho⟩
theorem Gd.inner {iso : Int} {k : Nat} {d : Nd It} {ts : List (GT It k)} (w : Own 2 d.iv d.its.length d.ib d.io (d.its.flatMap enc) d.isp) (ho : d.own = true) (hi : d.iso = iso) (wK : Own 1 d.kv ts.length d.krb d.kro ((ts.map GT.id).flatMap fp) d.ksp)
    (hl : ts.length = d.its.length + 1) (hk : ∀ c ∈ ts, Gd iso c) (hc : d.cnt = (GT.pt (h := k + 1) (d, ts)).items.length) : Gd iso (k := k + 1) (d, ts) :=
  ⟨⟨⟨w, by simp [ho, hi]⟩, by rw [mfp]; exact wK, hl, fun c hc => ⟨(hk c hc).wf, fun e => by rw [ho] at e; cases e⟩⟩, ⟨hc, fun c hc => (hk c hc).cn⟩, ⟨ho, fun c hc => (hk c hc).mine⟩⟩

theorem set_head (o : Swo lt) (hO : OrdC Z lf lt) {n ib io pb po tb hb dp : Nat} {iso cnt mn mx : Int} {ctr : Option Addr} {iv hv : Value} {a : Option Addr} {its : List It} {isp hc : List Value} {x : It} (hT0 : (tb, 0, hd0 iso ctr) ∈ Z) (hT4 : (tb, 4, hd4 lf mn mx) ∈ Z) (hh : Hn hv hb hc) (hd : dp ≤ 4611686018427387903) (ha : Asc lt its) (hb1 : its.length ≤ 1024) (hne : 1 ≤ its.length)
    (w : Own 2 iv its.length ib io (its.flatMap enc) isp) (s : St h0 Z ((pb, po, [ptr n 0]) :: (n, 0, [.int .u64 iso, .int .i64 cnt, iv, .pointer a]) :: (ib, io, its.flatMap enc ++ isp) :: (hb, 0, hc) :: E) h)
    (H1 : ∀ y hc' h', lget lt its x = some y → Hn hv hb hc' → St h0 Z ((pb, po, [ptr n 0]) :: (n, 0, [.int .u64 iso, .int .i64 cnt, iv, .pointer a]) :: (ib, io, (lput lt its x).flatMap enc ++ isp) :: (hb, 0, hc') :: E) h' → Q (.tuple #[av y, .bool true, .bool false]) h')
    (H2 : ∀ t7 t10 t13 hc' h', lget lt its x = none → Hn hv hb hc' → St h0 Z ((t13, 0, [ptr n 0]) :: (t10, 0, enc emp) :: (t7, 0, enc x) :: (pb, po, [ptr n 0]) :: (n, 0, [.int .u64 iso, .int .i64 cnt, iv, .pointer a]) :: (ib, io, its.flatMap enc ++ isp) :: (hb, 0, hc') :: E) h' → BTreeG_I_nodeSet.j3 (ptr tb 0) hv (.int .i64 dp) (ptr t7 0) (ptr t10 0) (ptr t13 0) (.int .i64 (pos lt its x)) h' Q) :
    BTreeG_I_nodeSet.call #[ptr tb 0, ptr pb po, av x, hv, .int .i64 dp] h Q := by
  refine BTreeG_I_nodeSet.body _ _ _ _ _ _ _ ?_
  unfold BTreeG_I_nodeSet.sh
  refine St.r_box (cs := enc x) s fun t7 h s => ?_
  refine s.r_alloc fun t10 h s => ?_
  refine r_nil ?_
  refine s.r_load1 2 (j := 0) rfl rfl ?_
  refine r_nil ?_
  refine r_fld ?_
  refine s.r_load1 3 (o := 0) (j := 0) rfl rfl ?_
  refine r_nil ?_
  refine r_fld ?_
  refine s.r_lz0 hT0 (j := 0) rfl ?_
  refine r_cmpI ?_
  refine r_if (fun e => absurd e (by simp)) (fun _ => ?_)
  unfold BTreeG_I_nodeSet.j1
  refine r_nil ?_
  refine s.r_load1 2 (j := 0) rfl rfl ?_
  refine s.r_alloc fun t13 h s => ?_
  refine St.r_store0 s 0 rfl (by simp) rfl ?_
  intro h s
  try simp only [List.set_cons_zero, List.set_cons_succ] at s
  have hlf : cl h tb 6 = some lf := s.clz hT4 2 rfl rfl
  have hni : cl h n 2 = some iv := by have := s.get (k := 4) (j := 2) rfl (by simp); simpa using this
  -- behind the search
  have two : ∀ {hc' : List Value} {h' : Heap}, Hn hv hb hc' → St h0 Z ((t13, 0, [ptr n 0]) :: (t10, 0, enc emp) :: (t7, 0, enc x) :: (pb, po, [ptr n 0]) :: (n, 0, [.int .u64 iso, .int .i64 cnt, iv, .pointer a]) :: (ib, io, its.flatMap enc ++ isp) :: (hb, 0, hc') :: E) h' →
      BTreeG_I_nodeSet.j2 (ptr tb 0) hv (.int .i64 dp) (ptr t7 0) (ptr t10 0) (ptr t13 0) (.int .i64 (pos lt its x)) (.bool (lget lt its x).isSome) h' Q := fun {hc'} {h'} hh s => by
    unfold BTreeG_I_nodeSet.j2
    refine r_if (fun hf => ?_) (fun hn => ?_)
    · obtain ⟨y, hy⟩ := Option.isSome_iff_exists.1 hf
      obtain ⟨hp, hyy, _⟩ := lget_some hy
      have hy2 : its[pos lt its x]? = some y := by rw [List.getElem?_eq_getElem hp, hyy]
      refine St.r_load0 s 0 rfl rfl ?_
      refine r_nil ?_
      refine r_fld ?_
      refine St.r_load0 s 4 rfl rfl ?_
      refine w.idx (n := pos lt its x) rfl hp ?_
      refine s.r_loadF encl 5 rfl hy2 ?_
      refine St.r_storeN0 s 1 rfl rfl (by simp) (enc1 _) ?_; intro h s
      refine St.r_load0 s 0 rfl rfl ?_
      refine r_nil ?_
      refine r_fld ?_
      refine St.r_load0 s 4 rfl rfl ?_
      refine St.r_loadN0 s 2 rfl (by simp) ?_
      refine w.idx (n := pos lt its x) rfl hp ?_
      refine s.r_storeF (x := x) encl 5 rfl hp (enc1 _) fun h s => ?_
      rw [← lput_found hy] at s
      refine St.r_loadN0 s 1 rfl (by simp) ?_
      refine St.r_storeN0 s 1 rfl rfl (by simp) (enc1 y) ?_; intro h s
      refine St.r_loadN0 s 1 rfl (by simp) ?_
      exact H1 y _ h hy hh (s.drop 3)
    · have hn : lget lt its x = none := by cases e : lget lt its x with
        | none => rfl
        | some y => rw [e] at hn; cases hn
      exact H2 t7 t10 t13 _ _ hn hh s
  rcases hh with ⟨rfl, rfl⟩ | ⟨rfl, hh⟩
  · refine r_eqNilP ?_
    refine r_if (fun _ => ?_) (fun e => absurd e (by simp))
    refine St.r_load0 s 0 rfl rfl ?_
    refine St.r_loadN0 s 2 rfl (by simp) ?_
    refine bsearch_ok o hO s hlf hni (w.rdl s 5 rfl) ha (by omega) fun E2 h2 u2 => ?_
    refine r_ext rfl ?_
    refine r_ext rfl ?_
    exact two (.inl ⟨rfl, rfl⟩) ((s.join u2).sub (List.sublist_append_right _ _))
  · refine r_eqNilP ?_
    refine r_if (fun e => absurd e (by simp)) (fun _ => ?_)
    refine St.r_load0 s 0 rfl rfl ?_
    refine St.r_loadN0 s 2 rfl (by simp) ?_
    refine hintsearch_ok o hO hh hd (s.front 6 rfl) hlf (c0 := .int .u64 iso) (c1 := .int .i64 cnt) (a := a) (iv := iv) (List.mem_append_left _ (by simp)) (w.rdl s 5 rfl) ha (by omega) hne fun hc' h' hh' s => ?_
    refine r_ext rfl ?_
    refine r_ext rfl ?_
    exact two (.inr ⟨rfl, hh'⟩) (s.perm (by ((apply perm_rg; intro f; simp only [List.set_cons_zero, List.set_cons_succ, List.eraseIdx_cons_zero, List.eraseIdx_cons_succ, List.cons_append, List.nil_append, List.map_append, List.map_cons, List.map_nil, List.sum_append, List.sum_cons, List.sum_nil, List.map_flatMap, Nat.add_zero, Nat.zero_add]; ac_rfl))))

/-- An item between the items of a node. -/
theorem set_leaf {n ib io i t7 t10 t13 tb : Nat} {cnt mn mx : Int} {c1 iv kp : Value} {its : List It} {isp : List Value} {x : It} (hT4 : (tb, 4, hd4 lf mn mx) ∈ Z) (hl : its.length ≤ 1024) (hi : i ≤ its.length) (hc0 : 0 ≤ cnt) (hc : cnt ≤ 4611686018427387904)
    (w : Own 2 iv its.length ib io (its.flatMap enc) isp) (s : St h0 Z ((t13, 0, [ptr n 0]) :: (t10, 0, enc emp) :: (t7, 0, enc x) :: (n, 0, [c1, .int .i64 cnt, iv, kp]) :: (ib, io, its.flatMap enc ++ isp) :: E) h)
    (H : ∀ iv' ib' io' isp' h', Own 2 iv' (ins its i x).length ib' io' ((ins its i x).flatMap enc) isp' → St h0 Z ((n, 0, [c1, .int .i64 (cnt + 1), iv', kp]) :: (ib', io', (ins its i x).flatMap enc ++ isp') :: E) h' → Q (.tuple #[av emp, .bool false, .bool false]) h') :
    BTreeG_I_nodeSet.j8 (ptr tb 0) (ptr t7 0) (ptr t10 0) (ptr t13 0) (.int .i64 i) h Q := by
  unfold BTreeG_I_nodeSet.j8
  refine St.r_load0 s 0 rfl rfl ?_
  refine St.r_load0 s 0 rfl rfl ?_
  refine r_nil ?_
  refine r_fld ?_
  refine St.r_load0 s 3 rfl rfl ?_
  refine r_nil ?_
  refine r_fld ?_
  refine s.r_lzE hT4 3 (enc emp) rfl (by simp) rfl ?_
  refine St.r_mkSl (sz := 2) (cs := enc emp) s (by ((simp only [fillV, fill1, Value.cells, zeros_succ, zeros_zero, List.size_toArray, List.length_cons, List.length_nil, List.length_append, List.take_succ_cons, List.take_zero, List.take_nil, List.drop_succ_cons, List.drop_zero, List.drop_nil, List.cons_append, List.nil_append, List.append_nil, Nat.reduceAdd, Nat.reduceMul, Nat.reduceLeDiff, Nat.reduceEqDiff, and_self, and_true, true_and, if_true, Nat.le_refl, Nat.zero_add, Nat.add_zero, Nat.zero_mul, reduceIte, if_false] <;> rfl))) rfl fun q h s w1 => ?_
  refine And.intro (by exact St.r_still0 s 1 rfl rfl) ?_
  refine And.intro (by exact St.r_still0 s 1 rfl rfl) ?_
  refine And.intro (by exact St.r_still0 s 4 rfl rfl) ?_
  refine St.r_app s 5 (sz := 2) (n := 1) (new := enc emp) rfl w rfl (w1.rdl s 0 rfl) (enc1 _) (by omega) (by omega) fun v' b' o' sp' h s w' => ?_
  rw [snoc_enc] at s w'
  have w' : Own 2 v' (its ++ [emp]).length b' o' ((its ++ [emp]).flatMap enc) sp' := by rw [List.length_append]; exact w'
  refine And.intro (by exact St.r_still0 s 1 rfl rfl) ?_
  refine r_nil ?_
  refine r_fld ?_
  refine St.r_store0 s 4 rfl (by simp) w'.one ?_; intro h s
  refine St.r_load0 s 1 rfl rfl ?_
  refine r_nil ?_
  refine r_fld ?_
  refine St.r_load0 s 4 rfl rfl ?_
  refine r_add (z := ((i + 1 : Nat) : Int)) (by rw [i64w (by omega) (by omega)]; omega) ?_
  refine w'.slcLo encl (i := i + 1) rfl (by simp; omega) fun d wd => ?_
  refine St.r_load0 s 1 rfl rfl ?_
  refine r_nil ?_
  refine r_fld ?_
  refine St.r_load0 s 4 rfl rfl ?_
  refine (w'.rdl s 5 rfl).slcLo encl (i := i) rfl (by simp; omega) fun src rs => ?_
  refine s.r_cpyF encl 5 (L := its ++ [emp]) (M := (its ++ [emp]).drop i) rfl wd (by simp; omega) rs rfl (fun y _ => enc1 y) fun h s => ?_
  refine St.r_load0 s 1 rfl rfl ?_
  refine r_nil ?_
  refine r_fld ?_
  refine St.r_load0 s 4 rfl rfl ?_
  refine St.r_loadN0 s 3 rfl (by simp) ?_
  refine w'.idx (n := i) rfl (by simp; omega) ?_
  refine s.r_storeF (x := x) encl 5 rfl (by simp; omega) (enc1 _) fun h s => ?_
  rw [List.set_set, ins_steps its emp x hi] at s
  refine St.r_load0 s 1 rfl rfl ?_
  refine r_nil ?_
  refine r_fld ?_
  refine St.r_load0 s 4 rfl rfl ?_
  refine r_add (z := cnt + 1) (by rw [i64w (by omega) (by omega)]) ?_
  refine r_nil ?_
  refine r_fld ?_
  refine St.r_store0 s 4 rfl (by simp) rfl ?_; intro h s
  refine r_nil ?_
  refine r_fld ?_
  refine s.r_lzE hT4 3 (enc emp) rfl (by simp) rfl ?_
  refine St.r_storeN0 s 2 rfl rfl (by simp) (enc1 emp) ?_; intro h s
  refine St.r_loadN0 s 2 rfl (by simp) ?_
  refine H v' b' o' sp' h ?_ (s.drop 4)
  have e := ins_length (x := x) hi
  rw [show (ins its i x).length = (its ++ [emp]).length by rw [e]; simp]
  exact w'.cong (by rw [flat_len encl, flat_len encl, e]; simp)

/-- Setting below a node of height k, as told by the plain tree. -/
def SetOk (lt : It → It → Bool) (h0 : Heap) (Z : List Rg) (tb m : Nat) (iso : Int) (x : It) (k : Nat) : Prop :=
  ∀ (t : GT It k) {h : Heap} {E : List Rg} {Q : Value → Heap → Prop} {pb po lo hb dp : Nat} {hv : Value} {hc : List Value}, Hn hv hb hc → dp + k ≤ 4611686018427387903 → 1 ≤ lo → t.pt.Fl m lo → Asc lt t.pt.items → t.pt.items.length ≤ 4611686018427387903 → Gd iso t → St h0 Z ((pb, po, [ptr t.id 0]) :: (hb, 0, hc) :: (t.all enc ++ E)) h →
    (∀ (t' : GT It k) hc' h', t'.pt = (if t.pt.splits lt m x then t.pt else t.pt.set lt m x) → t'.id = t.id → Gd iso t' → Hn hv hb hc' → St h0 Z ((pb, po, [ptr t.id 0]) :: (hb, 0, hc') :: (t'.all enc ++ E)) h' →
      Q (.tuple #[old (t.pt.get lt x), .bool (t.pt.get lt x).isSome, .bool (t.pt.splits lt m x)]) h') → BTreeG_I_nodeSet.call #[ptr tb 0, ptr pb po, av x, hv, .int .i64 dp] h Q

theorem setOk_zero (o : Swo lt) (hO : OrdC Z lf lt) {tb m : Nat} {iso mn : Int} {ctr : Option Addr} {x : It} (hT0 : (tb, 0, hd0 iso ctr) ∈ Z) (hT4 : (tb, 4, hd4 lf mn m) ∈ Z) (hm1 : m ≤ 1024) : SetOk lt h0 Z tb m iso x 0 := by
  intro d h E Q pb po lo hb dp hv hc hh hdk hlo fl ha hsz g s H
  obtain ⟨own, n, is', cnt, its, iv, ib, io, isp, kb, kv, krb, kro, ksp⟩ := d
  have w : Own 2 iv its.length ib io (its.flatMap enc) isp := g.wf.1
  have hlen : its.length ≤ m := fl.2
  have hle : lo ≤ its.length := fl.1
  have hcn : cnt = its.length := g.cn
  have ho : own = true := g.mine
  have hiso : is' = iso := g.wf.2.1 ho
  subst hiso; subst ho
  have s : St h0 Z ((pb, po, [ptr n 0]) :: (hb, 0, hc) :: (n, 0, [.int .u64 is', .int .i64 cnt, iv, .pointer none]) :: (ib, io, its.flatMap enc ++ isp) :: E) h := s
  have ha : Asc lt its := ha
  refine set_head o hO (n := n) (iso := is') (cnt := cnt) (a := none) (E := E) hT0 hT4 hh (by omega) ha (by omega) (by omega) w (s.perm (by ((apply perm_rg; intro f; simp only [List.set_cons_zero, List.set_cons_succ, List.eraseIdx_cons_zero, List.eraseIdx_cons_succ, List.cons_append, List.nil_append, List.map_append, List.map_cons, List.map_nil, List.sum_append, List.sum_cons, List.sum_nil, List.map_flatMap, Nat.add_zero, Nat.zero_add]; ac_rfl)))) (fun y hc' h' hy hh s => ?_) fun t7 t10 t13 hc' h' hn hh s => ?_
  · have hns : PT.splits lt m (h := 0) its x = false := by rw [PT.splits_leaf, hy]; rfl
    have hg : PT.get lt (h := 0) its x = some y := hy
    have hln : (lput lt its x).length = its.length := by rw [lput_length, hy]; rfl
    have := H (⟨true, n, is', cnt, lput lt its x, iv, ib, io, isp, kb, kv, krb, kro, ksp⟩ : Nd It) hc' h' (by show _ = if PT.splits lt m (h := 0) its x = true then _ else _; rw [hns]; rfl) rfl
      (Gd.leaf (by show Own 2 iv (lput lt its x).length ib io ((lput lt its x).flatMap enc) isp; rw [hln]; exact w.cong (by rw [flat_len encl, flat_len encl, hln])) rfl rfl (by show cnt = (lput lt its x).length; rw [hln]; exact hcn)) hh (s.perm (E' := (pb, po, [ptr n 0]) :: (hb, 0, hc') :: (n, 0, [.int .u64 is', .int .i64 cnt, iv, .pointer none]) :: (ib, io, (lput lt its x).flatMap enc ++ isp) :: E) (by ((apply perm_rg; intro f; simp only [List.set_cons_zero, List.set_cons_succ, List.eraseIdx_cons_zero, List.eraseIdx_cons_succ, List.cons_append, List.nil_append, List.map_append, List.map_cons, List.map_nil, List.sum_append, List.sum_cons, List.sum_nil, List.map_flatMap, Nat.add_zero, Nat.zero_add]; ac_rfl))))
    change Q (.tuple #[old (PT.get lt (h := 0) its x), .bool (PT.get lt (h := 0) its x).isSome, .bool (PT.splits lt m (h := 0) its x)]) h' at this
    rw [hns, hg] at this
    exact this
  · unfold BTreeG_I_nodeSet.j3
    have hg : PT.get lt (h := 0) its x = none := hn
    refine St.r_load0 s 0 rfl rfl ?_
    refine node_leaf_ok (a := none) (s.get (k := 4) (j := 3) rfl (by simp)) ?_
    refine r_if (fun _ => ?_) (fun e => absurd e (by simp))
    refine St.r_load0 s 0 rfl rfl ?_
    refine r_nil ?_
    refine r_fld ?_
    refine St.r_load0 s 4 rfl rfl ?_
    refine w.lenV ?_
    refine r_nil ?_
    refine r_fld ?_
    refine s.r_lz hT4 5 rfl rfl ?_
    refine r_cmpI ?_
    refine r_if (fun hfull => ?_) (fun hroom => ?_)
    · have hfull : its.length = m := Int.ofNat_inj.1 (by simpa using hfull)
      have hsp : PT.splits lt m (h := 0) its x = true := by rw [PT.splits_leaf, hn]; simpa using hfull
      refine r_nil ?_
      refine r_fld ?_
      refine s.r_lzE hT4 3 (enc emp) rfl (by simp) rfl ?_
      refine St.r_storeN0 s 1 rfl rfl (by simp) (enc1 emp) ?_; intro h s
      refine St.r_loadN0 s 1 rfl (by simp) ?_
      have := H (⟨true, n, is', cnt, its, iv, ib, io, isp, kb, kv, krb, kro, ksp⟩ : Nd It) hc' h (by show _ = if PT.splits lt m (h := 0) its x = true then _ else _; rw [hsp]; rfl) rfl g hh (St.perm (E := (pb, po, [ptr n 0]) :: (n, 0, [.int .u64 is', .int .i64 cnt, iv, .pointer none]) :: (ib, io, its.flatMap enc ++ isp) :: (hb, 0, hc') :: E) (E' := (pb, po, [ptr n 0]) :: (hb, 0, hc') :: (n, 0, [.int .u64 is', .int .i64 cnt, iv, .pointer none]) :: (ib, io, its.flatMap enc ++ isp) :: E) (s.drop 3) (by ((apply perm_rg; intro f; simp only [List.set_cons_zero, List.set_cons_succ, List.eraseIdx_cons_zero, List.eraseIdx_cons_succ, List.cons_append, List.nil_append, List.map_append, List.map_cons, List.map_nil, List.sum_append, List.sum_cons, List.sum_nil, List.map_flatMap, Nat.add_zero, Nat.zero_add]; ac_rfl))))
      change Q (.tuple #[old (PT.get lt (h := 0) its x), .bool (PT.get lt (h := 0) its x).isSome, .bool (PT.splits lt m (h := 0) its x)]) h at this
      rw [hsp, hg] at this
      exact this
    · have hroom : its.length ≠ m := fun e => by rw [e] at hroom; simp at hroom
      have hsp : PT.splits lt m (h := 0) its x = false := by rw [PT.splits_leaf, hn]; simpa using hroom
      have hp := pos_le (lt := lt) its x
      refine set_leaf (n := n) (t7 := t7) (t10 := t10) (t13 := t13) (x := x) (c1 := .int .u64 is') (kp := .pointer none) (cnt := cnt) (its := its) (E := (pb, po, [ptr n 0]) :: (hb, 0, hc') :: E) hT4 (by omega) hp (by omega) (by omega) w (s.perm (by ((apply perm_rg; intro f; simp only [List.set_cons_zero, List.set_cons_succ, List.eraseIdx_cons_zero, List.eraseIdx_cons_succ, List.cons_append, List.nil_append, List.map_append, List.map_cons, List.map_nil, List.sum_append, List.sum_cons, List.sum_nil, List.map_flatMap, Nat.add_zero, Nat.zero_add]; ac_rfl)))) fun iv' ib' io' isp' h' w' s => ?_
      rw [← lput_ins hn] at w' s
      have hln : (lput lt its x).length = its.length + 1 := by rw [lput_length, hn]; rfl
      have := H (⟨true, n, is', cnt + 1, lput lt its x, iv', ib', io', isp', kb, kv, krb, kro, ksp⟩ : Nd It) hc' h' (by show _ = if PT.splits lt m (h := 0) its x = true then _ else _; rw [hsp]; rfl) rfl
        (Gd.leaf w' rfl rfl (by show cnt + 1 = (lput lt its x).length; omega)) hh (s.perm (E' := (pb, po, [ptr n 0]) :: (hb, 0, hc') :: (n, 0, [.int .u64 is', .int .i64 (cnt + 1), iv', .pointer none]) :: (ib', io', (lput lt its x).flatMap enc ++ isp') :: E) (by ((apply perm_rg; intro f; simp only [List.set_cons_zero, List.set_cons_succ, List.eraseIdx_cons_zero, List.eraseIdx_cons_succ, List.cons_append, List.nil_append, List.map_append, List.map_cons, List.map_nil, List.sum_append, List.sum_cons, List.sum_nil, List.map_flatMap, Nat.add_zero, Nat.zero_add]; ac_rfl))))
      change Q (.tuple #[old (PT.get lt (h := 0) its x), .bool (PT.get lt (h := 0) its x).isSome, .bool (PT.splits lt m (h := 0) its x)]) h' at this
      rw [hsp, hg] at this
      exact this
end Go.Proofs.Ytgnnidefbeoibaa.Gi
end
section
namespace Go.Proofs.Ytgnnidefbeoibaa.Gi
open Go.Hp Go.Proofs.Ytgnnidefbeoibaa
set_option linter.unusedVariables false
set_option linter.unusedSimpArgs false
variable {h0 h : Heap} {Z E : List Rg} {Q : Value → Heap → Prop} {lt : It → It → Bool} {lf : Value}

theorem flat_at3 {β : Type} (f : β → List Rg) {ts : List β} {i : Nat} {c : β} (hc : ts[i]? = some c) : ts.flatMap f = (ts.take i).flatMap f ++ (f c ++ (ts.drop (i + 1)).flatMap f) := by
  conv => lhs; rw [take_at hc, List.flatMap_append, List.flatMap_cons]
theorem set_ids {k : Nat} {ts : List (GT It k)} {i : Nat} {c c' : GT It k} (hc : ts[i]? = some c) (he : c'.id = c.id) : (ts.set i c').map GT.id = ts.map GT.id := by
  obtain ⟨hi, rfl⟩ := List.getElem?_eq_some_iff.1 hc
  rw [List.map_set, he]
  apply List.ext_getElem?
  intro j
  rw [List.getElem?_set]
  split
  · rename_i e; subst e
    simp [hi]
  · rfl
theorem lend_kidH {k : Nat} {ts : List (GT It k)} {i kb krb kro : Nat} {kv : Value} {ksp : List Value} {A : List Rg} {c : GT It k} {r : Rg} (hc : ts[i]? = some c)
    (s : St h0 Z (r :: (A ++ ((krb, kro, (ts.map GT.id).flatMap fp ++ ksp) :: (ts.flatMap (GT.all enc) ++ E)))) h) :
    ∃ E', St h0 Z ((krb, kro + i * 1, [ptr c.id 0]) :: r :: (c.all enc ++ E')) h ∧ ∀ (c' : GT It k) (r' : Rg) h', c'.id = c.id → St h0 Z ((krb, kro + i * 1, [ptr c.id 0]) :: r' :: (c'.all enc ++ E')) h' →
      St h0 Z (r' :: (A ++ ((krb, kro, ((ts.set i c').map GT.id).flatMap fp ++ ksp) :: ((ts.set i c').flatMap (GT.all enc) ++ E)))) h' := by
  have hid : (ts.map GT.id)[i]? = some c.id := by rw [List.getElem?_map, hc]; rfl
  have s1 : St h0 Z ((krb, kro, (ts.map GT.id).flatMap fp ++ ksp) :: (r :: (A ++ (ts.flatMap (GT.all enc) ++ E)))) h := s.perm (by ((apply perm_rg; intro f; simp only [List.set_cons_zero, List.set_cons_succ, List.eraseIdx_cons_zero, List.eraseIdx_cons_succ, List.cons_append, List.nil_append, List.map_append, List.map_cons, List.map_nil, List.sum_append, List.sum_cons, List.sum_nil, List.map_flatMap, Nat.add_zero, Nat.zero_add]; ac_rfl)))
  have s2 := St.cut3 fpl s1 hid
  refine ⟨(krb, kro, ((ts.map GT.id).take i).flatMap fp) :: (krb, kro + (i + 1) * 1, ((ts.map GT.id).drop (i + 1)).flatMap fp ++ ksp) :: (A ++ ((ts.take i).flatMap (GT.all enc) ++ ((ts.drop (i + 1)).flatMap (GT.all enc) ++ E))), s2.perm ?_, fun c' r' h' he s' => ?_⟩
  · rw [flat_at3 (GT.all enc) hc]; ((apply perm_rg; intro f; simp only [List.set_cons_zero, List.set_cons_succ, List.eraseIdx_cons_zero, List.eraseIdx_cons_succ, List.cons_append, List.nil_append, List.map_append, List.map_cons, List.map_nil, List.sum_append, List.sum_cons, List.sum_nil, List.map_flatMap, Nat.add_zero, Nat.zero_add]; ac_rfl))
  · have hi := (List.getElem?_eq_some_iff.1 hc).1
    have hc' : (ts.set i c')[i]? = some c' := by rw [List.getElem?_set_self hi]
    rw [set_ids hc he, flat_at3 (GT.all enc) hc', List.take_set_of_le (Nat.le_refl _), List.drop_set_of_lt (by omega)]
    have s3 : St h0 Z ((krb, kro, ((ts.map GT.id).take i).flatMap fp) :: (krb, kro + (i + 1) * 1, ((ts.map GT.id).drop (i + 1)).flatMap fp ++ ksp) :: (krb, kro + i * 1, fp c.id) :: (r' :: (A ++ ((ts.take i).flatMap (GT.all enc) ++ (c'.all enc ++ ((ts.drop (i + 1)).flatMap (GT.all enc) ++ E)))))) h' := s'.perm (by ((apply perm_rg; intro f; simp only [List.set_cons_zero, List.set_cons_succ, List.eraseIdx_cons_zero, List.eraseIdx_cons_succ, List.cons_append, List.nil_append, List.map_append, List.map_cons, List.map_nil, List.sum_append, List.sum_cons, List.sum_nil, List.map_flatMap, Nat.add_zero, Nat.zero_add]; ac_rfl)))
    have s4 := St.glue3 fpl hid s3
    exact s4.perm (by ((apply perm_rg; intro f; simp only [List.set_cons_zero, List.set_cons_succ, List.eraseIdx_cons_zero, List.eraseIdx_cons_succ, List.cons_append, List.nil_append, List.map_append, List.map_cons, List.map_nil, List.sum_append, List.sum_cons, List.sum_nil, List.map_flatMap, Nat.add_zero, Nat.zero_add]; ac_rfl)))
theorem r_loadM1 {k : Nat} {ts : List (GT It k)} {K : Value → Prop} (s : St h0 Z E h) (j : Nat) {b o i : Nat} {sp : List Value} {c : GT It k} (hk : E[j]? = some (b, o, (ts.map GT.id).flatMap fp ++ sp)) (hc : ts[i]? = some c) (H : K (ptr c.id 0)) : load1 (ptr b (o + i * 1)) h K := by
  have := s.r_load1F (K := K) (r := 0) fpl j hk (show (ts.map GT.id)[i]? = some c.id by rw [List.getElem?_map, hc]; rfl) (v := ptr c.id 0) rfl H
  exact this

/-- What a changed kid makes of a node. -/
theorem Gd.setKid {iso : Int} {k : Nat} {d : Nd It} {ts : List (GT It k)} (g : Gd iso (k := k + 1) (d, ts)) {i : Nat} {c c' : GT It k} (hc : ts[i]? = some c) (he : c'.id = c.id) (g' : Gd iso c') {cnt : Int}
    (hcnt : cnt = (GT.pt (h := k + 1) (d, ts.set i c')).items.length) : Gd iso (k := k + 1) ({ d with cnt := cnt }, ts.set i c') := by
  have wK := g.wf.2.1
  refine Gd.inner g.wf.1.1 g.mine.1 (g.wf.1.2.1 g.mine.1) ?_ (by rw [List.length_set]; exact g.wf.2.2.1) (fun q hq => ?_) hcnt
  · rw [set_ids hc he, List.length_set, ← mfp]; exact wK
  · rcases List.mem_or_eq_of_mem_set hq with e | e
    · exact g.kid e
    · rw [e]; exact g'

theorem set_noSplit (o : Swo lt) (hO : OrdC Z lf lt) {tb m : Nat} {iso mn : Int} {ctr : Option Addr} {x : It} (hT0 : (tb, 0, hd0 iso ctr) ∈ Z) (hT4 : (tb, 4, hd4 lf mn m) ∈ Z) (hm3 : 3 ≤ m) (hm1 : m ≤ 1024) (ho : m % 2 = 1) {k : Nat} (ih : SetOk lt h0 Z tb m iso x k)
    (t : GT It (k + 1)) {pb po lo hb dp : Nat} {hv : Value} {hc : List Value} (hh : Hn hv hb hc) (hdk : dp + (k + 1) ≤ 4611686018427387903) (hlo : 1 ≤ lo) (fl : t.pt.Fl m lo) (ha : Asc lt t.pt.items) (hsz : t.pt.items.length ≤ 4611686018427387903) (g : Gd iso t) (s : St h0 Z ((pb, po, [ptr t.id 0]) :: (hb, 0, hc) :: (t.all enc ++ E)) h)
    (hns : ∀ c, t.pt.2[pos lt t.pt.1 x]? = some c → lget lt t.pt.1 x = none → c.splits lt m x = false)
    (H : ∀ (t' : GT It (k + 1)) hc' h', t'.pt = t.pt.set lt m x → t'.id = t.id → Gd iso t' → Hn hv hb hc' → St h0 Z ((pb, po, [ptr t.id 0]) :: (hb, 0, hc') :: (t'.all enc ++ E)) h' → Q (.tuple #[old (t.pt.get lt x), .bool (t.pt.get lt x).isSome, .bool false]) h') :
    BTreeG_I_nodeSet.call #[ptr tb 0, ptr pb po, av x, hv, .int .i64 dp] h Q := by
  have hsp : t.pt.splits lt m x = false := by
    cases e : t.pt.splits lt m x with
    | false => rfl
    | true =>
      obtain ⟨_, e2⟩ := PT.splits_len e
      have e2 : lget lt t.pt.1 x = none := e2
      obtain ⟨c, hc, _⟩ := PT.step o fl ha e2
      rw [PT.splits_kid e2 hc, hns c hc e2] at e
      simp at e
  have hset := PT.set_items o ho fl ha hsp
  have hgi := PT.get_items o fl ha (x := x)
  obtain ⟨d, ts⟩ := t
  obtain ⟨own, n, is', cnt, its, iv, ib, io, isp, kb, kv, krb, kro, ksp⟩ := d
  have w : Own 2 iv its.length ib io (its.flatMap enc) isp := g.wf.1.1
  have wK : Own 1 kv ts.length krb kro ((ts.map GT.id).map fun m => ptr m 0) ksp := g.wf.2.1
  have hkl : ts.length = its.length + 1 := g.wf.2.2.1
  have hidl : (ts.map GT.id).length = ts.length := List.length_map ..
  have hom : own = true := g.mine.1
  have hiso : is' = iso := g.wf.1.2.1 hom
  subst hiso; subst hom
  have hlen : its.length ≤ m := fl.2.1
  have hle : lo ≤ its.length := fl.1
  have ha1 : Asc lt its := asc_of_sub ha (PT.its_sub1 (its, ts.map GT.pt))
  rw [← hidl, mfp] at wK
  have hcn : cnt = (PT.items (h := k + 1) (its, ts.map GT.pt)).length := g.cn.1
  have s : St h0 Z ((pb, po, [ptr n 0]) :: (hb, 0, hc) :: (n, 0, [.int .u64 is', .int .i64 cnt, iv, ptr kb 0]) :: (ib, io, its.flatMap enc ++ isp) :: (kb, 0, [kv]) :: (krb, kro, ((ts.map GT.id).map fun m => ptr m 0) ++ ksp) :: (ts.flatMap (GT.all enc) ++ E)) h := s
  rw [mfp] at s
  refine set_head o hO (n := n) (iso := is') (cnt := cnt) (a := some ⟨kb, 0, none⟩) (E := (kb, 0, [kv]) :: (krb, kro, (ts.map GT.id).flatMap fp ++ ksp) :: (ts.flatMap (GT.all enc) ++ E)) hT0 hT4 hh (by omega) ha1 (by omega) (by omega) w (s.perm (by ((apply perm_rg; intro f; simp only [List.set_cons_zero, List.set_cons_succ, List.eraseIdx_cons_zero, List.eraseIdx_cons_succ, List.cons_append, List.nil_append, List.map_append, List.map_cons, List.map_nil, List.sum_append, List.sum_cons, List.sum_nil, List.map_flatMap, Nat.add_zero, Nat.zero_add]; ac_rfl)))) (fun y hc' h' hy hh s => ?_) fun t7 t10 t13 hc' h' hn hh s => ?_
  · have hln : (lput lt its x).length = its.length := by rw [lput_length, hy]; rfl
    have e1 : PT.set lt m (h := k + 1) (its, ts.map GT.pt) x = (lput lt its x, ts.map GT.pt) := PT.set_found (t := (its, ts.map GT.pt)) hy
    have e2 : PT.get lt (h := k + 1) (its, ts.map GT.pt) x = some y := PT.get_found (t := (its, ts.map GT.pt)) hy
    have e3 : (PT.items (h := k + 1) (lput lt its x, ts.map GT.pt)).length = (PT.items (h := k + 1) (its, ts.map GT.pt)).length := by
      have h1 : (PT.set lt m (h := k + 1) (its, ts.map GT.pt) x).items = lput lt (PT.items (h := k + 1) (its, ts.map GT.pt)) x := hset.1
      have h2 : PT.get lt (h := k + 1) (its, ts.map GT.pt) x = lget lt (PT.items (h := k + 1) (its, ts.map GT.pt)) x := hgi
      rw [e1] at h1
      rw [h1, lput_length, ← h2, e2]; rfl
    have s : St h0 Z ((pb, po, [ptr n 0]) :: (hb, 0, hc') :: (n, 0, [.int .u64 is', .int .i64 cnt, iv, ptr kb 0]) :: (ib, io, (lput lt its x).flatMap enc ++ isp) :: (kb, 0, [kv]) :: (krb, kro, (ts.map GT.id).flatMap fp ++ ksp) :: (ts.flatMap (GT.all enc) ++ E)) h' := s.perm (by ((apply perm_rg; intro f; simp only [List.set_cons_zero, List.set_cons_succ, List.eraseIdx_cons_zero, List.eraseIdx_cons_succ, List.cons_append, List.nil_append, List.map_append, List.map_cons, List.map_nil, List.sum_append, List.sum_cons, List.sum_nil, List.map_flatMap, Nat.add_zero, Nat.zero_add]; ac_rfl)))
    have := H ((⟨true, n, is', cnt, lput lt its x, iv, ib, io, isp, kb, kv, krb, kro, ksp⟩ : Nd It), ts) hc' h' e1.symm rfl
      (Gd.inner (by show Own 2 iv (lput lt its x).length ib io ((lput lt its x).flatMap enc) isp; rw [hln]; exact w.cong (by rw [flat_len encl, flat_len encl, hln])) rfl rfl (by rw [← hidl]; exact wK) (by show ts.length = (lput lt its x).length + 1; rw [hln]; exact hkl) (fun c hc => g.kid hc) (by
        show cnt = ((PT.items (h := k + 1) (lput lt its x, ts.map GT.pt)).length : Int); rw [e3]; exact hcn)) hh (by rw [← mfp] at s; exact s)
    change Q (.tuple #[old (PT.get lt (h := k + 1) (its, ts.map GT.pt) x), .bool (PT.get lt (h := k + 1) (its, ts.map GT.pt) x).isSome, .bool false]) h' at this
    rw [e2] at this
    exact this
  · have hp := pos_le (lt := lt) its x
    obtain ⟨c, hc⟩ : ∃ c, ts[pos lt its x]? = some c := ⟨ts[pos lt its x]'(by omega), List.getElem?_eq_getElem (by omega)⟩
    have hcp : (ts.map GT.pt)[pos lt its x]? = some c.pt := by rw [List.getElem?_map, hc]; rfl
    have hcs : c.pt.splits lt m x = false := hns c.pt hcp hn
    obtain ⟨c0, hc0, hcm, hac, hg0, _⟩ := PT.step (h := k) (t := (its, ts.map GT.pt)) o fl ha hn
    have : c0 = c.pt := Option.some.inj (hc0.symm.trans hcp)
    subst this
    have hcmem := List.mem_of_getElem? hc
    have e1 : PT.set lt m (h := k + 1) (its, ts.map GT.pt) x = (its, (ts.map GT.pt).set (pos lt its x) (c.pt.set lt m x)) := PT.set_kid (t := (its, ts.map GT.pt)) hn hcp hcs
    have e2 : PT.get lt (h := k + 1) (its, ts.map GT.pt) x = c.pt.get lt x := PT.get_kid (t := (its, ts.map GT.pt)) hn hcp
    have hcsz : c.pt.items.length ≤ 4611686018427387903 := by
      have h1 : (inter its ((ts.map GT.pt).map PT.items)).length = _ := inter_length _ _
      have h2 : (inter its ((ts.map GT.pt).map PT.items)).length ≤ 4611686018427387903 := hsz
      have h3 : c.pt.items.length ≤ (((ts.map GT.pt).map PT.items).map List.length).sum := mem_le_sum (by
        rw [List.map_map, List.map_map]; exact List.mem_map.2 ⟨c, hcmem, rfl⟩)
      omega
    unfold BTreeG_I_nodeSet.j3
    refine St.r_load0 s 0 rfl rfl ?_
    refine node_leaf_ok (a := some ⟨kb, 0, none⟩) (s.get (k := 4) (j := 3) rfl (by simp)) ?_
    refine r_if (fun e => absurd e (by simp)) (fun _ => ?_)
    unfold BTreeG_I_nodeSet.j4
    refine St.r_load0 s 0 rfl rfl ?_
    refine r_nil ?_
    refine r_fld ?_
    refine St.r_load0 s 4 rfl rfl ?_
    refine r_nil ?_
    refine St.r_load0 s 7 rfl rfl ?_
    (refine Own.idx (by assumption) rfl (by first | omega | (simp; done) | (simp; omega)) ?_)
    refine St.r_loadN0 s 2 rfl (by simp) ?_
    refine r_add1 (by omega) ?_
    obtain ⟨E', sk, back⟩ := lend_kidH (r := (hb, 0, hc')) (krb := krb) (kro := kro) (ksp := ksp) (A := (t13, 0, [ptr n 0]) :: (t10, 0, enc emp) :: (t7, 0, enc x) :: (pb, po, [ptr n 0]) :: (n, 0, [.int .u64 is', .int .i64 cnt, iv, ptr kb 0]) :: (ib, io, its.flatMap enc ++ isp) :: (kb, 0, [kv]) :: []) (E := E) (kb := kb) (kv := kv) hc (s.perm (by ((apply perm_rg; intro f; simp only [List.set_cons_zero, List.set_cons_succ, List.eraseIdx_cons_zero, List.eraseIdx_cons_succ, List.cons_append, List.nil_append, List.map_append, List.map_cons, List.map_nil, List.sum_append, List.sum_cons, List.sum_nil, List.map_flatMap, Nat.add_zero, Nat.zero_add]; ac_rfl))))
    refine ih c hh (by omega) (by omega) (fl.2.2.2 _ hcm) hac hcsz (g.kid hcmem) sk fun c' hc' h' hc1 hc2 hc3 hh s => ?_
    rw [hcs] at hc1 ⊢
    simp only [Bool.false_eq_true, ↓reduceIte] at hc1
    have s := back c' _ h' hc2 s
    have s : St h0 Z ((t13, 0, [ptr n 0]) :: (t10, 0, enc emp) :: (t7, 0, enc x) :: (pb, po, [ptr n 0]) :: (hb, 0, hc') :: (n, 0, [.int .u64 is', .int .i64 cnt, iv, ptr kb 0]) :: (ib, io, its.flatMap enc ++ isp) :: (kb, 0, [kv]) :: (krb, kro, ((ts.set (pos lt its x) c').map GT.id).flatMap fp ++ ksp) :: ((ts.set (pos lt its x) c').flatMap (GT.all enc) ++ E)) h' := s.perm (by ((apply perm_rg; intro f; simp only [List.set_cons_zero, List.set_cons_succ, List.eraseIdx_cons_zero, List.eraseIdx_cons_succ, List.cons_append, List.nil_append, List.map_append, List.map_cons, List.map_nil, List.sum_append, List.sum_cons, List.sum_nil, List.map_flatMap, Nat.add_zero, Nat.zero_add]; ac_rfl)))
    have ept : (ts.set (pos lt its x) c').map GT.pt = (ts.map GT.pt).set (pos lt its x) (c.pt.set lt m x) := by rw [List.map_set, hc1]
    have hlenI : (PT.items (h := k + 1) (its, (ts.set (pos lt its x) c').map GT.pt)).length = (PT.items (h := k + 1) (its, ts.map GT.pt)).length + if (c.pt.get lt x).isSome then 0 else 1 := by
      have h1 : (PT.set lt m (h := k + 1) (its, ts.map GT.pt) x).items = lput lt (PT.items (h := k + 1) (its, ts.map GT.pt)) x := hset.1
      have h2 : PT.get lt (h := k + 1) (its, ts.map GT.pt) x = lget lt (PT.items (h := k + 1) (its, ts.map GT.pt)) x := hgi
      rw [e1, ← ept] at h1
      rw [h1, lput_length, ← h2, e2]
    have fin : ∀ cnt' h', cnt' = (((PT.items (h := k + 1) (its, (ts.set (pos lt its x) c').map GT.pt)).length : Nat) : Int) →
        St h0 Z ((t13, 0, [ptr n 0]) :: (t10, 0, enc ((c.pt.get lt x).getD emp)) :: (t7, 0, enc x) :: (pb, po, [ptr n 0]) :: (hb, 0, hc') :: (n, 0, [.int .u64 is', .int .i64 cnt', iv, ptr kb 0]) :: (ib, io, its.flatMap enc ++ isp) :: (kb, 0, [kv]) :: (krb, kro, ((ts.set (pos lt its x) c').map GT.id).flatMap fp ++ ksp) :: ((ts.set (pos lt its x) c').flatMap (GT.all enc) ++ E)) h' →
        BTreeG_I_nodeSet.j6 (ptr t10 0) (.bool (c.pt.get lt x).isSome) h' Q := by
      intro cnt' h' hcnt' s
      unfold BTreeG_I_nodeSet.j6
      refine St.r_loadN0 s 1 rfl (by simp) ?_
      refine St.r_storeN0 s 1 rfl rfl (by simp) (enc1 _) ?_; intro h' s
      refine St.r_loadN0 s 1 rfl (by simp) ?_
      have := H ((⟨true, n, is', cnt', its, iv, ib, io, isp, kb, kv, krb, kro, ksp⟩ : Nd It), ts.set (pos lt its x) c') hc' h' (by show (its, (ts.set (pos lt its x) c').map GT.pt) = _; rw [ept]; exact e1.symm) rfl
        (Gd.setKid (d := ⟨true, n, is', cnt, its, iv, ib, io, isp, kb, kv, krb, kro, ksp⟩) g hc hc2 hc3 hcnt') hh (by rw [← mfp] at s; exact s.drop 3)
      change Q (.tuple #[old (PT.get lt (h := k + 1) (its, ts.map GT.pt) x), .bool (PT.get lt (h := k + 1) (its, ts.map GT.pt) x).isSome, .bool false]) h' at this
      rw [e2] at this
      exact this
    refine r_ext rfl ?_
    refine r_ext rfl ?_
    refine r_ext rfl ?_
    refine St.r_storeN0 s 1 rfl rfl (by simp) (enc1 ((c.pt.get lt x).getD emp)) ?_; intro h s
    refine r_if (fun e => absurd e (by simp)) (fun _ => ?_)
    unfold BTreeG_I_nodeSet.j5
    refine r_not ?_
    refine r_if (fun hr => ?_) (fun hr => ?_)
    · have hr2 : (c.pt.get lt x).isSome = false := by simpa using hr
      refine St.r_load0 s 0 rfl rfl ?_
      refine r_nil ?_
      refine r_fld ?_
      refine St.r_load0 s 5 rfl rfl ?_
      refine r_add (z := cnt + 1) (by have : (PT.items (h := k + 1) (its, ts.map GT.pt)).length ≤ 4611686018427387903 := hsz; rw [i64w (by omega) (by omega)]) ?_
      refine r_nil ?_
      refine r_fld ?_
      refine St.r_store0 s 5 rfl (by simp) rfl ?_; intro h s
      exact fin (cnt + 1) h (by rw [hlenI, hr2, hcn]; simp) s
    · have hr2 : (c.pt.get lt x).isSome = true := by simpa using hr
      exact fin cnt h (by rw [hlenI, hr2, hcn]; simp) s
end Go.Proofs.Ytgnnidefbeoibaa.Gi
end
section
namespace Go.Proofs.Ytgnnidefbeoibaa.Gi
open Go.Hp Go.Proofs.Ytgnnidefbeoibaa
set_option linter.unusedVariables false
set_option linter.unusedSimpArgs false
variable {h0 h : Heap} {Z E : List Rg} {Q : Value → Heap → Prop} {lt : It → It → Bool} {lf : Value}
abbrev pp (m : Nat) : Value := ptr m 0
theorem fpv (l : List Nat) : l.flatMap fp = (l.map pp).flatMap fv := by rw [flat_fv]; exact List.map_eq_flatMap.symm

theorem setOk_succ (o : Swo lt) (hO : OrdC Z lf lt) {tb m : Nat} {iso mn : Int} {ctr : Option Addr} {x : It} (hT0 : (tb, 0, hd0 iso ctr) ∈ Z) (hT4 : (tb, 4, hd4 lf mn m) ∈ Z) (hm3 : 3 ≤ m) (hm1 : m ≤ 1024) (ho : m % 2 = 1) {k : Nat} (ih : SetOk lt h0 Z tb m iso x k) : SetOk lt h0 Z tb m iso x (k + 1) := by
  intro t h E Q pb po lo hb dp hv ht hh hdk hlo fl ha hsz g s H
  by_cases hns : ∀ c, t.pt.2[pos lt t.pt.1 x]? = some c → lget lt t.pt.1 x = none → c.splits lt m x = false
  · have hsp : t.pt.splits lt m x = false := by
      cases e : t.pt.splits lt m x with
      | false => rfl
      | true =>
        obtain ⟨_, e2⟩ := PT.splits_len e
        have e2 : lget lt t.pt.1 x = none := e2
        obtain ⟨c, hc, _⟩ := PT.step o fl ha e2
        rw [PT.splits_kid e2 hc, hns c hc e2] at e
        simp at e
    refine set_noSplit o hO hT0 hT4 hm3 hm1 ho ih t hh hdk hlo fl ha hsz g s hns fun t' ht' h' h1 h2 h3 hh s => ?_
    have := H t' ht' h' (by rw [hsp]; exact h1) h2 h3 hh s
    rw [hsp] at this; exact this
  have hex : ∃ cp, t.pt.2[pos lt t.pt.1 x]? = some cp ∧ lget lt t.pt.1 x = none ∧ cp.splits lt m x = true := by
    apply Classical.byContradiction
    intro hno
    refine hns fun c h1 h2 => ?_
    cases e : c.splits lt m x with
    | false => rfl
    | true => exact absurd ⟨c, h1, h2, e⟩ hno
  clear hns
  obtain ⟨cp, hcp, hn, hcs⟩ := hex
  obtain ⟨c0, hc0, hcm, hac, hg0, _⟩ := PT.step o fl ha hn
  have : c0 = cp := Option.some.inj (hc0.symm.trans hcp)
  subst this
  have hgn := PT.splits_get o (fl.2.2.2 _ hcm) hac hcs
  have hgt : t.pt.get lt x = none := by rw [PT.get_items o fl ha, hg0, hgn]
  have hgc : c0.get lt x = none := by rw [PT.get_items o (fl.2.2.2 _ hcm) hac, hgn]
  obtain ⟨md, hmd, _⟩ := PT.halves o ho (fl.2.2.2 _ hcm) hac hcs
  obtain ⟨d, ts⟩ := t
  obtain ⟨own, n, is', cnt, its, iv, ib, io, isp, kb, kv, krb, kro, ksp⟩ := d
  have w : Own 2 iv its.length ib io (its.flatMap enc) isp := g.wf.1.1
  have wK : Own 1 kv ts.length krb kro ((ts.map GT.id).map fun m => ptr m 0) ksp := g.wf.2.1
  have hkl : ts.length = its.length + 1 := g.wf.2.2.1
  have hidl : (ts.map GT.id).length = ts.length := List.length_map ..
  have hom : own = true := g.mine.1
  have hiso : is' = iso := g.wf.1.2.1 hom
  subst hiso; subst hom
  have hlen : its.length ≤ m := fl.2.1
  have hle : lo ≤ its.length := fl.1
  have hn : lget lt its x = none := hn
  have hcp : (ts.map GT.pt)[pos lt its x]? = some c0 := hcp
  have ha1 : Asc lt its := asc_of_sub ha (PT.its_sub1 (its, ts.map GT.pt))
  rw [← hidl, mfp] at wK
  have hcn : cnt = (PT.items (h := k + 1) (its, ts.map GT.pt)).length := g.cn.1
  have s : St h0 Z ((pb, po, [ptr n 0]) :: (hb, 0, ht) :: (n, 0, [.int .u64 is', .int .i64 cnt, iv, ptr kb 0]) :: (ib, io, its.flatMap enc ++ isp) :: (kb, 0, [kv]) :: (krb, kro, ((ts.map GT.id).map fun m => ptr m 0) ++ ksp) :: (ts.flatMap (GT.all enc) ++ E)) h := s
  rw [mfp] at s
  refine set_head o hO (n := n) (iso := is') (cnt := cnt) (a := some ⟨kb, 0, none⟩) (E := (kb, 0, [kv]) :: (krb, kro, (ts.map GT.id).flatMap fp ++ ksp) :: (ts.flatMap (GT.all enc) ++ E)) hT0 hT4 hh (by omega) ha1 (by omega) (by omega) w (s.perm (by ((apply perm_rg; intro f; simp only [List.set_cons_zero, List.set_cons_succ, List.eraseIdx_cons_zero, List.eraseIdx_cons_succ, List.cons_append, List.nil_append, List.map_append, List.map_cons, List.map_nil, List.sum_append, List.sum_cons, List.sum_nil, List.map_flatMap, Nat.add_zero, Nat.zero_add]; ac_rfl)))) (fun y ht' h' hy hh s => by rw [hn] at hy; cases hy) fun t7 t10 t13 ht h' _ hh s => ?_
  have hp := pos_le (lt := lt) its x
  obtain ⟨c, hc⟩ : ∃ c, ts[pos lt its x]? = some c := ⟨ts[pos lt its x]'(by omega), List.getElem?_eq_getElem (by omega)⟩
  have : c0 = c.pt := by
    rw [List.getElem?_map, hc] at hcp
    exact (Option.some.inj hcp).symm
  subst this
  have hcmem := List.mem_of_getElem? hc
  have hcsz : c.pt.items.length ≤ 4611686018427387903 := by
    have h1 : (inter its ((ts.map GT.pt).map PT.items)).length = _ := inter_length _ _
    have h2 : (inter its ((ts.map GT.pt).map PT.items)).length ≤ 4611686018427387903 := hsz
    have h3 : c.pt.items.length ≤ (((ts.map GT.pt).map PT.items).map List.length).sum := mem_le_sum (by
      rw [List.map_map, List.map_map]; exact List.mem_map.2 ⟨c, hcmem, rfl⟩)
    omega
  have s : St h0 Z ((t13, 0, [ptr n 0]) :: (t10, 0, enc emp) :: (t7, 0, enc x) :: (pb, po, [ptr n 0]) :: (hb, 0, ht) :: (n, 0, [.int .u64 is', .int .i64 cnt, iv, ptr kb 0]) :: (ib, io, its.flatMap enc ++ isp) :: (kb, 0, [kv]) :: (krb, kro, (ts.map GT.id).flatMap fp ++ ksp) :: (ts.flatMap (GT.all enc) ++ E)) h' := s.perm (by ((apply perm_rg; intro f; simp only [List.set_cons_zero, List.set_cons_succ, List.eraseIdx_cons_zero, List.eraseIdx_cons_succ, List.cons_append, List.nil_append, List.map_append, List.map_cons, List.map_nil, List.sum_append, List.sum_cons, List.sum_nil, List.map_flatMap, Nat.add_zero, Nat.zero_add]; ac_rfl)))
  unfold BTreeG_I_nodeSet.j3
  refine St.r_load0 s 0 rfl rfl ?_
  refine node_leaf_ok (a := some ⟨kb, 0, none⟩) (s.get (k := 5) (j := 3) rfl (by simp)) ?_
  refine r_if (fun e => absurd e (by simp)) (fun _ => ?_)
  unfold BTreeG_I_nodeSet.j4
  refine St.r_load0 s 0 rfl rfl ?_
  refine r_nil ?_
  refine r_fld ?_
  refine St.r_load0 s 5 rfl rfl ?_
  refine r_nil ?_
  refine St.r_load0 s 7 rfl rfl ?_
  (refine Own.idx (by assumption) rfl (by first | omega | (simp; done) | (simp; omega)) ?_)
  refine St.r_loadN0 s 2 rfl (by simp) ?_
  refine r_add1 (by omega) ?_
  obtain ⟨E', sk, back⟩ := lend_kidH (r := (hb, 0, ht)) (krb := krb) (kro := kro) (ksp := ksp) (A := (t13, 0, [ptr n 0]) :: (t10, 0, enc emp) :: (t7, 0, enc x) :: (pb, po, [ptr n 0]) :: (n, 0, [.int .u64 is', .int .i64 cnt, iv, ptr kb 0]) :: (ib, io, its.flatMap enc ++ isp) :: (kb, 0, [kv]) :: []) (E := E) (kb := kb) (kv := kv) hc (s.perm (by ((apply perm_rg; intro f; simp only [List.set_cons_zero, List.set_cons_succ, List.eraseIdx_cons_zero, List.eraseIdx_cons_succ, List.cons_append, List.nil_append, List.map_append, List.map_cons, List.map_nil, List.sum_append, List.sum_cons, List.sum_nil, List.map_flatMap, Nat.add_zero, Nat.zero_add]; ac_rfl))))
  refine ih c hh (by omega) (by omega) (fl.2.2.2 _ hcm) hac hcsz (g.kid hcmem) sk fun c' ht h' hc1 hc2 hc3 hh s => ?_
  rw [hcs, hgc]
  rw [hcs] at hc1
  simp only [↓reduceIte] at hc1
  have s := back c' _ h' hc2 s
  have s : St h0 Z ((t13, 0, [ptr n 0]) :: (t10, 0, enc emp) :: (t7, 0, enc x) :: (pb, po, [ptr n 0]) :: (hb, 0, ht) :: (n, 0, [.int .u64 is', .int .i64 cnt, iv, ptr kb 0]) :: (ib, io, its.flatMap enc ++ isp) :: (kb, 0, [kv]) :: (krb, kro, ((ts.set (pos lt its x) c').map GT.id).flatMap fp ++ ksp) :: ((ts.set (pos lt its x) c').flatMap (GT.all enc) ++ E)) h' := s.perm (by ((apply perm_rg; intro f; simp only [List.set_cons_zero, List.set_cons_succ, List.eraseIdx_cons_zero, List.eraseIdx_cons_succ, List.cons_append, List.nil_append, List.map_append, List.map_cons, List.map_nil, List.sum_append, List.sum_cons, List.sum_nil, List.map_flatMap, Nat.add_zero, Nat.zero_add]; ac_rfl)))
  have hi := (List.getElem?_eq_some_iff.1 hc).1
  have hc' : (ts.set (pos lt its x) c')[pos lt its x]? = some c' := List.getElem?_set_self hi
  have ept : (ts.set (pos lt its x) c').map GT.pt = ts.map GT.pt := by
    apply List.ext_getElem?
    intro j
    rw [List.map_set, List.getElem?_set]
    split
    · rename_i e; subst e
      simp only [List.length_map, hi, if_true]
      rw [hc1]; exact hcp.symm
    · rfl
  have g1 : Gd is' (k := k + 1) ((⟨true, n, is', cnt, its, iv, ib, io, isp, kb, kv, krb, kro, ksp⟩ : Nd It), ts.set (pos lt its x) c') :=
    Gd.setKid g hc hc2 hc3 (by show cnt = ((PT.items (h := k + 1) (its, (ts.set (pos lt its x) c').map GT.pt)).length : Int); rw [ept]; exact hcn)
  refine r_ext rfl ?_
  refine r_ext rfl ?_
  refine r_ext rfl ?_
  refine St.r_storeN0 s 1 rfl rfl (by simp) (enc1 emp) ?_; intro h' s
  refine r_if (fun _ => ?_) (fun e => absurd e (by simp))
  refine St.r_load0 s 0 rfl rfl ?_
  refine r_nil ?_
  refine r_fld ?_
  refine St.r_load0 s 5 rfl rfl ?_
  refine Own.lenV (by assumption) ?_
  refine r_nil ?_
  refine r_fld ?_
  refine s.r_lz hT4 5 rfl rfl ?_
  refine r_cmpI ?_
  refine r_if (fun hfull => ?_) (fun hroom => ?_)
  · have hfull : its.length = m := Int.ofNat_inj.1 (by simpa using hfull)
    have hsp : PT.splits lt m (h := k + 1) (its, ts.map GT.pt) x = true := by rw [PT.splits_kid (t := (its, ts.map GT.pt)) hn hcp, hcs]; simpa using hfull
    refine r_nil ?_
    refine r_fld ?_
    refine s.r_lzE hT4 3 (enc emp) rfl (by simp) rfl ?_
    refine St.r_storeN0 s 1 rfl rfl (by simp) (enc1 emp) ?_; intro h' s
    refine St.r_loadN0 s 1 rfl (by simp) ?_
    have := H ((⟨true, n, is', cnt, its, iv, ib, io, isp, kb, kv, krb, kro, ksp⟩ : Nd It), ts.set (pos lt its x) c') ht h' (by
      show (its, (ts.set (pos lt its x) c').map GT.pt) = if PT.splits lt m (h := k + 1) (its, ts.map GT.pt) x = true then _ else _
      rw [hsp, ept]; rfl) rfl g1 hh (by rw [← mfp] at s; exact s.drop 3)
    change Q (.tuple #[old (PT.get lt (h := k + 1) (its, ts.map GT.pt) x), .bool (PT.get lt (h := k + 1) (its, ts.map GT.pt) x).isSome, .bool (PT.splits lt m (h := k + 1) (its, ts.map GT.pt) x)]) h' at this
    have hgt : PT.get lt (h := k + 1) (its, ts.map GT.pt) x = none := hgt
    rw [hsp, hgt] at this
    exact this
  · have hroom : its.length ≠ m := fun e => by rw [e] at hroom; simp at hroom
    have hsp : PT.splits lt m (h := k + 1) (its, ts.map GT.pt) x = false := by rw [PT.splits_kid (t := (its, ts.map GT.pt)) hn hcp]; simp [hroom]
    obtain ⟨q1, q2, q3, q4, q5⟩ := PT.set_split (t := (its, ts.map GT.pt)) o ho fl ha hn hcp hcs hmd hroom
    unfold BTreeG_I_nodeSet.j7
    have wk1 : Own 1 kv ((ts.set (pos lt its x) c').map GT.id).length krb kro (((ts.set (pos lt its x) c').map GT.id).flatMap fp) ksp := by rw [set_ids hc hc2]; exact wK
    refine St.r_load0 s 0 rfl rfl ?_
    refine r_nil ?_
    refine r_fld ?_
    refine St.r_load0 s 5 rfl rfl ?_
    refine r_nil ?_
    refine St.r_load0 s 7 rfl rfl ?_
    refine wk1.idx (n := pos lt its x) rfl (by rw [List.length_map, List.length_set]; omega) ?_
    refine r_loadM1 s 8 rfl hc' ?_
    have hcl : c'.pt.its.length = m := by rw [hc1]; exact (PT.splits_len hcs).1
    have etake : (ts.set (pos lt its x) c').take (pos lt its x) = ts.take (pos lt its x) := List.take_set_of_le (Nat.le_refl _)
    have edrop : (ts.set (pos lt its x) c').drop (pos lt its x + 1) = ts.drop (pos lt its x + 1) := List.drop_set_of_lt (by omega)
    have s : St h0 Z ((t13, 0, [ptr n 0]) :: (t10, 0, enc emp) :: (t7, 0, enc x) :: (pb, po, [ptr n 0]) :: (hb, 0, ht) :: (n, 0, [.int .u64 is', .int .i64 cnt, iv, ptr kb 0]) :: (ib, io, its.flatMap enc ++ isp) :: (kb, 0, [kv]) :: (krb, kro, ((ts.set (pos lt its x) c').map GT.id).flatMap fp ++ ksp) :: ((ts.set (pos lt its x) c').flatMap (GT.all enc) ++ E)) h' := s
    refine nodeSplit_ok c' (m := m) (E := (t13, 0, [ptr n 0]) :: (t10, 0, enc emp) :: (t7, 0, enc x) :: (pb, po, [ptr n 0]) :: (hb, 0, ht) :: (n, 0, [.int .u64 is', .int .i64 cnt, iv, ptr kb 0]) :: (ib, io, its.flatMap enc ++ isp) :: (kb, 0, [kv]) :: (krb, kro, (ts.map GT.id).flatMap fp ++ ksp) :: ((ts.take (pos lt its x)).flatMap (GT.all enc) ++ ((ts.drop (pos lt its x + 1)).flatMap (GT.all enc) ++ E)))
      hT0 hT4 (by omega) (by omega) (by rw [hc1]; exact fl.2.2.2 _ hcm) hcl (by rw [hc1]; omega) hc3 (s.perm ?_) fun l r md' h hmd' hl hr hlid gl gr s => ?_
    · rw [set_ids hc hc2, flat_at3 (GT.all enc) hc', etake, edrop]; ((apply perm_rg; intro f; simp only [List.set_cons_zero, List.set_cons_succ, List.eraseIdx_cons_zero, List.eraseIdx_cons_succ, List.cons_append, List.nil_append, List.map_append, List.map_cons, List.map_nil, List.sum_append, List.sum_cons, List.sum_nil, List.map_flatMap, Nat.add_zero, Nat.zero_add]; ac_rfl))
    have : md' = md := by rw [hc1] at hmd'; exact Option.some.inj (hmd'.symm.trans hmd)
    subst this
    rw [hc1] at hl hr
    have s : St h0 Z ((t13, 0, [ptr n 0]) :: (t10, 0, enc emp) :: (t7, 0, enc x) :: (pb, po, [ptr n 0]) :: (hb, 0, ht) :: (n, 0, [.int .u64 is', .int .i64 cnt, iv, ptr kb 0]) :: (ib, io, its.flatMap enc ++ isp) :: (kb, 0, [kv]) :: (krb, kro, ((ts.map GT.id).map pp).flatMap fv ++ ksp) :: ((ts.take (pos lt its x) ++ l :: r :: ts.drop (pos lt its x + 1)).flatMap (GT.all enc) ++ E)) h :=
      s.perm (by rw [← fpv, List.flatMap_append, List.flatMap_cons, List.flatMap_cons]; ((apply perm_rg; intro f; simp only [List.set_cons_zero, List.set_cons_succ, List.eraseIdx_cons_zero, List.eraseIdx_cons_succ, List.cons_append, List.nil_append, List.map_append, List.map_cons, List.map_nil, List.sum_append, List.sum_cons, List.sum_nil, List.map_flatMap, Nat.add_zero, Nat.zero_add]; ac_rfl)))
    rw [fpv] at wK
    clear wk1
    have hpl : ((ts.map GT.id).map pp).length = ts.length := by rw [List.length_map, List.length_map]
    have elp : (ts.map GT.id).length = ((ts.map GT.id).map pp).length := List.length_map .. |>.symm
    rw [elp] at wK
    generalize hL : (ts.map GT.id).map pp = L at s wK hpl
    refine r_ext rfl ?_
    refine r_ext rfl ?_
    refine s.r_alloc fun t17 h s => ?_
    refine St.r_storeN0 s 0 rfl rfl (by simp) (enc1 _) ?_; intro h s
    refine St.r_load0 s 1 rfl rfl ?_
    refine r_nil ?_
    refine r_fld ?_
    refine St.r_load0 s 6 rfl rfl ?_
    refine St.r_load0 s 1 rfl rfl ?_
    refine r_nil ?_
    refine r_fld ?_
    refine St.r_load0 s 6 rfl rfl ?_
    refine r_nil ?_
    refine St.r_load0 s 8 rfl rfl ?_
    refine St.r_mkSl (sz := 1) (cs := [.pointer none]) s (by ((simp only [fillV, fill1, Value.cells, zeros_succ, zeros_zero, List.size_toArray, List.length_cons, List.length_nil, List.length_append, List.take_succ_cons, List.take_zero, List.take_nil, List.drop_succ_cons, List.drop_zero, List.drop_nil, List.cons_append, List.nil_append, List.append_nil, Nat.reduceAdd, Nat.reduceMul, Nat.reduceLeDiff, Nat.reduceEqDiff, and_self, and_true, true_and, if_true, Nat.le_refl, Nat.zero_add, Nat.add_zero, Nat.zero_mul, reduceIte, if_false] <;> rfl))) rfl fun q h s w1 => ?_
    refine And.intro (by exact St.r_still0 s 2 rfl rfl) ?_
    refine And.intro (by exact St.r_still0 s 7 rfl rfl) ?_
    refine And.intro (by exact St.r_still0 s 2 rfl rfl) ?_
    refine And.intro (by exact St.r_still0 s 7 rfl rfl) ?_
    refine And.intro (by exact St.r_still0 s 9 rfl rfl) ?_
    refine St.r_app s 10 (sz := 1) (n := 1) (new := [.pointer none]) rfl wK rfl (w1.rdl s 0 rfl) (by simp [one1]) (by omega) (by omega) fun kv' krb' kro' ksp' h s wk' => ?_
    rw [snoc_fv] at s wk'
    have wk' : Own 1 kv' (L ++ [Value.pointer none]).length krb' kro' ((L ++ [Value.pointer none]).flatMap fv) ksp' := by rw [List.length_append]; exact wk'
    refine And.intro (by exact St.r_still0 s 2 rfl rfl) ?_
    refine And.intro (by exact St.r_still0 s 7 rfl rfl) ?_
    refine r_nil ?_
    (refine St.r_store0 s 9 rfl (by simp) (Own.one (by assumption)) ?_; intro h s; try simp only [List.set_cons_zero, List.set_cons_succ] at s)
    refine St.r_load0 s 2 rfl rfl ?_
    refine r_nil ?_
    refine r_fld ?_
    refine St.r_load0 s 7 rfl rfl ?_
    refine r_nil ?_
    refine St.r_load0 s 9 rfl rfl ?_
    refine r_add1 (by omega) ?_
    refine wk'.slcLo fvl (i := pos lt its x + 1) rfl (by simp; omega) fun dd wd => ?_
    refine St.r_load0 s 2 rfl rfl ?_
    refine r_nil ?_
    refine r_fld ?_
    refine St.r_load0 s 7 rfl rfl ?_
    refine r_nil ?_
    refine St.r_load0 s 9 rfl rfl ?_
    refine (wk'.rdl s 10 rfl).slcLo fvl (i := pos lt its x) rfl (by simp; omega) fun src rs => ?_
    refine s.r_cpyF fvl 10 (L := L ++ [Value.pointer none]) (M := (L ++ [Value.pointer none]).drop (pos lt its x)) rfl wd (by simp; omega) rs rfl (fun y hy => ?_) fun h s => ?_
    · have hy := List.mem_of_mem_drop hy
      intro z hz
      rw [List.mem_singleton.1 hz]
      rcases List.mem_append.1 hy with e | e
      · rw [← hL] at e; obtain ⟨a, _, rfl⟩ := List.mem_map.1 e; rfl
      · rw [List.mem_singleton.1 e]; rfl
    refine St.r_load0 s 2 rfl rfl ?_
    refine r_nil ?_
    refine r_fld ?_
    refine St.r_load0 s 7 rfl rfl ?_
    refine r_nil ?_
    refine St.r_load0 s 9 rfl rfl ?_
    refine r_add1 (by omega) ?_
    refine wk'.idx (n := pos lt its x + 1) rfl (by simp; omega) ?_
    refine s.r_storeV (v := ptr r.id 0) 10 rfl (by simp; omega) rfl fun h s => ?_
    rw [List.set_set, ins_steps2 L (.pointer none) (ptr r.id 0) (by omega)] at s
    refine St.r_load0 s 2 rfl rfl ?_
    refine St.r_load0 s 2 rfl rfl ?_
    refine r_nil ?_
    refine r_fld ?_
    refine St.r_load0 s 7 rfl rfl ?_
    refine r_nil ?_
    refine r_fld ?_
    refine s.r_lzE hT4 3 (enc emp) rfl (by simp) rfl ?_
    refine St.r_mkSl (sz := 2) (cs := enc emp) s (by ((simp only [fillV, fill1, Value.cells, zeros_succ, zeros_zero, List.size_toArray, List.length_cons, List.length_nil, List.length_append, List.take_succ_cons, List.take_zero, List.take_nil, List.drop_succ_cons, List.drop_zero, List.drop_nil, List.cons_append, List.nil_append, List.append_nil, Nat.reduceAdd, Nat.reduceMul, Nat.reduceLeDiff, Nat.reduceEqDiff, and_self, and_true, true_and, if_true, Nat.le_refl, Nat.zero_add, Nat.add_zero, Nat.zero_mul, reduceIte, if_false] <;> rfl))) rfl fun qq h s w2 => ?_
    refine And.intro (by exact St.r_still0 s 3 rfl rfl) ?_
    refine And.intro (by exact St.r_still0 s 3 rfl rfl) ?_
    refine And.intro (by exact St.r_still0 s 8 rfl rfl) ?_
    refine St.r_app s 9 (sz := 2) (n := 1) (new := enc emp) rfl w rfl (w2.rdl s 0 rfl) (enc1 _) (by omega) (by omega) fun iv' ib' io' isp' h s w' => ?_
    rw [snoc_enc] at s w'
    have w' : Own 2 iv' (its ++ [emp]).length ib' io' ((its ++ [emp]).flatMap enc) isp' := by rw [List.length_append]; exact w'
    refine And.intro (by exact St.r_still0 s 3 rfl rfl) ?_
    refine r_nil ?_
    refine r_fld ?_
    (refine St.r_store0 s 8 rfl (by simp) (Own.one (by assumption)) ?_; intro h s; try simp only [List.set_cons_zero, List.set_cons_succ] at s)
    refine St.r_load0 s 3 rfl rfl ?_
    refine r_nil ?_
    refine r_fld ?_
    refine St.r_load0 s 8 rfl rfl ?_
    refine r_add1 (by omega) ?_
    refine w'.slcLo encl (i := pos lt its x + 1) rfl (by simp; omega) fun dd2 wd2 => ?_
    refine St.r_load0 s 3 rfl rfl ?_
    refine r_nil ?_
    refine r_fld ?_
    refine St.r_load0 s 8 rfl rfl ?_
    refine (w'.rdl s 9 rfl).slcLo encl (i := pos lt its x) rfl (by simp; omega) fun src2 rs2 => ?_
    refine s.r_cpyF encl 9 (L := its ++ [emp]) (M := (its ++ [emp]).drop (pos lt its x)) rfl wd2 (by simp; omega) rs2 rfl (fun y _ => enc1 y) fun h s => ?_
    refine St.r_load0 s 3 rfl rfl ?_
    refine r_nil ?_
    refine r_fld ?_
    refine St.r_load0 s 8 rfl rfl ?_
    refine St.r_loadN0 s 2 rfl (by simp) ?_
    refine w'.idx (n := pos lt its x) rfl (by simp; omega) ?_
    refine s.r_storeF (x := md') encl 9 rfl (by simp; omega) (enc1 _) fun h s => ?_
    rw [List.set_set, ins_steps its emp md' hp] at s
    refine St.r_loadN0 s 5 rfl (by simp) ?_
    have hil := ins_length (x := md') hp
    have e8 : ins L (pos lt its x + 1) (ptr r.id 0) = ((ts.take (pos lt its x) ++ l :: r :: ts.drop (pos lt its x + 1)).map GT.id).map pp := by
      have e9 : ts.take (pos lt its x + 1) = ts.take (pos lt its x) ++ [c] := by rw [List.take_add_one, hc]; rfl
      unfold ins
      rw [← hL, ← List.map_take, ← List.map_take, ← List.map_drop, ← List.map_drop, e9]
      simp only [List.map_append, List.map_cons, List.map_nil, List.append_assoc, List.cons_append, List.nil_append, hlid, hc2]
    rw [e8, ← fpv] at s
    have hl2 : ((ts.take (pos lt its x) ++ l :: r :: ts.drop (pos lt its x + 1)).map GT.id).length = (L ++ [Value.pointer none]).length := by simp; omega
    have wk2 : Own 1 kv' (ts.take (pos lt its x) ++ l :: r :: ts.drop (pos lt its x + 1)).length krb' kro' (((ts.take (pos lt its x) ++ l :: r :: ts.drop (pos lt its x + 1)).map GT.id).flatMap fp) ksp' := by
      rw [← hl2, List.length_map] at wk'
      exact wk'.cong (by rw [flat_len fpl, flat_len fvl, hl2])
    have w2' : Own 2 iv' (ins its (pos lt its x) md').length ib' io' ((ins its (pos lt its x) md').flatMap enc) isp' := by
      rw [show (ins its (pos lt its x) md').length = (its ++ [emp]).length by rw [hil]; simp]
      exact w'.cong (by rw [flat_len encl, flat_len encl, hil]; simp)
    have ept2 : (ts.take (pos lt its x) ++ l :: r :: ts.drop (pos lt its x + 1)).map GT.pt = (ts.map GT.pt).take (pos lt its x) ++ c.pt.lo (m / 2) :: c.pt.hi (m / 2) :: (ts.map GT.pt).drop (pos lt its x + 1) := by
      rw [List.map_append, List.map_cons, List.map_cons, List.map_take, List.map_drop, hl, hr]
    have g2 : Gd is' (k := k + 1) ((⟨true, n, is', cnt, ins its (pos lt its x) md', iv', ib', io', isp', kb, kv', krb', kro', ksp'⟩ : Nd It), ts.take (pos lt its x) ++ l :: r :: ts.drop (pos lt its x + 1)) := by
      refine Gd.inner w2' rfl rfl wk2 (by show _ = (ins its (pos lt its x) md').length + 1; rw [hil]; simp; omega) (fun q hq => ?_) ?_
      · rcases List.mem_append.1 hq with e | e
        · exact g.kid (List.mem_of_mem_take e)
        · rcases List.mem_cons.1 e with e | e
          · rw [e]; exact gl
          · rcases List.mem_cons.1 e with e | e
            · rw [e]; exact gr
            · exact g.kid (List.mem_of_mem_drop e)
      · show cnt = ((PT.items (h := k + 1) (ins its (pos lt its x) md', (ts.take (pos lt its x) ++ l :: r :: ts.drop (pos lt its x + 1)).map GT.pt)).length : Int)
        rw [ept2, q1]; exact hcn
    have hpt2 : GT.pt (h := k + 1) ((⟨true, n, is', cnt, ins its (pos lt its x) md', iv', ib', io', isp', kb, kv', krb', kro', ksp'⟩ : Nd It), ts.take (pos lt its x) ++ l :: r :: ts.drop (pos lt its x + 1)) = (ins its (pos lt its x) md', (ts.map GT.pt).take (pos lt its x) ++ c.pt.lo (m / 2) :: c.pt.hi (m / 2) :: (ts.map GT.pt).drop (pos lt its x + 1)) := by
      show (_, _) = _; rw [ept2]
    have s : St h0 Z ((t13, 0, [ptr n 0]) :: (hb, 0, ht) :: ((GT.all enc (h := k + 1) ((⟨true, n, is', cnt, ins its (pos lt its x) md', iv', ib', io', isp', kb, kv', krb', kro', ksp'⟩ : Nd It), ts.take (pos lt its x) ++ l :: r :: ts.drop (pos lt its x + 1))) ++ ((pb, po, [ptr n 0]) :: (t10, 0, enc emp) :: E))) h := by
      have s1 : St h0 Z ((t13, 0, [ptr n 0]) :: (hb, 0, ht) :: (n, 0, [.int .u64 is', .int .i64 cnt, iv', ptr kb 0]) :: (ib', io', (ins its (pos lt its x) md').flatMap enc ++ isp') :: (kb, 0, [kv']) :: (krb', kro', ((ts.take (pos lt its x) ++ l :: r :: ts.drop (pos lt its x + 1)).map GT.id).flatMap fp ++ ksp') :: ((ts.take (pos lt its x) ++ l :: r :: ts.drop (pos lt its x + 1)).flatMap (GT.all enc) ++ ((pb, po, [ptr n 0]) :: (t10, 0, enc emp) :: E))) h :=
        (s.perm (E' := (qq, 0, _) :: (q, 0, _) :: (t17, 0, _) :: (t7, 0, _) :: _) (by ((apply perm_rg; intro f; simp only [List.set_cons_zero, List.set_cons_succ, List.eraseIdx_cons_zero, List.eraseIdx_cons_succ, List.cons_append, List.nil_append, List.map_append, List.map_cons, List.map_nil, List.sum_append, List.sum_cons, List.sum_nil, List.map_flatMap, Nat.add_zero, Nat.zero_add]; ac_rfl)))).drop 4
      rw [← mfp] at s1
      exact s1
    refine set_noSplit o hO hT0 hT4 hm3 hm1 ho ih _ hh hdk hlo (by rw [hpt2]; exact q2) (by rw [hpt2, q1]; exact ha) (by rw [hpt2, q1]; exact hsz) g2 s (fun c2 h1 h2 => ?_) fun t' ht h' h1 h2 h3 hh s => ?_
    · rw [hpt2] at h1
      obtain ⟨c3, h3, h4⟩ := q4
      have : c2 = c3 := Option.some.inj (h1.symm.trans h3)
      rw [this]; exact h4
    · have hgt2 : PT.get lt (GT.pt (h := k + 1) ((⟨true, n, is', cnt, ins its (pos lt its x) md', iv', ib', io', isp', kb, kv', krb', kro', ksp'⟩ : Nd It), ts.take (pos lt its x) ++ l :: r :: ts.drop (pos lt its x + 1))) x = none := by
        rw [hpt2, PT.get_items o q2 (by rw [q1]; exact ha), q1, ← PT.get_items (h := k + 1) (t := (its, ts.map GT.pt)) o fl ha]; exact hgt
      rw [hgt2]
      have s : St h0 Z ((t10, 0, enc emp) :: (pb, po, [ptr n 0]) :: (hb, 0, ht) :: (t'.all enc ++ E)) h' := St.drop (E := (t13, 0, [ptr n 0]) :: (t10, 0, enc emp) :: (pb, po, [ptr n 0]) :: (hb, 0, ht) :: (t'.all enc ++ E)) (s.perm (by ((apply perm_rg; intro f; simp only [List.set_cons_zero, List.set_cons_succ, List.eraseIdx_cons_zero, List.eraseIdx_cons_succ, List.cons_append, List.nil_append, List.map_append, List.map_cons, List.map_nil, List.sum_append, List.sum_cons, List.sum_nil, List.map_flatMap, Nat.add_zero, Nat.zero_add]; ac_rfl)))) 1
      refine r_ext rfl ?_
      refine r_ext rfl ?_
      refine r_ext rfl ?_
      refine St.r_storeN0 s 0 rfl rfl (by simp) (enc1 emp) ?_; intro h' s
      refine St.r_loadN0 s 0 rfl (by simp) ?_
      have := H t' ht h' (by
        show _ = if PT.splits lt m (h := k + 1) (its, ts.map GT.pt) x = true then _ else _
        rw [hsp, h1, hpt2, q5]; rfl) h2 h3 hh (s.drop 1)
      change Q (.tuple #[old (PT.get lt (h := k + 1) (its, ts.map GT.pt) x), .bool (PT.get lt (h := k + 1) (its, ts.map GT.pt) x).isSome, .bool (PT.splits lt m (h := k + 1) (its, ts.map GT.pt) x)]) h' at this
      have hgt : PT.get lt (h := k + 1) (its, ts.map GT.pt) x = none := hgt
      rw [hsp, hgt] at this
      exact this

theorem setOk_all (o : Swo lt) (hO : OrdC Z lf lt) {tb m : Nat} {iso mn : Int} {ctr : Option Addr} {x : It} (hT0 : (tb, 0, hd0 iso ctr) ∈ Z) (hT4 : (tb, 4, hd4 lf mn m) ∈ Z) (hm3 : 3 ≤ m) (hm1 : m ≤ 1024) (ho : m % 2 = 1) : ∀ k, SetOk lt h0 Z tb m iso x k
  | 0 => setOk_zero o hO hT0 hT4 hm1
  | k + 1 => setOk_succ o hO hT0 hT4 hm3 hm1 ho (setOk_all o hO hT0 hT4 hm3 hm1 ho k)
end Go.Proofs.Ytgnnidefbeoibaa.Gi
end
section
namespace Go.Proofs.Ytgnnidefbeoibaa.Gi
open Go.Hp Go.Proofs.Ytgnnidefbeoibaa
set_option linter.unusedVariables false
set_option linter.unusedSimpArgs false
variable {h0 h : Heap} {Z E : List Rg} {Q : Value → Heap → Prop} {lt : It → It → Bool} {lf : Value}

/-- A tree's root: none, or a tree. -/
abbrev Rt := Option ((k : Nat) × GT It k)
def rA : Rt → Option Addr
  | none => none
  | some t => some ⟨t.2.id, 0, none⟩
def rAll : Rt → List Rg
  | none => []
  | some t => t.2.all enc
def rPt : Rt → MT It
  | none => none
  | some t => some ⟨t.1, t.2.pt⟩
def rGd (iso : Int) : Rt → Prop
  | none => True
  | some t => Gd iso t.2
theorem PT.height_le {m : Nat} (hm : 3 ≤ m) : ∀ {k lo : Nat} {t : PT It k}, t.Fl m lo → 1 ≤ lo → k < t.items.length
  | 0, lo, t, f, hl => by have f : lo ≤ List.length (α := It) t := f.1; show 0 < List.length (α := It) t; omega
  | k + 1, lo, t, f, hl => by
    have h1 := f.1
    have h2 := f.2.2.1
    obtain ⟨c, r, e⟩ := head_of (l := t.2) (by omega)
    have hc := PT.height_le hm (f.2.2.2 c (by rw [e]; simp)) (by omega)
    have h3 : (inter t.1 (t.2.map PT.items)).length = _ := inter_length _ _
    show k + 1 < (inter t.1 (t.2.map PT.items)).length
    rw [h3, e]
    simp only [List.map_cons, List.sum_cons]
    omega
theorem setHint_noSplit (o : Swo lt) (hO : OrdC Z lf lt) {tb m hb : Nat} {iso mn cnt : Int} {ctr : Option Addr} {x : It} {hv : Value} {hc : List Value} (hT0 : (tb, 0, hd0 iso ctr) ∈ Z) (hT4 : (tb, 4, hd4 lf mn m) ∈ Z) (hm3 : 3 ≤ m) (hm1 : m ≤ 1024) (ho : m % 2 = 1) {k : Nat} (t : GT It k)
    (hh : Hn hv hb hc) (fl : t.pt.Fl m 1) (ha : Asc lt t.pt.items) (hsz : t.pt.items.length ≤ 4611686018427387903) (g : Gd iso t) (hcnt : cnt = t.pt.items.length) (hsp : t.pt.splits lt m x = false)
    (s : St h0 Z ((tb, 2, [ptr t.id 0]) :: (tb, 3, [.int .i64 cnt]) :: (hb, 0, hc) :: (t.all enc ++ E)) h)
    (H : ∀ (t' : GT It k) hc' h', t'.pt = t.pt.set lt m x → Gd iso t' → Hn hv hb hc' → St h0 Z ((tb, 2, [ptr t'.id 0]) :: (tb, 3, [.int .i64 t'.pt.items.length]) :: (hb, 0, hc') :: (t'.all enc ++ E)) h' → Q (.tuple #[old (lget lt t.pt.items x), .bool (lget lt t.pt.items x).isSome]) h') :
    BTreeG_I_setHint.call #[ptr tb 0, av x, hv] h Q := by
  have hset := (PT.set_items o ho fl ha hsp).1
  have hgi := PT.get_items o fl ha (x := x)
  have hkl := PT.height_le hm3 fl (Nat.le_refl _)
  refine BTreeG_I_setHint.body _ _ _ _ _ ?_
  unfold BTreeG_I_setHint.sh
  refine St.r_box (cs := enc x) s fun t4 h s => ?_
  refine s.r_alloc fun t6 h s => ?_
  refine r_nil ?_
  refine r_fld ?_
  refine s.r_load1 2 (o := 2) (j := 0) rfl rfl ?_
  refine r_eqNilP ?_
  refine r_if (fun e => absurd e (by simp)) (fun _ => ?_)
  unfold BTreeG_I_setHint.j1
  refine r_nil ?_
  refine r_fld ?_
  refine St.r_loadN0 s 1 rfl (by simp) ?_
  refine setOk_all o hO hT0 hT4 hm3 hm1 ho k t (E := (t6, 0, enc emp) :: (t4, 0, enc x) :: (tb, 3, [.int .i64 cnt]) :: E) (pb := tb) (po := 2) (dp := 0) hh (by omega) (Nat.le_refl _) fl ha hsz g (s.perm (by ((apply perm_rg; intro f; simp only [List.set_cons_zero, List.set_cons_succ, List.eraseIdx_cons_zero, List.eraseIdx_cons_succ, List.cons_append, List.nil_append, List.map_append, List.map_cons, List.map_nil, List.sum_append, List.sum_cons, List.sum_nil, List.map_flatMap, Nat.add_zero, Nat.zero_add]; ac_rfl)))) fun t' hc' h' h1 h2 h3 hh s => ?_
  rw [hsp] at h1 ⊢
  simp only [Bool.false_eq_true, ↓reduceIte] at h1
  rw [hgi]
  have s : St h0 Z ((t6, 0, enc emp) :: (t4, 0, enc x) :: (tb, 3, [.int .i64 cnt]) :: (tb, 2, [ptr t.id 0]) :: (hb, 0, hc') :: (t'.all enc ++ E)) h' := s.perm (by ((apply perm_rg; intro f; simp only [List.set_cons_zero, List.set_cons_succ, List.eraseIdx_cons_zero, List.eraseIdx_cons_succ, List.cons_append, List.nil_append, List.map_append, List.map_cons, List.map_nil, List.sum_append, List.sum_cons, List.sum_nil, List.map_flatMap, Nat.add_zero, Nat.zero_add]; ac_rfl)))
  refine r_ext rfl ?_
  refine r_ext rfl ?_
  refine r_ext rfl ?_
  refine St.r_storeN0 s 0 rfl rfl (by simp) (enc1 ((lget lt t.pt.items x).getD emp)) ?_; intro h s
  refine r_if (fun e => absurd e (by simp)) (fun _ => ?_)
  unfold BTreeG_I_setHint.j2
  have hl : t'.pt.items.length = t.pt.items.length + if (lget lt t.pt.items x).isSome then 0 else 1 := by rw [h1, hset, lput_length]
  refine r_if (fun hr => ?_) (fun hr => ?_)
  · refine St.r_loadN0 s 0 rfl (by simp) ?_
    refine St.r_storeN0 s 0 rfl rfl (by simp) (enc1 ((lget lt t.pt.items x).getD emp)) ?_; intro h s
    refine St.r_loadN0 s 0 rfl (by simp) ?_
    rw [hr] at hl
    have e : (t'.pt.items.length : Int) = cnt := by rw [hl, hcnt]; simp
    have := H t' hc' h h1 h3 hh (by
      rw [h2, e]
      have s : St h0 Z ((tb, 3, [.int .i64 cnt]) :: (tb, 2, [ptr t.id 0]) :: (hb, 0, hc') :: (t'.all enc ++ E)) h := s.drop 2
      exact s.perm (List.Perm.swap _ _ _))
    rw [hr] at this
    exact this
  · rw [hr] at hl
    have hn : lget lt t.pt.items x = none := by cases e : lget lt t.pt.items x with
      | none => rfl
      | some y => rw [e] at hr; cases hr
    unfold BTreeG_I_setHint.j3
    refine r_nil ?_
    refine r_fld ?_
    refine s.r_load1 2 (o := 3) (j := 0) rfl rfl ?_
    refine r_add (z := cnt + 1) (by rw [i64w (by omega) (by omega)]) ?_
    refine r_nil ?_
    refine r_fld ?_
    refine St.r_store1 s 2 (o := 3) (j := 0) rfl (by simp) rfl ?_; intro h s
    refine r_nil ?_
    refine r_fld ?_
    refine s.r_lzE hT4 3 (enc emp) rfl (by simp) rfl ?_
    refine St.r_storeN0 s 0 rfl rfl (by simp) (enc1 emp) ?_; intro h s
    refine St.r_loadN0 s 0 rfl (by simp) ?_
    have e : (t'.pt.items.length : Int) = cnt + 1 := by rw [hl, hcnt]; simp
    have := H t' hc' h h1 h3 hh (by
      rw [h2, e]
      have s : St h0 Z ((tb, 3, [.int .i64 (cnt + 1)]) :: (tb, 2, [ptr t.id 0]) :: (hb, 0, hc') :: (t'.all enc ++ E)) h := s.drop 2
      exact s.perm (List.Perm.swap _ _ _))
    rw [hn] at this
    exact this

/-- What follows the items of a new root. -/
def tail1 (s0 s2 s4 s6 : Value) (h : Heap) (Q : Value → Heap → Prop) : Prop :=
  nilck s0 fun t113 => fld 2 t113 fun t114 => load1 t114 h fun t115 =>
    node_I_updateCount.call #[t115] h fun t116 h =>
    loadN 2 s4 h fun t118 =>
    BTreeG_I_setHint.call #[s0, t118, s2] h fun t120 h =>
    extr 0 t120 fun t121 =>
    extr 1 t120 fun t122 =>
    storeN 2 s6 t121 h fun h =>
    loadN 2 s6 h fun r6 =>
    Q (.tuple #[r6, t122]) h
/-- What follows the children of a new root. -/
def tail2 (s0 s2 s4 s6 t11 : Value) (h : Heap) (Q : Value → Heap → Prop) : Prop :=
  nilck s0 fun t103 => fld 2 t103 fun t104 => load1 t104 h fun t105 =>
    loadN 2 t11 h fun t107 =>
    (mkSl (if 0 * 2 = 0 then [] else zeros [(.int .i64 0), (.int .i64 0)] 0) 0 [] 52 h fun t106 h =>
    still1 t104 t105 h ∧ stillN 2 t11 t107 h ∧ mkSl (if 1 * 2 = 0 then [] else zeros [(.int .i64 0), (.int .i64 0)] 1) 1 [(0 * 2, 2, t107)] 52 h fun t108 h =>
    still1 t104 t105 h ∧ app 52 2 16 [(.int .i64 0), (.int .i64 0)] t106 t108 h fun t109 h =>
    still1 t104 t105 h ∧ nilck t105 fun t110 => fld 2 t110 fun t111 => store1 t111 t109 h fun h => tail1 s0 s2 s4 s6 h Q) ∧
    (mkSl (if 1 * 2 = 0 then [] else zeros [(.int .i64 0), (.int .i64 0)] 1) 1 [(0 * 2, 2, t107)] 52 h fun t108 h =>
    still1 t104 t105 h ∧ mkSl (if 0 * 2 = 0 then [] else zeros [(.int .i64 0), (.int .i64 0)] 0) 0 [] 52 h fun t106 h =>
    still1 t104 t105 h ∧ app 52 2 16 [(.int .i64 0), (.int .i64 0)] t106 t108 h fun t109 h =>
    still1 t104 t105 h ∧ nilck t105 fun t110 => fld 2 t110 fun t111 => store1 t111 t109 h fun h => tail1 s0 s2 s4 s6 h Q)

theorem setHint_cut (o : Swo lt) (hO : OrdC Z lf lt) {tb m hb : Nat} {iso mn cnt : Int} {ctr : Option Addr} {x : It} {hv : Value} {hc : List Value} (hT0 : (tb, 0, hd0 iso ctr) ∈ Z) (hT4 : (tb, 4, hd4 lf mn m) ∈ Z) (hm3 : 3 ≤ m) (hm1 : m ≤ 1024) (ho : m % 2 = 1) {k : Nat} (t : GT It k)
    (hh : Hn hv hb hc) (fl : t.pt.Fl m 1) (ha : Asc lt t.pt.items) (hsz : t.pt.items.length ≤ 4611686018427387903) (g : Gd iso t) (hcnt : cnt = t.pt.items.length)
    (s : St h0 Z ((tb, 2, [ptr t.id 0]) :: (tb, 3, [.int .i64 cnt]) :: (hb, 0, hc) :: (t.all enc ++ E)) h)
    (H : ∀ (g' : (j : Nat) × GT It j) hc' h', rPt (some g') = MT.set lt m (some ⟨k, t.pt⟩) x → Gd iso g'.2 → Hn hv hb hc' → St h0 Z ((tb, 2, [ptr g'.2.id 0]) :: (tb, 3, [.int .i64 g'.2.pt.items.length]) :: (hb, 0, hc') :: (g'.2.all enc ++ E)) h' → Q (.tuple #[old (lget lt t.pt.items x), .bool (lget lt t.pt.items x).isSome]) h') :
    BTreeG_I_setHint.call #[ptr tb 0, av x, hv] h Q := by
  have hi : ∀ {E h}, St h0 Z E h → cl h tb 0 = some (.int .u64 iso) := fun s => by have := s.getZ hT0 (j := 0) (by simp); simpa using this
  have hkl := PT.height_le hm3 fl (Nat.le_refl _)
  cases hsp : t.pt.splits lt m x with
  | false =>
    refine setHint_noSplit o hO hT0 hT4 hm3 hm1 ho t hh fl ha hsz g hcnt hsp s fun t' hc' h' h1 h3 hh s => H ⟨k, t'⟩ hc' h' ?_ h3 hh s
    show some (⟨k, t'.pt⟩ : (j : Nat) × PT It j) = _
    unfold MT.set
    simp only [hsp, Bool.false_eq_true, ↓reduceIte, h1]
  | true =>
    obtain ⟨md, hmd, _, fll', fh, _, _, _, _, _⟩ := PT.halves o ho fl ha hsp
    obtain ⟨g1, g2, g3, g4⟩ := PT.grow_ok o ho hm3 fl ha hsp
    have hgn : lget lt t.pt.items x = none := PT.splits_get o fl ha hsp
    have egrow : t.pt.grow m = (([md], [t.pt.lo (m / 2), t.pt.hi (m / 2)]) : List It × List (PT It k)) := by unfold PT.grow; rw [hmd]; rfl
    refine BTreeG_I_setHint.body _ _ _ _ _ ?_
    unfold BTreeG_I_setHint.sh
    refine St.r_box (cs := enc x) s fun t4 h s => ?_
    refine s.r_alloc fun t6 h s => ?_
    refine r_nil ?_
    refine r_fld ?_
    refine s.r_load1 2 (o := 2) (j := 0) rfl rfl ?_
    refine r_eqNilP ?_
    refine r_if (fun e => absurd e (by simp)) (fun _ => ?_)
    unfold BTreeG_I_setHint.j1
    refine r_nil ?_
    refine r_fld ?_
    refine St.r_loadN0 s 1 rfl (by simp) ?_
    refine setOk_all o hO hT0 hT4 hm3 hm1 ho k t (E := (t6, 0, enc emp) :: (t4, 0, enc x) :: (tb, 3, [.int .i64 cnt]) :: E) (pb := tb) (po := 2) (dp := 0) hh (by omega) (Nat.le_refl _) fl ha hsz g (s.perm (by ((apply perm_rg; intro f; simp only [List.set_cons_zero, List.set_cons_succ, List.eraseIdx_cons_zero, List.eraseIdx_cons_succ, List.cons_append, List.nil_append, List.map_append, List.map_cons, List.map_nil, List.sum_append, List.sum_cons, List.sum_nil, List.map_flatMap, Nat.add_zero, Nat.zero_add]; ac_rfl)))) fun t' hc h' h1 h2 h3 hh s => ?_
    rw [hsp] at h1 ⊢
    simp only [↓reduceIte] at h1
    have hgo : t.pt.get lt x = none := by rw [PT.get_items o fl ha, hgn]
    rw [hgo]
    have s : St h0 Z ((t6, 0, enc emp) :: (t4, 0, enc x) :: (tb, 3, [.int .i64 cnt]) :: (tb, 2, [ptr t.id 0]) :: (hb, 0, hc) :: (t'.all enc ++ E)) h' := s.perm (by ((apply perm_rg; intro f; simp only [List.set_cons_zero, List.set_cons_succ, List.eraseIdx_cons_zero, List.eraseIdx_cons_succ, List.cons_append, List.nil_append, List.map_append, List.map_cons, List.map_nil, List.sum_append, List.sum_cons, List.sum_nil, List.map_flatMap, Nat.add_zero, Nat.zero_add]; ac_rfl)))
    refine r_ext rfl ?_
    refine r_ext rfl ?_
    refine r_ext rfl ?_
    refine St.r_storeN0 s 0 rfl rfl (by simp) (enc1 emp) ?_; intro h s
    refine r_if (fun _ => ?_) (fun e => absurd e (by simp))
    refine r_nil ?_
    refine r_fld ?_
    obtain ⟨a1, a2, a3, htop⟩ := GT.topA (t := t')
    have hiso2 : cl h t.id 0 = some (.int .u64 iso) := by
      have hw := g.wf
      rw [← h2]
      have : cl h t'.id 0 = some (.int .u64 t'.nd.iso) := by
        have hat : t'.At enc 2 h := GT.At.of h3.wf fun r hr => s.ok (List.mem_append.2 (.inl (by
          refine List.mem_cons_of_mem _ (List.mem_cons_of_mem _ (List.mem_cons_of_mem _ (List.mem_cons_of_mem _ (List.mem_cons_of_mem _ (List.mem_append.2 (.inl hr))))))
          )))
        exact hat.nd.iso
      rw [this]
      have : t'.nd.iso = iso := by
        cases k with
        | zero => exact h3.wf.2.1 h3.mine
        | succ k => exact h3.wf.1.2.1 h3.mine.1
      rw [this]
    refine isoLoad_ok (n := t.id) (iso := iso) (hi s) (by have := s.get (k := 3) (j := 0) rfl (by simp); simpa using this) (fun _ => hiso2) ?_
    rw [← h2]
    refine nodeSplit_ok t' (m := m) (E := (tb, 2, [ptr t.id 0]) :: (t6, 0, enc emp) :: (t4, 0, enc x) :: (tb, 3, [.int .i64 cnt]) :: (hb, 0, hc) :: E) hT0 hT4 (by omega) (by omega) (by rw [h1]; exact fl) (by rw [h1]; exact (PT.splits_len hsp).1) (by rw [h1]; omega) h3 (s.perm (by ((apply perm_rg; intro f; simp only [List.set_cons_zero, List.set_cons_succ, List.eraseIdx_cons_zero, List.eraseIdx_cons_succ, List.cons_append, List.nil_append, List.map_append, List.map_cons, List.map_nil, List.sum_append, List.sum_cons, List.sum_nil, List.map_flatMap, Nat.add_zero, Nat.zero_add]; ac_rfl)))) fun l r md' h hmd' hl hr hlid gl gr s => ?_
    have : md' = md := by rw [h1] at hmd'; exact Option.some.inj (hmd'.symm.trans hmd)
    subst this
    rw [h1] at hl hr
    have s : St h0 Z ((tb, 2, [ptr t.id 0]) :: (t6, 0, enc emp) :: (t4, 0, enc x) :: (tb, 3, [.int .i64 cnt]) :: (hb, 0, hc) :: (l.all enc ++ (r.all enc ++ E))) h := s.perm (by ((apply perm_rg; intro f; simp only [List.set_cons_zero, List.set_cons_succ, List.eraseIdx_cons_zero, List.eraseIdx_cons_succ, List.cons_append, List.nil_append, List.map_append, List.map_cons, List.map_nil, List.sum_append, List.sum_cons, List.sum_nil, List.map_flatMap, Nat.add_zero, Nat.zero_add]; ac_rfl)))
    refine r_ext rfl ?_
    refine r_ext rfl ?_
    refine s.r_alloc fun t14 h s => ?_
    refine St.r_storeN0 s 0 rfl rfl (by simp) (enc1 _) ?_; intro h s
    refine newNode_inner (hi s) fun n' kb' h s1 => ?_
    have s := s.join s1
    have s : St h0 Z ((n', 0, [.int .u64 iso, .int .i64 0, .slice none 0 0, ptr kb' 0]) :: (kb', 0, [.slice none 0 0]) :: (t14, 0, enc md') :: (tb, 2, [ptr t.id 0]) :: (t6, 0, enc emp) :: (t4, 0, enc x) :: (tb, 3, [.int .i64 cnt]) :: (hb, 0, hc) :: (l.all enc ++ (r.all enc ++ E))) h := s
    refine r_nil ?_
    refine r_fld ?_
    refine St.r_store1 s 3 (o := 2) (j := 0) rfl (by simp) rfl ?_; intro h s
    refine r_nil ?_
    refine r_fld ?_
    refine s.r_load1 3 (o := 2) (j := 0) rfl rfl ?_
    refine r_nil ?_
    refine r_fld ?_
    refine St.r_load0 s 0 rfl rfl ?_
    refine r_nil ?_
    refine r_fld ?_
    refine s.r_lz hT4 5 rfl rfl ?_
    refine r_add (z := ((m + 1 : Nat) : Int)) (by rw [i64w (by omega) (by omega)]; omega) ?_
    refine s.r_mks (n := 0) rfl (by omega) (by omega) (by omega) fun v b h s w0 => ?_
    refine ⟨s.r_still1 4 (o := 2) (j := 0) rfl rfl, by exact St.r_still0 s 1 rfl rfl, ?_⟩
    refine r_nil ?_
    refine St.r_store0 s 2 rfl (by simp) w0.one ?_; intro h s
    refine r_nil ?_
    refine r_fld ?_
    refine s.r_load1 4 (o := 2) (j := 0) rfl rfl ?_
    refine r_nil ?_
    refine r_fld ?_
    refine St.r_load0 s 1 rfl rfl ?_
    have s : St h0 Z ((n', 0, [.int .u64 iso, .int .i64 0, .slice none 0 0, ptr kb' 0]) :: (kb', 0, [v]) :: (t14, 0, enc md') :: (tb, 2, [ptr n' 0]) :: (t6, 0, enc emp) :: (t4, 0, enc x) :: (tb, 3, [.int .i64 cnt]) :: (hb, 0, hc) :: (l.all enc ++ (r.all enc ++ E))) h := s.drop 1
    -- what follows the items
    have fin : ∀ {iv kv : Value} {ib io rb ro : Nat} {isp ksp : List Value} {h : Heap}, Own 2 iv 1 ib io (enc md') isp → Own 1 kv 2 rb ro (fp l.id ++ fp r.id) ksp →
        St h0 Z ((n', 0, [.int .u64 iso, .int .i64 0, iv, ptr kb' 0]) :: (ib, io, enc md' ++ isp) :: (kb', 0, [kv]) :: (rb, ro, (fp l.id ++ fp r.id) ++ ksp) :: (tb, 2, [ptr n' 0]) :: (t6, 0, enc emp) :: (t4, 0, enc x) :: (tb, 3, [.int .i64 cnt]) :: (hb, 0, hc) :: (l.all enc ++ (r.all enc ++ E))) h →
        tail1 (ptr tb 0) hv (ptr t4 0) (ptr t6 0) h Q := by
      intro iv kv ib io rb ro isp ksp h wi wkk s
      unfold tail1
      have s : St h0 Z ((n', 0, [.int .u64 iso, .int .i64 0, iv, ptr kb' 0]) :: (kb', 0, [kv]) :: (rb, ro, ([l, r].map GT.id).flatMap fp ++ ksp) :: (tb, 2, [ptr n' 0]) :: (ib, io, enc md' ++ isp) :: (t4, 0, enc x) :: (t6, 0, enc emp) :: (tb, 3, [.int .i64 cnt]) :: (hb, 0, hc) :: (l.all enc ++ (r.all enc ++ E))) h := s.perm (by
        show ((n', 0, [.int .u64 iso, .int .i64 0, iv, ptr kb' 0]) :: (kb', 0, [kv]) :: (rb, ro, (fp l.id ++ fp r.id) ++ ksp) :: _ :: _ :: _ :: _ :: _ :: _ :: _).Perm _
        ((apply perm_rg; intro f; simp only [List.set_cons_zero, List.set_cons_succ, List.eraseIdx_cons_zero, List.eraseIdx_cons_succ, List.cons_append, List.nil_append, List.map_append, List.map_cons, List.map_nil, List.sum_append, List.sum_cons, List.sum_nil, List.map_flatMap, Nat.add_zero, Nat.zero_add]; ac_rfl)))
      have wkk : Own 1 kv ([l, r].map GT.id).length rb ro (([l, r].map GT.id).flatMap fp) ksp := wkk
      refine r_nil ?_
      refine r_fld ?_
      refine s.r_load1 3 (o := 2) (j := 0) rfl rfl ?_
      have hlr : l.pt.items.length + r.pt.items.length + 1 = t.pt.items.length := by
        rw [hl, hr, PT.cut_items fl hmd, List.length_append, List.length_cons]; omega
      refine updateCount_kids (ts := [l, r]) (len := 1) s wi wkk (fun q hq => ?_) (fun q hq z hz => ?_) (by simp) (by simp; omega) fun h s => ?_
      · simp at hq; rcases hq with e | e <;> subst e
        · exact gl.cn
        · exact gr.cn
      · simp at hq
        simp only [List.mem_cons, List.mem_append]
        rcases hq with e | e <;> subst e
        · exact .inr (.inr (.inr (.inr (.inr (.inr (.inl hz))))))
        · exact .inr (.inr (.inr (.inr (.inr (.inr (.inr (.inl hz)))))))
      · have hcc : 1 + ([l, r].map fun t => t.pt.items.length).sum = t.pt.items.length := by simp; omega
        rw [hcc] at s
        refine St.r_loadN0 s 5 rfl (by simp) ?_
        let tn : GT It (k + 1) := ((⟨true, n', iso, (t.pt.items.length : Int), [md'], iv, ib, io, isp, kb', kv, rb, ro, ksp⟩ : Nd It), [l, r])
        have hpn : tn.pt = t.pt.grow m := by
          rw [egrow]
          show ([md'], [l, r].map GT.pt) = _
          rw [List.map_cons, List.map_cons, List.map_nil, hl, hr]
        have gn : Gd iso tn := Gd.inner (by show Own 2 iv [md'].length ib io ([md'].flatMap enc) isp; simpa using wi) rfl rfl (by simpa using wkk) rfl (fun c hc => by
          have hc : c ∈ [l, r] := hc
          simp at hc; rcases hc with e | e <;> subst e
          · exact gl
          · exact gr) (by show (t.pt.items.length : Int) = (tn.pt.items.length : Int); rw [hpn, g1])
        have s : St h0 Z ((tb, 2, [ptr tn.id 0]) :: (tb, 3, [.int .i64 cnt]) :: (hb, 0, hc) :: (tn.all enc ++ ((t4, 0, enc x) :: (t6, 0, enc emp) :: E))) h := by
          have s1 : St h0 Z ((tb, 2, [ptr n' 0]) :: (tb, 3, [.int .i64 cnt]) :: (hb, 0, hc) :: (n', 0, [.int .u64 iso, .int .i64 t.pt.items.length, iv, ptr kb' 0]) :: (ib, io, [md'].flatMap enc ++ isp) :: (kb', 0, [kv]) :: (rb, ro, (([l, r].map GT.id).map fun m => ptr m 0) ++ ksp) :: ([l, r].flatMap (GT.all enc) ++ ((t4, 0, enc x) :: (t6, 0, enc emp) :: E))) h := by
            rw [mfp]
            exact s.perm (by
              rw [List.flatMap_singleton, List.flatMap_cons, List.flatMap_cons, List.flatMap_nil, List.append_nil]; ((apply perm_rg; intro f; simp only [List.set_cons_zero, List.set_cons_succ, List.eraseIdx_cons_zero, List.eraseIdx_cons_succ, List.cons_append, List.nil_append, List.map_append, List.map_cons, List.map_nil, List.sum_append, List.sum_cons, List.sum_nil, List.map_flatMap, Nat.add_zero, Nat.zero_add]; ac_rfl)))
          exact s1
        refine setHint_noSplit o hO hT0 hT4 hm3 hm1 ho tn hh (by rw [hpn]; exact g2) (by rw [hpn, g1]; exact ha) (by rw [hpn, g1]; exact hsz) gn (by rw [hpn, g1]; exact hcnt) (by rw [hpn]; exact g3) s fun t2 hc h' e1 e2 hh s => ?_
        rw [hpn, g1, hgn]
        have s : St h0 Z ((t6, 0, enc emp) :: (tb, 2, [ptr t2.id 0]) :: (tb, 3, [.int .i64 t2.pt.items.length]) :: (hb, 0, hc) :: (t2.all enc ++ E)) h' := St.drop (E := (t4, 0, enc x) :: (t6, 0, enc emp) :: (tb, 2, [ptr t2.id 0]) :: (tb, 3, [.int .i64 t2.pt.items.length]) :: (hb, 0, hc) :: (t2.all enc ++ E)) (s.perm (by ((apply perm_rg; intro f; simp only [List.set_cons_zero, List.set_cons_succ, List.eraseIdx_cons_zero, List.eraseIdx_cons_succ, List.cons_append, List.nil_append, List.map_append, List.map_cons, List.map_nil, List.sum_append, List.sum_cons, List.sum_nil, List.map_flatMap, Nat.add_zero, Nat.zero_add]; ac_rfl)))) 1
        refine r_ext rfl ?_
        refine r_ext rfl ?_
        refine St.r_storeN0 s 0 rfl rfl (by simp) (enc1 emp) ?_; intro h' s
        refine St.r_loadN0 s 0 rfl (by simp) ?_
        have := H ⟨k + 1, t2⟩ hc h' (by
          show some (⟨k + 1, t2.pt⟩ : (j : Nat) × PT It j) = _
          unfold MT.set
          simp only [hsp, ↓reduceIte, e1, hpn]) e2 hh (s.drop 1)
        rw [hgn] at this
        exact this
    -- what follows the children
    have tail : ∀ {kv : Value} {rb ro : Nat} {ksp : List Value} {h : Heap}, Own 1 kv 2 rb ro (fp l.id ++ fp r.id) ksp →
        St h0 Z ((n', 0, [.int .u64 iso, .int .i64 0, .slice none 0 0, ptr kb' 0]) :: (kb', 0, [kv]) :: (rb, ro, (fp l.id ++ fp r.id) ++ ksp) :: (t14, 0, enc md') :: (tb, 2, [ptr n' 0]) :: (t6, 0, enc emp) :: (t4, 0, enc x) :: (tb, 3, [.int .i64 cnt]) :: (hb, 0, hc) :: (l.all enc ++ (r.all enc ++ E))) h →
        tail2 (ptr tb 0) hv (ptr t4 0) (ptr t6 0) (ptr t14 0) h Q := by
      intro kv rb ro ksp h wkk s
      unfold tail2
      refine r_nil ?_
      refine r_fld ?_
      refine s.r_load1 4 (o := 2) (j := 0) rfl rfl ?_
      refine St.r_loadN0 s 3 rfl (by simp) ?_
      constructor
      · refine St.r_mkSl (sz := 2) (cs := []) s (by ((simp only [fillV, fill1, Value.cells, zeros_succ, zeros_zero, List.size_toArray, List.length_cons, List.length_nil, List.length_append, List.take_succ_cons, List.take_zero, List.take_nil, List.drop_succ_cons, List.drop_zero, List.drop_nil, List.cons_append, List.nil_append, List.append_nil, Nat.reduceAdd, Nat.reduceMul, Nat.reduceLeDiff, Nat.reduceEqDiff, and_self, and_true, true_and, if_true, Nat.le_refl, Nat.zero_add, Nat.add_zero, Nat.zero_mul, reduceIte, if_false] <;> rfl))) rfl fun q1 h s w1 => ?_
        refine ⟨s.r_still1 5 (o := 2) (j := 0) rfl rfl, St.r_stillN0 s 4 rfl (by simp) rfl, ?_⟩
        refine St.r_mkSl (sz := 2) (cs := enc md') s (by ((simp only [fillV, fill1, Value.cells, zeros_succ, zeros_zero, List.size_toArray, List.length_cons, List.length_nil, List.length_append, List.take_succ_cons, List.take_zero, List.take_nil, List.drop_succ_cons, List.drop_zero, List.drop_nil, List.cons_append, List.nil_append, List.append_nil, Nat.reduceAdd, Nat.reduceMul, Nat.reduceLeDiff, Nat.reduceEqDiff, and_self, and_true, true_and, if_true, Nat.le_refl, Nat.zero_add, Nat.add_zero, Nat.zero_mul, reduceIte, if_false] <;> rfl))) rfl fun q2 h s w2 => ?_
        refine ⟨s.r_still1 6 (o := 2) (j := 0) rfl rfl, ?_⟩
        refine St.r_app s 1 (sz := 2) (n := 1) (new := enc md') rfl w1 rfl (w2.rdl s 0 rfl) (enc1 _) (by omega) (by omega) fun iv ib io isp h s wi => ?_
        refine ⟨s.r_still1 6 (o := 2) (j := 0) rfl rfl, ?_⟩
        refine r_nil ?_
        refine r_fld ?_
        refine St.r_store0 s 2 rfl (by simp) wi.one ?_; intro h s
        exact fin wi wkk ((s.perm (E' := (q2, 0, enc md' ++ []) :: (t14, 0, enc md') :: _) (by simp; ((apply perm_rg; intro f; simp only [List.set_cons_zero, List.set_cons_succ, List.eraseIdx_cons_zero, List.eraseIdx_cons_succ, List.cons_append, List.nil_append, List.map_append, List.map_cons, List.map_nil, List.sum_append, List.sum_cons, List.sum_nil, List.map_flatMap, Nat.add_zero, Nat.zero_add]; ac_rfl)))).drop 2)
      · refine St.r_mkSl (sz := 2) (cs := enc md') s (by ((simp only [fillV, fill1, Value.cells, zeros_succ, zeros_zero, List.size_toArray, List.length_cons, List.length_nil, List.length_append, List.take_succ_cons, List.take_zero, List.take_nil, List.drop_succ_cons, List.drop_zero, List.drop_nil, List.cons_append, List.nil_append, List.append_nil, Nat.reduceAdd, Nat.reduceMul, Nat.reduceLeDiff, Nat.reduceEqDiff, and_self, and_true, true_and, if_true, Nat.le_refl, Nat.zero_add, Nat.add_zero, Nat.zero_mul, reduceIte, if_false] <;> rfl))) rfl fun q2 h s w2 => ?_
        refine ⟨s.r_still1 5 (o := 2) (j := 0) rfl rfl, ?_⟩
        refine St.r_mkSl (sz := 2) (cs := []) s (by ((simp only [fillV, fill1, Value.cells, zeros_succ, zeros_zero, List.size_toArray, List.length_cons, List.length_nil, List.length_append, List.take_succ_cons, List.take_zero, List.take_nil, List.drop_succ_cons, List.drop_zero, List.drop_nil, List.cons_append, List.nil_append, List.append_nil, Nat.reduceAdd, Nat.reduceMul, Nat.reduceLeDiff, Nat.reduceEqDiff, and_self, and_true, true_and, if_true, Nat.le_refl, Nat.zero_add, Nat.add_zero, Nat.zero_mul, reduceIte, if_false] <;> rfl))) rfl fun q1 h s w1 => ?_
        refine ⟨s.r_still1 6 (o := 2) (j := 0) rfl rfl, ?_⟩
        refine St.r_app s 0 (sz := 2) (n := 1) (new := enc md') rfl w1 rfl (w2.rdl s 1 rfl) (enc1 _) (by omega) (by omega) fun iv ib io isp h s wi => ?_
        refine ⟨s.r_still1 6 (o := 2) (j := 0) rfl rfl, ?_⟩
        refine r_nil ?_
        refine r_fld ?_
        refine St.r_store0 s 2 rfl (by simp) wi.one ?_; intro h s
        exact fin wi wkk ((s.perm (E' := (q2, 0, enc md' ++ []) :: (t14, 0, enc md') :: _) (by simp; ((apply perm_rg; intro f; simp only [List.set_cons_zero, List.set_cons_succ, List.eraseIdx_cons_zero, List.eraseIdx_cons_succ, List.cons_append, List.nil_append, List.map_append, List.map_cons, List.map_nil, List.sum_append, List.sum_cons, List.sum_nil, List.map_flatMap, Nat.add_zero, Nat.zero_add]; ac_rfl)))).drop 2)
    constructor
    · refine St.r_mkSl (sz := 1) (cs := []) s (by ((simp only [fillV, fill1, Value.cells, zeros_succ, zeros_zero, List.size_toArray, List.length_cons, List.length_nil, List.length_append, List.take_succ_cons, List.take_zero, List.take_nil, List.drop_succ_cons, List.drop_zero, List.drop_nil, List.cons_append, List.nil_append, List.append_nil, Nat.reduceAdd, Nat.reduceMul, Nat.reduceLeDiff, Nat.reduceEqDiff, and_self, and_true, true_and, if_true, Nat.le_refl, Nat.zero_add, Nat.add_zero, Nat.zero_mul, reduceIte, if_false] <;> rfl))) rfl fun q1 h s w1 => ?_
      refine ⟨s.r_still1 4 (o := 2) (j := 0) rfl rfl, by exact St.r_still0 s 1 rfl rfl, ?_⟩
      refine St.r_mkSl (sz := 1) (cs := fp l.id ++ fp r.id) s (by rw [hlid]; ((simp only [fillV, fill1, Value.cells, zeros_succ, zeros_zero, List.size_toArray, List.length_cons, List.length_nil, List.length_append, List.take_succ_cons, List.take_zero, List.take_nil, List.drop_succ_cons, List.drop_zero, List.drop_nil, List.cons_append, List.nil_append, List.append_nil, Nat.reduceAdd, Nat.reduceMul, Nat.reduceLeDiff, Nat.reduceEqDiff, and_self, and_true, true_and, if_true, Nat.le_refl, Nat.zero_add, Nat.add_zero, Nat.zero_mul, reduceIte, if_false] <;> rfl))) rfl fun q2 h s w2 => ?_
      refine ⟨s.r_still1 5 (o := 2) (j := 0) rfl rfl, by exact St.r_still0 s 2 rfl rfl, ?_⟩
      refine St.r_app s 1 (sz := 1) (n := 2) (new := fp l.id ++ fp r.id) rfl w1 rfl (w2.rdl s 0 rfl) (by simp [one1]) (by omega) (by omega) fun kv rb ro ksp h s wkk => ?_
      refine ⟨s.r_still1 5 (o := 2) (j := 0) rfl rfl, by exact St.r_still0 s 2 rfl rfl, ?_⟩
      refine r_nil ?_
      refine St.r_store0 s 3 rfl (by simp) wkk.one ?_; intro h s
      exact tail wkk ((s.perm (E' := (q2, 0, fp l.id ++ fp r.id ++ []) :: _) (by simp; ((apply perm_rg; intro f; simp only [List.set_cons_zero, List.set_cons_succ, List.eraseIdx_cons_zero, List.eraseIdx_cons_succ, List.cons_append, List.nil_append, List.map_append, List.map_cons, List.map_nil, List.sum_append, List.sum_cons, List.sum_nil, List.map_flatMap, Nat.add_zero, Nat.zero_add]; ac_rfl)))).drop 1)
    · refine St.r_mkSl (sz := 1) (cs := fp l.id ++ fp r.id) s (by rw [hlid]; ((simp only [fillV, fill1, Value.cells, zeros_succ, zeros_zero, List.size_toArray, List.length_cons, List.length_nil, List.length_append, List.take_succ_cons, List.take_zero, List.take_nil, List.drop_succ_cons, List.drop_zero, List.drop_nil, List.cons_append, List.nil_append, List.append_nil, Nat.reduceAdd, Nat.reduceMul, Nat.reduceLeDiff, Nat.reduceEqDiff, and_self, and_true, true_and, if_true, Nat.le_refl, Nat.zero_add, Nat.add_zero, Nat.zero_mul, reduceIte, if_false] <;> rfl))) rfl fun q2 h s w2 => ?_
      refine ⟨s.r_still1 4 (o := 2) (j := 0) rfl rfl, by exact St.r_still0 s 1 rfl rfl, ?_⟩
      refine St.r_mkSl (sz := 1) (cs := []) s (by ((simp only [fillV, fill1, Value.cells, zeros_succ, zeros_zero, List.size_toArray, List.length_cons, List.length_nil, List.length_append, List.take_succ_cons, List.take_zero, List.take_nil, List.drop_succ_cons, List.drop_zero, List.drop_nil, List.cons_append, List.nil_append, List.append_nil, Nat.reduceAdd, Nat.reduceMul, Nat.reduceLeDiff, Nat.reduceEqDiff, and_self, and_true, true_and, if_true, Nat.le_refl, Nat.zero_add, Nat.add_zero, Nat.zero_mul, reduceIte, if_false] <;> rfl))) rfl fun q1 h s w1 => ?_
      refine ⟨s.r_still1 5 (o := 2) (j := 0) rfl rfl, by exact St.r_still0 s 2 rfl rfl, ?_⟩
      refine St.r_app s 0 (sz := 1) (n := 2) (new := fp l.id ++ fp r.id) rfl w1 rfl (w2.rdl s 1 rfl) (by simp [one1]) (by omega) (by omega) fun kv rb ro ksp h s wkk => ?_
      refine ⟨s.r_still1 5 (o := 2) (j := 0) rfl rfl, by exact St.r_still0 s 2 rfl rfl, ?_⟩
      refine r_nil ?_
      refine St.r_store0 s 3 rfl (by simp) wkk.one ?_; intro h s
      exact tail wkk ((s.perm (E' := (q2, 0, fp l.id ++ fp r.id ++ []) :: _) (by simp; ((apply perm_rg; intro f; simp only [List.set_cons_zero, List.set_cons_succ, List.eraseIdx_cons_zero, List.eraseIdx_cons_succ, List.cons_append, List.nil_append, List.map_append, List.map_cons, List.map_nil, List.sum_append, List.sum_cons, List.sum_nil, List.map_flatMap, Nat.add_zero, Nat.zero_add]; ac_rfl)))).drop 1)
end Go.Proofs.Ytgnnidefbeoibaa.Gi
end
section
namespace Go.Proofs.Ytgnnidefbeoibaa.Gi
open Go.Hp Go.Proofs.Ytgnnidefbeoibaa
set_option linter.unusedVariables false
set_option linter.unusedSimpArgs false
variable {h0 h : Heap} {Z E : List Rg} {Q : Value → Heap → Prop} {lt : It → It → Bool} {lf : Value}

/-! ### orders -/
abbrev fi (k : Int) : List Value := [.int .i64 k]
theorem fil (k : Int) : (fi k).length = 1 := rfl
/-- The rank of a key. -/
def rnk (ow : List Int) (k : Int) : Int := if ow = [] then k else ow[(k % ow.length).toNat]?.getD 0
def ltO (ow : List Int) (a b : It) : Bool := decide (rnk ow a.1 < rnk ow b.1)
theorem swoO (ow : List Int) : Swo (ltO ow) where
  irr a := by simp [ltO]
  tr a b c h1 h2 := by simp only [ltO, decide_eq_true_eq] at *; omega
  ntr a b c h1 h2 := by simp only [ltO, decide_eq_false_iff_not, Int.not_lt] at *; omega
/-- A function value that answers as the order does, as long as the ranges A stay. -/
def OrdA (A : List Rg) (lf : Value) (lt : It → It → Bool) : Prop := ∀ Z, (∀ r, r ∈ A → r ∈ Z) → OrdC Z lf lt
theorem remainder_ok {k : Int} {n : Nat} (h1 : 1 ≤ n) (h2 : n ≤ 1152921504606846976) (H : Q (.int .i64 (k % n)) h) : i_remainder.call #[.int .i64 k, .int .i64 n] h Q := by
  refine i_remainder.body _ _ _ _ ?_
  unfold i_remainder.sh
  have hn0 : (n : Int) ≠ 0 := by omega
  have hb1 : k.tmod n < n := Int.tmod_lt_of_pos k (by omega)
  have hb2 : -(n : Int) < k.tmod n := by
    have := Int.lt_tmod_of_pos k (show (0 : Int) < n by omega)
    omega
  refine ⟨.i64, _, _, rfl, rfl, hn0, ?_⟩
  refine r_add (z := k.tmod n + n) (i64w (by omega) (by omega)) ?_
  refine ⟨.i64, _, _, rfl, rfl, hn0, ?_⟩
  have e : (k.tmod n + n).tmod n = k % n := by
    rw [Int.tmod_eq_emod_of_nonneg (by omega), Int.add_emod_right]
    have e1 := Int.mul_tdiv_add_tmod k n
    conv => rhs; rw [← e1, Int.add_comm, Int.add_mul_emod_self_left]
  rw [e]; exact H
theorem rank_ok {v : Value} {ow : List Int} {k : Int} (hr : Rdl 1 h v ow.length (ow.flatMap fi)) (hl : ow.length ≤ 1152921504606846976) (H : Q (.int .i64 (rnk ow k)) h) : i_rank.call #[v, .int .i64 k] h Q := by
  refine i_rank.body _ _ _ _ ?_
  unfold i_rank.sh
  refine hr.lenV ?_
  refine r_cmpI ?_
  refine r_if (fun e => ?_) (fun e => ?_)
  · have : ow = [] := by have : ow.length = 0 := by simpa using e
                         exact List.length_eq_zero_iff.1 this
    unfold rnk at H; rw [if_pos this] at H; exact H
  · have hne : ow ≠ [] := fun e2 => by subst e2; simp at e
    have hpos : 1 ≤ ow.length := by have := List.length_pos_iff.2 hne; omega
    unfold i_rank.j1
    refine hr.lenV ?_
    refine remainder_ok hpos hl ?_
    have hm0 : 0 ≤ k % (ow.length : Int) := Int.emod_nonneg _ (by omega)
    have hm1 : k % (ow.length : Int) < ow.length := Int.emod_lt_of_pos _ (by omega)
    have hlt : (k % (ow.length : Int)).toNat < ow.length := by generalize k % (ow.length : Int) = z at *; omega
    refine hr.at (n := (k % (ow.length : Int)).toNat) (f := fi) rfl fil (Int.toNat_of_nonneg hm0).symm rfl hlt fun b o hb => ?_
    refine hb.load0 rfl ?_
    unfold rnk at H
    rw [if_neg hne, List.getElem?_eq_getElem hlt] at H
    exact H
theorem Clone_ok {v : Value} {l : List Int} (hr : Rdl 1 h v l.length (l.flatMap fi)) (hl : l.length ≤ 2147483647)
    (H : ∀ v' b o sp E' h', Own 1 v' l.length b o (l.flatMap fi) sp → St h [] ((b, o, l.flatMap fi ++ sp) :: E') h' → Q v' h') : sl_Clone_inti.call #[v] h Q := by
  refine sl_Clone_inti.body _ _ _ ?_
  unfold sl_Clone_inti.sh
  have s := St.start h
  have hr0 := hr
  obtain ⟨a, cap, e, _, hc, _⟩ := hr0
  subst e
  refine ⟨a, _, _, rfl, ?_⟩
  refine r_if (fun ha => ?_) (fun ha => ?_)
  · have : l = [] := by
      cases l with
      | nil => rfl
      | cons x r =>
        obtain ⟨b, o, e, _⟩ := hc (by simp)
        subst e; cases ha
    subst this
    exact H _ 0 0 [] _ _ (Own.nil 1 0 0) (s.empty 0 0)
  · unfold sl_Clone_inti.j1
    refine St.r_mkSl (sz := 1) (cs := []) s (by ((simp only [fillV, fill1, Value.cells, zeros_succ, zeros_zero, List.size_toArray, List.length_cons, List.length_nil, List.length_append, List.take_succ_cons, List.take_zero, List.take_nil, List.drop_succ_cons, List.drop_zero, List.drop_nil, List.cons_append, List.nil_append, List.append_nil, Nat.reduceAdd, Nat.reduceMul, Nat.reduceLeDiff, Nat.reduceEqDiff, and_self, and_true, true_and, if_true, Nat.le_refl, Nat.zero_add, Nat.add_zero, Nat.zero_mul, reduceIte, if_false] <;> rfl))) rfl fun q h s wq => ?_
    refine s.r_appL (f := fi) (L := []) (M := l) 0 rfl wq rfl (hr.st s) (fun _ _ => by simp [one1]) (by simp; omega) (by simp; omega) fun v' b' o' sp' h s w' => ?_
    exact H _ _ _ _ _ _ w' s
theorem less_ok {cb : Nat} {v : Value} {ow : List Int} {a b : It} (s : St h0 Z E h) (hc : cl h cb 0 = some v) (hr : Rdl 1 h v ow.length (ow.flatMap fi)) (hl : ow.length ≤ 1152921504606846976) (H : ∀ E' h', St h [] E' h' → Q (.bool (ltO ow a b)) h') : i_before_c1.call #[av a, av b, ptr cb 0] h Q := by
  refine i_before_c1.body _ _ _ _ _ ?_
  unfold i_before_c1.sh
  have u := St.start h
  refine St.r_box (cs := enc a) u fun t3 h1 u => ?_
  refine St.r_box (cs := enc b) u fun t4 h1 u => ?_
  refine u.r_loadB hc ?_
  refine r_fld ?_
  refine St.r_load0 u 1 rfl rfl ?_
  refine u.r_loadB hc ?_
  refine r_fld ?_
  refine St.r_load0 u 0 rfl rfl ?_
  refine rank_ok (hr.st u) hl ?_
  refine ⟨⟨_, rfl, u.base hc⟩, St.r_still0 u 0 rfl rfl, ?_⟩
  refine rank_ok (hr.st u) hl ?_
  refine r_cmpI ?_
  exact H _ _ u
theorem before_ok {v : Value} {ow : List Int} (hr : Rdl 1 h v ow.length (ow.flatMap fi)) (hl : ow.length ≤ 2147483647)
    (H : ∀ lf A E' h', OrdA A lf (ltO ow) → St h [] (A ++ E') h' → Q lf h') : i_before.call #[v] h Q := by
  refine i_before.body _ _ _ ?_
  unfold i_before.sh
  refine Clone_ok hr hl fun v' b o sp E' h1 w s => ?_
  refine s.r_alloc fun t3 h1 s => ?_
  refine St.r_store0 s 0 rfl (by simp) w.one ?_; intro h1 s
  refine H _ [(t3, 0, [v']), (b, o, ow.flatMap fi ++ sp)] E' h1 (fun Z hz => ⟨rfl, rfl, fun {h0} {h} {E} {x} {y} {Q} s H => ?_⟩) s
  refine r_callV ⟨_, Try.func102, rfl, by kernel_rfl⟩ ?_
  refine less_ok s (s.clz (hz _ (List.mem_cons_self ..)) 0 rfl rfl) (w.rdlZ s (hz _ (List.mem_cons_of_mem _ (List.mem_cons_self ..)))) (by omega) H

/-! ### trees -/
structure TreeOk (lt : It → It → Bool) (m : Nat) (iso : Int) (g : Rt) : Prop where
  gd : rGd iso g
  fl : (rPt g).Fl m
  asc : Asc lt (rPt g).items
  m3 : 3 ≤ m
  m1 : m ≤ 1024
  odd : m % 2 = 1
theorem TreeOk.none {m : Nat} {iso : Int} (m3 : 3 ≤ m) (m1 : m ≤ 1024) (odd : m % 2 = 1) : TreeOk lt m iso none := ⟨trivial, trivial, List.Pairwise.nil, m3, m1, odd⟩
theorem init_skip {tb : Nat} {d iso cnt mn mx : Int} {ctr root : Option Addr} (s : St h0 Z ((tb, 0, hdr iso ctr root cnt lf mn mx) :: E) h) (hmn : mn ≠ 0) (H : Q (.tuple #[]) h) : BTreeG_I_init.call #[ptr tb 0, .int .i64 d] h Q := by
  refine BTreeG_I_init.body _ _ _ _ ?_
  unfold BTreeG_I_init.sh
  refine r_nil ?_
  refine r_fld ?_
  refine St.r_load0 s 0 rfl rfl ?_
  refine r_cmpI ?_
  exact r_if (fun _ => H) (fun e => absurd e (by simpa using hmn))
theorem init_set {tb : Nat} {d a b iso cnt : Int} {ctr root : Option Addr} (s : St h0 Z ((tb, 0, hdr iso ctr root cnt lf 0 0) :: E) h) (hd : ∀ {h : Heap} {Q : Value → Heap → Prop}, Q (.tuple #[.int .i64 a, .int .i64 b]) h → degreeToMinMax.call #[.int .i64 d] h Q)
    (H : ∀ h', St h0 Z ((tb, 0, hdr iso ctr root cnt lf a b) :: E) h' → Q (.tuple #[]) h') : BTreeG_I_init.call #[ptr tb 0, .int .i64 d] h Q := by
  refine BTreeG_I_init.body _ _ _ _ ?_
  unfold BTreeG_I_init.sh
  refine r_nil ?_
  refine r_fld ?_
  refine St.r_load0 s 0 rfl rfl ?_
  refine r_cmpI ?_
  refine r_if (fun e => absurd e (by decide)) (fun _ => ?_)
  unfold BTreeG_I_init.j1
  refine hd ?_
  refine r_ext rfl ?_
  refine r_ext rfl ?_
  refine r_nil ?_
  refine r_fld ?_
  (refine St.r_store0 s 0 rfl (by simp) rfl ?_; intro h s; try simp only [List.set_cons_zero, List.set_cons_succ] at s)
  refine r_nil ?_
  refine r_fld ?_
  (refine St.r_store0 s 0 rfl (by simp) rfl ?_; intro h s; try simp only [List.set_cons_zero, List.set_cons_succ] at s)
  refine r_nil ?_
  refine r_fld ?_
  refine St.r_loadN0 s 0 rfl (by simp) ?_
  refine r_ext rfl ?_
  refine r_ext rfl ?_
  refine r_nil ?_
  refine r_fld ?_
  (refine St.r_store0 s 0 rfl (by simp) rfl ?_; intro h s; try simp only [List.set_cons_zero, List.set_cons_succ] at s)
  refine r_nil ?_
  refine r_fld ?_
  refine St.r_load0 s 0 rfl rfl ?_
  refine r_not ?_
  refine r_if (fun _ => ?_) (fun e => absurd e (by decide))
  refine r_nil ?_
  refine r_fld ?_
  refine St.r_loadN0 s 0 rfl (by simp) ?_
  refine r_ext rfl ?_
  refine r_ext rfl ?_
  refine r_nil ?_
  refine r_fld ?_
  (refine St.r_store0 s 0 rfl (by simp) rfl ?_; intro h s; try simp only [List.set_cons_zero, List.set_cons_succ] at s)
  exact H _ s
/-- The least and the greatest number of items of a node. -/
def dmin (d : Nat) : Nat := if d = 0 then 31 else d - 1
def dmax (d : Nat) : Nat := if d = 0 then 63 else 2 * d - 1
theorem degree_any {d : Nat} (hd : d = 0 ∨ 2 ≤ d) (hd2 : d ≤ 512) {h : Heap} {Q : Value → Heap → Prop} (H : Q (.tuple #[.int .i64 (dmin d : Nat), .int .i64 (dmax d : Nat)]) h) : degreeToMinMax.call #[.int .i64 d] h Q := by
  by_cases e : d = 0
  · subst e; exact degree_zero H
  · unfold dmin dmax at H
    rw [if_neg e, if_neg e] at H
    refine degree_ok (d := d) (by omega) (by omega) ?_
    have e1 : (d : Int) - 1 = ((d - 1 : Nat) : Int) := by omega
    have e2 : 2 * (d : Int) - 1 = ((2 * d - 1 : Nat) : Int) := by omega
    rw [e1, e2]; exact H
theorem dmax_ok {d : Nat} (hd : d = 0 ∨ 2 ≤ d) (hd2 : d ≤ 512) : 3 ≤ dmax d ∧ dmax d ≤ 1024 ∧ dmax d % 2 = 1 ∧ dmin d = dmax d / 2 ∧ dmin d ≠ 0 := by
  unfold dmax dmin; split <;> omega
theorem newIsoID_ok {cb : Nat} {c : Int} (hc0 : 0 ≤ c) (hc1 : c ≤ 1073741824) (s : St h0 Z ((cb, 0, [.int .u64 c]) :: E) h) (H : ∀ h', St h0 Z ((cb, 0, [.int .u64 (c + 1)]) :: E) h' → Q (.int .u64 (c + 1)) h') : newIsoID.call #[ptr cb 0] h Q := by
  refine newIsoID.body _ _ _ ?_
  unfold newIsoID.sh
  refine r_nil ?_
  refine St.r_load0 s 0 rfl rfl ?_
  refine r_add (z := c + 1) (u64w (by omega) (by omega)) ?_
  refine r_nil ?_
  (refine St.r_store0 s 0 rfl (by simp) rfl ?_; intro h s; try simp only [List.set_cons_zero, List.set_cons_succ] at s)
  refine r_nil ?_
  refine St.r_load0 s 0 rfl rfl ?_
  exact H _ s
theorem New_ok (s : St h0 Z E h) {d : Nat} (hd : d = 0 ∨ 2 ≤ d) (hd2 : d ≤ 512) {nl : Bool} (hlf : one1 lf = true) (H : ∀ b cb h', St h0 Z ((b, 0, hdr 1 (some ⟨cb, 0, none⟩) none 0 lf (dmin d : Nat) (dmax d : Nat)) :: (cb, 0, [.int .u64 1]) :: E) h' → Q (ptr b 0) h') : NewBTreeGOptions_I.call #[lf, .agg #[.int .i64 d, .bool nl]] h Q := by
  refine NewBTreeGOptions_I.body _ _ _ _ ?_
  unfold NewBTreeGOptions_I.sh
  refine St.r_box (cs := [.int .i64 d, .bool nl]) s fun t3 h s => ?_
  refine s.r_alloc fun t6 h s => ?_
  refine s.r_alloc fun t8 h s => ?_
  refine r_nil ?_
  refine r_fld ?_
  (refine St.r_store0 s 1 rfl (by simp) rfl ?_; intro h s; try simp only [List.set_cons_zero, List.set_cons_succ] at s)
  refine r_nil ?_
  refine r_fld ?_
  refine St.r_load0 s 1 rfl rfl ?_
  refine newIsoID_ok (c := 0) (by decide) (by decide) s fun h s => ?_
  refine r_nil ?_
  refine r_fld ?_
  (refine St.r_store0 s 1 rfl (by simp) rfl ?_; intro h s; try simp only [List.set_cons_zero, List.set_cons_succ] at s)
  refine r_nil ?_
  refine r_fld ?_
  refine St.r_store0 s 1 rfl (by simp) hlf ?_; intro h s
  refine r_fld ?_
  refine St.r_load0 s 2 rfl rfl ?_
  have s : St h0 Z ((t6, 0, hdr 1 (some ⟨t8, 0, none⟩) none 0 lf 0 0) :: (t8, 0, [.int .u64 1]) :: (t3, 0, [.int .i64 d, .bool nl]) :: E) h := s.perm (List.Perm.swap _ _ _)
  refine init_set s (fun K => degree_any hd hd2 K) fun h s => ?_
  exact H _ _ _ (s.sub (List.Sublist.cons_cons _ (List.Sublist.cons_cons _ (List.sublist_cons_self _ _))))
/-- The first item of a tree. -/
theorem setHint_first {tb hb : Nat} {iso mn mx : Int} {ctr : Option Addr} {x : It} {hv : Value} (hmn : mn ≠ 0) (s : St h0 Z ((tb, 0, hdr iso ctr none 0 lf mn mx) :: E) h)
    (H : ∀ (t : GT It 0) h', t.pt = ([x] : List It) → Gd iso t → St h0 Z ((tb, 0, hdr iso ctr (some ⟨t.id, 0, none⟩) 1 lf mn mx) :: (t.all enc ++ E)) h' → Q (.tuple #[old none, .bool false]) h') :
    BTreeG_I_setHint.call #[ptr tb 0, av x, hv] h Q := by
  refine BTreeG_I_setHint.body _ _ _ _ _ ?_
  unfold BTreeG_I_setHint.sh
  refine St.r_box (cs := enc x) s fun t4 h s => ?_
  refine s.r_alloc fun t6 h s => ?_
  refine r_nil ?_
  refine r_fld ?_
  refine St.r_load0 s 2 rfl rfl ?_
  refine r_eqNilP ?_
  refine r_if (fun _ => ?_) (fun e => absurd e (by simp))
  refine init_skip (s.front 2 rfl) hmn ?_
  refine newNode_leaf (iso := iso) (by have := s.get (k := 2) (j := 0) rfl (by simp); simpa using this) fun n h s1 => ?_
  have s := s.join s1
  have s : St h0 Z ((n, 0, [.int .u64 iso, .int .i64 0, .slice none 0 0, .pointer none]) :: (tb, 0, hdr iso ctr none 0 lf mn mx) :: (t6, 0, enc emp) :: (t4, 0, enc x) :: E) h := s.perm (by ((apply perm_rg; intro f; simp only [List.set_cons_zero, List.set_cons_succ, List.eraseIdx_cons_zero, List.eraseIdx_cons_succ, List.cons_append, List.nil_append, List.map_append, List.map_cons, List.map_nil, List.sum_append, List.sum_cons, List.sum_nil, List.map_flatMap, Nat.add_zero, Nat.zero_add]; ac_rfl)))
  refine r_nil ?_
  refine r_fld ?_
  (refine St.r_store0 s 1 rfl (by simp) rfl ?_; intro h s; try simp only [List.set_cons_zero, List.set_cons_succ] at s)
  refine r_nil ?_
  refine r_fld ?_
  refine St.r_load0 s 1 rfl rfl ?_
  refine St.r_loadN0 s 3 rfl (by simp) ?_
  have fin : ∀ {iv : Value} {ib io : Nat} {isp : List Value} {h : Heap}, Own 2 iv 1 ib io (enc x) isp →
      St h0 Z ((n, 0, [.int .u64 iso, .int .i64 0, iv, .pointer none]) :: (tb, 0, hdr iso ctr (some ⟨n, 0, none⟩) 0 lf mn mx) :: (t6, 0, enc emp) :: (ib, io, enc x ++ isp) :: (t4, 0, enc x) :: E) h →
      (nilck (ptr tb 0) fun t35 => fld 2 t35 fun t36 => load1 t36 h fun t37 => nilck t37 fun t38 => fld 1 t38 fun t39 => store1 t39 (.int .i64 1) h fun h => nilck (ptr tb 0) fun t41 => fld 3 t41 fun t42 => store1 t42 (.int .i64 1) h fun h =>
        nilck (ptr tb 0) fun t44 => fld 7 t44 fun t45 => loadN 2 t45 h fun t46 => storeN 2 (ptr t6 0) t46 h fun h => loadN 2 (ptr t6 0) h fun r6 => Q (.tuple #[r6, (.bool false)]) h) := by
    intro iv ib io isp h wi s
    refine r_nil ?_
    refine r_fld ?_
    refine St.r_load0 s 1 rfl rfl ?_
    refine r_nil ?_
    refine r_fld ?_
    (refine St.r_store0 s 0 rfl (by simp) rfl ?_; intro h s; try simp only [List.set_cons_zero, List.set_cons_succ] at s)
    refine r_nil ?_
    refine r_fld ?_
    (refine St.r_store0 s 1 rfl (by simp) rfl ?_; intro h s; try simp only [List.set_cons_zero, List.set_cons_succ] at s)
    refine r_nil ?_
    refine r_fld ?_
    refine St.r_loadN0 s 1 rfl (by simp) ?_
    (refine St.r_storeN0 s 2 rfl rfl (by simp) (enc1 _) ?_; intro h s; try simp only [List.set_cons_zero, List.set_cons_succ] at s)
    refine St.r_loadN0 s 2 rfl (by simp) ?_
    exact H (⟨true, n, iso, 1, [x], iv, ib, io, isp, 0, .pointer none, 0, 0, []⟩ : Nd It) h rfl (Gd.leaf (by show Own 2 iv [x].length ib io ([x].flatMap enc) isp; simpa using wi) rfl rfl rfl)
      ((s.perm (E' := (t4, 0, enc x) :: (t6, 0, enc emp) :: (tb, 0, hdr iso ctr (some ⟨n, 0, none⟩) 1 lf mn mx) :: (n, 0, [.int .u64 iso, .int .i64 1, iv, .pointer none]) :: (ib, io, [x].flatMap enc ++ isp) :: E) (by rw [List.flatMap_singleton]; ((apply perm_rg; intro f; simp only [List.set_cons_zero, List.set_cons_succ, List.eraseIdx_cons_zero, List.eraseIdx_cons_succ, List.cons_append, List.nil_append, List.map_append, List.map_cons, List.map_nil, List.sum_append, List.sum_cons, List.sum_nil, List.map_flatMap, Nat.add_zero, Nat.zero_add]; ac_rfl)))).drop 2)
  constructor
  · refine St.r_mkSl (sz := 2) (cs := []) s (by ((simp only [fillV, fill1, Value.cells, zeros_succ, zeros_zero, List.size_toArray, List.length_cons, List.length_nil, List.length_append, List.take_succ_cons, List.take_zero, List.take_nil, List.drop_succ_cons, List.drop_zero, List.drop_nil, List.cons_append, List.nil_append, List.append_nil, Nat.reduceAdd, Nat.reduceMul, Nat.reduceLeDiff, Nat.reduceEqDiff, and_self, and_true, true_and, if_true, Nat.le_refl, Nat.zero_add, Nat.add_zero, Nat.zero_mul, reduceIte, if_false] <;> rfl))) rfl fun q1 h s w1 => ?_
    refine ⟨St.r_still0 s 2 rfl rfl, St.r_stillN0 s 4 rfl (by simp) rfl, ?_⟩
    refine St.r_mkSl (sz := 2) (cs := enc x) s (by ((simp only [fillV, fill1, Value.cells, zeros_succ, zeros_zero, List.size_toArray, List.length_cons, List.length_nil, List.length_append, List.take_succ_cons, List.take_zero, List.take_nil, List.drop_succ_cons, List.drop_zero, List.drop_nil, List.cons_append, List.nil_append, List.append_nil, Nat.reduceAdd, Nat.reduceMul, Nat.reduceLeDiff, Nat.reduceEqDiff, and_self, and_true, true_and, if_true, Nat.le_refl, Nat.zero_add, Nat.add_zero, Nat.zero_mul, reduceIte, if_false] <;> rfl))) rfl fun q2 h s w2 => ?_
    refine ⟨St.r_still0 s 3 rfl rfl, ?_⟩
    refine St.r_app s 1 (sz := 2) (n := 1) (new := enc x) rfl w1 rfl (w2.rdl s 0 rfl) (enc1 _) (by omega) (by omega) fun iv ib io isp h s wi => ?_
    refine ⟨St.r_still0 s 3 rfl rfl, ?_⟩
    refine r_nil ?_
    refine r_fld ?_
    refine St.r_store0 s 2 rfl (by simp) wi.one ?_; intro h s
    exact fin wi ((s.perm (E' := (q2, 0, enc x ++ []) :: _) (by simp; ((apply perm_rg; intro f; simp only [List.set_cons_zero, List.set_cons_succ, List.eraseIdx_cons_zero, List.eraseIdx_cons_succ, List.cons_append, List.nil_append, List.map_append, List.map_cons, List.map_nil, List.sum_append, List.sum_cons, List.sum_nil, List.map_flatMap, Nat.add_zero, Nat.zero_add]; ac_rfl)))).drop 1)
  · refine St.r_mkSl (sz := 2) (cs := enc x) s (by ((simp only [fillV, fill1, Value.cells, zeros_succ, zeros_zero, List.size_toArray, List.length_cons, List.length_nil, List.length_append, List.take_succ_cons, List.take_zero, List.take_nil, List.drop_succ_cons, List.drop_zero, List.drop_nil, List.cons_append, List.nil_append, List.append_nil, Nat.reduceAdd, Nat.reduceMul, Nat.reduceLeDiff, Nat.reduceEqDiff, and_self, and_true, true_and, if_true, Nat.le_refl, Nat.zero_add, Nat.add_zero, Nat.zero_mul, reduceIte, if_false] <;> rfl))) rfl fun q2 h s w2 => ?_
    refine ⟨St.r_still0 s 2 rfl rfl, ?_⟩
    refine St.r_mkSl (sz := 2) (cs := []) s (by ((simp only [fillV, fill1, Value.cells, zeros_succ, zeros_zero, List.size_toArray, List.length_cons, List.length_nil, List.length_append, List.take_succ_cons, List.take_zero, List.take_nil, List.drop_succ_cons, List.drop_zero, List.drop_nil, List.cons_append, List.nil_append, List.append_nil, Nat.reduceAdd, Nat.reduceMul, Nat.reduceLeDiff, Nat.reduceEqDiff, and_self, and_true, true_and, if_true, Nat.le_refl, Nat.zero_add, Nat.add_zero, Nat.zero_mul, reduceIte, if_false] <;> rfl))) rfl fun q1 h s w1 => ?_
    refine ⟨St.r_still0 s 3 rfl rfl, ?_⟩
    refine St.r_app s 0 (sz := 2) (n := 1) (new := enc x) rfl w1 rfl (w2.rdl s 1 rfl) (enc1 _) (by omega) (by omega) fun iv ib io isp h s wi => ?_
    refine ⟨St.r_still0 s 3 rfl rfl, ?_⟩
    refine r_nil ?_
    refine r_fld ?_
    refine St.r_store0 s 2 rfl (by simp) wi.one ?_; intro h s
    exact fin wi ((s.perm (E' := (q2, 0, enc x ++ []) :: _) (by simp; ((apply perm_rg; intro f; simp only [List.set_cons_zero, List.set_cons_succ, List.eraseIdx_cons_zero, List.eraseIdx_cons_succ, List.cons_append, List.nil_append, List.map_append, List.map_cons, List.map_nil, List.sum_append, List.sum_cons, List.sum_nil, List.map_flatMap, Nat.add_zero, Nat.zero_add]; ac_rfl)))).drop 1)

/-- A tree's head in parts. -/
theorem hdr_cut {tb : Nat} {iso cnt mn mx : Int} {ctr root : Option Addr} (s : St h0 Z ((tb, 0, hdr iso ctr root cnt lf mn mx) :: E) h) : St h0 Z ((tb, 0, hd0 iso ctr) :: (tb, 4, hd4 lf mn mx) :: (tb, 2, [.pointer root]) :: (tb, 3, [.int .i64 cnt]) :: E) h := by
  have s1 : St h0 Z ((tb, 0, hd0 iso ctr ++ ([.pointer root] ++ ([.int .i64 cnt] ++ hd4 lf mn mx))) :: E) h := s
  have s2 := s1.cut
  have s3 := (s2.front 1 rfl).cut
  have s4 := (s3.front 1 rfl).cut
  exact s4.perm (E' := (tb, 0, hd0 iso ctr) :: (tb, 4, hd4 lf mn mx) :: (tb, 2, [.pointer root]) :: (tb, 3, [.int .i64 cnt]) :: E) (by
    show ((tb, 0, hd0 iso ctr) :: (tb, 4, hd4 lf mn mx) :: (tb, 2, [.pointer root]) :: (tb, 3, [.int .i64 cnt]) :: E).Perm ((tb, 3, [.int .i64 cnt]) :: (tb, 4, hd4 lf mn mx) :: (tb, 2, [.pointer root]) :: (tb, 0, hd0 iso ctr) :: E)
    ((apply perm_rg; intro f; simp only [List.set_cons_zero, List.set_cons_succ, List.eraseIdx_cons_zero, List.eraseIdx_cons_succ, List.cons_append, List.nil_append, List.map_append, List.map_cons, List.map_nil, List.sum_append, List.sum_cons, List.sum_nil, List.map_flatMap, Nat.add_zero, Nat.zero_add]; ac_rfl)))
theorem hdr_glue {tb : Nat} {iso cnt mn mx : Int} {ctr root : Option Addr} (s : St h0 Z ((tb, 0, hd0 iso ctr) :: (tb, 4, hd4 lf mn mx) :: (tb, 2, [.pointer root]) :: (tb, 3, [.int .i64 cnt]) :: E) h) : St h0 Z ((tb, 0, hdr iso ctr root cnt lf mn mx) :: E) h := by
  have s1 : St h0 Z ((tb, 3, [.int .i64 cnt]) :: (tb, 3 + [Value.int .i64 cnt].length, hd4 lf mn mx) :: (tb, 2, [.pointer root]) :: (tb, 0, hd0 iso ctr) :: E) h := s.perm (by
    show ((tb, 3, [.int .i64 cnt]) :: (tb, 4, hd4 lf mn mx) :: (tb, 2, [.pointer root]) :: (tb, 0, hd0 iso ctr) :: E).Perm ((tb, 0, hd0 iso ctr) :: (tb, 4, hd4 lf mn mx) :: (tb, 2, [.pointer root]) :: (tb, 3, [.int .i64 cnt]) :: E)
    ((apply perm_rg; intro f; simp only [List.set_cons_zero, List.set_cons_succ, List.eraseIdx_cons_zero, List.eraseIdx_cons_succ, List.cons_append, List.nil_append, List.map_append, List.map_cons, List.map_nil, List.sum_append, List.sum_cons, List.sum_nil, List.map_flatMap, Nat.add_zero, Nat.zero_add]; ac_rfl)))
  have s2 := s1.glue
  have s3 : St h0 Z ((tb, 2, [.pointer root]) :: (tb, 2 + [Value.pointer root].length, [.int .i64 cnt] ++ hd4 lf mn mx) :: (tb, 0, hd0 iso ctr) :: E) h := s2.perm (by
    show ((tb, 2, [.pointer root]) :: (tb, 3, [.int .i64 cnt] ++ hd4 lf mn mx) :: (tb, 0, hd0 iso ctr) :: E).Perm ((tb, 3, [.int .i64 cnt] ++ hd4 lf mn mx) :: (tb, 2, [.pointer root]) :: (tb, 0, hd0 iso ctr) :: E)
    exact List.Perm.swap _ _ _)
  have s4 := s3.glue
  have s5 : St h0 Z ((tb, 0, hd0 iso ctr) :: (tb, 0 + (hd0 iso ctr).length, [.pointer root] ++ ([.int .i64 cnt] ++ hd4 lf mn mx)) :: E) h := s4.perm (by
    show ((tb, 0, hd0 iso ctr) :: (tb, 2, [.pointer root] ++ ([.int .i64 cnt] ++ hd4 lf mn mx)) :: E).Perm ((tb, 2, [.pointer root] ++ ([.int .i64 cnt] ++ hd4 lf mn mx)) :: (tb, 0, hd0 iso ctr) :: E)
    exact List.Perm.swap _ _ _)
  exact s5.glue

theorem setHint_ok (o : Swo lt) {A : List Rg} (hO : OrdA A lf lt) {tb m hb : Nat} {iso mn : Int} {ctr : Option Addr} {g : Rt} {x : It} {hv : Value} {hc : List Value} (M : TreeOk lt m iso g) (hmn : mn ≠ 0) (hsz : (rPt g).items.length ≤ 4611686018427387903) (hh : Hn hv hb hc)
    (s : St h0 Z ((tb, 0, hdr iso ctr (rA g) (rPt g).items.length lf mn m) :: (hb, 0, hc) :: (rAll g ++ (A ++ E))) h)
    (H : ∀ (g' : Rt) hc' h', rPt g' = (rPt g).set lt m x → TreeOk lt m iso g' → Hn hv hb hc' → St h0 Z ((tb, 0, hdr iso ctr (rA g') (rPt g').items.length lf mn m) :: (hb, 0, hc') :: (rAll g' ++ (A ++ E))) h' → Q (.tuple #[old (lget lt (rPt g).items x), .bool (lget lt (rPt g).items x).isSome]) h') :
    BTreeG_I_setHint.call #[ptr tb 0, av x, hv] h Q := by
  have key : ∀ g' : Rt, rPt g' = (rPt g).set lt m x → rGd iso g' → TreeOk lt m iso g' := fun g' e gd => by
    obtain ⟨e1, e2⟩ := MT.set_items (x := x) o M.odd M.m3 M.fl M.asc
    exact ⟨gd, by rw [e]; exact e2, by rw [e, e1]; exact asc_lput o M.asc, M.m3, M.m1, M.odd⟩
  cases g with
  | none =>
    refine setHint_first (hb := hb) hmn (E := (hb, 0, hc) :: (A ++ E)) s fun t h' e gd s => ?_
    refine H (some ⟨0, t⟩) hc h' ?_ ?_ hh ?_
    · show some (⟨0, t.pt⟩ : (j : Nat) × PT It j) = some ⟨0, ([x] : List It)⟩; rw [e]
    · refine key (some ⟨0, t⟩) ?_ gd
      show some (⟨0, t.pt⟩ : (j : Nat) × PT It j) = some ⟨0, ([x] : List It)⟩; rw [e]
    · show St h0 Z ((tb, 0, hdr iso ctr (some ⟨t.id, 0, none⟩) t.pt.items.length lf mn m) :: (hb, 0, hc) :: (t.all enc ++ (A ++ E))) h'
      have : t.pt.items.length = 1 := by rw [e]; rfl
      rw [this]; exact s.perm (by ((apply perm_rg; intro f; simp only [List.set_cons_zero, List.set_cons_succ, List.eraseIdx_cons_zero, List.eraseIdx_cons_succ, List.cons_append, List.nil_append, List.map_append, List.map_cons, List.map_nil, List.sum_append, List.sum_cons, List.sum_nil, List.map_flatMap, Nat.add_zero, Nat.zero_add]; ac_rfl)))
  | some t =>
    obtain ⟨k, t⟩ := t
    have s := hdr_cut s
    obtain ⟨s1, back⟩ := St.borrow (A := [(tb, 0, hd0 iso ctr), (tb, 4, hd4 lf mn m)] ++ A) (E := (tb, 2, [ptr t.id 0]) :: (tb, 3, [.int .i64 t.pt.items.length]) :: (hb, 0, hc) :: (t.all enc ++ E)) (s.perm (by
      show (([(tb, 0, hd0 iso ctr), (tb, 4, hd4 lf mn m)] ++ A) ++ ((tb, 2, [ptr t.id 0]) :: (tb, 3, [.int .i64 t.pt.items.length]) :: (hb, 0, hc) :: (t.all enc ++ E))).Perm ((tb, 0, hd0 iso ctr) :: (tb, 4, hd4 lf mn m) :: (tb, 2, [ptr t.id 0]) :: (tb, 3, [.int .i64 t.pt.items.length]) :: (hb, 0, hc) :: (t.all enc ++ (A ++ E)))
      ((apply perm_rg; intro f; simp only [List.set_cons_zero, List.set_cons_succ, List.eraseIdx_cons_zero, List.eraseIdx_cons_succ, List.cons_append, List.nil_append, List.map_append, List.map_cons, List.map_nil, List.sum_append, List.sum_cons, List.sum_nil, List.map_flatMap, Nat.add_zero, Nat.zero_add]; ac_rfl))))
    refine setHint_cut o (hO _ fun r hr => List.mem_append_left _ (List.mem_append_right _ hr)) (List.mem_cons_self ..) (List.mem_cons_of_mem _ (List.mem_cons_self ..)) M.m3 M.m1 M.odd t hh M.fl M.asc hsz M.gd rfl s1 fun g' hc' h' e1 e2 hh s2 => ?_
    refine H (some g') hc' h' e1 (key (some g') e1 e2) hh ?_
    refine hdr_glue ((back _ h' s2).perm ?_)
    show ((tb, 0, hd0 iso ctr) :: (tb, 4, hd4 lf mn m) :: (tb, 2, [ptr g'.2.id 0]) :: (tb, 3, [.int .i64 g'.2.pt.items.length]) :: (hb, 0, hc') :: (g'.2.all enc ++ (A ++ E))).Perm (([(tb, 0, hd0 iso ctr), (tb, 4, hd4 lf mn m)] ++ A) ++ ((tb, 2, [ptr g'.2.id 0]) :: (tb, 3, [.int .i64 g'.2.pt.items.length]) :: (hb, 0, hc') :: (g'.2.all enc ++ E)))
    ((apply perm_rg; intro f; simp only [List.set_cons_zero, List.set_cons_succ, List.eraseIdx_cons_zero, List.eraseIdx_cons_succ, List.cons_append, List.nil_append, List.map_append, List.map_cons, List.map_nil, List.sum_append, List.sum_cons, List.sum_nil, List.map_flatMap, Nat.add_zero, Nat.zero_add]; ac_rfl))
theorem SetHint_ok (o : Swo lt) {A : List Rg} (hO : OrdA A lf lt) {tb m hb : Nat} {iso mn : Int} {ctr : Option Addr} {g : Rt} {x : It} {hv : Value} {hc : List Value} (M : TreeOk lt m iso g) (hmn : mn ≠ 0) (hsz : (rPt g).items.length ≤ 4611686018427387903) (hh : Hn hv hb hc)
    (s : St h0 Z ((tb, 0, hdr iso ctr (rA g) (rPt g).items.length lf mn m) :: (hb, 0, hc) :: (rAll g ++ (A ++ E))) h)
    (H : ∀ (g' : Rt) hc' h', rPt g' = (rPt g).set lt m x → TreeOk lt m iso g' → Hn hv hb hc' → St h0 Z ((tb, 0, hdr iso ctr (rA g') (rPt g').items.length lf mn m) :: (hb, 0, hc') :: (rAll g' ++ (A ++ E))) h' → Q (.tuple #[old (lget lt (rPt g).items x), .bool (lget lt (rPt g).items x).isSome]) h') :
    BTreeG_I_SetHint.call #[ptr tb 0, av x, hv] h Q := by
  refine BTreeG_I_SetHint.body _ _ _ _ _ ?_
  unfold BTreeG_I_SetHint.sh
  refine St.r_box (cs := enc x) s fun t4 h s => ?_
  refine s.r_alloc fun t6 h s => ?_
  refine St.r_loadN0 s 1 rfl (by simp) ?_
  refine setHint_ok o hO M hmn hsz hh (E := (t6, 0, enc emp) :: (t4, 0, enc x) :: E) (s.perm (by ((apply perm_rg; intro f; simp only [List.set_cons_zero, List.set_cons_succ, List.eraseIdx_cons_zero, List.eraseIdx_cons_succ, List.cons_append, List.nil_append, List.map_append, List.map_cons, List.map_nil, List.sum_append, List.sum_cons, List.sum_nil, List.map_flatMap, Nat.add_zero, Nat.zero_add]; ac_rfl)))) fun g' hc' h' e M' hh s => ?_
  have s : St h0 Z ((t6, 0, enc emp) :: (t4, 0, enc x) :: (tb, 0, hdr iso ctr (rA g') (rPt g').items.length lf mn m) :: (hb, 0, hc') :: (rAll g' ++ (A ++ E))) h' := s.perm (by ((apply perm_rg; intro f; simp only [List.set_cons_zero, List.set_cons_succ, List.eraseIdx_cons_zero, List.eraseIdx_cons_succ, List.cons_append, List.nil_append, List.map_append, List.map_cons, List.map_nil, List.sum_append, List.sum_cons, List.sum_nil, List.map_flatMap, Nat.add_zero, Nat.zero_add]; ac_rfl)))
  refine r_ext rfl ?_
  refine r_ext rfl ?_
  refine St.r_storeN0 s 0 rfl rfl (by simp) (enc1 ((lget lt (rPt g).items x).getD emp)) ?_; intro h s
  refine St.r_loadN0 s 0 rfl (by simp) ?_
  refine St.r_storeN0 s 0 rfl rfl (by simp) (enc1 ((lget lt (rPt g).items x).getD emp)) ?_; intro h s
  refine St.r_loadN0 s 0 rfl (by simp) ?_
  exact H g' hc' h e M' hh (s.drop 2)
theorem Set_ok (o : Swo lt) {A : List Rg} (hO : OrdA A lf lt) {tb m : Nat} {iso mn : Int} {ctr : Option Addr} {g : Rt} {x : It} (M : TreeOk lt m iso g) (hmn : mn ≠ 0) (hsz : (rPt g).items.length ≤ 4611686018427387903)
    (s : St h0 Z ((tb, 0, hdr iso ctr (rA g) (rPt g).items.length lf mn m) :: (rAll g ++ (A ++ E))) h)
    (H : ∀ (g' : Rt) h', rPt g' = (rPt g).set lt m x → TreeOk lt m iso g' → St h0 Z ((tb, 0, hdr iso ctr (rA g') (rPt g').items.length lf mn m) :: (rAll g' ++ (A ++ E))) h' → Q (.tuple #[old (lget lt (rPt g).items x), .bool (lget lt (rPt g).items x).isSome]) h') :
    BTreeG_I_Set.call #[ptr tb 0, av x] h Q := by
  refine BTreeG_I_Set.body _ _ _ _ ?_
  unfold BTreeG_I_Set.sh
  refine St.r_box (cs := enc x) s fun t4 h s => ?_
  refine s.r_alloc fun t6 h s => ?_
  refine St.r_loadN0 s 1 rfl (by simp) ?_
  refine SetHint_ok o hO M hmn hsz Hn.none (E := (t6, 0, enc emp) :: (t4, 0, enc x) :: E) ((s.empty 0 0).perm (by ((apply perm_rg; intro f; simp only [List.set_cons_zero, List.set_cons_succ, List.eraseIdx_cons_zero, List.eraseIdx_cons_succ, List.cons_append, List.nil_append, List.map_append, List.map_cons, List.map_nil, List.sum_append, List.sum_cons, List.sum_nil, List.map_flatMap, Nat.add_zero, Nat.zero_add]; ac_rfl)))) fun g' hc' h' e M' hh s => ?_
  have s : St h0 Z ((t6, 0, enc emp) :: (t4, 0, enc x) :: (0, 0, hc') :: (tb, 0, hdr iso ctr (rA g') (rPt g').items.length lf mn m) :: (rAll g' ++ (A ++ E))) h' := s.perm (by ((apply perm_rg; intro f; simp only [List.set_cons_zero, List.set_cons_succ, List.eraseIdx_cons_zero, List.eraseIdx_cons_succ, List.cons_append, List.nil_append, List.map_append, List.map_cons, List.map_nil, List.sum_append, List.sum_cons, List.sum_nil, List.map_flatMap, Nat.add_zero, Nat.zero_add]; ac_rfl)))
  refine r_ext rfl ?_
  refine r_ext rfl ?_
  refine St.r_storeN0 s 0 rfl rfl (by simp) (enc1 ((lget lt (rPt g).items x).getD emp)) ?_; intro h s
  refine St.r_loadN0 s 0 rfl (by simp) ?_
  exact H g' h e M' (s.drop 3)
end Go.Proofs.Ytgnnidefbeoibaa.Gi
end
section
namespace Go.Proofs.Ytgnnidefbeoibaa.Gi
open Go.Hp Go.Proofs.Ytgnnidefbeoibaa
set_option linter.unusedVariables false
set_option linter.unusedSimpArgs false
set_option maxHeartbeats 4000000
variable {h0 h : Heap} {Z E : List Rg} {Q : Value → Heap → Prop} {lt : It → It → Bool} {lf : Value}
attribute [local irreducible] load1 loadN store1 storeN fld nilck lenV idx arith cmpI notV extr mkSl app cpy slc ifV

theorem lock_ok {tb : Nat} {b : Bool} (H : Q (.bool false) h) : BTreeG_I_lock.call #[ptr tb 0, .bool b] h Q := by
  refine BTreeG_I_lock.body _ _ _ _ ?_
  unfold BTreeG_I_lock.sh
  exact H
end Go.Proofs.Ytgnnidefbeoibaa.Gi
end
section
namespace Go.Proofs.Ytgnnidefbeoibaa.Gi
open Go.Hp Go.Proofs.Ytgnnidefbeoibaa
set_option linter.unusedVariables false
set_option linter.unusedSimpArgs false
variable {h0 h : Heap} {Z E : List Rg} {Q : Value → Heap → Prop} {lt : It → It → Bool} {lf : Value}

theorem allZ_leaf {d : Nd It} (hz : ∀ r ∈ GT.all enc (h := 0) d, r ∈ Z) : (d.n, 0, [.int .u64 d.iso, .int .i64 d.cnt, d.iv, .pointer none]) ∈ Z ∧ (d.ib, d.io, d.its.flatMap enc ++ d.isp) ∈ Z := by
  have hz : ∀ r ∈ d.leaf enc, r ∈ Z := hz
  exact ⟨hz _ (List.mem_cons_self ..), hz _ (List.mem_cons_of_mem _ (List.mem_cons_self ..))⟩
theorem allZ_inner {k : Nat} {d : Nd It} {ts : List (GT It k)} (hz : ∀ r ∈ GT.all enc (h := k + 1) (d, ts), r ∈ Z) :
    (d.n, 0, [.int .u64 d.iso, .int .i64 d.cnt, d.iv, ptr d.kb 0]) ∈ Z ∧ (d.ib, d.io, d.its.flatMap enc ++ d.isp) ∈ Z ∧ (d.kb, 0, [d.kv]) ∈ Z ∧ (d.krb, d.kro, (ts.map GT.id).flatMap fp ++ d.ksp) ∈ Z ∧ ∀ c ∈ ts, ∀ r ∈ c.all enc, r ∈ Z := by
  have hz : ∀ r ∈ d.inner enc (ts.map GT.id) ++ ts.flatMap (GT.all enc), r ∈ Z := hz
  have h1 : ∀ r ∈ d.inner enc (ts.map GT.id), r ∈ Z := fun r hr => hz r (List.mem_append.2 (.inl hr))
  refine ⟨h1 _ (List.mem_cons_self ..), h1 _ (List.mem_cons_of_mem _ (List.mem_cons_self ..)), h1 _ (List.mem_cons_of_mem _ (List.mem_cons_of_mem _ (List.mem_cons_self ..))), ?_, fun c hc r hr => hz r (List.mem_append.2 (.inr (List.mem_flatMap.2 ⟨c, hc, hr⟩)))⟩
  have := h1 _ (List.mem_cons_of_mem _ (List.mem_cons_of_mem _ (List.mem_cons_of_mem _ (List.mem_cons_self ..))))
  rw [mfp] at this; exact this
/-- The kid's cell. -/
theorem kidcell {k : Nat} {ts : List (GT It k)} {krb kro i : Nat} {ksp : List Value} {c : GT It k} (hk : (krb, kro, (ts.map GT.id).flatMap fp ++ ksp) ∈ Z) (hc : ts[i]? = some c) (s : St h0 Z E h) : cl h krb (kro + i * 1) = some (ptr c.id 0) := by
  have hi : i < (ts.map GT.id).length := by rw [List.length_map]; exact (List.getElem?_eq_some_iff.1 hc).1
  refine s.clz hk (i * 1) rfl ?_
  rw [List.getElem?_append_left (by rw [flat_len fpl]; omega)]
  have := flat_get (f := fp) fpl (ts.map GT.id) i hi 0 (by decide)
  rw [Nat.add_zero] at this
  rw [this]
  have e : (ts.map GT.id)[i] = c.id := by
    have : (ts.map GT.id)[i]? = some c.id := by rw [List.getElem?_map, hc]; rfl
    exact (List.getElem?_eq_some_iff.1 this).2
  rw [e]; rfl

/-- The tree's own cell of its number stays. -/
def Iso (Z : List Rg) (tb : Nat) (iso : Int) : Prop := ∃ xs, (tb, 0, xs) ∈ Z ∧ xs[0]? = some (.int .u64 iso)
theorem Iso.at {tb : Nat} {iso : Int} (i : Iso Z tb iso) (s : St h0 Z E h) : cl h tb 0 = some (.int .u64 iso) := by
  obtain ⟨xs, h1, h2⟩ := i; exact s.clz h1 0 rfl h2
theorem nodeItems_ok {m tb : Nat} {iso : Int} (hm : m ≤ 1024) (hi : Iso Z tb iso) : ∀ {k : Nat} (t : GT It k) {lo : Nat} (g : Gd iso t) (fl : t.pt.Fl m lo) (hz : ∀ r ∈ t.all enc, r ∈ Z) {L : List It} {v : Value} {b o pb po : Nat} {sp : List Value} {E : List Rg} {h : Heap} {Q : Value → Heap → Prop},
    L.length + t.pt.items.length ≤ 4294967295 → cl h pb po = some (ptr t.id 0) → Own 2 v L.length b o (L.flatMap enc) sp → St h0 Z ((b, o, L.flatMap enc ++ sp) :: E) h →
    (∀ v' b' o' sp' h', Own 2 v' (L ++ t.pt.items).length b' o' ((L ++ t.pt.items).flatMap enc) sp' → St h0 Z ((b', o', (L ++ t.pt.items).flatMap enc ++ sp') :: E) h' → Q v' h') → BTreeG_I_nodeItems.call #[ptr tb 0, ptr pb po, v, .bool false] h Q
  | 0, (d : Nd It), lo, g, fl, hz, L, v, b, o, pb, po, sp, E, h, Q, hN, hp, wv, s, H => by
    obtain ⟨own, n, is', cnt, its, iv, ib, io, isp, kb, kv', krb, kro, ksp⟩ := d
    obtain ⟨z1, z2⟩ := allZ_leaf hz
    have w : Own 2 iv its.length ib io (its.flatMap enc) isp := g.wf.1
    have hl : its.length ≤ m := fl.2
    have hN : L.length + its.length ≤ 4294967295 := hN
    have H : ∀ v' b' o' sp' h', Own 2 v' (L ++ its).length b' o' ((L ++ its).flatMap enc) sp' → St h0 Z ((b', o', (L ++ its).flatMap enc ++ sp') :: E) h' → Q v' h' := H
    refine BTreeG_I_nodeItems.body _ _ _ _ _ _ ?_
    unfold BTreeG_I_nodeItems.sh
    refine isoLoad_ok (n := n) (hi.at s) hp (fun e => by cases e) ?_
    refine node_leaf_ok (a := none) (s.clz z1 3 rfl rfl) ?_
    refine r_if (fun _ => ?_) (fun e => absurd e (by simp))
    refine r_nil ?_
    refine r_fld ?_
    refine s.r_lz0 z1 (j := 2) rfl ?_
    refine s.r_appL (f := enc) (L := L) (M := its) 0 rfl wv rfl (w.rdlO (s.z _ z2)) (fun _ _ => enc1 _) (by omega) (by omega) fun v' b' o' sp' h s w' => ?_
    exact H v' b' o' sp' h w' s
  | k + 1, t, lo, g, fl, hz, L, v, b, o, pb, po, sp, E, h, Q, hN, hp, wv, s, H => by
    obtain ⟨d, ts⟩ := t
    obtain ⟨own, n, is', cnt, its, iv, ib, io, isp, kb, kv', krb, kro, ksp⟩ := d
    obtain ⟨z1, z2, z3, z4, z5⟩ := allZ_inner hz
    have w : Own 2 iv its.length ib io (its.flatMap enc) isp := g.wf.1.1
    have wK : Own 1 kv' ts.length krb kro ((ts.map GT.id).map fun m => ptr m 0) ksp := g.wf.2.1
    have hkl : ts.length = its.length + 1 := g.wf.2.2.1
    have hl : its.length ≤ m := fl.2.1
    have hpl : ∀ i, ((ts.take i).map fun t => t.pt.items) = (((ts.map GT.pt).take i).map PT.items) := fun i => by rw [← List.map_take, List.map_map]; rfl
    have hsplit : ∀ i (hi : i ≤ its.length) c, ts[i]? = some c → PT.items (h := k + 1) (its, ts.map GT.pt) = lz (its.take i) ((ts.take i).map fun t => t.pt.items) ++ (c.pt.items ++ rz (its.drop i) (((ts.map GT.pt).drop (i + 1)).map PT.items)) := by
      intro i hi c hc
      obtain ⟨c', hc', _, e⟩ := PT.around (t := ((its, ts.map GT.pt) : PT It (k + 1))) fl hi
      have hc' : (ts.map GT.pt)[i]? = some c' := hc'
      rw [List.getElem?_map, hc] at hc'
      have : c' = c.pt := (Option.some.inj hc').symm
      subst this
      rw [hpl]; exact e
    have hN : L.length + (PT.items (h := k + 1) (its, ts.map GT.pt)).length ≤ 4294967295 := hN
    have H : ∀ v' b' o' sp' h', Own 2 v' (L ++ PT.items (h := k + 1) (its, ts.map GT.pt)).length b' o' ((L ++ PT.items (h := k + 1) (its, ts.map GT.pt)).flatMap enc) sp' → St h0 Z ((b', o', (L ++ PT.items (h := k + 1) (its, ts.map GT.pt)).flatMap enc ++ sp') :: E) h' → Q v' h' := H
    refine BTreeG_I_nodeItems.body _ _ _ _ _ _ ?_
    unfold BTreeG_I_nodeItems.sh
    refine isoLoad_ok (n := n) (hi.at s) hp (fun e => by cases e) ?_
    refine node_leaf_ok (a := some ⟨kb, 0, Option.none⟩) (s.clz z1 3 rfl rfl) ?_
    refine r_if (fun e => absurd e (by simp)) (fun _ => ?_)
    unfold BTreeG_I_nodeItems.j1
    refine loop_ghost (fun q st h => ∃ j v b o sp, q = its.length - j ∧ j ≤ its.length ∧ st = [v, .int .i64 (j : Nat)] ∧ Own 2 v (L ++ lz (its.take j) ((ts.take j).map fun t => t.pt.items)).length b o ((L ++ lz (its.take j) ((ts.take j).map fun t => t.pt.items)).flatMap enc) sp ∧ St h0 Z ((b, o, (L ++ lz (its.take j) ((ts.take j).map fun t => t.pt.items)).flatMap enc ++ sp) :: E) h)
      (n0 := its.length) ⟨0, v, b, o, sp, rfl, Nat.zero_le _, rfl, by simpa [lz] using wv, by simpa [lz] using s⟩ ?_
    clear s
    rintro q st h ⟨j, v, b, o, sp, rfl, hj, rfl, wv, s⟩ K HK
    obtain ⟨c, hc⟩ : ∃ c, ts[j]? = some c := ⟨ts[j]'(by omega), List.getElem?_eq_getElem (by omega)⟩
    have hcm := List.mem_of_getElem? hc
    have hfc : PT.Fl m (m / 2) c.pt := fl.2.2.2 _ (List.mem_map.2 ⟨c, hcm, rfl⟩)
    have hs := hsplit j hj c hc
    have hsl := congrArg List.length hs
    simp only [List.length_append] at hsl
    unfold BTreeG_I_nodeItems.l3.b
    refine r_nil ?_
    refine r_fld ?_
    refine s.r_lz0 z1 (j := 2) rfl ?_
    refine w.lenV ?_
    refine r_cmpI ?_
    refine r_if (fun hlt => ?_) (fun hge => ?_)
    · have hlt : j < its.length := by simpa using hlt
      have hx : its[j]? = some its[j] := List.getElem?_eq_getElem hlt
      have et : its.take (j + 1) = its.take j ++ [its[j]] := List.take_succ_eq_append_getElem hlt
      have ek : ts.take (j + 1) = ts.take j ++ [c] := by rw [List.take_add_one, hc]; rfl
      have ez : lz (its.take (j + 1)) ((ts.take (j + 1)).map fun t => t.pt.items) = lz (its.take j) ((ts.take j).map fun t => t.pt.items) ++ (c.pt.items ++ [its[j]]) := by
        rw [et, ek, List.map_append, List.map_cons, List.map_nil, lz_snoc _ _ _ _ (by simp; omega)]
      obtain ⟨rest, hrest⟩ : ∃ rest, rz (its.drop j) (((ts.map GT.pt).drop (j + 1)).map PT.items) = its[j] :: rest := by
        have e1 : its.drop j = its[j] :: its.drop (j + 1) := List.drop_eq_getElem_cons hlt
        have e2 : (ts.map GT.pt).drop (j + 1) = (ts.map GT.pt)[j + 1]'(by simp; omega) :: (ts.map GT.pt).drop (j + 1 + 1) := List.drop_eq_getElem_cons (by simp; omega)
        rw [e1, e2, List.map_cons, rz_cons]; exact ⟨_, rfl⟩
      rw [hrest, List.length_cons] at hsl
      unfold BTreeG_I_nodeItems.j4
      refine r_nil ?_
      refine r_fld ?_
      refine s.r_lz0 z1 (j := 3) rfl ?_
      refine r_nil ?_
      refine s.r_lz0 z3 (j := 0) rfl ?_
      refine wK.idx (n := j) rfl (by omega) ?_
      refine nodeItems_ok hm hi c (g.kid hcm) hfc (z5 c hcm) (by rw [List.length_append]; omega) (kidcell z4 hc s) wv s fun v2 b2 o2 sp2 h s2 s => ?_
      refine r_nil ?_
      refine r_fld ?_
      refine s.r_lz0 z1 (j := 2) rfl ?_
      refine w.idx (n := j) rfl hlt ?_
      refine s.r_loadFZ encl z2 hx ?_
      refine St.r_mkSl (sz := 2) (cs := enc its[j]) s (by ((simp only [fillV, fill1, Value.cells, zeros_succ, zeros_zero, List.size_toArray, List.length_cons, List.length_nil, List.length_append, List.take_succ_cons, List.take_zero, List.take_nil, List.drop_succ_cons, List.drop_zero, List.drop_nil, List.cons_append, List.nil_append, List.append_nil, Nat.reduceAdd, Nat.reduceMul, Nat.reduceLeDiff, Nat.reduceEqDiff, and_self, and_true, true_and, if_true, Nat.le_refl, Nat.zero_add, Nat.add_zero, Nat.zero_mul, reduceIte, if_false] <;> rfl))) rfl fun q h s w1 => ?_
      refine St.r_app s 1 (sz := 2) (n := 1) (new := enc its[j]) rfl s2 rfl (w1.rdl s 0 rfl) (enc1 _) (by simp only [List.length_append]; omega) (by simp only [List.length_append]; omega) fun v' b' o' sp' h s w' => ?_
      rw [snoc_enc] at s w'
      have e9 : (L ++ lz (its.take j) ((ts.take j).map fun t => t.pt.items) ++ c.pt.items) ++ [its[j]] = L ++ lz (its.take (j + 1)) ((ts.take (j + 1)).map fun t => t.pt.items) := by
        rw [ez]; simp
      have w' : Own 2 v' ((L ++ lz (its.take j) ((ts.take j).map fun t => t.pt.items) ++ c.pt.items) ++ [its[j]]).length b' o' (((L ++ lz (its.take j) ((ts.take j).map fun t => t.pt.items) ++ c.pt.items) ++ [its[j]]).flatMap enc) sp' := by rw [List.length_append]; exact w'
      rw [e9] at s w'
      unfold BTreeG_I_nodeItems.j5
      refine r_add (z := ((j + 1 : Nat) : Int)) (by rw [i64w (by omega) (by omega)]; omega) ?_
      exact HK (its.length - (j + 1)) _ _ (by omega) ⟨j + 1, v', b', o', sp', rfl, hlt, rfl, w', s.drop 1⟩
    · have hge : j = its.length := by simp at hge; omega
      subst hge
      have hr0 : rz (its.drop its.length) (((ts.map GT.pt).drop (its.length + 1)).map PT.items) = [] := by rw [List.drop_length]; rfl
      rw [hr0, List.append_nil] at hs
      unfold BTreeG_I_nodeItems.j2
      refine r_nil ?_
      refine r_fld ?_
      refine s.r_lz0 z1 (j := 3) rfl ?_
      refine r_nil ?_
      refine s.r_lz0 z3 (j := 0) rfl ?_
      refine r_nil ?_
      refine r_fld ?_
      refine s.r_lz0 z1 (j := 3) rfl ?_
      refine r_nil ?_
      refine s.r_lz0 z3 (j := 0) rfl ?_
      refine wK.lenV ?_
      refine r_sub (z := ((its.length : Nat) : Int)) (by rw [i64w (by omega) (by omega)]; omega) ?_
      refine wK.idx (n := its.length) rfl (by omega) ?_
      refine nodeItems_ok hm hi c (g.kid hcm) hfc (z5 c hcm) (by rw [List.length_append]; omega) (kidcell z4 hc s) wv s fun v2 b2 o2 sp2 h s2 s => ?_
      have e9 : L ++ lz (its.take its.length) ((ts.take its.length).map fun t => t.pt.items) ++ c.pt.items = L ++ PT.items (h := k + 1) (its, ts.map GT.pt) := by rw [hs]; simp
      rw [e9] at s s2
      exact H v2 b2 o2 sp2 h s2 s

theorem Items_ok {g : Rt} {tb m : Nat} {iso mn mx : Int} {ctr : Option Addr} (M : TreeOk lt m iso g) (hl : (rPt g).items.length ≤ 4294967295) (s : St h0 Z (((tb, 0, hdr iso ctr (rA g) (rPt g).items.length lf mn mx) :: rAll g) ++ E) h)
    (H : ∀ v b o sp h', Own 2 v (rPt g).items.length b o ((rPt g).items.flatMap enc) sp → St h0 Z ((b, o, (rPt g).items.flatMap enc ++ sp) :: (((tb, 0, hdr iso ctr (rA g) (rPt g).items.length lf mn mx) :: rAll g) ++ E)) h' → Q v h') :
    BTreeG_I_Items.call #[ptr tb 0] h Q := by
  refine BTreeG_I_Items.body _ _ _ ?_
  unfold BTreeG_I_Items.sh
  refine BTreeG_I_items.body _ _ _ _ ?_
  unfold BTreeG_I_items.sh
  refine lock_ok ?_
  refine r_if (fun e => absurd e (by simp)) (fun _ => ?_)
  unfold BTreeG_I_items.j1
  refine BTreeG_I_Len.body _ _ _ ?_
  unfold BTreeG_I_Len.sh
  have s : St h0 Z ((tb, 0, hdr iso ctr (rA g) (rPt g).items.length lf mn mx) :: (rAll g ++ E)) h := s
  refine r_nil ?_
  refine r_fld ?_
  refine St.r_load0 s 0 rfl rfl ?_
  refine s.r_mks (n := 0) (sz := 2) rfl (by omega) (by omega) (by omega) fun v b h s w => ?_
  rw [zeros_zero] at s w
  refine r_nil ?_
  refine r_fld ?_
  refine St.r_load0 s 1 rfl rfl ?_
  refine r_neNilP ?_
  cases g with
  | none =>
    refine r_if (fun e => absurd e (by simp [rA])) (fun _ => ?_)
    unfold BTreeG_I_items.j2
    exact H _ b 0 _ h w s
  | some t =>
    refine r_if (fun _ => ?_) (fun e => absurd e (by simp [rA]))
    refine r_nil ?_
    refine r_fld ?_
    have s0 : St h0 Z (((tb, 0, hdr iso ctr (rA (some t)) (rPt (some t)).items.length lf mn mx) :: rAll (some t)) ++ ((b, 0, ([] : List It).flatMap enc ++ zeros [.int .i64 0, .int .i64 0] ((rPt (some t)).items.length - 0)) :: E)) h := s.perm (by ((apply perm_rg; intro f; simp only [List.set_cons_zero, List.set_cons_succ, List.eraseIdx_cons_zero, List.eraseIdx_cons_succ, List.cons_append, List.nil_append, List.map_append, List.map_cons, List.map_nil, List.sum_append, List.sum_cons, List.sum_nil, List.map_flatMap, Nat.add_zero, Nat.zero_add]; ac_rfl)))
    obtain ⟨s1, back⟩ := s0.borrow
    refine nodeItems_ok M.m1 ⟨_, List.mem_cons_self .., rfl⟩ t.2 M.gd M.fl (fun r hr => List.mem_append.2 (.inl (List.mem_cons_of_mem _ hr))) (L := []) (by rw [List.length_nil, Nat.zero_add]; exact hl) (s1.clz (List.mem_cons_self ..) 2 rfl rfl) w s1 fun v' b' o' sp' h' w' s => ?_
    have s := back _ h' s
    unfold BTreeG_I_items.j2
    exact H v' b' o' sp' h' w' (s.perm (by ((apply perm_rg; intro f; simp only [List.set_cons_zero, List.set_cons_succ, List.eraseIdx_cons_zero, List.eraseIdx_cons_succ, List.cons_append, List.nil_append, List.map_append, List.map_cons, List.map_nil, List.sum_append, List.sum_cons, List.sum_nil, List.map_flatMap, Nat.add_zero, Nat.zero_add]; ac_rfl))))
end Go.Proofs.Ytgnnidefbeoibaa.Gi
end
section
namespace Go.Proofs.Ytgnnidefbeoibaa.Gi
open Go.Hp Go.Proofs.Ytgnnidefbeoibaa
set_option linter.unusedVariables false
set_option linter.unusedSimpArgs false
variable {h0 h : Heap} {Z E : List Rg} {Q : Value → Heap → Prop}
variable {lt : It → It → Bool} {lf : Value} {k m tb ti to : Nat} {iso : Int} {t : GT It k}
theorem isoLoad_ro {tr : Value} {pb po n : Nat} (hp : cl h pb po = some (ptr n 0)) (H : Q (ptr n 0) h) : BTreeG_I_isoLoad.call #[tr, ptr pb po, .bool false] h Q := by
  refine BTreeG_I_isoLoad.body _ _ _ _ _ ?_
  unfold BTreeG_I_isoLoad.sh
  refine r_br (fun e => absurd e (by decide)) (fun _ => ?_)
  unfold BTreeG_I_isoLoad.j1
  refine r_nil ?_
  exact r_ld hp H
theorem leaf_ok {n : Nat} {a : Option Addr} (hn : cl h n 3 = some (.pointer a)) (H : Q (.bool a.isNone) h) : node_I_leaf.call #[ptr n 0] h Q := by
  refine node_I_leaf.body _ _ _ ?_
  unfold node_I_leaf.sh
  have s := St.start h
  refine r_nil ?_
  refine r_fld ?_
  refine s.r_loadB hn ?_
  refine r_eqNilP ?_
  exact H
/-- The cells of an iterator. -/
def itC (tb : Nat) (sk as_ ae : Bool) (sv : Value) (x : It) : List Value := [ptr tb 0, .bool false, .bool false, .bool sk, .bool as_, .bool ae, .pointer none, .int .i64 0, .pointer none, .int .i64 0, .pointer none, .int .i64 0, .pointer none, .int .i64 0, sv] ++ enc x
/-- A node that nobody writes, as it should be. -/
def NdOk (iso : Int) (m : Nat) (Z : List Rg) (q : Nat) (c : GT It q) : Prop := Gd iso c ∧ c.pt.Fl m 1 ∧ ∀ r ∈ c.all enc, r ∈ Z
theorem NdOk.kid (m3 : 3 ≤ m) {q : Nat} {t : GT It (q + 1)} (N : NdOk iso m Z (q + 1) t) {c : GT It q} (hc : c ∈ t.2) : NdOk iso m Z q c := by
  obtain ⟨gd, fl, hz⟩ := N
  have f : PT.Fl m (m / 2) c.pt := fl.2.2.2 _ (List.mem_map.2 ⟨c, hc, rfl⟩)
  exact ⟨gd.kid hc, f.mono (by omega), (allZ_inner (d := t.1) (ts := t.2) hz).2.2.2.2 c hc⟩
theorem NdOk.up (m3 : 3 ≤ m) (N : NdOk iso m Z k t) {F : List (Nat × Int)} {q : Nat} {c : GT It q} {A B : List It} (u : Up t F q c A B) : NdOk iso m Z q c :=
  u.all (P := fun q c => NdOk iso m Z q c) N fun q t N c hc => N.kid m3 hc
theorem NdOk.len {q : Nat} {t : GT It (q + 1)} (N : NdOk iso m Z (q + 1) t) : t.2.length = t.1.its.length + 1 := N.1.wf.2.2.1
theorem NdOk.hl (m3 : 3 ≤ m) (N : NdOk iso m Z k t) (F : List (Nat × Int)) (q : Nat) (c : GT It (q + 1)) (A B : List It) (u : Up t F (q + 1) c A B) : c.2.length = c.1.its.length + 1 := (N.up m3 u).len
theorem NdOk.its : ∀ {q : Nat} {c : GT It q}, NdOk iso m Z q c → 1 ≤ c.nd.its.length ∧ c.nd.its.length ≤ m
  | 0, c, N => N.2.1
  | q + 1, c, N => ⟨N.2.1.1, N.2.1.2.1⟩
/-- Where a node's items lie. -/
theorem NdOk.node : ∀ {q : Nat} {c : GT It q}, NdOk iso m Z q c → ∃ iv ib io isp a1 a2 a4, (c.id, 0, [a1, a2, iv, a4]) ∈ Z ∧ (ib, io, c.nd.its.flatMap enc ++ isp) ∈ Z ∧ Own 2 iv c.nd.its.length ib io (c.nd.its.flatMap enc) isp
  | 0, (d : Nd It), N => by
    obtain ⟨z1, z2⟩ := allZ_leaf N.2.2
    exact ⟨_, _, _, _, _, _, _, z1, z2, N.1.wf.1⟩
  | q + 1, c, N => by
    obtain ⟨z1, z2, _⟩ := allZ_inner (d := c.1) (ts := c.2) N.2.2
    exact ⟨_, _, _, _, _, _, _, z1, z2, N.1.wf.1.1⟩
theorem Pl.spot (m3 : 3 ≤ m) (N : NdOk iso m Z k t) {F : List (Nat × Int)} {n : Nat} {y : It} (pl : Pl t F n y) : ∃ (F' : List (Nat × Int)) (q : Nat) (c : GT It q) (i : Nat), F = F' ++ [(c.id, (i : Int))] ∧ NdOk iso m Z q c ∧ c.nd.its[i]? = some y ∧ F'.length + q = k := by
  cases pl with
  | leaf u hy => exact ⟨_, 0, _, _, rfl, N.up m3 u, hy, u.len⟩
  | inner u hy hc => exact ⟨_, _, _, _, rfl, N.up m3 u, hy, u.len⟩
theorem First_tail {F : List (Nat × Int)} {n b o : Nat} {x y : It} {sk as_ ae : Bool} {sv : Value} {sp : List Value} (m3 : 3 ≤ m) (hk : k ≤ 4294967296) (N : NdOk iso m Z k t) (pl : Pl t F n y) (w : Own 2 sv F.length b o (F.flatMap frC) sp) (s : St h0 Z ((ti, to, itC tb sk as_ ae sv x) :: (b, o, F.flatMap frC ++ sp) :: E) h)
    (H : ∀ h', St h0 Z ((ti, to, itC tb sk as_ ae sv y) :: (b, o, F.flatMap frC ++ sp) :: E) h' → Q (.bool true) h') : IterG_I_First.j3 (ptr ti to) h Q := by
  obtain ⟨F', q, c, i, rfl, Nc, hy, hq⟩ := Pl.spot m3 N pl
  obtain ⟨iv, ib, io, isp, a1, a2, a4, z1, z2, wi⟩ := Nc.node
  have hi := (List.getElem?_eq_some_iff.1 hy).1
  have hl : (F' ++ [(c.id, (i : Int))]).length = F'.length + 1 := by rw [List.length_append]; rfl
  unfold IterG_I_First.j3
  refine r_nil (r_fld ?_)
  refine St.r_load1 s 0 (j := 14) rfl rfl ?_
  refine r_nil (r_fld ?_)
  refine St.r_load1 s 0 (j := 14) rfl rfl ?_
  refine w.lenV ?_
  refine r_sub1 (by omega) (by omega) ?_
  refine w.idx (n := F'.length) (by omega) (by omega) ?_
  refine r_nil (r_fld ?_)
  refine s.ldF0 1 rfl ?_
  refine r_nil (r_fld ?_)
  refine s.r_lz0 z1 (j := 2) rfl ?_
  refine r_nil (r_fld ?_)
  refine s.ldF1 1 rfl ?_
  refine wi.idx (n := i) rfl hi ?_
  refine s.r_loadFZ encl z2 hy ?_
  refine r_nil (r_fld ?_)
  refine St.r_storeN s 0 (j := 15) rfl (encl y) (by simp [itC]) (enc1 y) ?_; intro h s
  exact H h s
theorem First_left {q : Nat} {c : GT It q} {F : List (Nat × Int)} {A B : List It} {n b o : Nat} {x : It} {sk as_ ae : Bool} {sv : Value} {sp : List Value} (m3 : 3 ≤ m) (hk : k ≤ 4294967296) (N : NdOk iso m Z k t) (u : Up t F q c A B) (hn : A.length = n) (w : Own 2 sv F.length b o (F.flatMap frC) sp) (s : St h0 Z ((ti, to, itC tb sk as_ ae sv x) :: (b, o, (F).flatMap frC ++ sp) :: E) h)
    (H : ∀ F' y b' o' sp' sv' R h', Pl t F' n y → Own 2 sv' F'.length b' o' (F'.flatMap frC) sp' → St h0 Z ((ti, to, itC tb sk as_ ae sv' y) :: (b', o', (F').flatMap frC ++ sp') :: (R ++ E)) h' → Q (.bool true) h') : loopC (fun c s h K1 => IterG_I_First.l4.b (c.getD 0 undef) (s.getD 0 undef) h K1 Q) [ptr ti to] [ptr c.id 0] h := by
  refine loop_ghost (fun q st h' => ∃ (c : GT It q) (F : List (Nat × Int)) (A B : List It) (sv : Value) (b o : Nat) (sp : List Value) (R : List Rg), st = [ptr c.id 0] ∧ Up t F q c A B ∧ A.length = n ∧ Own 2 sv F.length b o (F.flatMap frC) sp ∧ St h0 Z ((ti, to, itC tb sk as_ ae sv x) :: (b, o, (F).flatMap frC ++ sp) :: (R ++ E)) h') (n0 := q) ⟨c, F, A, B, sv, b, o, sp, [], rfl, u, hn, w, s⟩ ?_
  clear s w hn u
  rintro q st h ⟨c, F, A, B, sv, b, o, sp, R, rfl, u, hn, w, s⟩ K HK
  have Nc := N.up m3 u
  have hFl := u.len
  unfold IterG_I_First.l4.b
  refine r_nil (r_fld ?_)
  refine St.r_load1 s 0 (j := 14) rfl rfl ?_
  refine r_build (cs := frC (c.id, (0 : Int))) (by ((simp only [fillV, fill1, Value.cells, zeros_succ, zeros_zero, List.size_toArray, List.length_cons, List.length_nil, List.length_append, List.take_succ_cons, List.take_zero, List.take_nil, List.drop_succ_cons, List.drop_zero, List.drop_nil, List.cons_append, List.nil_append, List.append_nil, Nat.reduceAdd, Nat.reduceMul, Nat.reduceLeDiff, Nat.reduceEqDiff, and_self, and_true, true_and, if_true, Nat.le_refl, Nat.zero_add, Nat.add_zero, Nat.zero_mul, reduceIte, if_false] <;> rfl))) ?_
  refine St.r_mkSl (sz := 2) (cs := frC (c.id, (0 : Int))) s (by ((simp only [fillV, fill1, Value.cells, zeros_succ, zeros_zero, List.size_toArray, List.length_cons, List.length_nil, List.length_append, List.take_succ_cons, List.take_zero, List.take_nil, List.drop_succ_cons, List.drop_zero, List.drop_nil, List.cons_append, List.nil_append, List.append_nil, Nat.reduceAdd, Nat.reduceMul, Nat.reduceLeDiff, Nat.reduceEqDiff, and_self, and_true, true_and, if_true, Nat.le_refl, Nat.zero_add, Nat.add_zero, Nat.zero_mul, reduceIte, if_false] <;> rfl))) rfl fun q5 h s wq => ?_
  refine s.r_appL (f := frC) (L := F) (M := [(c.id, (0 : Int))]) 2 rfl w rfl (by have := wq.rdl s 0 (by rw [List.append_nil]; rfl); simpa using this) (fun y _ => fc1 y) (by rw [List.length_singleton]; omega) (by rw [List.length_singleton]; omega) fun sv' b' o' sp' h s w' => ?_
  refine r_nil (r_fld ?_)
  refine St.r_store1 s 1 (j := 14) rfl (by simp [itC]) w'.one ?_; intro h s
  have s : St h0 Z ((q5, 0, frC (c.id, (0 : Int))) :: (ti, to, itC tb sk as_ ae sv' x) :: (b', o', (F ++ [(c.id, (0 : Int))]).flatMap frC ++ sp') :: (R ++ E)) h := s
  have s : St h0 Z ((ti, to, itC tb sk as_ ae sv' x) :: (b', o', (F ++ [(c.id, (0 : Int))]).flatMap frC ++ sp') :: (((q5, 0, frC (c.id, (0 : Int))) :: R) ++ E)) h := s.perm (by ((apply perm_rg; intro f; simp only [List.set_cons_zero, List.set_cons_succ, List.eraseIdx_cons_zero, List.eraseIdx_cons_succ, List.cons_append, List.nil_append, List.map_append, List.map_cons, List.map_nil, List.sum_append, List.sum_cons, List.sum_nil, List.map_flatMap, Nat.add_zero, Nat.zero_add]; ac_rfl)))
  cases q with
  | zero =>
    obtain ⟨z1, z2⟩ := allZ_leaf Nc.2.2
    have h1 := Nc.its.1
    refine leaf_ok (a := none) (s.clz z1 3 rfl rfl) ?_
    refine r_if (fun _ => ?_) (fun e => absurd e (by simp))
    have hy : c.nd.its[0]? = some (c.nd.its[0]'h1) := List.getElem?_eq_getElem _
    have pl : Pl t (F ++ [(c.id, (0 : Int))]) n (c.nd.its[0]'h1) := by
      have := Pl.leaf u hy
      rw [hn] at this; exact this
    exact First_tail m3 hk N pl w' s fun h' s' => H _ _ b' o' sp' sv' _ h' pl w' s'
  | succ q =>
    obtain ⟨z1, z2, z3, z4, z5⟩ := allZ_inner (d := c.1) (ts := c.2) Nc.2.2
    have wK : Own 1 c.1.kv c.2.length c.1.krb c.1.kro ((c.2.map GT.id).map fun m => ptr m 0) c.1.ksp := Nc.1.wf.2.1
    have hlen := Nc.len
    have hc : c.2[0]? = some (c.2[0]'(by omega)) := List.getElem?_eq_getElem _
    refine leaf_ok (a := some ⟨c.1.kb, 0, none⟩) (s.clz z1 3 rfl rfl) ?_
    refine r_if (fun e => absurd e (by simp)) (fun _ => ?_)
    unfold IterG_I_First.j5
    refine r_nil (r_fld ?_)
    refine St.r_load1 s 0 (j := 0) rfl rfl ?_
    refine r_nil (r_fld ?_)
    refine s.r_lz0 z1 (j := 3) rfl ?_
    refine r_nil ?_
    refine s.r_lz0 z3 (j := 0) rfl ?_
    refine wK.idx (n := 0) rfl (by omega) ?_
    refine r_nil (r_fld ?_)
    refine St.r_load1 s 0 (j := 1) rfl rfl ?_
    refine isoLoad_ro (kidcell z4 hc s) ?_
    exact HK q _ _ (Nat.lt_succ_self q) ⟨_, _, _, _, sv', b', o', sp', (q5, 0, frC (c.id, (0 : Int))) :: R, rfl, Up.down u hc, by rw [GT.lef0, List.append_nil]; exact hn, w', s⟩
theorem Last_tail {F : List (Nat × Int)} {n b o : Nat} {x y : It} {sk as_ ae : Bool} {sv : Value} {sp : List Value} (m3 : 3 ≤ m) (hk : k ≤ 4294967296) (N : NdOk iso m Z k t) (pl : Pl t F n y) (w : Own 2 sv F.length b o (F.flatMap frC) sp) (s : St h0 Z ((ti, to, itC tb sk as_ ae sv x) :: (b, o, F.flatMap frC ++ sp) :: E) h)
    (H : ∀ h', St h0 Z ((ti, to, itC tb sk as_ ae sv y) :: (b, o, F.flatMap frC ++ sp) :: E) h' → Q (.bool true) h') : IterG_I_Last.j3 (ptr ti to) h Q := by
  obtain ⟨F', q, c, i, rfl, Nc, hy, hq⟩ := Pl.spot m3 N pl
  obtain ⟨iv, ib, io, isp, a1, a2, a4, z1, z2, wi⟩ := Nc.node
  have hi := (List.getElem?_eq_some_iff.1 hy).1
  have hl : (F' ++ [(c.id, (i : Int))]).length = F'.length + 1 := by rw [List.length_append]; rfl
  unfold IterG_I_Last.j3
  refine r_nil (r_fld ?_)
  refine St.r_load1 s 0 (j := 14) rfl rfl ?_
  refine r_nil (r_fld ?_)
  refine St.r_load1 s 0 (j := 14) rfl rfl ?_
  refine w.lenV ?_
  refine r_sub1 (by omega) (by omega) ?_
  refine w.idx (n := F'.length) (by omega) (by omega) ?_
  refine r_nil (r_fld ?_)
  refine s.ldF0 1 rfl ?_
  refine r_nil (r_fld ?_)
  refine s.r_lz0 z1 (j := 2) rfl ?_
  refine r_nil (r_fld ?_)
  refine s.ldF1 1 rfl ?_
  refine wi.idx (n := i) rfl hi ?_
  refine s.r_loadFZ encl z2 hy ?_
  refine r_nil (r_fld ?_)
  refine St.r_storeN s 0 (j := 15) rfl (encl y) (by simp [itC]) (enc1 y) ?_; intro h s
  exact H h s
theorem Last_right {q : Nat} {c : GT It q} {F : List (Nat × Int)} {A B : List It} {n b o : Nat} {x : It} {sk as_ ae : Bool} {sv : Value} {sp : List Value} (m3 : 3 ≤ m) (hk : k ≤ 4294967296) (hm : m ≤ 1024) (N : NdOk iso m Z k t) (u : Up t F q c A B) (hn : A.length + c.pt.items.length = n + 1) (w : Own 2 sv F.length b o (F.flatMap frC) sp) (s : St h0 Z ((ti, to, itC tb sk as_ ae sv x) :: (b, o, (F).flatMap frC ++ sp) :: E) h)
    (H : ∀ F' y b' o' sp' sv' R h', Pl t F' n y → Own 2 sv' F'.length b' o' (F'.flatMap frC) sp' → St h0 Z ((ti, to, itC tb sk as_ ae sv' y) :: (b', o', (F').flatMap frC ++ sp') :: (R ++ E)) h' → Q (.bool true) h') : loopC (fun c s h K1 => IterG_I_Last.l4.b (c.getD 0 undef) (s.getD 0 undef) h K1 Q) [ptr ti to] [ptr c.id 0] h := by
  refine loop_ghost (fun q st h' => ∃ (c : GT It q) (F : List (Nat × Int)) (A B : List It) (sv : Value) (b o : Nat) (sp : List Value) (R : List Rg), st = [ptr c.id 0] ∧ Up t F q c A B ∧ A.length + c.pt.items.length = n + 1 ∧ Own 2 sv F.length b o (F.flatMap frC) sp ∧ St h0 Z ((ti, to, itC tb sk as_ ae sv x) :: (b, o, (F).flatMap frC ++ sp) :: (R ++ E)) h') (n0 := q) ⟨c, F, A, B, sv, b, o, sp, [], rfl, u, hn, w, s⟩ ?_
  clear s w hn u
  rintro q st h ⟨c, F, A, B, sv, b, o, sp, R, rfl, u, hn, w, s⟩ K HK
  have Nc := N.up m3 u
  have hFl := u.len
  obtain ⟨iv, ib, io, isp, a1, a2, a4, y1, y2, wi⟩ := Nc.node
  have hil := Nc.its
  unfold IterG_I_Last.l4.b
  refine r_nil (r_fld ?_)
  refine St.r_load1 s 0 (j := 14) rfl rfl ?_
  refine r_nil (r_fld ?_)
  refine s.r_lz0 y1 (j := 2) rfl ?_
  refine wi.lenV ?_
  refine r_build (cs := frC (c.id, (c.nd.its.length : Int))) (by ((simp only [fillV, fill1, Value.cells, zeros_succ, zeros_zero, List.size_toArray, List.length_cons, List.length_nil, List.length_append, List.take_succ_cons, List.take_zero, List.take_nil, List.drop_succ_cons, List.drop_zero, List.drop_nil, List.cons_append, List.nil_append, List.append_nil, Nat.reduceAdd, Nat.reduceMul, Nat.reduceLeDiff, Nat.reduceEqDiff, and_self, and_true, true_and, if_true, Nat.le_refl, Nat.zero_add, Nat.add_zero, Nat.zero_mul, reduceIte, if_false] <;> rfl))) ?_
  refine St.r_mkSl (sz := 2) (cs := frC (c.id, (c.nd.its.length : Int))) s (by ((simp only [fillV, fill1, Value.cells, zeros_succ, zeros_zero, List.size_toArray, List.length_cons, List.length_nil, List.length_append, List.take_succ_cons, List.take_zero, List.take_nil, List.drop_succ_cons, List.drop_zero, List.drop_nil, List.cons_append, List.nil_append, List.append_nil, Nat.reduceAdd, Nat.reduceMul, Nat.reduceLeDiff, Nat.reduceEqDiff, and_self, and_true, true_and, if_true, Nat.le_refl, Nat.zero_add, Nat.add_zero, Nat.zero_mul, reduceIte, if_false] <;> rfl))) rfl fun q5 h s wq => ?_
  refine ⟨St.r_still1 s 1 (j := 14) rfl rfl, ?_⟩
  refine s.r_appL (f := frC) (L := F) (M := [(c.id, (c.nd.its.length : Int))]) 2 rfl w rfl (by have := wq.rdl s 0 (by rw [List.append_nil]; rfl); simpa using this) (fun y _ => fc1 y) (by rw [List.length_singleton]; omega) (by rw [List.length_singleton]; omega) fun sv' b' o' sp' h s w' => ?_
  refine r_nil (r_fld ?_)
  refine St.r_store1 s 1 (j := 14) rfl (by simp [itC]) w'.one ?_; intro h s
  have s : St h0 Z ((q5, 0, frC (c.id, (c.nd.its.length : Int))) :: (ti, to, itC tb sk as_ ae sv' x) :: (b', o', (F ++ [(c.id, (c.nd.its.length : Int))]).flatMap frC ++ sp') :: (R ++ E)) h := s
  have s : St h0 Z ((ti, to, itC tb sk as_ ae sv' x) :: (b', o', (F ++ [(c.id, (c.nd.its.length : Int))]).flatMap frC ++ sp') :: (((q5, 0, frC (c.id, (c.nd.its.length : Int))) :: R) ++ E)) h := s.perm (by ((apply perm_rg; intro f; simp only [List.set_cons_zero, List.set_cons_succ, List.eraseIdx_cons_zero, List.eraseIdx_cons_succ, List.cons_append, List.nil_append, List.map_append, List.map_cons, List.map_nil, List.sum_append, List.sum_cons, List.sum_nil, List.map_flatMap, Nat.add_zero, Nat.zero_add]; ac_rfl)))
  have hl : (F ++ [(c.id, (c.nd.its.length : Int))]).length = F.length + 1 := by rw [List.length_append]; rfl
  cases q with
  | zero =>
    obtain ⟨z1, z2⟩ := allZ_leaf Nc.2.2
    refine leaf_ok (a := none) (s.clz z1 3 rfl rfl) ?_
    refine r_if (fun _ => ?_) (fun e => absurd e (by simp))
    refine r_nil (r_fld ?_)
    refine St.r_load1 s 0 (j := 14) rfl rfl ?_
    refine r_nil (r_fld ?_)
    refine St.r_load1 s 0 (j := 14) rfl rfl ?_
    refine w'.lenV ?_
    refine r_sub1 (by omega) (by omega) ?_
    refine w'.idx (n := F.length) (by omega) (by omega) ?_
    refine r_fld ?_
    refine s.ldF1 1 rfl ?_
    refine r_sub (z := ((c.nd.its.length - 1 : Nat) : Int)) (by rw [i64w (by omega) (by omega)]; omega) ?_
    refine w'.idx (n := F.length) (by omega) (by omega) ?_
    refine r_fld ?_
    refine s.stF1 1 rfl ?_; intro h s
    have hy : c.nd.its[c.nd.its.length - 1]? = some (c.nd.its[c.nd.its.length - 1]'(by omega)) := List.getElem?_eq_getElem _
    have pl : Pl t (F ++ [(c.id, ((c.nd.its.length - 1 : Nat) : Int))]) n (c.nd.its[c.nd.its.length - 1]'(by omega)) := by
      have := Pl.leaf u hy
      have e : A.length + (c.nd.its.length - 1) = n := by
        have : A.length + c.nd.its.length = n + 1 := hn
        omega
      rw [e] at this; exact this
    have w2 : Own 2 sv' (F ++ [(c.id, ((c.nd.its.length - 1 : Nat) : Int))]).length b' o' ((F ++ [(c.id, ((c.nd.its.length - 1 : Nat) : Int))]).flatMap frC) sp' := w'.list fcl (by rw [List.length_append, List.length_append]; rfl)
    exact Last_tail m3 hk N pl w2 s fun h' s' => H _ _ b' o' sp' sv' _ h' pl w2 s'
  | succ q =>
    obtain ⟨z1, z2, z3, z4, z5⟩ := allZ_inner (d := c.1) (ts := c.2) Nc.2.2
    have wK : Own 1 c.1.kv c.2.length c.1.krb c.1.kro ((c.2.map GT.id).map fun m => ptr m 0) c.1.ksp := Nc.1.wf.2.1
    have hlen := Nc.len
    have hc : c.2[c.1.its.length]? = some (c.2[c.1.its.length]'(by omega)) := List.getElem?_eq_getElem _
    refine leaf_ok (a := some ⟨c.1.kb, 0, none⟩) (s.clz z1 3 rfl rfl) ?_
    refine r_if (fun e => absurd e (by simp)) (fun _ => ?_)
    unfold IterG_I_Last.j5
    refine r_nil (r_fld ?_)
    refine St.r_load1 s 0 (j := 0) rfl rfl ?_
    refine r_nil (r_fld ?_)
    refine s.r_lz0 z1 (j := 3) rfl ?_
    refine r_nil ?_
    refine s.r_lz0 z3 (j := 0) rfl ?_
    refine r_nil (r_fld ?_)
    refine s.r_lz0 z1 (j := 2) rfl ?_
    have wi2 : Own 2 c.1.iv c.1.its.length c.1.ib c.1.io (c.1.its.flatMap enc) c.1.isp := Nc.1.wf.1.1
    refine wi2.lenV ?_
    refine wK.idx (n := c.1.its.length) rfl (by omega) ?_
    refine r_nil (r_fld ?_)
    refine St.r_load1 s 0 (j := 1) rfl rfl ?_
    refine isoLoad_ro (kidcell z4 hc s) ?_
    refine HK q _ _ (Nat.lt_succ_self q) ⟨_, _, _, _, sv', b', o', sp', (q5, 0, frC (c.id, (c.nd.its.length : Int))) :: R, rfl, Up.down u hc, ?_, w', s⟩
    have e1 := GT.round c hlen hc
    rw [GT.rigE c (Nat.le_refl _), List.append_nil] at e1
    rw [e1] at hn
    rw [List.length_append]
    rw [List.length_append] at hn
    omega
/-- Where an iterator may be: it has not been moved; it is off the items; it is at the n-th item. -/
inductive Pos where
  | new : Pos
  | off : Pos
  | at' : Nat → Pos
/-- The ranges of an iterator over the tree g whose head lies at tb. -/
def ItAt (g : Rt) (tb ti to : Nat) (ps : Pos) (A : List Rg) : Prop := ∃ (sk as_ ae : Bool) (sv : Value) (x : It) (b o : Nat) (F : List (Nat × Int)) (sp : List Value) (R : List Rg), Own 2 sv F.length b o (F.flatMap frC) sp ∧ A = (ti, to, itC tb sk as_ ae sv x) :: (b, o, (F).flatMap frC ++ sp) :: R ∧
  match ps with
  | .new => sk = false ∧ F = []
  | .off => sk = true ∧ F = []
  | .at' n => sk = true ∧ ∃ t, g = some t ∧ Pl t.2 F n x
theorem PT.tall {m : Nat} (hm : 3 ≤ m) : ∀ {k lo : Nat} {t : PT It k}, t.Fl m lo → 1 ≤ lo → k < t.items.length
  | 0, lo, t, f, hl => by have f : lo ≤ List.length (α := It) t := f.1; show 0 < List.length (α := It) t; omega
  | k + 1, lo, t, f, hl => by
    have h1 := f.1
    have h2 := f.2.2.1
    cases e : t.2 with
    | nil => rw [e] at h2; simp at h2
    | cons c r =>
      have hc := PT.tall hm (f.2.2.2 c (by rw [e]; simp)) (by omega)
      have h3 : (inter t.1 (t.2.map PT.items)).length = _ := inter_length _ _
      show k + 1 < (inter t.1 (t.2.map PT.items)).length
      rw [h3, e]
      simp only [List.map_cons, List.sum_cons]
      omega
/-- What an iterator's moves may count on of its tree. -/
structure ItT (lt : It → It → Bool) (lf : Value) (Z : List Rg) (g : Rt) (tb m : Nat) : Prop where
  hd : ∃ iso ctr cnt mn mx, (tb, 0, hdr iso ctr (rA g) cnt lf mn mx) ∈ Z
  nd : ∃ iso, ∀ t, g = some t → NdOk iso m Z t.1 t.2
  asc : Asc lt (rPt g).items
  swo : Swo lt
  ord : OrdC Z lf lt
  m3 : 3 ≤ m
  m1 : m ≤ 1024
  few : (rPt g).items.length ≤ 4294967296
theorem ItT.ne {g : Rt} (T : ItT lt lf Z g tb m) {t : (k : Nat) × GT It k} (e : g = some t) : 0 < (rPt g).items.length ∧ t.1 ≤ 4294967296 := by
  subst e
  obtain ⟨iso, hn⟩ := T.nd
  have hk : t.1 < t.2.pt.items.length := PT.tall T.m3 (hn t rfl).2.1 (Nat.le_refl 1)
  have hf : t.2.pt.items.length ≤ 4294967296 := T.few
  exact ⟨by show 0 < t.2.pt.items.length; omega, by omega⟩
theorem ItAt.some_at {g : Rt} {n : Nat} {A : List Rg} (T : ItT lt lf Z g tb m) (I : ItAt g tb ti to (.at' n) A) : n < (rPt g).items.length := by
  obtain ⟨sk, as_, ae, sv, x, b, o, F, sp, R, w, rfl, hs, t, rfl, pl⟩ := I
  obtain ⟨iso, hn⟩ := T.nd
  have h := pl.at ((hn t rfl).hl T.m3)
  exact (List.getElem?_eq_some_iff.1 h).1
theorem First_ok {g : Rt} {ps : Pos} {A : List Rg} (T : ItT lt lf Z g tb m) (I : ItAt g tb ti to ps A) (s : St h0 Z (A ++ E) h)
    (H0 : (rPt g).items = [] → ∀ A' h', ItAt g tb ti to .off A' → St h0 Z (A' ++ E) h' → Q (.bool false) h')
    (H1 : 0 < (rPt g).items.length → ∀ A' h', ItAt g tb ti to (.at' 0) A' → St h0 Z (A' ++ E) h' → Q (.bool true) h') : IterG_I_First.call #[ptr ti to] h Q := by
  obtain ⟨sk, as_, ae, sv, x, b, o, F, sp, R, w, rfl, -⟩ := I
  obtain ⟨iso, ctr, cnt, mn, mx, hT⟩ := T.hd
  have s : St h0 Z ((ti, to, itC tb sk as_ ae sv x) :: (b, o, (F).flatMap frC ++ sp) :: (R ++ E)) h := s
  refine IterG_I_First.body _ _ _ ?_
  unfold IterG_I_First.sh
  refine r_nil (r_fld ?_)
  refine St.r_load1 s 0 (j := 0) rfl rfl ?_
  refine ⟨_, rfl, ?_⟩
  refine r_if (fun e => absurd e (by simp)) (fun _ => ?_)
  unfold IterG_I_First.j1
  refine r_nil (r_fld ?_)
  refine St.r_store1 s 0 (j := 5) rfl (by simp [itC]) rfl ?_; intro h s
  refine r_nil (r_fld ?_)
  refine St.r_store1 s 0 (j := 4) rfl (by simp [itC]) rfl ?_; intro h s
  refine r_nil (r_fld ?_)
  refine St.r_store1 s 0 (j := 3) rfl (by simp [itC]) rfl ?_; intro h s
  refine r_nil (r_fld ?_)
  refine St.r_load1 s 0 (j := 14) rfl rfl ?_
  refine w.slcHi fcl (i := 0) rfl (Nat.zero_le _) fun sv' w' => ?_
  rw [List.take_zero, List.drop_zero] at w'
  refine r_nil (r_fld ?_)
  refine St.r_store1 s 0 (j := 14) rfl (by simp [itC]) w'.one ?_; intro h s
  have s : St h0 Z ((ti, to, itC tb true false false sv' x) :: (b, o, ([]).flatMap frC ++ (F.flatMap frC ++ sp)) :: (R ++ E)) h := s
  refine r_nil (r_fld ?_)
  refine St.r_load1 s 0 (j := 0) rfl rfl ?_
  refine r_nil (r_fld ?_)
  refine s.r_lz0 hT (j := 2) rfl ?_
  refine ⟨_, rfl, ?_⟩
  cases g with
  | none =>
    refine r_if (fun _ => ?_) (fun e => absurd e (by simp [rA]))
    refine H0 rfl _ h ⟨true, false, false, sv', x, b, o, [], F.flatMap frC ++ sp, R, w', rfl, rfl, rfl⟩ ?_
    exact s
  | some t =>
    obtain ⟨hne, hk⟩ := T.ne rfl
    obtain ⟨iso', hn⟩ := T.nd
    have N := hn t rfl
    refine r_if (fun e => absurd e (by simp [rA])) (fun _ => ?_)
    unfold IterG_I_First.j2
    refine r_nil (r_fld ?_)
    refine St.r_load1 s 0 (j := 0) rfl rfl ?_
    refine r_nil (r_fld ?_)
    refine St.r_load1 s 0 (j := 0) rfl rfl ?_
    refine r_nil (r_fld ?_)
    refine r_nil (r_fld ?_)
    refine St.r_load1 s 0 (j := 1) rfl rfl ?_
    refine isoLoad_ro (n := t.2.id) (s.clz hT 2 rfl rfl) ?_
    refine First_left (sk := true) (as_ := false) (ae := false) (E := R ++ E) T.m3 hk N Up.top rfl w' s fun F' y b' o' sp' sv2 R' h' pl w2 s2 => ?_
    refine H1 hne _ h' ⟨true, false, false, sv2, y, b', o', F', sp', R' ++ R, w2, rfl, rfl, t, rfl, pl⟩ (s2.perm (by
      show List.Perm ((ti, to, itC tb true false false sv2 y) :: (b', o', (F').flatMap frC ++ sp') :: ((R' ++ R) ++ E)) ((ti, to, itC tb true false false sv2 y) :: (b', o', (F').flatMap frC ++ sp') :: (R' ++ (R ++ E)))
      ((apply perm_rg; intro f; simp only [List.set_cons_zero, List.set_cons_succ, List.eraseIdx_cons_zero, List.eraseIdx_cons_succ, List.cons_append, List.nil_append, List.map_append, List.map_cons, List.map_nil, List.sum_append, List.sum_cons, List.sum_nil, List.map_flatMap, Nat.add_zero, Nat.zero_add]; ac_rfl))))
theorem Last_ok {g : Rt} {ps : Pos} {A : List Rg} (T : ItT lt lf Z g tb m) (I : ItAt g tb ti to ps A) (s : St h0 Z (A ++ E) h)
    (H0 : (rPt g).items = [] → ∀ A' h', ItAt g tb ti to .off A' → St h0 Z (A' ++ E) h' → Q (.bool false) h')
    (H1 : 0 < (rPt g).items.length → ∀ A' h', ItAt g tb ti to (.at' ((rPt g).items.length - 1)) A' → St h0 Z (A' ++ E) h' → Q (.bool true) h') : IterG_I_Last.call #[ptr ti to] h Q := by
  obtain ⟨sk, as_, ae, sv, x, b, o, F, sp, R, w, rfl, -⟩ := I
  obtain ⟨iso, ctr, cnt, mn, mx, hT⟩ := T.hd
  have s : St h0 Z ((ti, to, itC tb sk as_ ae sv x) :: (b, o, (F).flatMap frC ++ sp) :: (R ++ E)) h := s
  refine IterG_I_Last.body _ _ _ ?_
  unfold IterG_I_Last.sh
  refine r_nil (r_fld ?_)
  refine St.r_load1 s 0 (j := 0) rfl rfl ?_
  refine ⟨_, rfl, ?_⟩
  refine r_if (fun e => absurd e (by simp)) (fun _ => ?_)
  unfold IterG_I_Last.j1
  refine r_nil (r_fld ?_)
  refine St.r_store1 s 0 (j := 3) rfl (by simp [itC]) rfl ?_; intro h s
  refine r_nil (r_fld ?_)
  refine St.r_load1 s 0 (j := 14) rfl rfl ?_
  refine w.slcHi fcl (i := 0) rfl (Nat.zero_le _) fun sv' w' => ?_
  rw [List.take_zero, List.drop_zero] at w'
  refine r_nil (r_fld ?_)
  refine St.r_store1 s 0 (j := 14) rfl (by simp [itC]) w'.one ?_; intro h s
  have s : St h0 Z ((ti, to, itC tb true as_ ae sv' x) :: (b, o, ([]).flatMap frC ++ (F.flatMap frC ++ sp)) :: (R ++ E)) h := s
  refine r_nil (r_fld ?_)
  refine St.r_load1 s 0 (j := 0) rfl rfl ?_
  refine r_nil (r_fld ?_)
  refine s.r_lz0 hT (j := 2) rfl ?_
  refine ⟨_, rfl, ?_⟩
  cases g with
  | none =>
    refine r_if (fun _ => ?_) (fun e => absurd e (by simp [rA]))
    refine H0 rfl _ h ⟨true, as_, ae, sv', x, b, o, [], F.flatMap frC ++ sp, R, w', rfl, rfl, rfl⟩ ?_
    exact s
  | some t =>
    obtain ⟨hne, hk⟩ := T.ne rfl
    obtain ⟨iso', hn⟩ := T.nd
    have N := hn t rfl
    refine r_if (fun e => absurd e (by simp [rA])) (fun _ => ?_)
    unfold IterG_I_Last.j2
    refine r_nil (r_fld ?_)
    refine St.r_load1 s 0 (j := 0) rfl rfl ?_
    refine r_nil (r_fld ?_)
    refine St.r_load1 s 0 (j := 0) rfl rfl ?_
    refine r_nil (r_fld ?_)
    refine r_nil (r_fld ?_)
    refine St.r_load1 s 0 (j := 1) rfl rfl ?_
    refine isoLoad_ro (n := t.2.id) (s.clz hT 2 rfl rfl) ?_
    refine Last_right (sk := true) (as_ := as_) (ae := ae) (E := R ++ E) T.m3 hk T.m1 N Up.top (by have : 0 < t.2.pt.items.length := hne; show 0 + t.2.pt.items.length = (t.2.pt.items.length - 1) + 1; omega) w' s fun F' y b' o' sp' sv2 R' h' pl w2 s2 => ?_
    refine H1 hne _ h' ⟨true, as_, ae, sv2, y, b', o', F', sp', R' ++ R, w2, rfl, rfl, t, rfl, pl⟩ (s2.perm (by
      show List.Perm ((ti, to, itC tb true as_ ae sv2 y) :: (b', o', (F').flatMap frC ++ sp') :: ((R' ++ R) ++ E)) ((ti, to, itC tb true as_ ae sv2 y) :: (b', o', (F').flatMap frC ++ sp') :: (R' ++ (R ++ E)))
      ((apply perm_rg; intro f; simp only [List.set_cons_zero, List.set_cons_succ, List.eraseIdx_cons_zero, List.eraseIdx_cons_succ, List.cons_append, List.nil_append, List.map_append, List.map_cons, List.map_nil, List.sum_append, List.sum_cons, List.sum_nil, List.map_flatMap, Nat.add_zero, Nat.zero_add]; ac_rfl))))
end Go.Proofs.Ytgnnidefbeoibaa.Gi
end
section
namespace Go.Proofs.Ytgnnidefbeoibaa.Gi
open Go.Hp Go.Proofs.Ytgnnidefbeoibaa
set_option linter.unusedVariables false
set_option linter.unusedSimpArgs false
variable {h0 h : Heap} {Z E : List Rg} {Q : Value → Heap → Prop}
variable {lt : It → It → Bool} {lf : Value} {k m tb ti to : Nat} {iso : Int} {t : GT It k}
theorem Next_tail {F : List (Nat × Int)} {n b o : Nat} {x y : It} {sk as_ ae : Bool} {sv : Value} {sp : List Value} (m3 : 3 ≤ m) (hk : k ≤ 4294967296) (N : NdOk iso m Z k t) (pl : Pl t F n y) (w : Own 2 sv F.length b o (F.flatMap frC) sp) (s : St h0 Z ((ti, to, itC tb sk as_ ae sv x) :: (b, o, F.flatMap frC ++ sp) :: E) h)
    (H : ∀ h', St h0 Z ((ti, to, itC tb sk as_ ae sv y) :: (b, o, F.flatMap frC ++ sp) :: E) h' → Q (.bool true) h') : IterG_I_Next.j4 (ptr ti to) h Q := by
  obtain ⟨F', q, c, i, rfl, Nc, hy, hq⟩ := Pl.spot m3 N pl
  obtain ⟨iv, ib, io, isp, a1, a2, a4, z1, z2, wi⟩ := Nc.node
  have hi := (List.getElem?_eq_some_iff.1 hy).1
  have hl : (F' ++ [(c.id, (i : Int))]).length = F'.length + 1 := by rw [List.length_append]; rfl
  unfold IterG_I_Next.j4
  refine r_nil (r_fld ?_)
  refine St.r_load1 s 0 (j := 14) rfl rfl ?_
  refine r_nil (r_fld ?_)
  refine St.r_load1 s 0 (j := 14) rfl rfl ?_
  refine w.lenV ?_
  refine r_sub1 (by omega) (by omega) ?_
  refine w.idx (n := F'.length) (by omega) (by omega) ?_
  refine r_nil (r_fld ?_)
  refine s.ldF0 1 rfl ?_
  refine r_nil (r_fld ?_)
  refine s.r_lz0 z1 (j := 2) rfl ?_
  refine r_nil (r_fld ?_)
  refine s.ldF1 1 rfl ?_
  refine wi.idx (n := i) rfl hi ?_
  refine s.r_loadFZ encl z2 hy ?_
  refine r_nil (r_fld ?_)
  refine St.r_storeN s 0 (j := 15) rfl (encl y) (by simp [itC]) (enc1 y) ?_; intro h s
  exact H h s
theorem Next_left {q : Nat} {c : GT It q} {F : List (Nat × Int)} {A B : List It} {n b o : Nat} {x : It} {sk as_ ae : Bool} {sv : Value} {sp : List Value} (m3 : 3 ≤ m) (hk : k ≤ 4294967296) (N : NdOk iso m Z k t) (u : Up t F q c A B) (hn : A.length = n) (w : Own 2 sv F.length b o (F.flatMap frC) sp) (s : St h0 Z ((ti, to, itC tb sk as_ ae sv x) :: (b, o, (F).flatMap frC ++ sp) :: E) h)
    (H : ∀ F' y b' o' sp' sv' R h', Pl t F' n y → Own 2 sv' F'.length b' o' (F'.flatMap frC) sp' → St h0 Z ((ti, to, itC tb sk as_ ae sv' y) :: (b', o', (F').flatMap frC ++ sp') :: (R ++ E)) h' → Q (.bool true) h') : loopC (fun c s h K1 => IterG_I_Next.l7.b (c.getD 0 undef) (s.getD 0 undef) h K1 Q) [ptr ti to] [ptr c.id 0] h := by
  refine loop_ghost (fun q st h' => ∃ (c : GT It q) (F : List (Nat × Int)) (A B : List It) (sv : Value) (b o : Nat) (sp : List Value) (R : List Rg), st = [ptr c.id 0] ∧ Up t F q c A B ∧ A.length = n ∧ Own 2 sv F.length b o (F.flatMap frC) sp ∧ St h0 Z ((ti, to, itC tb sk as_ ae sv x) :: (b, o, (F).flatMap frC ++ sp) :: (R ++ E)) h') (n0 := q) ⟨c, F, A, B, sv, b, o, sp, [], rfl, u, hn, w, s⟩ ?_
  clear s w hn u
  rintro q st h ⟨c, F, A, B, sv, b, o, sp, R, rfl, u, hn, w, s⟩ K HK
  have Nc := N.up m3 u
  have hFl := u.len
  unfold IterG_I_Next.l7.b
  refine r_nil (r_fld ?_)
  refine St.r_load1 s 0 (j := 14) rfl rfl ?_
  refine r_build (cs := frC (c.id, (0 : Int))) (by ((simp only [fillV, fill1, Value.cells, zeros_succ, zeros_zero, List.size_toArray, List.length_cons, List.length_nil, List.length_append, List.take_succ_cons, List.take_zero, List.take_nil, List.drop_succ_cons, List.drop_zero, List.drop_nil, List.cons_append, List.nil_append, List.append_nil, Nat.reduceAdd, Nat.reduceMul, Nat.reduceLeDiff, Nat.reduceEqDiff, and_self, and_true, true_and, if_true, Nat.le_refl, Nat.zero_add, Nat.add_zero, Nat.zero_mul, reduceIte, if_false] <;> rfl))) ?_
  refine St.r_mkSl (sz := 2) (cs := frC (c.id, (0 : Int))) s (by ((simp only [fillV, fill1, Value.cells, zeros_succ, zeros_zero, List.size_toArray, List.length_cons, List.length_nil, List.length_append, List.take_succ_cons, List.take_zero, List.take_nil, List.drop_succ_cons, List.drop_zero, List.drop_nil, List.cons_append, List.nil_append, List.append_nil, Nat.reduceAdd, Nat.reduceMul, Nat.reduceLeDiff, Nat.reduceEqDiff, and_self, and_true, true_and, if_true, Nat.le_refl, Nat.zero_add, Nat.add_zero, Nat.zero_mul, reduceIte, if_false] <;> rfl))) rfl fun q5 h s wq => ?_
  refine s.r_appL (f := frC) (L := F) (M := [(c.id, (0 : Int))]) 2 rfl w rfl (by have := wq.rdl s 0 (by rw [List.append_nil]; rfl); simpa using this) (fun y _ => fc1 y) (by rw [List.length_singleton]; omega) (by rw [List.length_singleton]; omega) fun sv' b' o' sp' h s w' => ?_
  refine r_nil (r_fld ?_)
  refine St.r_store1 s 1 (j := 14) rfl (by simp [itC]) w'.one ?_; intro h s
  have s : St h0 Z ((q5, 0, frC (c.id, (0 : Int))) :: (ti, to, itC tb sk as_ ae sv' x) :: (b', o', (F ++ [(c.id, (0 : Int))]).flatMap frC ++ sp') :: (R ++ E)) h := s
  have s : St h0 Z ((ti, to, itC tb sk as_ ae sv' x) :: (b', o', (F ++ [(c.id, (0 : Int))]).flatMap frC ++ sp') :: (((q5, 0, frC (c.id, (0 : Int))) :: R) ++ E)) h := s.perm (by ((apply perm_rg; intro f; simp only [List.set_cons_zero, List.set_cons_succ, List.eraseIdx_cons_zero, List.eraseIdx_cons_succ, List.cons_append, List.nil_append, List.map_append, List.map_cons, List.map_nil, List.sum_append, List.sum_cons, List.sum_nil, List.map_flatMap, Nat.add_zero, Nat.zero_add]; ac_rfl)))
  cases q with
  | zero =>
    obtain ⟨z1, z2⟩ := allZ_leaf Nc.2.2
    have h1 := Nc.its.1
    refine leaf_ok (a := none) (s.clz z1 3 rfl rfl) ?_
    refine r_if (fun _ => ?_) (fun e => absurd e (by simp))
    have hy : c.nd.its[0]? = some (c.nd.its[0]'h1) := List.getElem?_eq_getElem _
    have pl : Pl t (F ++ [(c.id, (0 : Int))]) n (c.nd.its[0]'h1) := by
      have := Pl.leaf u hy
      rw [hn] at this; exact this
    exact Next_tail m3 hk N pl w' s fun h' s' => H _ _ b' o' sp' sv' _ h' pl w' s'
  | succ q =>
    obtain ⟨z1, z2, z3, z4, z5⟩ := allZ_inner (d := c.1) (ts := c.2) Nc.2.2
    have wK : Own 1 c.1.kv c.2.length c.1.krb c.1.kro ((c.2.map GT.id).map fun m => ptr m 0) c.1.ksp := Nc.1.wf.2.1
    have hlen := Nc.len
    have hc : c.2[0]? = some (c.2[0]'(by omega)) := List.getElem?_eq_getElem _
    refine leaf_ok (a := some ⟨c.1.kb, 0, none⟩) (s.clz z1 3 rfl rfl) ?_
    refine r_if (fun e => absurd e (by simp)) (fun _ => ?_)
    unfold IterG_I_Next.j8
    refine r_nil (r_fld ?_)
    refine St.r_load1 s 0 (j := 0) rfl rfl ?_
    refine r_nil (r_fld ?_)
    refine s.r_lz0 z1 (j := 3) rfl ?_
    refine r_nil ?_
    refine s.r_lz0 z3 (j := 0) rfl ?_
    refine wK.idx (n := 0) rfl (by omega) ?_
    refine r_nil (r_fld ?_)
    refine St.r_load1 s 0 (j := 1) rfl rfl ?_
    refine isoLoad_ro (kidcell z4 hc s) ?_
    exact HK q _ _ (Nat.lt_succ_self q) ⟨_, _, _, _, sv', b', o', sp', (q5, 0, frC (c.id, (0 : Int))) :: R, rfl, Up.down u hc, by rw [GT.lef0, List.append_nil]; exact hn, w', s⟩
theorem Prev_tail {F : List (Nat × Int)} {n b o : Nat} {x y : It} {sk as_ ae : Bool} {sv : Value} {sp : List Value} (m3 : 3 ≤ m) (hk : k ≤ 4294967296) (N : NdOk iso m Z k t) (pl : Pl t F n y) (w : Own 2 sv F.length b o (F.flatMap frC) sp) (s : St h0 Z ((ti, to, itC tb sk as_ ae sv x) :: (b, o, F.flatMap frC ++ sp) :: E) h)
    (H : ∀ h', St h0 Z ((ti, to, itC tb sk as_ ae sv y) :: (b, o, F.flatMap frC ++ sp) :: E) h' → Q (.bool true) h') : IterG_I_Prev.j4 (ptr ti to) h Q := by
  obtain ⟨F', q, c, i, rfl, Nc, hy, hq⟩ := Pl.spot m3 N pl
  obtain ⟨iv, ib, io, isp, a1, a2, a4, z1, z2, wi⟩ := Nc.node
  have hi := (List.getElem?_eq_some_iff.1 hy).1
  have hl : (F' ++ [(c.id, (i : Int))]).length = F'.length + 1 := by rw [List.length_append]; rfl
  unfold IterG_I_Prev.j4
  refine r_nil (r_fld ?_)
  refine St.r_load1 s 0 (j := 14) rfl rfl ?_
  refine r_nil (r_fld ?_)
  refine St.r_load1 s 0 (j := 14) rfl rfl ?_
  refine w.lenV ?_
  refine r_sub1 (by omega) (by omega) ?_
  refine w.idx (n := F'.length) (by omega) (by omega) ?_
  refine r_nil (r_fld ?_)
  refine s.ldF0 1 rfl ?_
  refine r_nil (r_fld ?_)
  refine s.r_lz0 z1 (j := 2) rfl ?_
  refine r_nil (r_fld ?_)
  refine s.ldF1 1 rfl ?_
  refine wi.idx (n := i) rfl hi ?_
  refine s.r_loadFZ encl z2 hy ?_
  refine r_nil (r_fld ?_)
  refine St.r_storeN s 0 (j := 15) rfl (encl y) (by simp [itC]) (enc1 y) ?_; intro h s
  exact H h s
theorem Prev_right {q : Nat} {c : GT It q} {F : List (Nat × Int)} {A B : List It} {n b o : Nat} {x : It} {sk as_ ae : Bool} {sv : Value} {sp : List Value} (m3 : 3 ≤ m) (hk : k ≤ 4294967296) (hm : m ≤ 1024) (N : NdOk iso m Z k t) (u : Up t F q c A B) (hn : A.length + c.pt.items.length = n + 1) (w : Own 2 sv F.length b o (F.flatMap frC) sp) (s : St h0 Z ((ti, to, itC tb sk as_ ae sv x) :: (b, o, (F).flatMap frC ++ sp) :: E) h)
    (H : ∀ F' y b' o' sp' sv' R h', Pl t F' n y → Own 2 sv' F'.length b' o' (F'.flatMap frC) sp' → St h0 Z ((ti, to, itC tb sk as_ ae sv' y) :: (b', o', (F').flatMap frC ++ sp') :: (R ++ E)) h' → Q (.bool true) h') : loopC (fun c s h K1 => IterG_I_Prev.l7.b (c.getD 0 undef) (s.getD 0 undef) h K1 Q) [ptr ti to] [ptr c.id 0] h := by
  refine loop_ghost (fun q st h' => ∃ (c : GT It q) (F : List (Nat × Int)) (A B : List It) (sv : Value) (b o : Nat) (sp : List Value) (R : List Rg), st = [ptr c.id 0] ∧ Up t F q c A B ∧ A.length + c.pt.items.length = n + 1 ∧ Own 2 sv F.length b o (F.flatMap frC) sp ∧ St h0 Z ((ti, to, itC tb sk as_ ae sv x) :: (b, o, (F).flatMap frC ++ sp) :: (R ++ E)) h') (n0 := q) ⟨c, F, A, B, sv, b, o, sp, [], rfl, u, hn, w, s⟩ ?_
  clear s w hn u
  rintro q st h ⟨c, F, A, B, sv, b, o, sp, R, rfl, u, hn, w, s⟩ K HK
  have Nc := N.up m3 u
  have hFl := u.len
  obtain ⟨iv, ib, io, isp, a1, a2, a4, y1, y2, wi⟩ := Nc.node
  have hil := Nc.its
  unfold IterG_I_Prev.l7.b
  refine r_nil (r_fld ?_)
  refine St.r_load1 s 0 (j := 14) rfl rfl ?_
  refine r_nil (r_fld ?_)
  refine s.r_lz0 y1 (j := 2) rfl ?_
  refine wi.lenV ?_
  refine r_build (cs := frC (c.id, (c.nd.its.length : Int))) (by ((simp only [fillV, fill1, Value.cells, zeros_succ, zeros_zero, List.size_toArray, List.length_cons, List.length_nil, List.length_append, List.take_succ_cons, List.take_zero, List.take_nil, List.drop_succ_cons, List.drop_zero, List.drop_nil, List.cons_append, List.nil_append, List.append_nil, Nat.reduceAdd, Nat.reduceMul, Nat.reduceLeDiff, Nat.reduceEqDiff, and_self, and_true, true_and, if_true, Nat.le_refl, Nat.zero_add, Nat.add_zero, Nat.zero_mul, reduceIte, if_false] <;> rfl))) ?_
  refine St.r_mkSl (sz := 2) (cs := frC (c.id, (c.nd.its.length : Int))) s (by ((simp only [fillV, fill1, Value.cells, zeros_succ, zeros_zero, List.size_toArray, List.length_cons, List.length_nil, List.length_append, List.take_succ_cons, List.take_zero, List.take_nil, List.drop_succ_cons, List.drop_zero, List.drop_nil, List.cons_append, List.nil_append, List.append_nil, Nat.reduceAdd, Nat.reduceMul, Nat.reduceLeDiff, Nat.reduceEqDiff, and_self, and_true, true_and, if_true, Nat.le_refl, Nat.zero_add, Nat.add_zero, Nat.zero_mul, reduceIte, if_false] <;> rfl))) rfl fun q5 h s wq => ?_
  refine ⟨St.r_still1 s 1 (j := 14) rfl rfl, ?_⟩
  refine s.r_appL (f := frC) (L := F) (M := [(c.id, (c.nd.its.length : Int))]) 2 rfl w rfl (by have := wq.rdl s 0 (by rw [List.append_nil]; rfl); simpa using this) (fun y _ => fc1 y) (by rw [List.length_singleton]; omega) (by rw [List.length_singleton]; omega) fun sv' b' o' sp' h s w' => ?_
  refine r_nil (r_fld ?_)
  refine St.r_store1 s 1 (j := 14) rfl (by simp [itC]) w'.one ?_; intro h s
  have s : St h0 Z ((q5, 0, frC (c.id, (c.nd.its.length : Int))) :: (ti, to, itC tb sk as_ ae sv' x) :: (b', o', (F ++ [(c.id, (c.nd.its.length : Int))]).flatMap frC ++ sp') :: (R ++ E)) h := s
  have s : St h0 Z ((ti, to, itC tb sk as_ ae sv' x) :: (b', o', (F ++ [(c.id, (c.nd.its.length : Int))]).flatMap frC ++ sp') :: (((q5, 0, frC (c.id, (c.nd.its.length : Int))) :: R) ++ E)) h := s.perm (by ((apply perm_rg; intro f; simp only [List.set_cons_zero, List.set_cons_succ, List.eraseIdx_cons_zero, List.eraseIdx_cons_succ, List.cons_append, List.nil_append, List.map_append, List.map_cons, List.map_nil, List.sum_append, List.sum_cons, List.sum_nil, List.map_flatMap, Nat.add_zero, Nat.zero_add]; ac_rfl)))
  have hl : (F ++ [(c.id, (c.nd.its.length : Int))]).length = F.length + 1 := by rw [List.length_append]; rfl
  cases q with
  | zero =>
    obtain ⟨z1, z2⟩ := allZ_leaf Nc.2.2
    refine leaf_ok (a := none) (s.clz z1 3 rfl rfl) ?_
    refine r_if (fun _ => ?_) (fun e => absurd e (by simp))
    refine r_nil (r_fld ?_)
    refine St.r_load1 s 0 (j := 14) rfl rfl ?_
    refine r_nil (r_fld ?_)
    refine St.r_load1 s 0 (j := 14) rfl rfl ?_
    refine w'.lenV ?_
    refine r_sub1 (by omega) (by omega) ?_
    refine w'.idx (n := F.length) (by omega) (by omega) ?_
    refine r_fld ?_
    refine s.ldF1 1 rfl ?_
    refine r_sub (z := ((c.nd.its.length - 1 : Nat) : Int)) (by rw [i64w (by omega) (by omega)]; omega) ?_
    refine w'.idx (n := F.length) (by omega) (by omega) ?_
    refine r_fld ?_
    refine s.stF1 1 rfl ?_; intro h s
    have hy : c.nd.its[c.nd.its.length - 1]? = some (c.nd.its[c.nd.its.length - 1]'(by omega)) := List.getElem?_eq_getElem _
    have pl : Pl t (F ++ [(c.id, ((c.nd.its.length - 1 : Nat) : Int))]) n (c.nd.its[c.nd.its.length - 1]'(by omega)) := by
      have := Pl.leaf u hy
      have e : A.length + (c.nd.its.length - 1) = n := by
        have : A.length + c.nd.its.length = n + 1 := hn
        omega
      rw [e] at this; exact this
    have w2 : Own 2 sv' (F ++ [(c.id, ((c.nd.its.length - 1 : Nat) : Int))]).length b' o' ((F ++ [(c.id, ((c.nd.its.length - 1 : Nat) : Int))]).flatMap frC) sp' := w'.list fcl (by rw [List.length_append, List.length_append]; rfl)
    exact Prev_tail m3 hk N pl w2 s fun h' s' => H _ _ b' o' sp' sv' _ h' pl w2 s'
  | succ q =>
    obtain ⟨z1, z2, z3, z4, z5⟩ := allZ_inner (d := c.1) (ts := c.2) Nc.2.2
    have wK : Own 1 c.1.kv c.2.length c.1.krb c.1.kro ((c.2.map GT.id).map fun m => ptr m 0) c.1.ksp := Nc.1.wf.2.1
    have hlen := Nc.len
    have hc : c.2[c.1.its.length]? = some (c.2[c.1.its.length]'(by omega)) := List.getElem?_eq_getElem _
    refine leaf_ok (a := some ⟨c.1.kb, 0, none⟩) (s.clz z1 3 rfl rfl) ?_
    refine r_if (fun e => absurd e (by simp)) (fun _ => ?_)
    unfold IterG_I_Prev.j8
    refine r_nil (r_fld ?_)
    refine St.r_load1 s 0 (j := 0) rfl rfl ?_
    refine r_nil (r_fld ?_)
    refine s.r_lz0 z1 (j := 3) rfl ?_
    refine r_nil ?_
    refine s.r_lz0 z3 (j := 0) rfl ?_
    refine r_nil (r_fld ?_)
    refine s.r_lz0 z1 (j := 2) rfl ?_
    have wi2 : Own 2 c.1.iv c.1.its.length c.1.ib c.1.io (c.1.its.flatMap enc) c.1.isp := Nc.1.wf.1.1
    refine wi2.lenV ?_
    refine wK.idx (n := c.1.its.length) rfl (by omega) ?_
    refine r_nil (r_fld ?_)
    refine St.r_load1 s 0 (j := 1) rfl rfl ?_
    refine isoLoad_ro (kidcell z4 hc s) ?_
    refine HK q _ _ (Nat.lt_succ_self q) ⟨_, _, _, _, sv', b', o', sp', (q5, 0, frC (c.id, (c.nd.its.length : Int))) :: R, rfl, Up.down u hc, ?_, w', s⟩
    have e1 := GT.round c hlen hc
    rw [GT.rigE c (Nat.le_refl _), List.append_nil] at e1
    rw [e1] at hn
    rw [List.length_append]
    rw [List.length_append] at hn
    omega
theorem Next_climb {q : Nat} {c : GT It q} {F : List (Nat × Int)} {f : Nat × Int} {A B : List It} {n b o : Nat} {x : It} {sk as_ ae : Bool} {sv : Value} {sp : List Value} (m3 : 3 ≤ m) (hm : m ≤ 1024) (hk : k ≤ 4294967296) (N : NdOk iso m Z k t) (u : Up t F q c A B) (hn : A.length + c.pt.items.length = n) (w : Own 2 sv (F ++ [f]).length b o ((F ++ [f]).flatMap frC) sp) (s : St h0 Z ((ti, to, itC tb sk as_ ae sv x) :: (b, o, (F ++ [f]).flatMap frC ++ sp) :: E) h)
    (H0 : n = t.pt.items.length → ∀ sv' sp' h', Own 2 sv' 0 b o [] sp' → St h0 Z ((ti, to, itC tb sk as_ true sv' x) :: (b, o, (([] : List (Nat × Int))).flatMap frC ++ sp') :: E) h' → Q (.bool false) h')
    (H1 : ∀ F' y sv' sp' h', Pl t F' n y → Own 2 sv' F'.length b o (F'.flatMap frC) sp' → St h0 Z ((ti, to, itC tb sk as_ ae sv' y) :: (b, o, (F').flatMap frC ++ sp') :: E) h' → Q (.bool true) h') : loopC (fun c s h K1 => IterG_I_Next.l5.b (c.getD 0 undef) h K1 Q) [ptr ti to] [] h := by
  refine loop_ghost (fun l st h' => ∃ (F : List (Nat × Int)) (f : Nat × Int) (q : Nat) (c : GT It q) (A B : List It) (sv : Value) (sp : List Value), l = F.length ∧ st = [] ∧ Up t F q c A B ∧ A.length + c.pt.items.length = n ∧ Own 2 sv (F ++ [f]).length b o ((F ++ [f]).flatMap frC) sp ∧ St h0 Z ((ti, to, itC tb sk as_ ae sv x) :: (b, o, (F ++ [f]).flatMap frC ++ sp) :: E) h') (n0 := F.length) ⟨F, f, q, c, A, B, sv, sp, rfl, rfl, u, hn, w, s⟩ ?_
  clear s w hn u
  rintro l st h ⟨F, f, q, c, A, B, sv, sp, rfl, rfl, u, hn, w, s⟩ K HK
  have hFl := u.len
  have hl : (F ++ [f]).length = F.length + 1 := by rw [List.length_append]; rfl
  unfold IterG_I_Next.l5.b
  refine r_nil (r_fld ?_)
  refine St.r_load1 s 0 (j := 14) rfl rfl ?_
  refine r_nil (r_fld ?_)
  refine St.r_load1 s 0 (j := 14) rfl rfl ?_
  refine w.lenV ?_
  refine r_sub1 (by omega) (by omega) ?_
  refine w.slcHi fcl (i := F.length) (by omega) (by omega) fun sv' w' => ?_
  rw [List.take_left' rfl, List.drop_left' rfl] at w'
  refine r_nil (r_fld ?_)
  refine St.r_store1 s 0 (j := 14) rfl (by simp [itC]) w'.one ?_; intro h s
  have s : St h0 Z ((ti, to, itC tb sk as_ ae sv' x) :: (b, o, (F).flatMap frC ++ ([f].flatMap frC ++ sp)) :: E) h := by
    have e : F.flatMap frC ++ ([f].flatMap frC ++ sp) = (F ++ [f]).flatMap frC ++ sp := by rw [List.flatMap_append, List.append_assoc]
    rw [e]; exact s
  refine r_nil (r_fld ?_)
  refine St.r_load1 s 0 (j := 14) rfl rfl ?_
  refine w'.lenV ?_
  refine r_cmpI ?_
  rcases u.inv with ⟨rfl, rfl, rfl⟩ | ⟨F2, A2, B2, i, t2, rfl, u2, hc, rfl, rfl⟩
  · refine r_if (fun _ => ?_) (fun e => absurd e (by simp))
    refine r_nil (r_fld ?_)
    refine St.r_store1 s 0 (j := 5) rfl (by simp [itC]) rfl ?_; intro h s
    refine H0 ?_ sv' _ h w' s
    have e := u.items (N.hl m3)
    rw [List.append_nil, List.nil_append] at e
    rw [e, ← hn, List.length_nil, Nat.zero_add]
  · have hl2 : (F2 ++ [(t2.id, (i : Int))]).length = F2.length + 1 := by rw [List.length_append]; rfl
    refine r_if (fun e => absurd e (by rw [hl2]; simp; omega)) (fun _ => ?_)
    have N2 := N.up m3 u2
    have hlen := N2.len
    have hil := N2.its
    have hic := (List.getElem?_eq_some_iff.1 hc).1
    obtain ⟨iv, ib, io, isp, a1, a2, a4, z1, z2, wi⟩ := N2.node
    unfold IterG_I_Next.j6
    refine r_nil (r_fld ?_)
    refine St.r_load1 s 0 (j := 14) rfl rfl ?_
    refine r_nil (r_fld ?_)
    refine St.r_load1 s 0 (j := 14) rfl rfl ?_
    refine w'.lenV ?_
    refine r_sub1 (by omega) (by omega) ?_
    refine w'.idx (n := F2.length) (by omega) (by omega) ?_
    refine r_nil (r_fld ?_)
    refine s.ldF1 1 rfl ?_
    refine r_nil (r_fld ?_)
    refine s.ldF0 1 rfl ?_
    refine r_nil (r_fld ?_)
    refine s.r_lz0 z1 (j := 2) rfl ?_
    refine wi.lenV ?_
    refine r_cmpI ?_
    refine r_if (fun hi => ?_) (fun hi => ?_)
    · have hi : i < t2.1.its.length := by have : (i : Int) < (t2.nd.its.length : Nat) := of_decide_eq_true hi; exact Int.ofNat_lt.1 this
      have pl : Pl t (F2 ++ [(t2.id, (i : Int))]) n (t2.1.its[i]) := by
        have := Pl.inner u2 (List.getElem?_eq_getElem hi) hc
        have e : A2.length + (t2.lef i).length + c.pt.items.length = n := by rw [← hn, List.length_append]
        rw [e] at this; exact this
      exact Next_tail m3 hk N pl w' s fun h' s' => H1 _ _ sv' _ h' pl w' s'
    · have hi : ¬ i < t2.1.its.length := by have : ¬ (i : Int) < (t2.nd.its.length : Nat) := of_decide_eq_false hi; exact fun e => this (Int.ofNat_lt.2 e)
      refine HK F2.length _ _ (by omega) ⟨F2, (t2.id, (i : Int)), _, t2, A2, B2, sv', _, rfl, rfl, u2, ?_, w', s⟩
      have e1 := GT.round t2 hlen hc
      rw [GT.rigE t2 (by omega), List.append_nil] at e1
      rw [e1, ← hn, List.length_append, List.length_append]
      omega
theorem Prev_climb {q : Nat} {c : GT It q} {F : List (Nat × Int)} {f : Nat × Int} {A B : List It} {n b o : Nat} {x : It} {sk as_ ae : Bool} {sv : Value} {sp : List Value} (m3 : 3 ≤ m) (hm : m ≤ 1024) (hk : k ≤ 4294967296) (N : NdOk iso m Z k t) (u : Up t F q c A B) (hn : A.length = n) (w : Own 2 sv (F ++ [f]).length b o ((F ++ [f]).flatMap frC) sp) (s : St h0 Z ((ti, to, itC tb sk as_ ae sv x) :: (b, o, (F ++ [f]).flatMap frC ++ sp) :: E) h)
    (H0 : n = 0 → ∀ sv' sp' h', Own 2 sv' 0 b o [] sp' → St h0 Z ((ti, to, itC tb sk true ae sv' x) :: (b, o, (([] : List (Nat × Int))).flatMap frC ++ sp') :: E) h' → Q (.bool false) h')
    (H1 : 0 < n → ∀ F' y sv' sp' h', Pl t F' (n - 1) y → Own 2 sv' F'.length b o (F'.flatMap frC) sp' → St h0 Z ((ti, to, itC tb sk as_ ae sv' y) :: (b, o, (F').flatMap frC ++ sp') :: E) h' → Q (.bool true) h') : loopC (fun c s h K1 => IterG_I_Prev.l5.b (c.getD 0 undef) h K1 Q) [ptr ti to] [] h := by
  refine loop_ghost (fun l st h' => ∃ (F : List (Nat × Int)) (f : Nat × Int) (q : Nat) (c : GT It q) (A B : List It) (sv : Value) (sp : List Value), l = F.length ∧ st = [] ∧ Up t F q c A B ∧ A.length = n ∧ Own 2 sv (F ++ [f]).length b o ((F ++ [f]).flatMap frC) sp ∧ St h0 Z ((ti, to, itC tb sk as_ ae sv x) :: (b, o, (F ++ [f]).flatMap frC ++ sp) :: E) h') (n0 := F.length) ⟨F, f, q, c, A, B, sv, sp, rfl, rfl, u, hn, w, s⟩ ?_
  clear s w hn u
  rintro l st h ⟨F, f, q, c, A, B, sv, sp, rfl, rfl, u, hn, w, s⟩ K HK
  have hFl := u.len
  have hl : (F ++ [f]).length = F.length + 1 := by rw [List.length_append]; rfl
  unfold IterG_I_Prev.l5.b
  refine r_nil (r_fld ?_)
  refine St.r_load1 s 0 (j := 14) rfl rfl ?_
  refine r_nil (r_fld ?_)
  refine St.r_load1 s 0 (j := 14) rfl rfl ?_
  refine w.lenV ?_
  refine r_sub1 (by omega) (by omega) ?_
  refine w.slcHi fcl (i := F.length) (by omega) (by omega) fun sv' w' => ?_
  rw [List.take_left' rfl, List.drop_left' rfl] at w'
  refine r_nil (r_fld ?_)
  refine St.r_store1 s 0 (j := 14) rfl (by simp [itC]) w'.one ?_; intro h s
  have s : St h0 Z ((ti, to, itC tb sk as_ ae sv' x) :: (b, o, (F).flatMap frC ++ ([f].flatMap frC ++ sp)) :: E) h := by
    have e : F.flatMap frC ++ ([f].flatMap frC ++ sp) = (F ++ [f]).flatMap frC ++ sp := by rw [List.flatMap_append, List.append_assoc]
    rw [e]; exact s
  refine r_nil (r_fld ?_)
  refine St.r_load1 s 0 (j := 14) rfl rfl ?_
  refine w'.lenV ?_
  refine r_cmpI ?_
  rcases u.inv with ⟨rfl, rfl, rfl⟩ | ⟨F2, A2, B2, i, t2, rfl, u2, hc, rfl, rfl⟩
  · refine r_if (fun _ => ?_) (fun e => absurd e (by simp))
    refine r_nil (r_fld ?_)
    refine St.r_store1 s 0 (j := 4) rfl (by simp [itC]) rfl ?_; intro h s
    refine H0 ?_ sv' _ h w' s
    rw [← hn]; rfl
  · have hl2 : (F2 ++ [(t2.id, (i : Int))]).length = F2.length + 1 := by rw [List.length_append]; rfl
    refine r_if (fun e => absurd e (by rw [hl2]; simp; omega)) (fun _ => ?_)
    have N2 := N.up m3 u2
    have hlen := N2.len
    have hil := N2.its
    have hic := (List.getElem?_eq_some_iff.1 hc).1
    obtain ⟨iv, ib, io, isp, a1, a2, a4, z1, z2, wi⟩ := N2.node
    unfold IterG_I_Prev.j6
    refine r_nil (r_fld ?_)
    refine St.r_load1 s 0 (j := 14) rfl rfl ?_
    refine r_nil (r_fld ?_)
    refine St.r_load1 s 0 (j := 14) rfl rfl ?_
    refine w'.lenV ?_
    refine r_sub1 (by omega) (by omega) ?_
    refine w'.idx (n := F2.length) (by omega) (by omega) ?_
    refine r_nil (r_fld ?_)
    refine s.ldF1 1 rfl ?_
    have hil2 : t2.1.its.length ≤ 1024 := Nat.le_trans hil.2 hm
    refine r_sub (z := (i : Int) - 1) (i64w (by omega) (by omega)) ?_
    refine r_nil (r_fld ?_)
    refine s.stF1 1 rfl ?_; intro h s
    refine r_nil (r_fld ?_)
    refine s.ldF1 (F := F2) (f := (t2.id, (i : Int) - 1)) 1 rfl ?_
    refine r_cmpI ?_
    have w3 : Own 2 sv' (F2 ++ [(t2.id, (i : Int) - 1)]).length b o ((F2 ++ [(t2.id, (i : Int) - 1)]).flatMap frC) ([f].flatMap frC ++ sp) := w'.list fcl (by rw [List.length_append, List.length_append]; rfl)
    refine r_if (fun hi => ?_) (fun hi => ?_)
    · have hi : 1 ≤ i := by have : (i : Int) - 1 > -1 := of_decide_eq_true hi; omega
      have h1 : i - 1 < t2.1.its.length := by omega
      have h2 : i - 1 < t2.2.length := by omega
      have e0 : ((i - 1 : Nat) : Int) = (i : Int) - 1 := by omega
      have pl : Pl t (F2 ++ [(t2.id, (i : Int) - 1)]) (n - 1) (t2.1.its[i - 1]) := by
        have := Pl.inner u2 (List.getElem?_eq_getElem h1) (List.getElem?_eq_getElem h2)
        have el := GT.lef_succ t2 hlen (List.getElem?_eq_getElem h2) (List.getElem?_eq_getElem h1)
        rw [show i - 1 + 1 = i by omega] at el
        have e : A2.length + (t2.lef (i - 1)).length + (t2.2[i - 1]).pt.items.length = n - 1 := by
          rw [← hn, List.length_append, el, List.length_append, List.length_append, List.length_singleton]; omega
        rw [e, e0] at this; exact this
      have hpos : 0 < n := by
        have el := GT.lef_succ t2 hlen (List.getElem?_eq_getElem h2) (List.getElem?_eq_getElem h1)
        rw [show i - 1 + 1 = i by omega] at el
        rw [← hn, List.length_append, el, List.length_append, List.length_append, List.length_singleton]; omega
      exact Prev_tail m3 hk N pl w3 s fun h' s' => H1 hpos _ _ sv' _ h' pl w3 s'
    · have hi : i = 0 := by have : ¬ (i : Int) - 1 > -1 := of_decide_eq_false hi; omega
      subst hi
      refine HK F2.length _ _ (by omega) ⟨F2, _, _, t2, A2, B2, sv', _, rfl, rfl, u2, ?_, w3, s⟩
      rw [← hn, GT.lef0, List.append_nil]
/-- On from a place ahead of, at or behind an item of a leaf. -/
theorem Next_leaf {d : GT It 0} {F : List (Nat × Int)} {A B : List It} {i b o : Nat} {zz : Int} {x : It} {sk as_ ae : Bool} {sv : Value} {sp : List Value} (m3 : 3 ≤ m) (hm : m ≤ 1024) (hk : k ≤ 4294967296) (N : NdOk iso m Z k t) (u : Up t F 0 d A B) (hz : zz + 1 = (i : Int)) (hi : i ≤ d.nd.its.length) (w : Own 2 sv (F ++ [(d.id, zz)]).length b o ((F ++ [(d.id, zz)]).flatMap frC) sp) (s : St h0 Z ((ti, to, itC tb sk as_ ae sv x) :: (b, o, (F ++ [(d.id, zz)]).flatMap frC ++ sp) :: E) h)
    (H0 : A.length + i = t.pt.items.length → ∀ sv' sp' h', Own 2 sv' 0 b o [] sp' → St h0 Z ((ti, to, itC tb sk as_ true sv' x) :: (b, o, (([] : List (Nat × Int))).flatMap frC ++ sp') :: E) h' → Q (.bool false) h')
    (H1 : ∀ F' y sv' sp' h', Pl t F' (A.length + i) y → Own 2 sv' F'.length b o (F'.flatMap frC) sp' → St h0 Z ((ti, to, itC tb sk as_ ae sv' y) :: (b, o, (F').flatMap frC ++ sp') :: E) h' → Q (.bool true) h') : IterG_I_Next.j3 (ptr ti to) h Q := by
  have hFl := u.len
  have hl : (F ++ [(d.id, zz)]).length = F.length + 1 := by rw [List.length_append]; rfl
  have N2 := N.up m3 u
  have hil := N2.its
  obtain ⟨z1, z2⟩ := allZ_leaf N2.2.2
  have wi : Own 2 (Nd.iv d) (Nd.its d).length (Nd.ib d) (Nd.io d) ((Nd.its d).flatMap enc) (Nd.isp d) := N2.1.wf.1
  unfold IterG_I_Next.j3
  refine r_nil (r_fld ?_)
  refine St.r_load1 s 0 (j := 14) rfl rfl ?_
  refine r_nil (r_fld ?_)
  refine St.r_load1 s 0 (j := 14) rfl rfl ?_
  refine w.lenV ?_
  refine r_sub1 (by omega) (by omega) ?_
  refine w.idx (n := F.length) (by omega) (by omega) ?_
  refine r_nil (r_fld ?_)
  refine s.ldF1 1 rfl ?_
  have hi2 : i ≤ 1024 := by omega
  refine r_add (z := (i : Int)) (by show IntKind.i64.wrap (zz + 1) = _; rw [hz, i64w (by omega) (by omega)]) ?_
  refine r_nil (r_fld ?_)
  refine s.stF1 1 rfl ?_; intro h s
  have w3 : Own 2 sv (F ++ [(d.id, (i : Int))]).length b o ((F ++ [(d.id, (i : Int))]).flatMap frC) sp := w.list fcl (by rw [List.length_append, List.length_append]; rfl)
  refine r_nil (r_fld ?_)
  refine s.ldF0 (F := F) (f := (d.id, (i : Int))) 1 rfl ?_
  refine leaf_ok (a := none) (s.clz z1 3 rfl rfl) ?_
  refine r_if (fun _ => ?_) (fun e => absurd e (by simp))
  refine r_nil (r_fld ?_)
  refine s.ldF1 (F := F) (f := (d.id, (i : Int))) 1 rfl ?_
  refine r_nil (r_fld ?_)
  refine s.ldF0 (F := F) (f := (d.id, (i : Int))) 1 rfl ?_
  refine r_nil (r_fld ?_)
  refine s.r_lz0 z1 (j := 2) rfl ?_
  refine wi.lenV ?_
  refine r_cmpI ?_
  refine r_if (fun e => ?_) (fun e => ?_)
  · have e : i = d.nd.its.length := by
      have e : ((i : Int) == ((d.nd.its.length : Nat) : Int)) = true := e
      exact Int.ofNat.inj (eq_of_beq e)
    refine Next_climb (n := A.length + i) m3 hm hk N u (by rw [e]; rfl) w3 s H0 H1
  · have e : i ≠ d.nd.its.length := by
      intro h
      rw [h] at e
      have e : (((d.nd.its.length : Nat) : Int) == ((d.nd.its.length : Nat) : Int)) = false := e
      simp at e
    have hlt : i < d.nd.its.length := by omega
    have pl := Pl.leaf u (List.getElem?_eq_getElem hlt)
    exact Next_tail m3 hk N pl w3 s fun h' s' => H1 _ _ sv _ h' pl w3 s'
/-- What moving on returns, and where the iterator is then; nothing is told of one that is off the items, unless there are none. -/
def NextR (len : Nat) (ps : Pos) (b : Bool) (ps' : Pos) : Prop := match ps with
  | .new => (len = 0 ∧ b = false ∧ ps' = .off) ∨ (0 < len ∧ b = true ∧ ps' = .at' 0)
  | .off => len = 0 → b = false ∧ ps' = .off
  | .at' n => (n + 1 < len ∧ b = true ∧ ps' = .at' (n + 1)) ∨ (len ≤ n + 1 ∧ b = false ∧ ps' = .off)
def PrevR (len : Nat) (ps : Pos) (b : Bool) (ps' : Pos) : Prop := match ps with
  | .new => b = false ∧ ps' = .new
  | .off => len = 0 → b = false ∧ ps' = .off
  | .at' n => (0 < n ∧ b = true ∧ ps' = .at' (n - 1)) ∨ (n = 0 ∧ b = false ∧ ps' = .off)
theorem Next_at {g : Rt} {n : Nat} {A : List Rg} (T : ItT lt lf Z g tb m) (I : ItAt g tb ti to (.at' n) A) (s : St h0 Z (A ++ E) h)
    (H : ∀ b ps' A' h', NextR (rPt g).items.length (.at' n) b ps' → ItAt g tb ti to ps' A' → St h0 Z (A' ++ E) h' → Q (.bool b) h') : IterG_I_Next.call #[ptr ti to] h Q := by
  obtain ⟨sk, as_, ae, sv, x, b, o, F, sp, R, w, rfl, hp⟩ := I
  have s : St h0 Z ((ti, to, itC tb sk as_ ae sv x) :: (b, o, (F).flatMap frC ++ sp) :: (R ++ E)) h := s
  refine IterG_I_Next.body _ _ _ ?_
  unfold IterG_I_Next.sh
  refine r_nil (r_fld ?_)
  refine St.r_load1 s 0 (j := 0) rfl rfl ?_
  refine ⟨_, rfl, ?_⟩
  refine r_if (fun e => absurd e (by simp)) (fun _ => ?_)
  unfold IterG_I_Next.j1
  refine r_nil (r_fld ?_)
  refine St.r_load1 s 0 (j := 3) rfl rfl ?_
  refine r_not ?_
  obtain ⟨rfl, t, rfl, pl⟩ := hp
  obtain ⟨iso, hn⟩ := T.nd
  have N := hn t rfl
  obtain ⟨hne, hk⟩ := T.ne rfl
  refine r_if (fun e => absurd e (by simp)) (fun _ => ?_)
  unfold IterG_I_Next.j2
  refine r_nil (r_fld ?_)
  refine St.r_load1 s 0 (j := 14) rfl rfl ?_
  refine w.lenV ?_
  refine r_cmpI ?_
  have hF := pl.ne
  refine r_if (fun e => absurd (by simpa using e) hF) (fun _ => ?_)
  have off : ∀ {sv' : Value} {sp' : List Value} {h' : Heap} {b o : Nat}, n + 1 = t.2.pt.items.length → Own 2 sv' 0 b o [] sp' → St h0 Z ((ti, to, itC tb true as_ true sv' x) :: (b, o, (([] : List (Nat × Int))).flatMap frC ++ sp') :: (R ++ E)) h' → Q (.bool false) h' := fun {sv' sp' h' b o} e w' s' =>
    H false .off _ h' (.inr ⟨by show t.2.pt.items.length ≤ n + 1; omega, rfl, rfl⟩) ⟨true, as_, true, sv', x, b, o, [], sp', R, w', rfl, rfl, rfl⟩ s'
  have on : ∀ {F' : List (Nat × Int)} {y : It} {sv' : Value} {sp' : List Value} {h' : Heap} {b o : Nat} {R2 : List Rg}, Pl t.2 F' (n + 1) y → Own 2 sv' F'.length b o (F'.flatMap frC) sp' → St h0 Z ((ti, to, itC tb true as_ ae sv' y) :: (b, o, (F').flatMap frC ++ sp') :: (R2 ++ (R ++ E))) h' → Q (.bool true) h' := fun {F' y sv' sp' h' b o R2} pl' w' s' => by
    have hlt : n + 1 < t.2.pt.items.length := (List.getElem?_eq_some_iff.1 (pl'.at (N.hl T.m3))).1
    exact H true (.at' (n + 1)) _ h' (.inl ⟨hlt, rfl, rfl⟩) ⟨true, as_, ae, sv', y, b, o, F', sp', R2 ++ R, w', rfl, rfl, t, rfl, pl'⟩ (s'.perm (by
      show List.Perm ((ti, to, itC tb true as_ ae sv' y) :: (b, o, (F').flatMap frC ++ sp') :: ((R2 ++ R) ++ E)) ((ti, to, itC tb true as_ ae sv' y) :: (b, o, (F').flatMap frC ++ sp') :: (R2 ++ (R ++ E)))
      ((apply perm_rg; intro f; simp only [List.set_cons_zero, List.set_cons_succ, List.eraseIdx_cons_zero, List.eraseIdx_cons_succ, List.cons_append, List.nil_append, List.map_append, List.map_cons, List.map_nil, List.sum_append, List.sum_cons, List.sum_nil, List.map_flatMap, Nat.add_zero, Nat.zero_add]; ac_rfl))))
  cases pl with
  | @leaf F d A B i y u hy =>
    have hi := (List.getElem?_eq_some_iff.1 hy).1
    exact Next_leaf (i := i + 1) T.m3 T.m1 hk N u (by omega) hi w s (fun e sv' sp' h' w' s' => off (by omega) w' s') fun F' y sv' sp' h' pl' w' s' => on (R2 := []) pl' w' s'
  | @inner F q t2 A B i y c u hy hc =>
    have hi := (List.getElem?_eq_some_iff.1 hy).1
    have N2 := N.up T.m3 u
    have hlen := N2.len
    have hil := N2.its
    have hFl := u.len
    have hil2 : t2.1.its.length ≤ 1024 := Nat.le_trans hil.2 T.m1
    have hl : (F ++ [(t2.id, (i : Int))]).length = F.length + 1 := by rw [List.length_append]; rfl
    obtain ⟨z1, z2, z3, z4, z5⟩ := allZ_inner (d := t2.1) (ts := t2.2) N2.2.2
    have wK : Own 1 t2.1.kv t2.2.length t2.1.krb t2.1.kro ((t2.2.map GT.id).map fun m => ptr m 0) t2.1.ksp := N2.1.wf.2.1
    have hc2 : t2.2[i + 1]? = some (t2.2[i + 1]'(by omega)) := List.getElem?_eq_getElem _
    unfold IterG_I_Next.j3
    refine r_nil (r_fld ?_)
    refine St.r_load1 s 0 (j := 14) rfl rfl ?_
    refine r_nil (r_fld ?_)
    refine St.r_load1 s 0 (j := 14) rfl rfl ?_
    refine w.lenV ?_
    refine r_sub1 (by omega) (by omega) ?_
    refine w.idx (n := F.length) (by omega) (by omega) ?_
    refine r_nil (r_fld ?_)
    refine s.ldF1 1 rfl ?_
    refine r_add1 (by omega) ?_
    refine r_nil (r_fld ?_)
    refine s.stF1 1 rfl ?_; intro h s
    have w3 : Own 2 sv (F ++ [(t2.id, ((i + 1 : Nat) : Int))]).length b o ((F ++ [(t2.id, ((i + 1 : Nat) : Int))]).flatMap frC) sp := w.list fcl (by rw [List.length_append, List.length_append]; rfl)
    refine r_nil (r_fld ?_)
    refine s.ldF0 (F := F) (f := (t2.id, ((i + 1 : Nat) : Int))) 1 rfl ?_
    refine leaf_ok (a := some ⟨t2.1.kb, 0, none⟩) (s.clz z1 3 rfl rfl) ?_
    refine r_if (fun e => absurd e (by simp)) (fun _ => ?_)
    refine r_nil (r_fld ?_)
    refine St.r_load1 s 0 (j := 0) rfl rfl ?_
    refine r_nil (r_fld ?_)
    refine s.ldF0 (F := F) (f := (t2.id, ((i + 1 : Nat) : Int))) 1 rfl ?_
    refine r_nil (r_fld ?_)
    refine s.r_lz0 z1 (j := 3) rfl ?_
    refine r_nil ?_
    refine s.r_lz0 z3 (j := 0) rfl ?_
    refine r_nil (r_fld ?_)
    refine s.ldF1 (F := F) (f := (t2.id, ((i + 1 : Nat) : Int))) 1 rfl ?_
    refine wK.idx (n := i + 1) rfl (by omega) ?_
    refine r_nil (r_fld ?_)
    refine St.r_load1 s 0 (j := 1) rfl rfl ?_
    refine isoLoad_ro (kidcell z4 hc2 s) ?_
    refine Next_left (n := A.length + (t2.lef i).length + c.pt.items.length + 1) T.m3 hk N (Up.down u hc2) ?_ w3 s fun F' y b' o' sp' sv' R' h' pl' w' s' => on pl' w' s'
    rw [List.length_append, GT.lef_succ t2 hlen hc hy, List.length_append, List.length_append, List.length_singleton]
    omega
theorem Next_ok {g : Rt} {ps : Pos} {A : List Rg} (T : ItT lt lf Z g tb m) (I : ItAt g tb ti to ps A) (s : St h0 Z (A ++ E) h)
    (H : ∀ b ps' A' h', NextR (rPt g).items.length ps b ps' → ItAt g tb ti to ps' A' → St h0 Z (A' ++ E) h' → Q (.bool b) h') : IterG_I_Next.call #[ptr ti to] h Q := by
  have I0 := I
  have s0' := s
  cases ps with
  | at' n => exact Next_at T I s H
  | new =>
    obtain ⟨sk, as_, ae, sv, x, b, o, F, sp, R, w, rfl, hp⟩ := I
    have s : St h0 Z ((ti, to, itC tb sk as_ ae sv x) :: (b, o, (F).flatMap frC ++ sp) :: (R ++ E)) h := s
    refine IterG_I_Next.body _ _ _ ?_
    unfold IterG_I_Next.sh
    refine r_nil (r_fld ?_)
    refine St.r_load1 s 0 (j := 0) rfl rfl ?_
    refine ⟨_, rfl, ?_⟩
    refine r_if (fun e => absurd e (by simp)) (fun _ => ?_)
    unfold IterG_I_Next.j1
    refine r_nil (r_fld ?_)
    refine St.r_load1 s 0 (j := 3) rfl rfl ?_
    refine r_not ?_
    obtain ⟨rfl, rfl⟩ := hp
    refine r_if (fun _ => ?_) (fun e => absurd e (by simp))
    refine First_ok T I0 s0' (fun e A' h' I' s' => ?_) fun e A' h' I' s' => ?_
    · exact H false .off A' h' (.inl ⟨by rw [e]; rfl, rfl, rfl⟩) I' s'
    · exact H true (.at' 0) A' h' (.inr ⟨e, rfl, rfl⟩) I' s'
  | off =>
    obtain ⟨sk, as_, ae, sv, x, b, o, F, sp, R, w, rfl, hp⟩ := I
    have s : St h0 Z ((ti, to, itC tb sk as_ ae sv x) :: (b, o, (F).flatMap frC ++ sp) :: (R ++ E)) h := s
    refine IterG_I_Next.body _ _ _ ?_
    unfold IterG_I_Next.sh
    refine r_nil (r_fld ?_)
    refine St.r_load1 s 0 (j := 0) rfl rfl ?_
    refine ⟨_, rfl, ?_⟩
    refine r_if (fun e => absurd e (by simp)) (fun _ => ?_)
    unfold IterG_I_Next.j1
    refine r_nil (r_fld ?_)
    refine St.r_load1 s 0 (j := 3) rfl rfl ?_
    refine r_not ?_
    obtain ⟨rfl, rfl⟩ := hp
    refine r_if (fun e => absurd e (by simp)) (fun _ => ?_)
    unfold IterG_I_Next.j2
    refine r_nil (r_fld ?_)
    refine St.r_load1 s 0 (j := 14) rfl rfl ?_
    refine w.lenV ?_
    refine r_cmpI ?_
    refine r_if (fun _ => ?_) (fun e => absurd e (by simp))
    refine r_nil (r_fld ?_)
    refine St.r_load1 s 0 (j := 4) rfl rfl ?_
    refine r_if (fun _ => ?_) (fun _ => ?_)
    · refine First_ok T I0 s0' (fun e A' h' I' s' => ?_) fun e A' h' I' s' => ?_
      · refine r_br (fun e => absurd e (by decide)) (fun _ => ?_)
        exact H false .off A' h' (fun _ => ⟨rfl, rfl⟩) I' s'
      · refine r_br (fun _ => ?_) (fun e => absurd e (by decide))
        refine Next_at T I' s' fun b ps' A2 h2 _ I2 s2 => ?_
        exact H b ps' A2 h2 (fun e0 => absurd e (by omega)) I2 s2
    · unfold IterG_I_Next.j9
      exact H false .off _ h (fun _ => ⟨rfl, rfl⟩) I0 s
theorem Prev_at {g : Rt} {n : Nat} {A : List Rg} (T : ItT lt lf Z g tb m) (I : ItAt g tb ti to (.at' n) A) (s : St h0 Z (A ++ E) h)
    (H : ∀ b ps' A' h', PrevR (rPt g).items.length (.at' n) b ps' → ItAt g tb ti to ps' A' → St h0 Z (A' ++ E) h' → Q (.bool b) h') : IterG_I_Prev.call #[ptr ti to] h Q := by
  obtain ⟨sk, as_, ae, sv, x, b, o, F, sp, R, w, rfl, hp⟩ := I
  have s : St h0 Z ((ti, to, itC tb sk as_ ae sv x) :: (b, o, (F).flatMap frC ++ sp) :: (R ++ E)) h := s
  refine IterG_I_Prev.body _ _ _ ?_
  unfold IterG_I_Prev.sh
  refine r_nil (r_fld ?_)
  refine St.r_load1 s 0 (j := 0) rfl rfl ?_
  refine ⟨_, rfl, ?_⟩
  refine r_if (fun e => absurd e (by simp)) (fun _ => ?_)
  unfold IterG_I_Prev.j1
  refine r_nil (r_fld ?_)
  refine St.r_load1 s 0 (j := 3) rfl rfl ?_
  refine r_not ?_
  obtain ⟨rfl, t, rfl, pl⟩ := hp
  obtain ⟨iso, hn⟩ := T.nd
  have N := hn t rfl
  obtain ⟨hne, hk⟩ := T.ne rfl
  refine r_if (fun e => absurd e (by simp)) (fun _ => ?_)
  unfold IterG_I_Prev.j2
  refine r_nil (r_fld ?_)
  refine St.r_load1 s 0 (j := 14) rfl rfl ?_
  refine w.lenV ?_
  refine r_cmpI ?_
  have hF := pl.ne
  refine r_if (fun e => absurd (by simpa using e) hF) (fun _ => ?_)
  have off : ∀ {sv' : Value} {sp' : List Value} {h' : Heap} {b o : Nat}, n = 0 → Own 2 sv' 0 b o [] sp' → St h0 Z ((ti, to, itC tb true true ae sv' x) :: (b, o, (([] : List (Nat × Int))).flatMap frC ++ sp') :: (R ++ E)) h' → Q (.bool false) h' := fun {sv' sp' h' b o} e w' s' =>
    H false .off _ h' (.inr ⟨e, rfl, rfl⟩) ⟨true, true, ae, sv', x, b, o, [], sp', R, w', rfl, rfl, rfl⟩ s'
  have on : ∀ {F' : List (Nat × Int)} {y : It} {sv' : Value} {sp' : List Value} {h' : Heap} {b o : Nat} {R2 : List Rg}, 0 < n → Pl t.2 F' (n - 1) y → Own 2 sv' F'.length b o (F'.flatMap frC) sp' → St h0 Z ((ti, to, itC tb true as_ ae sv' y) :: (b, o, (F').flatMap frC ++ sp') :: (R2 ++ (R ++ E))) h' → Q (.bool true) h' := fun {F' y sv' sp' h' b o R2} hn0 pl' w' s' =>
    H true (.at' (n - 1)) _ h' (.inl ⟨hn0, rfl, rfl⟩) ⟨true, as_, ae, sv', y, b, o, F', sp', R2 ++ R, w', rfl, rfl, t, rfl, pl'⟩ (s'.perm (by
      show List.Perm ((ti, to, itC tb true as_ ae sv' y) :: (b, o, (F').flatMap frC ++ sp') :: ((R2 ++ R) ++ E)) ((ti, to, itC tb true as_ ae sv' y) :: (b, o, (F').flatMap frC ++ sp') :: (R2 ++ (R ++ E)))
      ((apply perm_rg; intro f; simp only [List.set_cons_zero, List.set_cons_succ, List.eraseIdx_cons_zero, List.eraseIdx_cons_succ, List.cons_append, List.nil_append, List.map_append, List.map_cons, List.map_nil, List.sum_append, List.sum_cons, List.sum_nil, List.map_flatMap, Nat.add_zero, Nat.zero_add]; ac_rfl))))
  unfold IterG_I_Prev.j3
  obtain ⟨F0, q0, c0, i0, hF0, N0, hy0, hq0⟩ := Pl.spot T.m3 N pl
  cases pl with
  | @leaf F d A B i y u hy =>
    have hi := (List.getElem?_eq_some_iff.1 hy).1
    have hFl := u.len
    have hl : (F ++ [(d.id, (i : Int))]).length = F.length + 1 := by rw [List.length_append]; rfl
    have N2 := N.up T.m3 u
    have hil := N2.its
    have hil2 : d.nd.its.length ≤ 1024 := Nat.le_trans hil.2 T.m1
    obtain ⟨z1, z2⟩ := allZ_leaf N2.2.2
    refine r_nil (r_fld ?_)
    refine St.r_load1 s 0 (j := 14) rfl rfl ?_
    refine r_nil (r_fld ?_)
    refine St.r_load1 s 0 (j := 14) rfl rfl ?_
    refine w.lenV ?_
    refine r_sub1 (by omega) (by omega) ?_
    refine w.idx (n := F.length) (by omega) (by omega) ?_
    refine r_nil (r_fld ?_)
    refine s.ldF0 1 rfl ?_
    refine leaf_ok (a := none) (s.clz z1 3 rfl rfl) ?_
    refine r_if (fun _ => ?_) (fun e => absurd e (by simp))
    refine r_nil (r_fld ?_)
    refine s.ldF1 1 rfl ?_
    refine r_sub (z := (i : Int) - 1) (i64w (by omega) (by omega)) ?_
    refine r_nil (r_fld ?_)
    refine s.stF1 1 rfl ?_; intro h s
    refine r_nil (r_fld ?_)
    refine s.ldF1 (F := F) (f := (d.id, (i : Int) - 1)) 1 rfl ?_
    refine r_cmpI ?_
    have w3 : Own 2 sv (F ++ [(d.id, (i : Int) - 1)]).length b o ((F ++ [(d.id, (i : Int) - 1)]).flatMap frC) sp := w.list fcl (by rw [List.length_append, List.length_append]; rfl)
    refine r_if (fun e => ?_) (fun e => ?_)
    · have e : i = 0 := by
        have : (i : Int) - 1 = -1 := by simpa using e
        omega
      subst e
      refine Prev_climb (n := A.length + 0) T.m3 T.m1 hk N u rfl w3 s (fun e sv' sp' h' w' s' => off e w' s') fun hpos F' y sv' sp' h' pl' w' s' => ?_
      exact on (R2 := []) hpos pl' w' s'
    · have e : 1 ≤ i := by
        rcases Nat.eq_zero_or_pos i with h0' | h0'
        · subst h0'
          have e : ((((0 : Nat) : Int) - 1) == -1) = false := e
          exact absurd e (by decide)
        · exact h0'
      have h1 : i - 1 < d.nd.its.length := by omega
      have e0 : ((i - 1 : Nat) : Int) = (i : Int) - 1 := by omega
      have pl := Pl.leaf u (List.getElem?_eq_getElem h1)
      rw [e0, show A.length + (i - 1) = A.length + i - 1 by omega] at pl
      exact Prev_tail T.m3 hk N pl w3 s fun h' s' => on (R2 := []) (by omega) pl w3 s'
  | @inner F q t2 A B i y c u hy hc =>
    have hi := (List.getElem?_eq_some_iff.1 hy).1
    have N2 := N.up T.m3 u
    have hlen := N2.len
    have hil := N2.its
    have hFl := u.len
    have hil2 : t2.1.its.length ≤ 1024 := Nat.le_trans hil.2 T.m1
    have hl : (F ++ [(t2.id, (i : Int))]).length = F.length + 1 := by rw [List.length_append]; rfl
    obtain ⟨z1, z2, z3, z4, z5⟩ := allZ_inner (d := t2.1) (ts := t2.2) N2.2.2
    have wK : Own 1 t2.1.kv t2.2.length t2.1.krb t2.1.kro ((t2.2.map GT.id).map fun m => ptr m 0) t2.1.ksp := N2.1.wf.2.1
    have hcn : 0 < c.pt.items.length := by
      have := PT.tall T.m3 (N.up T.m3 (Up.down u hc)).2.1 (Nat.le_refl 1)
      omega
    refine r_nil (r_fld ?_)
    refine St.r_load1 s 0 (j := 14) rfl rfl ?_
    refine r_nil (r_fld ?_)
    refine St.r_load1 s 0 (j := 14) rfl rfl ?_
    refine w.lenV ?_
    refine r_sub1 (by omega) (by omega) ?_
    refine w.idx (n := F.length) (by omega) (by omega) ?_
    refine r_nil (r_fld ?_)
    refine s.ldF0 1 rfl ?_
    refine leaf_ok (a := some ⟨t2.1.kb, 0, none⟩) (s.clz z1 3 rfl rfl) ?_
    refine r_if (fun e => absurd e (by simp)) (fun _ => ?_)
    refine r_nil (r_fld ?_)
    refine St.r_load1 s 0 (j := 0) rfl rfl ?_
    refine r_nil (r_fld ?_)
    refine s.ldF0 1 rfl ?_
    refine r_nil (r_fld ?_)
    refine s.r_lz0 z1 (j := 3) rfl ?_
    refine r_nil ?_
    refine s.r_lz0 z3 (j := 0) rfl ?_
    refine r_nil (r_fld ?_)
    refine s.ldF1 1 rfl ?_
    refine wK.idx (n := i) rfl (by omega) ?_
    refine r_nil (r_fld ?_)
    refine St.r_load1 s 0 (j := 1) rfl rfl ?_
    refine isoLoad_ro (kidcell z4 hc s) ?_
    refine Prev_right (n := A.length + (t2.lef i).length + c.pt.items.length - 1) T.m3 hk T.m1 N (Up.down u hc) ?_ w s fun F' y b' o' sp' sv' R' h' pl' w' s' => on (by omega) pl' w' s'
    rw [List.length_append]
    omega
theorem Prev_ok {g : Rt} {ps : Pos} {A : List Rg} (T : ItT lt lf Z g tb m) (I : ItAt g tb ti to ps A) (s : St h0 Z (A ++ E) h)
    (H : ∀ b ps' A' h', PrevR (rPt g).items.length ps b ps' → ItAt g tb ti to ps' A' → St h0 Z (A' ++ E) h' → Q (.bool b) h') : IterG_I_Prev.call #[ptr ti to] h Q := by
  have I0 := I
  have s0' := s
  cases ps with
  | at' n => exact Prev_at T I s H
  | new =>
    obtain ⟨sk, as_, ae, sv, x, b, o, F, sp, R, w, rfl, hp⟩ := I
    have s : St h0 Z ((ti, to, itC tb sk as_ ae sv x) :: (b, o, (F).flatMap frC ++ sp) :: (R ++ E)) h := s
    refine IterG_I_Prev.body _ _ _ ?_
    unfold IterG_I_Prev.sh
    refine r_nil (r_fld ?_)
    refine St.r_load1 s 0 (j := 0) rfl rfl ?_
    refine ⟨_, rfl, ?_⟩
    refine r_if (fun e => absurd e (by simp)) (fun _ => ?_)
    unfold IterG_I_Prev.j1
    refine r_nil (r_fld ?_)
    refine St.r_load1 s 0 (j := 3) rfl rfl ?_
    refine r_not ?_
    obtain ⟨rfl, rfl⟩ := hp
    refine r_if (fun _ => ?_) (fun e => absurd e (by simp))
    exact H false .new _ h ⟨rfl, rfl⟩ I0 s
  | off =>
    obtain ⟨sk, as_, ae, sv, x, b, o, F, sp, R, w, rfl, hp⟩ := I
    have s : St h0 Z ((ti, to, itC tb sk as_ ae sv x) :: (b, o, (F).flatMap frC ++ sp) :: (R ++ E)) h := s
    refine IterG_I_Prev.body _ _ _ ?_
    unfold IterG_I_Prev.sh
    refine r_nil (r_fld ?_)
    refine St.r_load1 s 0 (j := 0) rfl rfl ?_
    refine ⟨_, rfl, ?_⟩
    refine r_if (fun e => absurd e (by simp)) (fun _ => ?_)
    unfold IterG_I_Prev.j1
    refine r_nil (r_fld ?_)
    refine St.r_load1 s 0 (j := 3) rfl rfl ?_
    refine r_not ?_
    obtain ⟨rfl, rfl⟩ := hp
    refine r_if (fun e => absurd e (by simp)) (fun _ => ?_)
    unfold IterG_I_Prev.j2
    refine r_nil (r_fld ?_)
    refine St.r_load1 s 0 (j := 14) rfl rfl ?_
    refine w.lenV ?_
    refine r_cmpI ?_
    refine r_if (fun _ => ?_) (fun e => absurd e (by simp))
    refine r_nil (r_fld ?_)
    refine St.r_load1 s 0 (j := 5) rfl rfl ?_
    refine r_if (fun _ => ?_) (fun _ => ?_)
    · refine Last_ok T I0 s0' (fun e A' h' I' s' => ?_) fun e A' h' I' s' => ?_
      · refine r_br (fun e => absurd e (by decide)) (fun _ => ?_)
        exact H false .off A' h' (fun _ => ⟨rfl, rfl⟩) I' s'
      · refine r_br (fun _ => ?_) (fun e => absurd e (by decide))
        refine Prev_at T I' s' fun b ps' A2 h2 _ I2 s2 => ?_
        exact H b ps' A2 h2 (fun e0 => absurd e (by omega)) I2 s2
    · unfold IterG_I_Prev.j9
      exact H false .off _ h (fun _ => ⟨rfl, rfl⟩) I0 s
end Go.Proofs.Ytgnnidefbeoibaa.Gi
end
section
namespace Go.Proofs.Ytgnnidefbeoibaa.Gi
open Go.Hp Go.Proofs.Ytgnnidefbeoibaa
set_option linter.unusedVariables false
set_option linter.unusedSimpArgs false
variable {h0 h : Heap} {Z E : List Rg} {Q : Value → Heap → Prop}
variable {lt : It → It → Bool} {lf : Value} {k m tb ti to : Nat} {iso : Int} {t : GT It k}
/-- Where a node's items lie. -/
theorem NdOk.nodeP : ∀ {q : Nat} {c : GT It q}, NdOk iso m Z q c → ∃ iv ib io isp a1 a2 a, (c.id, 0, [a1, a2, iv, .pointer a]) ∈ Z ∧ (ib, io, c.nd.its.flatMap enc ++ isp) ∈ Z ∧ Own 2 iv c.nd.its.length ib io (c.nd.its.flatMap enc) isp
  | 0, (d : Nd It), N => by
    obtain ⟨z1, z2⟩ := allZ_leaf N.2.2
    exact ⟨_, _, _, _, _, _, _, z1, z2, N.1.wf.1⟩
  | q + 1, c, N => by
    obtain ⟨z1, z2, _⟩ := allZ_inner (d := c.1) (ts := c.2) N.2.2
    exact ⟨_, _, _, _, _, _, _, z1, z2, N.1.wf.1.1⟩
theorem Seek_loop {hb ho tx : Nat} {hv : Value} {hc : List Value} {x : It} {q : Nat} {c : GT It q} {F : List (Nat × Int)} {A B : List It} {b o : Nat} {x0 : It} {as_ ae : Bool} {sv : Value} {sp : List Value} (swo : Swo lt) (hO : OrdC Z lf lt) {ctr root : Option Addr} {isoT cnt mn mx : Int} (hT : (tb, 0, hdr isoT ctr root cnt lf mn mx) ∈ Z) (hh : HnO hv hb ho hc) (m3 : 3 ≤ m) (hm : m ≤ 1024) (hk : k ≤ 4294967296) (N : NdOk iso m Z k t) (ha : Asc lt t.pt.items) (u : Up t F q c A B) (hA : ∀ y ∈ A, lt y x = true) (hB : ∀ y, B.head? = some y → lt y x = false) (w : Own 2 sv F.length b o (F.flatMap frC) sp) (s : St h0 Z ((ti, to, itC tb true as_ ae sv x0) :: (b, o, (F).flatMap frC ++ sp) :: (hb, ho, hc) :: (tx, 0, enc x) :: E) h)
    (H0 : pos lt t.pt.items x = t.pt.items.length → ∀ sv' b o sp' hc' R h', HnO hv hb ho hc' → Own 2 sv' 0 b o [] sp' → St h0 Z ((ti, to, itC tb true as_ true sv' x0) :: (b, o, (([] : List (Nat × Int))).flatMap frC ++ sp') :: (hb, ho, hc') :: (tx, 0, enc x) :: (R ++ E)) h' → Q (.bool false) h')
    (H1 : ∀ F' y sv' b o sp' hc' R h', HnO hv hb ho hc' → Pl t F' (pos lt t.pt.items x) y → Own 2 sv' F'.length b o (F'.flatMap frC) sp' → St h0 Z ((ti, to, itC tb true as_ ae sv' y) :: (b, o, (F').flatMap frC ++ sp') :: (hb, ho, hc') :: (tx, 0, enc x) :: (R ++ E)) h' → Q (.bool true) h') :
    loopC (fun c s h K1 => IterG_I_seek.l3.b (c.getD 0 undef) (c.getD 1 undef) (c.getD 2 undef) (s.getD 0 undef) (s.getD 1 undef) h K1 Q) [ptr ti to, hv, ptr tx 0] [ptr c.id 0, .int .i64 (F.length : Nat)] h := by
  refine loop_ghost (fun q st h' => ∃ (c : GT It q) (F : List (Nat × Int)) (A B : List It) (sv : Value) (b o : Nat) (sp : List Value) (hc : List Value) (R : List Rg), st = [ptr c.id 0, .int .i64 (F.length : Nat)] ∧ HnO hv hb ho hc ∧ Up t F q c A B ∧ (∀ y ∈ A, lt y x = true) ∧ (∀ y, B.head? = some y → lt y x = false) ∧ Own 2 sv F.length b o (F.flatMap frC) sp ∧ St h0 Z ((ti, to, itC tb true as_ ae sv x0) :: (b, o, (F).flatMap frC ++ sp) :: (hb, ho, hc) :: (tx, 0, enc x) :: (R ++ E)) h') (n0 := q) ⟨c, F, A, B, sv, b, o, sp, hc, [], rfl, hh, u, hA, hB, w, s⟩ ?_
  clear s w hA hB u hh
  rintro q st h ⟨c, F, A, B, sv, b, o, sp, hc, R, rfl, hh, u, hA, hB, w, s⟩ K HK
  have Nc := N.up m3 u
  have hFl := u.len
  have hil := Nc.its
  have hit := u.items (N.hl m3)
  have hac : Asc lt c.pt.items := by rw [hit] at ha; exact (asc_app (asc_app ha).2.1).1
  have hpos : pos lt t.pt.items x = A.length + pos lt c.pt.items x := by rw [hit, pos_app hA, pos_app2 hB]
  obtain ⟨iv, ib, io, isp, a1, a2, a4, y1, y2, wi⟩ := Nc.nodeP
  have hai : Asc lt c.nd.its := by
    have e := PT.its_sub c.pt
    rw [GT.pt_its] at e
    exact asc_of_sub hac e
  have hpl := pos_le (lt := lt) c.nd.its x
  unfold IterG_I_seek.l3.b
  refine r_nil (r_fld ?_)
  refine St.r_load1 s 0 (j := 0) rfl rfl ?_
  refine St.r_loadN0 s 3 rfl (by simp) ?_
  have s : St h0 Z ((hb, ho, hc) :: (ti, to, itC tb true as_ ae sv x0) :: (b, o, (F).flatMap frC ++ sp) :: (tx, 0, enc x) :: (R ++ E)) h := s.perm (by ((apply perm_rg; intro f; simp only [List.set_cons_zero, List.set_cons_succ, List.eraseIdx_cons_zero, List.eraseIdx_cons_succ, List.cons_append, List.nil_append, List.map_append, List.map_cons, List.map_nil, List.sum_append, List.sum_cons, List.sum_nil, List.map_flatMap, Nat.add_zero, Nat.zero_add]; ac_rfl)))
  refine findO_ok swo hO (x := x) hh (by omega) s (s.clz hT 6 rfl rfl) (n := c.id) (List.mem_append_right _ y1) (wi.rdlO (s.z _ y2)) hai (by omega) (by omega) fun hc h hh s => ?_
  have s : St h0 Z ((ti, to, itC tb true as_ ae sv x0) :: (b, o, (F).flatMap frC ++ sp) :: (hb, ho, hc) :: (tx, 0, enc x) :: (R ++ E)) h := s.perm (by ((apply perm_rg; intro f; simp only [List.set_cons_zero, List.set_cons_succ, List.eraseIdx_cons_zero, List.eraseIdx_cons_succ, List.cons_append, List.nil_append, List.map_append, List.map_cons, List.map_nil, List.sum_append, List.sum_cons, List.sum_nil, List.map_flatMap, Nat.add_zero, Nat.zero_add]; ac_rfl)))
  refine r_ext rfl ?_
  refine r_ext rfl ?_
  refine r_nil (r_fld ?_)
  refine St.r_load1 s 0 (j := 14) rfl rfl ?_
  refine r_build (cs := frC (c.id, (pos lt c.nd.its x : Int))) (by ((simp only [fillV, fill1, Value.cells, zeros_succ, zeros_zero, List.size_toArray, List.length_cons, List.length_nil, List.length_append, List.take_succ_cons, List.take_zero, List.take_nil, List.drop_succ_cons, List.drop_zero, List.drop_nil, List.cons_append, List.nil_append, List.append_nil, Nat.reduceAdd, Nat.reduceMul, Nat.reduceLeDiff, Nat.reduceEqDiff, and_self, and_true, true_and, if_true, Nat.le_refl, Nat.zero_add, Nat.add_zero, Nat.zero_mul, reduceIte, if_false] <;> rfl))) ?_
  refine St.r_mkSl (sz := 2) (cs := frC (c.id, (pos lt c.nd.its x : Int))) s (by ((simp only [fillV, fill1, Value.cells, zeros_succ, zeros_zero, List.size_toArray, List.length_cons, List.length_nil, List.length_append, List.take_succ_cons, List.take_zero, List.take_nil, List.drop_succ_cons, List.drop_zero, List.drop_nil, List.cons_append, List.nil_append, List.append_nil, Nat.reduceAdd, Nat.reduceMul, Nat.reduceLeDiff, Nat.reduceEqDiff, and_self, and_true, true_and, if_true, Nat.le_refl, Nat.zero_add, Nat.add_zero, Nat.zero_mul, reduceIte, if_false] <;> rfl))) rfl fun q5 h s wq => ?_
  refine s.r_appL (f := frC) (L := F) (M := [(c.id, (pos lt c.nd.its x : Int))]) 2 rfl w rfl (by have := wq.rdl s 0 (by rw [List.append_nil]; rfl); simpa using this) (fun y _ => fc1 y) (by rw [List.length_singleton]; omega) (by rw [List.length_singleton]; omega) fun sv' b' o' sp' h s w' => ?_
  refine r_nil (r_fld ?_)
  refine St.r_store1 s 1 (j := 14) rfl (by simp [itC]) w'.one ?_; intro h s
  have s : St h0 Z ((q5, 0, frC (c.id, (pos lt c.nd.its x : Int))) :: (ti, to, itC tb true as_ ae sv' x0) :: (b', o', (F ++ [(c.id, (pos lt c.nd.its x : Int))]).flatMap frC ++ sp') :: (hb, ho, hc) :: (tx, 0, enc x) :: (R ++ E)) h := s
  have s : St h0 Z ((ti, to, itC tb true as_ ae sv' x0) :: (b', o', (F ++ [(c.id, (pos lt c.nd.its x : Int))]).flatMap frC ++ sp') :: (hb, ho, hc) :: (tx, 0, enc x) :: (((q5, 0, frC (c.id, (pos lt c.nd.its x : Int))) :: R) ++ E)) h := s.perm (by ((apply perm_rg; intro f; simp only [List.set_cons_zero, List.set_cons_succ, List.eraseIdx_cons_zero, List.eraseIdx_cons_succ, List.cons_append, List.nil_append, List.map_append, List.map_cons, List.map_nil, List.sum_append, List.sum_cons, List.sum_nil, List.map_flatMap, Nat.add_zero, Nat.zero_add]; ac_rfl)))
  have hl : (F ++ [(c.id, (pos lt c.nd.its x : Int))]).length = F.length + 1 := by rw [List.length_append]; rfl
  cases hg : lget lt c.nd.its x with
  | some y =>
    obtain ⟨hp, hy, hy1, hy2⟩ := lget_some hg
    have hyx : c.nd.its[pos lt c.nd.its x]? = some y := by rw [List.getElem?_eq_getElem hp, hy]
    refine r_if (fun _ => ?_) (fun e => absurd e (by simp))
    refine r_nil (r_fld ?_)
    refine s.r_lz0 y1 (j := 2) rfl ?_
    refine wi.idx (n := pos lt c.nd.its x) rfl hp ?_
    refine s.r_loadFZ encl y2 hyx ?_
    refine r_nil (r_fld ?_)
    refine St.r_storeN s 0 (j := 15) rfl (encl y) (by simp [itC]) (enc1 y) ?_; intro h s
    have pl : Pl t (F ++ [(c.id, (pos lt c.nd.its x : Int))]) (pos lt t.pt.items x) y := by
      cases q with
      | zero =>
        rw [hpos]
        exact Pl.leaf u hyx
      | succ q =>
        have hlen := Nc.len
        have hp2 : pos lt c.1.its x < c.1.its.length := hp
        obtain ⟨k1, hcc⟩ : ∃ k1, c.2[pos lt c.1.its x]? = some k1 := ⟨_, List.getElem?_eq_getElem (by omega)⟩
        obtain ⟨k2, hc2⟩ : ∃ k2, c.2[pos lt c.1.its x + 1]? = some k2 := ⟨_, List.getElem?_eq_getElem (by omega)⟩
        have er := GT.round c hlen hcc
        rw [GT.rig_cons c hc2 hyx, ← List.append_assoc] at er
        have e0 : pos lt (y :: (k2.pt.items ++ c.rig (pos lt c.1.its x + 1))) x = 0 := pos_zero (fun z hz => by
          have : y = z := Option.some.inj hz
          rw [← this]; exact hy1)
        have e : pos lt c.pt.items x = (c.lef (pos lt c.1.its x) ++ k1.pt.items).length := by
          have hac2 := hac
          rw [er] at hac2
          rw [er, pos_app (fun z hz => swo.tr1 ((asc_app hac2).2.2 z hz y (List.mem_cons_self ..)) hy2), e0, Nat.add_zero]
        have := Pl.inner u hyx hcc
        rw [hpos, e, List.length_append, ← Nat.add_assoc]
        exact this
    exact H1 _ y sv' b' o' sp' hc ((q5, 0, frC (c.id, (pos lt c.nd.its x : Int))) :: R) h hh pl w' s
  | none =>
    refine r_if (fun e => absurd e (by simp)) (fun _ => ?_)
    unfold IterG_I_seek.j4
    cases q with
    | zero =>
      obtain ⟨z1, z2⟩ := allZ_leaf Nc.2.2
      refine leaf_ok (a := none) (s.clz z1 3 rfl rfl) ?_
      refine r_if (fun _ => ?_) (fun e => absurd e (by simp))
      refine r_nil (r_fld ?_)
      refine St.r_load1 s 0 (j := 14) rfl rfl ?_
      refine r_nil (r_fld ?_)
      refine St.r_load1 s 0 (j := 14) rfl rfl ?_
      refine w'.lenV ?_
      refine r_sub1 (by omega) (by omega) ?_
      refine w'.idx (n := F.length) (by omega) (by omega) ?_
      refine r_fld ?_
      refine s.ldF1 1 rfl ?_
      refine r_sub (z := (pos lt c.nd.its x : Int) - 1) (i64w (by omega) (by omega)) ?_
      refine w'.idx (n := F.length) (by omega) (by omega) ?_
      refine r_fld ?_
      refine s.stF1 1 rfl ?_; intro h s
      have w3 : Own 2 sv' (F ++ [(c.id, (pos lt c.nd.its x : Int) - 1)]).length b' o' ((F ++ [(c.id, (pos lt c.nd.its x : Int) - 1)]).flatMap frC) sp' := w'.list fcl (by rw [List.length_append, List.length_append]; rfl)
      have s : St h0 Z ((ti, to, itC tb true as_ ae sv' x0) :: (b', o', (F ++ [(c.id, (pos lt c.nd.its x : Int) - 1)]).flatMap frC ++ sp') :: (hb, ho, hc) :: (tx, 0, enc x) :: (((q5, 0, frC (c.id, (pos lt c.nd.its x : Int))) :: R) ++ E)) h := s
      have hpos : A.length + pos lt c.nd.its x = pos lt t.pt.items x := hpos.symm
      refine IterG_I_Next.body _ _ _ ?_
      unfold IterG_I_Next.sh
      refine r_nil (r_fld ?_)
      refine St.r_load1 s 0 (j := 0) rfl rfl ?_
      refine ⟨_, rfl, ?_⟩
      refine r_if (fun e => absurd e (by simp)) (fun _ => ?_)
      unfold IterG_I_Next.j1
      refine r_nil (r_fld ?_)
      refine St.r_load1 s 0 (j := 3) rfl rfl ?_
      refine r_not ?_
      refine r_if (fun e => absurd e (by simp)) (fun _ => ?_)
      unfold IterG_I_Next.j2
      refine r_nil (r_fld ?_)
      refine St.r_load1 s 0 (j := 14) rfl rfl ?_
      refine w3.lenV ?_
      refine r_cmpI ?_
      refine r_if (fun e => absurd e (by rw [List.length_append]; simp; omega)) (fun _ => ?_)
      refine Next_leaf (i := pos lt c.nd.its x) m3 hm hk N u (by omega) hpl w3 s (fun e sv2 sp2 h2 w2 s2 => ?_) fun F' y sv2 sp2 h2 pl w2 s2 => ?_
      · exact H0 (by rw [← hpos]; exact e) sv2 b' o' sp2 hc _ h2 hh w2 s2
      · rw [hpos] at pl
        exact H1 F' y sv2 b' o' sp2 hc _ h2 hh pl w2 s2
    | succ q =>
      obtain ⟨z1, z2, z3, z4, z5⟩ := allZ_inner (d := c.1) (ts := c.2) Nc.2.2
      have wK : Own 1 c.1.kv c.2.length c.1.krb c.1.kro ((c.2.map GT.id).map fun m => ptr m 0) c.1.ksp := Nc.1.wf.2.1
      have hlen := Nc.len
      have hpl2 : pos lt c.1.its x ≤ c.1.its.length := hpl
      have hcc : c.2[pos lt c.1.its x]? = some (c.2[pos lt c.1.its x]'(by omega)) := List.getElem?_eq_getElem _
      refine leaf_ok (a := some ⟨c.1.kb, 0, none⟩) (s.clz z1 3 rfl rfl) ?_
      refine r_if (fun e => absurd e (by simp)) (fun _ => ?_)
      unfold IterG_I_seek.j5
      refine r_nil (r_fld ?_)
      refine St.r_load1 s 0 (j := 0) rfl rfl ?_
      refine r_nil (r_fld ?_)
      refine s.r_lz0 z1 (j := 3) rfl ?_
      refine r_nil ?_
      refine s.r_lz0 z3 (j := 0) rfl ?_
      refine wK.idx (n := pos lt c.1.its x) rfl (by omega) ?_
      refine r_nil (r_fld ?_)
      refine St.r_load1 s 0 (j := 1) rfl rfl ?_
      refine isoLoad_ro (kidcell z4 hcc s) ?_
      have er := GT.round c hlen hcc
      have hai2 : Asc lt c.1.its := hai
      refine r_add (z := ((F ++ [(c.id, (pos lt c.nd.its x : Int))]).length : Nat)) (by rw [hl, i64w (by omega) (by omega)]; omega) ?_
      refine HK q _ _ (Nat.lt_succ_self q) ⟨_, _, _, _, sv', b', o', sp', hc, (q5, 0, frC (c.id, (pos lt c.nd.its x : Int))) :: R, rfl, hh, Up.down u hcc, fun z hz => ?_, fun z hz => ?_, w', s⟩
      · rcases List.mem_append.1 hz with hz | hz
        · exact hA z hz
        · refine lz_before swo (a := c.1.its.take (pos lt c.1.its x)) (ka := (c.2.take (pos lt c.1.its x)).map fun c => c.pt.items) (r := (c.2[pos lt c.1.its x]'(by omega)).pt.items ++ c.rig (pos lt c.1.its x)) (by simp; omega) (by rw [er] at hac; exact hac) (asc_pos swo hai2).1 z hz
      · have hz : (c.rig (pos lt c.1.its x) ++ B).head? = some z := hz
        by_cases hlt : pos lt c.1.its x < c.1.its.length
        · have hc2 : c.2[pos lt c.1.its x + 1]? = some (c.2[pos lt c.1.its x + 1]'(by omega)) := List.getElem?_eq_getElem _
          rw [GT.rig_cons c hc2 (List.getElem?_eq_getElem hlt)] at hz
          cases hz
          exact pos_at hlt
        · rw [GT.rigE c (by omega), List.nil_append] at hz
          exact hB z hz
theorem seek_ok {g : Rt} {ps : Pos} {A : List Rg} {x : It} {hb ho : Nat} {hv : Value} {hc : List Value} (T : ItT lt lf Z g tb m) (I : ItAt g tb ti to ps A) (hh : HnO hv hb ho hc) (s : St h0 Z (A ++ ((hb, ho, hc) :: E)) h)
    (H0 : pos lt (rPt g).items x = (rPt g).items.length → ∀ A' hc' R' h', ItAt g tb ti to .off A' → HnO hv hb ho hc' → St h0 Z (A' ++ ((hb, ho, hc') :: (R' ++ E))) h' → Q (.bool false) h')
    (H1 : pos lt (rPt g).items x < (rPt g).items.length → ∀ A' hc' R' h', ItAt g tb ti to (.at' (pos lt (rPt g).items x)) A' → HnO hv hb ho hc' → St h0 Z (A' ++ ((hb, ho, hc') :: (R' ++ E))) h' → Q (.bool true) h') : IterG_I_seek.call #[ptr ti to, av x, hv] h Q := by
  obtain ⟨sk, as_, ae, sv, x0, b, o, F, sp, R, w, rfl, -⟩ := I
  obtain ⟨iso, ctr, cnt, mn, mx, hT⟩ := T.hd
  refine IterG_I_seek.body _ _ _ _ _ ?_
  unfold IterG_I_seek.sh
  refine St.r_box (cs := enc x) s fun tx h s => ?_
  have s : St h0 Z ((ti, to, itC tb sk as_ ae sv x0) :: (b, o, (F).flatMap frC ++ sp) :: (hb, ho, hc) :: (tx, 0, enc x) :: (R ++ E)) h := s.perm (by ((apply perm_rg; intro f; simp only [List.set_cons_zero, List.set_cons_succ, List.eraseIdx_cons_zero, List.eraseIdx_cons_succ, List.cons_append, List.nil_append, List.map_append, List.map_cons, List.map_nil, List.sum_append, List.sum_cons, List.sum_nil, List.map_flatMap, Nat.add_zero, Nat.zero_add]; ac_rfl)))
  refine r_nil (r_fld ?_)
  refine St.r_load1 s 0 (j := 0) rfl rfl ?_
  refine ⟨_, rfl, ?_⟩
  refine r_if (fun e => absurd e (by simp)) (fun _ => ?_)
  unfold IterG_I_seek.j1
  refine r_nil (r_fld ?_)
  refine St.r_store1 s 0 (j := 3) rfl (by simp [itC]) rfl ?_; intro h s
  refine r_nil (r_fld ?_)
  refine St.r_load1 s 0 (j := 14) rfl rfl ?_
  refine w.slcHi fcl (i := 0) rfl (Nat.zero_le _) fun sv' w' => ?_
  rw [List.take_zero, List.drop_zero] at w'
  refine r_nil (r_fld ?_)
  refine St.r_store1 s 0 (j := 14) rfl (by simp [itC]) w'.one ?_; intro h s
  have s : St h0 Z ((ti, to, itC tb true as_ ae sv' x0) :: (b, o, (([] : List (Nat × Int))).flatMap frC ++ (F.flatMap frC ++ sp)) :: (hb, ho, hc) :: (tx, 0, enc x) :: (R ++ E)) h := s
  refine r_nil (r_fld ?_)
  refine St.r_load1 s 0 (j := 0) rfl rfl ?_
  refine r_nil (r_fld ?_)
  refine s.r_lz0 hT (j := 2) rfl ?_
  refine ⟨_, rfl, ?_⟩
  cases g with
  | none =>
    refine r_if (fun _ => ?_) (fun e => absurd e (by simp [rA]))
    exact H0 rfl _ hc [(tx, 0, enc x)] h ⟨true, as_, ae, sv', x0, b, o, [], F.flatMap frC ++ sp, R, w', rfl, rfl, rfl⟩ hh (s.perm (by
      show List.Perm ((ti, to, itC tb true as_ ae sv' x0) :: (b, o, (([] : List (Nat × Int))).flatMap frC ++ (F.flatMap frC ++ sp)) :: (R ++ ((hb, ho, hc) :: (tx, 0, enc x) :: E))) _
      ((apply perm_rg; intro f; simp only [List.set_cons_zero, List.set_cons_succ, List.eraseIdx_cons_zero, List.eraseIdx_cons_succ, List.cons_append, List.nil_append, List.map_append, List.map_cons, List.map_nil, List.sum_append, List.sum_cons, List.sum_nil, List.map_flatMap, Nat.add_zero, Nat.zero_add]; ac_rfl))))
  | some t =>
    obtain ⟨hne, hk⟩ := T.ne rfl
    obtain ⟨iso', hn⟩ := T.nd
    have N := hn t rfl
    refine r_if (fun e => absurd e (by simp [rA])) (fun _ => ?_)
    unfold IterG_I_seek.j2
    refine r_nil (r_fld ?_)
    refine St.r_load1 s 0 (j := 0) rfl rfl ?_
    refine r_nil (r_fld ?_)
    refine St.r_load1 s 0 (j := 0) rfl rfl ?_
    refine r_nil (r_fld ?_)
    refine r_nil (r_fld ?_)
    refine St.r_load1 s 0 (j := 1) rfl rfl ?_
    refine isoLoad_ro (n := t.2.id) (s.clz hT 2 rfl rfl) ?_
    refine Seek_loop (x := x) (E := R ++ E) T.swo T.ord hT hh T.m3 T.m1 hk N T.asc Up.top (fun y hy => absurd hy List.not_mem_nil) (fun y hy => by cases hy) w' s (fun e sv2 b2 o2 sp2 hc2 R2 h2 hh2 w2 s2 => ?_) fun F' y sv2 b2 o2 sp2 hc2 R2 h2 hh2 pl w2 s2 => ?_
    · exact H0 e _ hc2 ((tx, 0, enc x) :: R2) h2 ⟨true, as_, true, sv2, x0, b2, o2, [], sp2, R, w2, rfl, rfl, rfl⟩ hh2 (s2.perm (by
        show List.Perm ((ti, to, itC tb true as_ true sv2 x0) :: (b2, o2, (([] : List (Nat × Int))).flatMap frC ++ sp2) :: (R ++ ((hb, ho, hc2) :: (((tx, 0, enc x) :: R2) ++ E)))) ((ti, to, itC tb true as_ true sv2 x0) :: (b2, o2, (([] : List (Nat × Int))).flatMap frC ++ sp2) :: (hb, ho, hc2) :: (tx, 0, enc x) :: (R2 ++ (R ++ E)))
        ((apply perm_rg; intro f; simp only [List.set_cons_zero, List.set_cons_succ, List.eraseIdx_cons_zero, List.eraseIdx_cons_succ, List.cons_append, List.nil_append, List.map_append, List.map_cons, List.map_nil, List.sum_append, List.sum_cons, List.sum_nil, List.map_flatMap, Nat.add_zero, Nat.zero_add]; ac_rfl))))
    · have hlt : pos lt t.2.pt.items x < t.2.pt.items.length := (List.getElem?_eq_some_iff.1 (pl.at (N.hl T.m3))).1
      exact H1 hlt _ hc2 ((tx, 0, enc x) :: R2) h2 ⟨true, as_, ae, sv2, y, b2, o2, F', sp2, R, w2, rfl, rfl, t, rfl, pl⟩ hh2 (s2.perm (by
        show List.Perm ((ti, to, itC tb true as_ ae sv2 y) :: (b2, o2, (F').flatMap frC ++ sp2) :: (R ++ ((hb, ho, hc2) :: (((tx, 0, enc x) :: R2) ++ E)))) ((ti, to, itC tb true as_ ae sv2 y) :: (b2, o2, (F').flatMap frC ++ sp2) :: (hb, ho, hc2) :: (tx, 0, enc x) :: (R2 ++ (R ++ E)))
        ((apply perm_rg; intro f; simp only [List.set_cons_zero, List.set_cons_succ, List.eraseIdx_cons_zero, List.eraseIdx_cons_succ, List.cons_append, List.nil_append, List.map_append, List.map_cons, List.map_nil, List.sum_append, List.sum_cons, List.sum_nil, List.map_flatMap, Nat.add_zero, Nat.zero_add]; ac_rfl))))
theorem Seek_ok {g : Rt} {ps : Pos} {A : List Rg} {x : It} (T : ItT lt lf Z g tb m) (I : ItAt g tb ti to ps A) (s : St h0 Z (A ++ E) h)
    (H0 : pos lt (rPt g).items x = (rPt g).items.length → ∀ A' R' h', ItAt g tb ti to .off A' → St h0 Z (A' ++ (R' ++ E)) h' → Q (.bool false) h')
    (H1 : pos lt (rPt g).items x < (rPt g).items.length → ∀ A' R' h', ItAt g tb ti to (.at' (pos lt (rPt g).items x)) A' → St h0 Z (A' ++ (R' ++ E)) h' → Q (.bool true) h') : IterG_I_Seek.call #[ptr ti to, av x] h Q := by
  refine IterG_I_Seek.body _ _ _ _ ?_
  unfold IterG_I_Seek.sh
  refine St.r_box (cs := enc x) s fun tx h s => ?_
  refine St.r_loadN0 s 0 rfl (by simp) ?_
  refine seek_ok T I Hn.none (E := (tx, 0, enc x) :: E) (((s.empty 0 0)).perm (by ((apply perm_rg; intro f; simp only [List.set_cons_zero, List.set_cons_succ, List.eraseIdx_cons_zero, List.eraseIdx_cons_succ, List.cons_append, List.nil_append, List.map_append, List.map_cons, List.map_nil, List.sum_append, List.sum_cons, List.sum_nil, List.map_flatMap, Nat.add_zero, Nat.zero_add]; ac_rfl)))) (fun e A' hc' R' h' I' hh' s' => ?_) fun e A' hc' R' h' I' hh' s' => ?_
  · exact H0 e A' ((0, 0, hc') :: R' ++ [(tx, 0, enc x)]) h' I' (s'.perm (by ((apply perm_rg; intro f; simp only [List.set_cons_zero, List.set_cons_succ, List.eraseIdx_cons_zero, List.eraseIdx_cons_succ, List.cons_append, List.nil_append, List.map_append, List.map_cons, List.map_nil, List.sum_append, List.sum_cons, List.sum_nil, List.map_flatMap, Nat.add_zero, Nat.zero_add]; ac_rfl))))
  · exact H1 e A' ((0, 0, hc') :: R' ++ [(tx, 0, enc x)]) h' I' (s'.perm (by ((apply perm_rg; intro f; simp only [List.set_cons_zero, List.set_cons_succ, List.eraseIdx_cons_zero, List.eraseIdx_cons_succ, List.cons_append, List.nil_append, List.map_append, List.map_cons, List.map_nil, List.sum_append, List.sum_cons, List.sum_nil, List.map_flatMap, Nat.add_zero, Nat.zero_add]; ac_rfl))))
theorem SeekHint_ok {g : Rt} {ps : Pos} {A : List Rg} {x : It} {hb ho : Nat} {hc : List Value} (T : ItT lt lf Z g tb m) (I : ItAt g tb ti to ps A) (hh : HintC hc) (s : St h0 Z (A ++ ((hb, ho, hc) :: E)) h)
    (H0 : pos lt (rPt g).items x = (rPt g).items.length → ∀ A' hc' R' h', ItAt g tb ti to .off A' → HintC hc' → St h0 Z (A' ++ ((hb, ho, hc') :: (R' ++ E))) h' → Q (.bool false) h')
    (H1 : pos lt (rPt g).items x < (rPt g).items.length → ∀ A' hc' R' h', ItAt g tb ti to (.at' (pos lt (rPt g).items x)) A' → HintC hc' → St h0 Z (A' ++ ((hb, ho, hc') :: (R' ++ E))) h' → Q (.bool true) h') : IterG_I_SeekHint.call #[ptr ti to, av x, ptr hb ho] h Q := by
  refine IterG_I_SeekHint.body _ _ _ _ _ ?_
  unfold IterG_I_SeekHint.sh
  refine St.r_box (cs := enc x) s fun tx h s => ?_
  refine St.r_loadN0 s 0 rfl (by simp) ?_
  have back : ∀ {hc'}, HnO (ptr hb ho) hb ho hc' → HintC hc' := fun h => by
    rcases h with ⟨e, _⟩ | ⟨_, h⟩
    · cases e
    · exact h
  refine seek_ok T I (.inr ⟨rfl, hh⟩) (E := (tx, 0, enc x) :: E) (s.perm (by ((apply perm_rg; intro f; simp only [List.set_cons_zero, List.set_cons_succ, List.eraseIdx_cons_zero, List.eraseIdx_cons_succ, List.cons_append, List.nil_append, List.map_append, List.map_cons, List.map_nil, List.sum_append, List.sum_cons, List.sum_nil, List.map_flatMap, Nat.add_zero, Nat.zero_add]; ac_rfl)))) (fun e A' hc' R' h' I' hh' s' => ?_) fun e A' hc' R' h' I' hh' s' => ?_
  · exact H0 e A' hc' (R' ++ [(tx, 0, enc x)]) h' I' (back hh') (s'.perm (by ((apply perm_rg; intro f; simp only [List.set_cons_zero, List.set_cons_succ, List.eraseIdx_cons_zero, List.eraseIdx_cons_succ, List.cons_append, List.nil_append, List.map_append, List.map_cons, List.map_nil, List.sum_append, List.sum_cons, List.sum_nil, List.map_flatMap, Nat.add_zero, Nat.zero_add]; ac_rfl))))
  · exact H1 e A' hc' (R' ++ [(tx, 0, enc x)]) h' I' (back hh') (s'.perm (by ((apply perm_rg; intro f; simp only [List.set_cons_zero, List.set_cons_succ, List.eraseIdx_cons_zero, List.eraseIdx_cons_succ, List.cons_append, List.nil_append, List.map_append, List.map_cons, List.map_nil, List.sum_append, List.sum_cons, List.sum_nil, List.map_flatMap, Nat.add_zero, Nat.zero_add]; ac_rfl))))
theorem ItAt.cell {g : Rt} {ps : Pos} {A : List Rg} (T : ItT lt lf Z g tb m) (I : ItAt g tb ti to ps A) : ∃ sk as_ ae sv x R, A = (ti, to, itC tb sk as_ ae sv x) :: R ∧ ∀ n, ps = .at' n → (rPt g).items[n]? = some x := by
  obtain ⟨sk, as_, ae, sv, y, b, o, F, sp, R, w, rfl, hs⟩ := I
  refine ⟨sk, as_, ae, sv, y, _, rfl, fun n e => ?_⟩
  subst e
  obtain ⟨-, t, rfl, pl⟩ := hs
  obtain ⟨iso, hn⟩ := T.nd
  exact pl.at ((hn t rfl).hl T.m3)
end Go.Proofs.Ytgnnidefbeoibaa.Gi
end
section
namespace Go.Proofs.Ytgnnidefbeoibaa.Gi
open Go.Hp Go.Proofs.Ytgnnidefbeoibaa
set_option linter.unusedVariables false
set_option linter.unusedSimpArgs false
variable {lt : It → It → Bool} {L : List It}

/-- A move: what to do, and the item that is sought. -/
abbrev Mv := Int × It
abbrev mvC (m : Mv) : List Value := [.int .i64 m.1, .int .i64 m.2.1, .int .i64 m.2.2]
theorem mvCl (m : Mv) : (mvC m).length = 3 := rfl
theorem mvC1 (m : Mv) : ∀ y ∈ mvC m, one1 y = true := by simp [one1]
/-- The item at an index, none outside. -/
def atI (L : List It) (i : Int) : Option It := if 0 ≤ i then L[i.toNat]? else none
theorem atI_lt {n : Nat} (h : n < L.length) : atI L (n : Int) = some L[n] := by unfold atI; rw [if_pos (by omega), Int.toNat_natCast]; exact List.getElem?_eq_getElem h
theorem atI_ge {n : Nat} (h : L.length ≤ n) : atI L (n : Int) = none := by unfold atI; rw [if_pos (by omega), Int.toNat_natCast]; exact List.getElem?_eq_none h
theorem atI_neg {i : Int} (h : i < 0) : atI L i = none := by unfold atI; rw [if_neg (by omega)]
theorem atI_some {i : Int} {x : It} (h : atI L i = some x) : 0 ≤ i ∧ i.toNat < L.length ∧ L[i.toNat]? = some x := by
  unfold atI at h
  split at h
  · exact ⟨by assumption, (List.getElem?_eq_some_iff.1 h).1, h⟩
  · cases h
/-- Where a move leads from a place (-1: none that is told). -/
def tgt (lt : It → It → Bool) (L : List It) (a : Int) (m : Mv) : Int :=
  if m.1 = 2 ∨ m.1 = 3 then (if 0 ≤ a then (if m.1 = 2 then a + 1 else a - 1) else a)
  else if m.1 = 1 then (L.length : Int) - 1 else if m.1 = 4 ∨ m.1 = 5 then (pos lt L m.2 : Nat) else 0
/-- Whether it is told what a move finds. -/
def kn (L : List It) (a : Int) (m : Mv) : Bool := if m.1 = 2 ∨ m.1 = 3 then decide (0 ≤ a) || decide (L.length = 0) else true
def nx (L : List It) (i : Int) : Int := if (atI L i).isSome then i else -1
theorem nx_ge (i : Int) : -1 ≤ nx L i := by
  unfold nx; split
  · rename_i h; obtain ⟨x, hx⟩ := Option.isSome_iff_exists.1 h; have := (atI_some hx).1; omega
  · omega
theorem nx_lt (i : Int) : nx L i < L.length := by
  unfold nx; split
  · rename_i h; obtain ⟨x, hx⟩ := Option.isSome_iff_exists.1 h; have := (atI_some hx).2.1; have := (atI_some hx).1; omega
  · omega
/-- The place behind some moves. -/
def spt (lt : It → It → Bool) (L : List It) (ms : List Mv) : Int := ms.foldl (fun a m => nx L (tgt lt L a m)) (-1)
theorem spt_snoc (ms : List Mv) (m : Mv) : spt lt L (ms ++ [m]) = nx L (tgt lt L (spt lt L ms) m) := by unfold spt; rw [List.foldl_append]; rfl
theorem spt_ge (ms : List Mv) : -1 ≤ spt lt L ms := by
  have : ∀ (ms : List Mv) (a : Int), -1 ≤ a → -1 ≤ ms.foldl (fun a m => nx L (tgt lt L a m)) a := fun ms => by
    induction ms with
    | nil => exact fun a h => h
    | cons m ms ih => exact fun a _ => ih _ (nx_ge _)
  exact this ms (-1) (by omega)
theorem spt_lt (ms : List Mv) : spt lt L ms < L.length := by
  have : ∀ (ms : List Mv) (a : Int), a < L.length → ms.foldl (fun a m => nx L (tgt lt L a m)) a < L.length := fun ms => by
    induction ms with
    | nil => exact fun a h => h
    | cons m ms ih => exact fun a _ => ih _ (nx_lt _)
  exact this ms (-1) (by omega)
/-- What moves find, and whether it is told. -/
def runI (lt : It → It → Bool) (L : List It) : Int → List Mv → List (Option It × Bool)
  | _, [] => []
  | a, m :: ms => (atI L (tgt lt L a m), kn L a m) :: runI lt L (nx L (tgt lt L a m)) ms
theorem runI_len : ∀ (a : Int) (ms : List Mv), (runI lt L a ms).length = ms.length
  | _, [] => rfl
  | a, m :: ms => by show (runI lt L _ ms).length + 1 = _; rw [runI_len]; rfl
theorem runI_app : ∀ (a : Int) (ms : List Mv) (m : Mv), runI lt L a (ms ++ [m]) = runI lt L a ms ++ [(atI L (tgt lt L (ms.foldl (fun a m => nx L (tgt lt L a m)) a) m), kn L (ms.foldl (fun a m => nx L (tgt lt L a m)) a) m)]
  | _, [], _ => rfl
  | a, x :: ms, m => by
    show _ :: runI lt L _ (ms ++ [m]) = _
    rw [runI_app]; rfl
theorem runI_snoc (ms : List Mv) (m : Mv) : runI lt L (-1) (ms ++ [m]) = runI lt L (-1) ms ++ [(atI L (tgt lt L (spt lt L ms) m), kn L (spt lt L ms) m)] := runI_app _ _ _
/-- What was found is as it is told, where it is told. -/
def Agree (F : List (Option It)) (r : List (Option It × Bool)) : Prop := F.length = r.length ∧ ∀ (j : Nat) (o : Option It) (p : Option It × Bool), F[j]? = some o → r[j]? = some p → p.2 = true → o = p.1
theorem Agree.nil : Agree [] [] := ⟨rfl, fun j o p h => by simp at h⟩
theorem Agree.snoc {F : List (Option It)} {r : List (Option It × Bool)} (a : Agree F r) {o : Option It} {p : Option It × Bool} (h : p.2 = true → o = p.1) : Agree (F ++ [o]) (r ++ [p]) := by
  refine ⟨by rw [List.length_append, List.length_append, a.1]; rfl, fun j o' p' h1 h2 => ?_⟩
  rcases Nat.lt_or_ge j F.length with hl | hl
  · rw [List.getElem?_append_left hl] at h1
    rw [List.getElem?_append_left (by rw [← a.1]; exact hl)] at h2
    exact a.2 j o' p' h1 h2
  · rw [List.getElem?_append_right hl] at h1
    rw [List.getElem?_append_right (by rw [← a.1]; exact hl), ← a.1] at h2
    have hj : j - F.length = 0 := by have := (List.getElem?_eq_some_iff.1 h1).1; simp at this; omega
    rw [hj] at h1 h2
    simp at h1 h2
    subst h1; subst h2
    exact h
/-- What was found, and is told, is the same in two runs that agree with the same moves. -/
theorem Agree.both {F G : List (Option It)} {r : List (Option It × Bool)} (a : Agree F r) (b : Agree G r) : ∀ (j : Nat) (o o' : Option It) (p : Option It × Bool), F[j]? = some o → G[j]? = some o' → r[j]? = some p → p.2 = true → o = o' :=
  fun j o o' p h1 h2 h3 h4 => (a.2 j o p h1 h3 h4).trans (b.2 j o' p h2 h3 h4).symm
theorem tgt_last (a : Int) {m : Mv} (h : m.1 = 1) : tgt lt L a m = (L.length : Int) - 1 := by unfold tgt; rw [h]; rfl
theorem tgt_seek (a : Int) {m : Mv} (h : m.1 = 4 ∨ m.1 = 5) : tgt lt L a m = (pos lt L m.2 : Nat) := by unfold tgt; rcases h with h | h <;> rw [h] <;> rfl
theorem tgt_first (a : Int) {m : Mv} (h : m.1 ≠ 1 ∧ m.1 ≠ 2 ∧ m.1 ≠ 3 ∧ m.1 ≠ 4 ∧ m.1 ≠ 5) : tgt lt L a m = 0 := by unfold tgt; rw [if_neg (by omega), if_neg (by omega), if_neg (by omega)]
theorem tgt_next {a : Int} (ha : 0 ≤ a) {m : Mv} (h : m.1 = 2) : tgt lt L a m = a + 1 := by unfold tgt; rw [if_pos (.inl h), if_pos ha, if_pos h]
theorem tgt_prev {a : Int} (ha : 0 ≤ a) {m : Mv} (h : m.1 = 3) : tgt lt L a m = a - 1 := by unfold tgt; rw [if_pos (.inr h), if_pos ha, if_neg (by omega)]
theorem tgt_off {a : Int} (ha : a < 0) {m : Mv} (h : m.1 = 2 ∨ m.1 = 3) : tgt lt L a m = a := by unfold tgt; rw [if_pos h, if_neg (by omega)]
theorem kn_abs (a : Int) {m : Mv} (h : ¬ (m.1 = 2 ∨ m.1 = 3)) : kn L a m = true := by unfold kn; rw [if_neg h]
theorem kn_rel (a : Int) {m : Mv} (h : m.1 = 2 ∨ m.1 = 3) : kn L a m = (decide (0 ≤ a) || decide (L.length = 0)) := by unfold kn; rw [if_pos h]
theorem nx_lt' {n : Nat} (h : n < L.length) : nx L (n : Int) = n := by unfold nx; rw [atI_lt h]; rfl
theorem nx_ge' {n : Nat} (h : L.length ≤ n) : nx L (n : Int) = -1 := by unfold nx; rw [atI_ge h]; rfl
theorem nx_neg {i : Int} (h : i < 0) : nx L i = -1 := by unfold nx; rw [atI_neg h]; rfl
end Go.Proofs.Ytgnnidefbeoibaa.Gi
end
section
namespace Go.Proofs.Ytgnnidefbeoibaa.Gi
open Go.Hp Go.Proofs.Ytgnnidefbeoibaa
set_option linter.unusedVariables false
set_option linter.unusedSimpArgs false
variable {lt : It → It → Bool} {L : List It}

/-- A step: the iterator, its move. -/
abbrev Sp := Nat × Mv
abbrev spC (x : Sp) : List Value := [.int .i64 (x.1 : Nat), .bool false, .int .i64 0, .bool false] ++ mvC x.2
theorem spCl (x : Sp) : (spC x).length = 7 := rfl
theorem spC1 (x : Sp) : ∀ y ∈ spC x, one1 y = true := by simp [one1]
/-- The moves of one iterator, and what it found. -/
def selM (c : Nat) (S : List Sp) : List Mv := (S.filter fun x => x.1 == c).map (·.2)
def selF {α : Type} (c : Nat) (S : List Sp) (G : List α) : List α := ((S.zip G).filter fun x => x.1.1 == c).map (·.2)
theorem selM_snoc (c : Nat) (S : List Sp) (x : Sp) : selM c (S ++ [x]) = selM c S ++ (if x.1 = c then [x.2] else []) := by
  unfold selM
  rw [List.filter_append, List.map_append]
  by_cases e : x.1 = c
  · rw [if_pos e, List.filter_cons, if_pos (by rw [e]; simp)]; rfl
  · rw [if_neg e, List.filter_cons, if_neg (by simpa using e)]; rfl
theorem selF_snoc {α : Type} (c : Nat) (S : List Sp) (G : List α) (x : Sp) (g : α) (h : S.length = G.length) : selF c (S ++ [x]) (G ++ [g]) = selF c S G ++ (if x.1 = c then [g] else []) := by
  unfold selF
  rw [List.zip_append h, List.filter_append, List.map_append]
  congr 1
  show List.map _ (List.filter _ [(x, g)]) = _
  by_cases e : x.1 = c
  · rw [if_pos e, List.filter_cons, if_pos (by simp [e])]; rfl
  · rw [if_neg e, List.filter_cons, if_neg (by simpa using e)]; rfl
/-- The moves of two iterators in turn. -/
def turnM (a b : List Mv) : Nat → List Sp
  | 0 => []
  | n + 1 => turnM a b n ++ ((a[n]?.toList.map fun m => (0, m)) ++ (b[n]?.toList.map fun m => (1, m)))
theorem turn_sel (a b : List Mv) : ∀ n, selM 0 (turnM a b n) = a.take n ∧ selM 1 (turnM a b n) = b.take n ∧ (∀ x ∈ turnM a b n, x.1 < 2) ∧ (turnM a b n).length ≤ 2 * n
  | 0 => ⟨rfl, rfl, fun x h => absurd h List.not_mem_nil, Nat.le_refl 0⟩
  | n + 1 => by
    obtain ⟨h1, h2, h3, h4⟩ := turn_sel a b n
    have ea : ∀ l : List Mv, l.take (n + 1) = l.take n ++ l[n]?.toList := fun l => List.take_add_one
    have s1 : ∀ (c : Nat) (S : List Sp) (o : Option Mv) (k : Nat), selM c (S ++ (o.toList.map fun m => (k, m))) = selM c S ++ (if k = c then o.toList else []) := fun c S o k => by
      cases o with
      | none => simp [selM]
      | some m => exact selM_snoc c S (k, m)
    unfold turnM
    refine ⟨?_, ?_, fun x hx => ?_, ?_⟩
    · rw [← List.append_assoc, s1, s1, h1, ea, if_pos rfl, if_neg (by decide), List.append_nil]
    · rw [← List.append_assoc, s1, s1, h2, ea, if_pos rfl, if_neg (by decide), List.append_nil]
    · rcases List.mem_append.1 hx with h | h
      · exact h3 x h
      · rcases List.mem_append.1 h with h | h
        · obtain ⟨m, _, rfl⟩ := List.mem_map.1 h; exact Nat.zero_lt_succ 1
        · obtain ⟨m, _, rfl⟩ := List.mem_map.1 h; exact Nat.lt_succ_self 1
    · have e : ∀ o : Option Mv, o.toList.length ≤ 1 := fun o => by cases o <;> simp
      have := e a[n]?
      have := e b[n]?
      simp only [List.length_append, List.length_map]
      omega
end Go.Proofs.Ytgnnidefbeoibaa.Gi
end
section
namespace Go.Hp
set_option linter.unusedVariables false
set_option linter.unusedSimpArgs false

abbrev KI : Type := Int × Int
/-- The order of the keys. -/
def ltK (a b : KI) : Bool := decide (a.1 < b.1)
theorem ltK_t {a b : KI} : ltK a b = true ↔ a.1 < b.1 := by simp [ltK]
theorem ltK_f {a b : KI} : ltK a b = false ↔ b.1 ≤ a.1 := by simp [ltK]
theorem swoK : Swo ltK where
  irr a := by simp [ltK]
  tr a b c h k := by rw [ltK_t] at *; omega
  ntr a b c h k := by rw [ltK_f] at *; omega
theorem lputK_asc {l : List KI} {x : KI} (ha : Asc ltK l) : Asc ltK (lput ltK l x) := asc_lput swoK ha
/-- The items of a tree into which a list was set. -/
def setK (l : List KI) : List KI := l.foldl (lput ltK) []
theorem setK_snoc (l : List KI) (x : KI) : setK (l ++ [x]) = lput ltK (setK l) x := by unfold setK; rw [List.foldl_append]; rfl
theorem asc_rev {P : List KI → Prop} (h0 : P []) (h1 : ∀ l x, P l → P (l ++ [x])) : ∀ l, P l := fun l => by
  have : ∀ r : List KI, P r.reverse := fun r => by
    induction r with
    | nil => exact h0
    | cons x r ih => rw [List.reverse_cons]; exact h1 _ _ ih
  have h := this l.reverse
  rwa [List.reverse_reverse] at h
theorem setK_asc (l : List KI) : Asc ltK (setK l) := by
  refine asc_rev (P := fun l => Asc ltK (setK l)) List.Pairwise.nil (fun l x h => ?_) l
  rw [setK_snoc]; exact lputK_asc h
theorem setK_len (l : List KI) : (setK l).length ≤ l.length := by
  refine asc_rev (P := fun l => (setK l).length ≤ l.length) (Nat.le_refl _) (fun l x ih => ?_) l
  rw [setK_snoc, lput_length, List.length_append, List.length_singleton]
  split <;> omega
end Go.Hp
end
