/-
  What setting an item below a node of a map comes to.
  Conditions: the nodes are the map's own and owned, filled as told; their items ascend.
-/
import Derived.Test.YtlihjljdndbpdaaHw
import Derived.Test.YtlihjljdndbpdaaKbIi
import Derived.Test.YtlihjljdndbpdaaS6
namespace Go.Proofs.Ytlihjljdndbpdaa.Ii
open Go.Hp Go.Proofs.Ytlihjljdndbpdaa
set_option linter.unusedVariables false
set_option linter.unusedSimpArgs false
variable {h0 h : Heap} {Z E : List Rg} {Q : Value → Heap → Prop}

/-- The value that was there. -/
abbrev old (r : Option It) : Value := vv (r.getD emp).2
theorem snoc_enc (l : List It) (e : It) : l.flatMap enc ++ enc e = (l ++ [e]).flatMap enc := by rw [List.flatMap_append, List.flatMap_singleton]
theorem snoc_fp (l : List Nat) (e : Nat) : l.flatMap fp ++ fp e = (l ++ [e]).flatMap fp := by rw [List.flatMap_append, List.flatMap_singleton]

theorem Gd.leaf {iso : Int} {d : Nd It} (w : Own 2 d.iv d.its.length d.ib d.io (d.its.flatMap enc) d.isp) (ho : d.own = true) (hi : d.iso = iso) (hc : d.cnt = d.its.length) : Gd iso (k := 0) d := ⟨⟨w, by simp [ho, hi]⟩, hc, ho⟩
theorem Gd.inner {iso : Int} {k : Nat} {d : Nd It} {ts : List (GT It k)} (w : Own 2 d.iv d.its.length d.ib d.io (d.its.flatMap enc) d.isp) (ho : d.own = true) (hi : d.iso = iso) (wK : Own 1 d.kv ts.length d.krb d.kro ((ts.map GT.id).flatMap fp) d.ksp)
    (hl : ts.length = d.its.length + 1) (hk : ∀ c ∈ ts, Gd iso c) (hc : d.cnt = (GT.pt (h := k + 1) (d, ts)).items.length) : Gd iso (k := k + 1) (d, ts) :=
  ⟨⟨⟨w, by simp [ho, hi]⟩, by rw [mfp]; exact wK, hl, fun c hc => ⟨(hk c hc).wf, fun e => by rw [ho] at e; cases e⟩⟩, ⟨hc, fun c hc => (hk c hc).cn⟩, ⟨ho, fun c hc => (hk c hc).mine⟩⟩

theorem set_head {n ib io pb po tb : Nat} {iso cnt : Int} {ctr : Option Addr} {iv kp : Value} {its : List It} {isp : List Value} {x : It} (hT0 : (tb, 0, hd0 iso ctr) ∈ Z) (ha : Asc lt its) (hb : its.length ≤ 1024)
    (w : Own 2 iv its.length ib io (its.flatMap enc) isp) (s : St h0 Z ((pb, po, [ptr n 0]) :: (n, 0, [.int .u64 iso, .int .i64 cnt, iv, kp]) :: (ib, io, its.flatMap enc ++ isp) :: E) h)
    (H1 : ∀ y h', lget lt its x = some y → St h0 Z ((pb, po, [ptr n 0]) :: (n, 0, [.int .u64 iso, .int .i64 cnt, iv, kp]) :: (ib, io, (lput lt its x).flatMap enc ++ isp) :: E) h' → Q (.tuple #[vv y.2, .bool true, .bool false]) h')
    (H2 : ∀ t5 t9 h', lget lt its x = none → St h0 Z ((t9, 0, [ptr n 0]) :: (t5, 0, enc x) :: (pb, po, [ptr n 0]) :: (n, 0, [.int .u64 iso, .int .i64 cnt, iv, kp]) :: (ib, io, its.flatMap enc ++ isp) :: E) h' → Map_ii_nodeSet.j1 (ptr tb 0) (ptr t5 0) (ptr t9 0) (.int .i64 (pos lt its x)) h' Q) :
    Map_ii_nodeSet.call #[ptr tb 0, ptr pb po, .agg (enc x).toArray] h Q := by
  refine Map_ii_nodeSet.body _ _ _ _ _ ?_
  unfold Map_ii_nodeSet.sh
  refine St.r_box (cs := enc x) s fun t5 h s => ?_
  refine isoLoad_ok (n := n) (iso := iso) (by have := s.getZ hT0 (j := 0) (by simp); simpa using this) (by have := s.get (k := 1) (j := 0) rfl (by simp); simpa using this) (fun _ => by have := s.get (k := 2) (j := 0) rfl (by simp); simpa using this) ?_
  refine s.r_alloc fun t9 h s => ?_
  refine St.r_store0 s 0 rfl (by simp) rfl ?_
  intro h s
  try simp only [List.set_cons_zero, List.set_cons_succ] at s
  refine St.r_load0 s 0 rfl rfl ?_
  refine r_fld ?_
  refine St.r_load0 s 1 rfl rfl ?_
  refine search_ok (x := x) ha (by omega) (by have := s.get (k := 3) (j := 2) rfl (by simp); simpa using this) (w.rdl s 4 rfl) ?_
  refine r_ext rfl ?_
  refine r_ext rfl ?_
  refine r_if (fun hf => ?_) (fun hn => ?_)
  · obtain ⟨y, hy⟩ := Option.isSome_iff_exists.1 hf
    obtain ⟨hp, hyy, _⟩ := lget_some hy
    have hy2 : its[pos lt its x]? = some y := by rw [List.getElem?_eq_getElem hp, hyy]
    refine St.r_load0 s 0 rfl rfl ?_
    refine r_nil ?_
    refine r_fld ?_
    refine St.r_load0 s 3 rfl rfl ?_
    refine w.idx (n := pos lt its x) rfl hp ?_
    refine r_fld ?_
    refine s.r_load1F encl (r := 0) 4 rfl hy2 rfl ?_
    refine St.r_load0 s 0 rfl rfl ?_
    refine r_nil ?_
    refine r_fld ?_
    refine St.r_load0 s 3 rfl rfl ?_
    refine St.r_loadN0 s 1 rfl (by simp) ?_
    refine w.idx (n := pos lt its x) rfl hp ?_
    refine s.r_storeF (x := x) encl 4 rfl hp (enc1 _) fun h s => ?_
    rw [← lput_found hy] at s
    exact H1 y h hy (s.drop 2)
  · have hn : lget lt its x = none := by cases e : lget lt its x with
      | none => rfl
      | some y => rw [e] at hn; cases hn
    exact H2 t5 t9 h hn s

/-- An item between the items of a node. -/
theorem set_leaf {n ib io i t5 t9 tb : Nat} {cnt mn mx : Int} {c1 iv kp : Value} {its : List It} {isp : List Value} {x : It} (htb : h0.size ≤ tb) (hT4 : (tb, 4, hd4 mn mx) ∈ Z) (hl : its.length ≤ 1024) (hi : i ≤ its.length) (hc0 : 0 ≤ cnt) (hc : cnt ≤ 4611686018427387904)
    (w : Own 2 iv its.length ib io (its.flatMap enc) isp) (s : St h0 Z ((t9, 0, [ptr n 0]) :: (t5, 0, enc x) :: (n, 0, [c1, .int .i64 cnt, iv, kp]) :: (ib, io, its.flatMap enc ++ isp) :: E) h)
    (H : ∀ iv' ib' io' isp' h', Own 2 iv' (ins its i x).length ib' io' ((ins its i x).flatMap enc) isp' → St h0 Z ((n, 0, [c1, .int .i64 (cnt + 1), iv', kp]) :: (ib', io', (ins its i x).flatMap enc ++ isp') :: E) h' → Q (.tuple #[vv emp.2, .bool false, .bool false]) h') :
    Map_ii_nodeSet.j6 (ptr tb 0) (ptr t5 0) (ptr t9 0) (.int .i64 i) h Q := by
  unfold Map_ii_nodeSet.j6
  refine St.r_load0 s 0 rfl rfl ?_
  refine St.r_load0 s 0 rfl rfl ?_
  refine r_nil ?_
  refine r_fld ?_
  refine St.r_load0 s 2 rfl rfl ?_
  refine r_nil ?_
  refine r_fld ?_
  refine s.r_lzE hT4 0 (enc emp) rfl (by simp) rfl ?_
  refine St.r_mkSl (sz := 2) (cs := enc emp) s (by ((simp only [fillV, fill1, Value.cells, zeros_succ, zeros_zero, List.size_toArray, List.length_cons, List.length_nil, List.length_append, List.take_succ_cons, List.take_zero, List.take_nil, List.drop_succ_cons, List.drop_zero, List.drop_nil, List.cons_append, List.nil_append, List.append_nil, Nat.reduceAdd, Nat.reduceMul, Nat.reduceLeDiff, Nat.reduceEqDiff, and_self, and_true, true_and, if_true, Nat.le_refl, Nat.zero_add, Nat.add_zero, Nat.zero_mul, reduceIte, if_false] <;> rfl))) rfl fun q h s w1 => ?_
  refine And.intro (by exact St.r_still0 s 1 rfl rfl) ?_
  refine And.intro (by exact St.r_still0 s 1 rfl rfl) ?_
  refine And.intro (by exact St.r_still0 s 3 rfl rfl) ?_
  refine St.r_app s 4 (sz := 2) (n := 1) (new := enc emp) rfl w rfl (w1.rdl s 0 rfl) (enc1 _) (by omega) (by omega) fun v' b' o' sp' h s w' => ?_
  rw [snoc_enc] at s w'
  have w' : Own 2 v' (its ++ [emp]).length b' o' ((its ++ [emp]).flatMap enc) sp' := by rw [List.length_append]; exact w'
  refine And.intro (by exact St.r_still0 s 1 rfl rfl) ?_
  refine r_nil ?_
  refine r_fld ?_
  refine St.r_store0 s 3 rfl (by simp) w'.one ?_; intro h s
  refine St.r_load0 s 1 rfl rfl ?_
  refine r_nil ?_
  refine r_fld ?_
  refine St.r_load0 s 3 rfl rfl ?_
  refine r_add (z := ((i + 1 : Nat) : Int)) (by rw [i64w (by omega) (by omega)]; omega) ?_
  refine w'.slcLo encl (i := i + 1) rfl (by simp; omega) fun d wd => ?_
  refine St.r_load0 s 1 rfl rfl ?_
  refine r_nil ?_
  refine r_fld ?_
  refine St.r_load0 s 3 rfl rfl ?_
  refine (w'.rdl s 4 rfl).slcLo encl (i := i) rfl (by simp; omega) fun src rs => ?_
  refine s.r_cpyF encl 4 (L := its ++ [emp]) (M := (its ++ [emp]).drop i) rfl wd (by simp; omega) rs rfl (fun y _ => enc1 y) fun h s => ?_
  refine St.r_load0 s 1 rfl rfl ?_
  refine r_nil ?_
  refine r_fld ?_
  refine St.r_load0 s 3 rfl rfl ?_
  refine St.r_loadN0 s 2 rfl (by simp) ?_
  refine w'.idx (n := i) rfl (by simp; omega) ?_
  refine s.r_storeF (x := x) encl 4 rfl (by simp; omega) (enc1 _) fun h s => ?_
  rw [List.set_set, ins_steps its emp x hi] at s
  refine St.r_load0 s 1 rfl rfl ?_
  refine r_nil ?_
  refine r_fld ?_
  refine St.r_load0 s 3 rfl rfl ?_
  refine r_add (z := cnt + 1) (by rw [i64w (by omega) (by omega)]) ?_
  refine r_nil ?_
  refine r_fld ?_
  refine St.r_store0 s 3 rfl (by simp) rfl ?_; intro h s
  refine r_nil ?_
  refine r_fld ?_
  refine r_fld ?_
  refine s.r_lz hT4 0 rfl rfl ?_
  refine H v' b' o' sp' h ?_ (s.drop 3)
  have e := ins_length (x := x) hi
  rw [show (ins its i x).length = (its ++ [emp]).length by rw [e]; simp]
  exact w'.cong (by rw [flat_len encl, flat_len encl, e]; simp)

/-- Setting below a node of height k, as told by the plain tree. -/
def SetOk (h0 : Heap) (Z : List Rg) (tb m : Nat) (iso : Int) (x : It) (k : Nat) : Prop :=
  ∀ (t : GT It k) {h : Heap} {E : List Rg} {Q : Value → Heap → Prop} {pb po lo : Nat}, t.pt.Fl m lo → Asc lt t.pt.items → t.pt.items.length ≤ 4611686018427387903 → Gd iso t → St h0 Z ((pb, po, [ptr t.id 0]) :: (t.all enc ++ E)) h →
    (∀ (t' : GT It k) h', t'.pt = (if t.pt.splits lt m x then t.pt else t.pt.set lt m x) → t'.id = t.id → Gd iso t' → St h0 Z ((pb, po, [ptr t.id 0]) :: (t'.all enc ++ E)) h' →
      Q (.tuple #[old (t.pt.get lt x), .bool (t.pt.get lt x).isSome, .bool (t.pt.splits lt m x)]) h') → Map_ii_nodeSet.call #[ptr tb 0, ptr pb po, .agg (enc x).toArray] h Q

theorem SetOk.zero {tb m : Nat} {iso mn : Int} {ctr : Option Addr} {x : It} (htb : h0.size ≤ tb) (hT0 : (tb, 0, hd0 iso ctr) ∈ Z) (hT4 : (tb, 4, hd4 mn m) ∈ Z) (hm1 : m ≤ 1024) : SetOk h0 Z tb m iso x 0 := by
  intro d h E Q pb po lo fl ha hsz g s H
  obtain ⟨own, n, is', cnt, its, iv, ib, io, isp, kb, kv, krb, kro, ksp⟩ := d
  have w : Own 2 iv its.length ib io (its.flatMap enc) isp := g.wf.1
  have hlen : its.length ≤ m := fl.2
  have hcn : cnt = its.length := g.cn
  have ho : own = true := g.mine
  have hiso : is' = iso := g.wf.2.1 ho
  subst hiso; subst ho
  have s : St h0 Z ((pb, po, [ptr n 0]) :: (n, 0, [.int .u64 is', .int .i64 cnt, iv, .pointer none]) :: (ib, io, its.flatMap enc ++ isp) :: E) h := s
  have ha : Asc lt its := ha
  refine set_head hT0 ha (by omega) w s (fun y h' hy s => ?_) fun t5 t9 h' hn s => ?_
  · have hns : PT.splits lt m (h := 0) its x = false := by rw [PT.splits_leaf, hy]; rfl
    have hg : PT.get lt (h := 0) its x = some y := hy
    have hln : (lput lt its x).length = its.length := by rw [lput_length, hy]; rfl
    have := H (⟨true, n, is', cnt, lput lt its x, iv, ib, io, isp, kb, kv, krb, kro, ksp⟩ : Nd It) h' (by show _ = if PT.splits lt m (h := 0) its x = true then _ else _; rw [hns]; rfl) rfl
      (Gd.leaf (by show Own 2 iv (lput lt its x).length ib io ((lput lt its x).flatMap enc) isp; rw [hln]; exact w.cong (by rw [flat_len encl, flat_len encl, hln])) rfl rfl (by show cnt = (lput lt its x).length; rw [hln]; exact hcn)) s
    change Q (.tuple #[old (PT.get lt (h := 0) its x), .bool (PT.get lt (h := 0) its x).isSome, .bool (PT.splits lt m (h := 0) its x)]) h' at this
    rw [hns, hg] at this
    exact this
  · unfold Map_ii_nodeSet.j1
    have hg : PT.get lt (h := 0) its x = none := hn
    refine St.r_load0 s 0 rfl rfl ?_
    refine leaf_ok (a := none) (s.get (k := 3) (j := 3) rfl (by simp)) ?_
    refine r_if (fun _ => ?_) (fun e => absurd e (by simp))
    refine St.r_load0 s 0 rfl rfl ?_
    refine r_nil ?_
    refine r_fld ?_
    refine St.r_load0 s 3 rfl rfl ?_
    refine w.lenV ?_
    refine r_nil ?_
    refine r_fld ?_
    refine s.r_lz hT4 3 rfl rfl ?_
    refine r_cmpI ?_
    refine r_if (fun hfull => ?_) (fun hroom => ?_)
    · have hfull : its.length = m := Int.ofNat_inj.1 (by simpa using hfull)
      have hsp : PT.splits lt m (h := 0) its x = true := by rw [PT.splits_leaf, hn]; simpa using hfull
      refine r_nil ?_
      refine r_fld ?_
      refine r_fld ?_
      refine s.r_lz hT4 0 rfl rfl ?_
      have := H (⟨true, n, is', cnt, its, iv, ib, io, isp, kb, kv, krb, kro, ksp⟩ : Nd It) h' (by show _ = if PT.splits lt m (h := 0) its x = true then _ else _; rw [hsp]; rfl) rfl g (s.drop 2)
      change Q (.tuple #[old (PT.get lt (h := 0) its x), .bool (PT.get lt (h := 0) its x).isSome, .bool (PT.splits lt m (h := 0) its x)]) h' at this
      rw [hsp, hg] at this
      exact this
    · have hroom : its.length ≠ m := fun e => by rw [e] at hroom; simp at hroom
      have hsp : PT.splits lt m (h := 0) its x = false := by rw [PT.splits_leaf, hn]; simpa using hroom
      have hp := pos_le (lt := lt) its x
      refine set_leaf (n := n)  (t5 := t5) (t9 := t9) (x := x) (c1 := .int .u64 is') (kp := .pointer none) (cnt := cnt) (its := its) (E := (pb, po, [ptr n 0]) :: E) htb hT4 (by omega) hp (by omega) (by omega) w (s.perm (by ((apply perm_rg; intro f; simp only [List.set_cons_zero, List.set_cons_succ, List.eraseIdx_cons_zero, List.eraseIdx_cons_succ, List.cons_append, List.nil_append, List.map_append, List.map_cons, List.map_nil, List.sum_append, List.sum_cons, List.sum_nil, List.map_flatMap, Nat.add_zero, Nat.zero_add]; ac_rfl)))) fun iv' ib' io' isp' h' w' s => ?_
      rw [← lput_ins hn] at w' s
      have hln : (lput lt its x).length = its.length + 1 := by rw [lput_length, hn]; rfl
      have := H (⟨true, n, is', cnt + 1, lput lt its x, iv', ib', io', isp', kb, kv, krb, kro, ksp⟩ : Nd It) h' (by show _ = if PT.splits lt m (h := 0) its x = true then _ else _; rw [hsp]; rfl) rfl
        (Gd.leaf w' rfl rfl (by show cnt + 1 = (lput lt its x).length; omega)) (s.front 2 rfl)
      change Q (.tuple #[old (PT.get lt (h := 0) its x), .bool (PT.get lt (h := 0) its x).isSome, .bool (PT.splits lt m (h := 0) its x)]) h' at this
      rw [hsp, hg] at this
      exact this
end Go.Proofs.Ytlihjljdndbpdaa.Ii
