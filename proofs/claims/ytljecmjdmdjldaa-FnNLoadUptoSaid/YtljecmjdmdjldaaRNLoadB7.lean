/-
  Texts of this claim, laid together: Nl Nm Gx Nn.
  Conditions: as each of them tells.
-/
import Derived.Test.YtljecmjdmdjldaaRNLoadB6
set_option linter.unusedVariables false
set_option linter.unusedSimpArgs false
open List (set_cons_zero set_cons_succ eraseIdx_cons_zero eraseIdx_cons_succ cons_append nil_append map_append map_cons map_flatMap map_nil flatMap_cons flatMap_append flatMap_nil append_nil append_assoc length_cons length_nil length_append take_succ_cons drop_succ_cons take_zero drop_zero take_nil drop_nil size_toArray length_map)
section
namespace Go.Proofs.Ytljecmjdmdjldaa.Gi
open Go.Hp Go.Proofs.Ytljecmjdmdjldaa
variable {h0 h : Heap} {Z E : List Rg} {Q : Value → Heap → Prop} {lt : It → It → Bool} {lf : Value}
abbrev zF : List Value := [.int .i64 0, .int .i64 0, .bool false]
abbrev zN : List Value := [.slice none 0 0, .slice none 0 0, .int .i64 0]
theorem fc3 {o : Option It} {b : Nat} {R : List Rg} {g : Heap} (s : St h0 Z ((b, 0, List.take 0 zF ++ foundC o ++ List.drop (0 + 3) zF) :: R) h) : St h0 Z ((b, 0, foundC o) :: R) h := by
  have e : List.take 0 zF ++ foundC o ++ List.drop (0 + 3) zF = foundC o := by simp
  rw [e] at s; exact s
def ffTail (t8 t9 t11 t14 fv : Value) (h : Heap) (Q : Value → Heap → Prop) : Prop :=
  storeN 3 t11 fv h fun h =>
    loadN 3 t11 h fun t23 =>
    i_fell.call #[t14] h fun t25 h =>
    stillN 3 t11 t23 h ∧ storeN 3 t8 t23 h fun h =>
    storeN 3 t9 t25 h fun h =>
    loadN 3 t8 h fun r8 =>
    loadN 3 t9 h fun r9 =>
    Q (.tuple #[r8, r9]) h
theorem ff_ok {tb m t8 t9 t11 : Nat} {cnt mn mx : Int} {ctr : Option Addr} {g : Rt} {o : Option It} {b : Heap} (M : TreeOk lt m 1 g) (hl : (rPt g).items.length ≤ 1073741822)
    (s : St b [] ((t11, 0, zF) :: (t8, 0, zF) :: (t9, 0, zN) :: (tb, 0, hdr 1 ctr (rA g) cnt lf mn mx) :: (rAll g ++ E)) h)
    (H : ∀ vi vk E' h', St b [] E' h' → ArgC h' (mt0 (rPt g)).2 vi vk → Q (.tuple #[.agg (foundC o).toArray, .agg #[vi, vk, .int .i64 (rPt g).items.length]]) h') : ffTail (ptr t8 0) (ptr t9 0) (ptr t11 0) (ptr tb 0) (.agg (foundC o).toArray) h Q := by
  have eo : ((foundC o).drop 0).take 3 = foundC o := by cases o <;> rfl
  unfold ffTail; refine St.r_storeN0 s 0 rfl (foundC_len _) (by simp) (foundC_one _) ?_; intro h s
  have s := fc3 (g := h) s
  refine St.r_loadN0 s 0 rfl (by simp [foundC_len]) ?_; rw [eo]; refine fell_ok M hl (E := (t11, 0, foundC o) :: (t8, 0, zF) :: (t9, 0, zN) :: E) (s.perm (by ((apply perm_rg; intro f; simp only [set_cons_zero, set_cons_succ, eraseIdx_cons_zero, eraseIdx_cons_succ, cons_append, nil_append, map_append, map_cons, map_nil, List.sum_append, List.sum_cons, List.sum_nil, map_flatMap, Nat.add_zero, Nat.zero_add]; ac_rfl)))) fun vi vk A h s hA o1 o2 => ?_
  have s : St b [] ((t11, 0, foundC o) :: (t8, 0, zF) :: (t9, 0, zN) :: (A ++ ((tb, 0, hdr 1 ctr (rA g) cnt lf mn mx) :: (rAll g ++ E)))) h := s.perm (by ((apply perm_rg; intro f; simp only [set_cons_zero, set_cons_succ, eraseIdx_cons_zero, eraseIdx_cons_succ, cons_append, nil_append, map_append, map_cons, map_nil, List.sum_append, List.sum_cons, List.sum_nil, map_flatMap, Nat.add_zero, Nat.zero_add]; ac_rfl)))
  refine ⟨St.r_stillN0 s 0 (j := 0) rfl (by simp [foundC_len]) eo.symm, ?_⟩
  refine St.r_storeN0 s 1 rfl (foundC_len _) (by simp) (foundC_one _) ?_; intro h s
  refine St.r_storeN0 s 2 (ys := [vi, vk, .int .i64 (rPt g).items.length]) rfl rfl (by simp) (one3 o1 o2 rfl) ?_; intro h s
  have s : St b [] ((t11, 0, foundC o) :: (t8, 0, List.take 0 zF ++ foundC o ++ List.drop (0 + 3) zF) :: (t9, 0, [vi, vk, .int .i64 (rPt g).items.length]) :: (A ++ ((tb, 0, hdr 1 ctr (rA g) cnt lf mn mx) :: (rAll g ++ E)))) h := s
  have s : St b [] ((t8, 0, foundC o) :: (t11, 0, foundC o) :: (t9, 0, [vi, vk, .int .i64 (rPt g).items.length]) :: (A ++ ((tb, 0, hdr 1 ctr (rA g) cnt lf mn mx) :: (rAll g ++ E)))) h := fc3 (g := h) (s.perm (List.Perm.swap _ _ _))
  refine St.r_loadN0 s 0 rfl (by simp [foundC_len]) ?_; refine St.r_loadN0 s 2 rfl (by simp) ?_; rw [eo]; exact H vi vk _ h s (hA h fun r hr => s.ok (List.mem_append.2 (.inl (List.mem_cons_of_mem _ (List.mem_cons_of_mem _ (List.mem_cons_of_mem _ (List.mem_append.2 (.inl hr))))))))
end Go.Proofs.Ytljecmjdmdjldaa.Gi
end
section
namespace Go.Proofs.Ytljecmjdmdjldaa.Gi
open Go.Hp Go.Proofs.Ytljecmjdmdjldaa
variable {h0 h : Heap} {Z E : List Rg} {Q : Value → Heap → Prop} {lt : It → It → Bool} {lf : Value}
theorem eqF (o : Option It) : EqV Try.prog 10000 46 (.agg (foundC o).toArray) (.agg (foundC o).toArray) true := by
  have := eqFound 9997 o
  cases o <;> exact this
theorem bulk_mt {m : Nat} (hm : 3 ≤ m) {y : MT It} (f : y.Fl m) : (toD (mt0 y).2).bulk ≤ 2 * y.items.length + 1 := by
  cases y with
  | none => exact Nat.le_refl _
  | some t =>
    obtain ⟨k, x⟩ := t
    have f : x.Fl m 1 := f
    have := toD_bulk hm f (Nat.le_refl _)
    show (toD x).bulk ≤ 2 * x.items.length + 1
    omega
end Go.Proofs.Ytljecmjdmdjldaa.Gi
end
section
namespace Go.Proofs.Ytljecmjdmdjldaa.Gi
open Go.Hp Go.Proofs.Ytljecmjdmdjldaa
variable {h0 h : Heap} {Z E : List Rg} {Q : Value → Heap → Prop} {lt : It → It → Bool} {lf : Value}
theorem pos_end {l : List It} {x : It} (h : ∀ y ∈ l, lt y x = true) : pos lt l x = l.length ∧ lget lt l x = none := by
  have e : pos lt l x = l.length := pos_uni (Nat.le_refl _) (fun j hj _ => h _ (List.getElem_mem hj)) (fun hl => absurd hl (Nat.lt_irrefl _))
  exact ⟨e, by unfold lget; rw [e, List.getElem?_eq_none (Nat.le_refl _)]; rfl⟩
theorem topIso : ∀ {k : Nat} {t : GT It k}, ∃ a2 a3 a4, (t.id, 0, [.int .u64 t.nd.iso, a2, a3, a4]) ∈ t.all enc
  | 0, d => ⟨_, _, _, List.mem_cons_self ..⟩
  | _ + 1, t => ⟨_, _, _, List.mem_append.2 (.inl (List.mem_cons_self ..))⟩
def loadEnd (t4 : Value) (tb : Nat) (h : Heap) (Q : Value → Heap → Prop) : Prop :=
  nilck (ptr tb 0) fun t70 => fld 3 t70 fun t71 => load1 t71 h fun t72 => arith (· + ·) t72 (.int .i64 1) fun t73 => nilck (ptr tb 0) fun t74 => fld 3 t74 fun t75 => store1 t75 t73 h fun h => nilck (ptr tb 0) fun t77 => fld 7 t77 fun t78 =>
    loadN 2 t78 h fun t79 => storeN 2 t4 t79 h fun h => loadN 2 t4 h fun r4 => Q (.tuple #[r4, (.bool false)]) h
theorem revert_ok {tr t3 t8 : Value} {iso : Int} {m : Nat} (hm : m ≤ 1024) : ∀ {k : Nat} (c : GT It k) {lo : Nat} {E : List Rg} {h : Heap}, c.pt.Fl m lo → Gd iso c → c.pt.items.length ≤ 4611686018427387903 → St h0 Z ((c.bump 1).all enc ++ E) h → (∀ h', St h0 Z (c.all enc ++ E) h' → BTreeG_I_Load.j4 tr t3 t8 h' Q) →
    LoopOk (fun c s h K1 => BTreeG_I_Load.l5.b (c.getD 0 undef) (c.getD 1 undef) (c.getD 2 undef) (s.getD 0 undef) h K1 Q) [tr, t3, t8] k [ptr c.id 0] h
  | 0, (d : Nd It), lo, E, h, fl, g, hsz, s, H => by
    obtain ⟨own, n, is', cnt, its, iv, ib, io, isp, kb, kv', krb, kro, ksp⟩ := d; intro K
    have s : St h0 Z ((n, 0, [.int .u64 is', .int .i64 (cnt + 1), iv, .pointer none]) :: (ib, io, its.flatMap enc ++ isp) :: E) h := s
    have hcn : cnt = its.length := g.cn
    have hsz : its.length ≤ 4611686018427387903 := hsz
    show BTreeG_I_Load.l5.b tr t3 t8 (ptr n 0) h K Q
    unfold BTreeG_I_Load.l5.b; refine r_nil ?_; refine r_fld ?_; refine St.r_load0 s 0 rfl rfl ?_; refine r_sub (z := cnt) (by rw [i64w (by omega) (by omega)]; omega) ?_; refine r_nil ?_; refine r_fld ?_; refine St.r_store0 s 0 rfl (by simp) rfl ?_; intro h s
    try simp only [List.set_cons_zero, List.set_cons_succ] at s
    refine node_leaf_ok (a := none) (s.get (k := 0) (j := 3) rfl (by simp)) ?_; refine r_if (fun _ => ?_) (fun e => absurd e (by simp))
    exact H h s
  | k + 1, t, lo, E, h, fl, g, hsz, s, H => by
    obtain ⟨d, ts⟩ := t; obtain ⟨own, n, is', cnt, its, iv, ib, io, isp, kb, kv', krb, kro, ksp⟩ := d; intro K HK
    have hkl : ts.length = its.length + 1 := g.wf.2.2.1
    have wK : Own 1 kv' ts.length krb kro ((ts.map GT.id).map fun m => ptr m 0) ksp := g.wf.2.1
    have hcn : cnt = (PT.items (h := k + 1) (its, ts.map GT.pt)).length := g.cn.1
    have hsz : (PT.items (h := k + 1) (its, ts.map GT.pt)).length ≤ 4611686018427387903 := hsz
    obtain ⟨c, hc⟩ : ∃ c, ts[ts.length - 1]? = some c := ⟨ts[ts.length - 1]'(by omega), List.getElem?_eq_getElem (by omega)⟩
    have hcm := List.mem_of_getElem? hc
    have hcm2 : c.pt ∈ ts.map GT.pt := List.mem_map.2 ⟨c, hcm, rfl⟩
    have hfc : PT.Fl m (m / 2) c.pt := fl.2.2.2 _ hcm2
    have hlm : its.length ≤ m := fl.2.1
    have hcsz : c.pt.items.length ≤ 4611686018427387903 := by
      have h1 : (inter its ((ts.map GT.pt).map PT.items)).length = _ := inter_length _ _
      have h2 : (inter its ((ts.map GT.pt).map PT.items)).length ≤ 4611686018427387903 := hsz
      have h3 : c.pt.items.length ≤ (((ts.map GT.pt).map PT.items).map List.length).sum := mem_le_sum (by
        rw [List.map_map, List.map_map]; exact List.mem_map.2 ⟨c, hcm, rfl⟩)
      omega
    have s : St h0 Z ((n, 0, [.int .u64 is', .int .i64 (cnt + 1), iv, ptr kb 0]) :: (ib, io, its.flatMap enc ++ isp) :: (kb, 0, [kv']) :: (krb, kro, (((ts.modify (ts.length - 1) (GT.bump 1)).map GT.id).map fun m => ptr m 0) ++ ksp) :: ((ts.modify (ts.length - 1) (GT.bump 1)).flatMap (GT.all enc) ++ E)) h := s
    rw [modify_last hc, mfp] at s
    have hi := (List.getElem?_eq_some_iff.1 hc).1
    have hc' : (ts.set (ts.length - 1) (c.bump 1))[ts.length - 1]? = some (c.bump 1) := List.getElem?_set_self hi
    have etake : (ts.set (ts.length - 1) (c.bump 1)).take (ts.length - 1) = ts.take (ts.length - 1) := List.take_set_of_le (Nat.le_refl _)
    have edrop : (ts.set (ts.length - 1) (c.bump 1)).drop (ts.length - 1 + 1) = ts.drop (ts.length - 1 + 1) := List.drop_set_of_lt (by omega)
    rw [flat_at3 (GT.all enc) hc', etake, edrop, set_ids hc (GT.bump_id c)] at s
    show BTreeG_I_Load.l5.b tr t3 t8 (ptr n 0) h K Q
    unfold BTreeG_I_Load.l5.b; refine r_nil ?_; refine r_fld ?_; refine St.r_load0 s 0 rfl rfl ?_; refine r_sub (z := cnt) (by rw [i64w (by omega) (by omega)]; omega) ?_; refine r_nil ?_; refine r_fld ?_; refine St.r_store0 s 0 rfl (by simp) rfl ?_; intro h s
    try simp only [List.set_cons_zero, List.set_cons_succ] at s
    refine node_leaf_ok (a := some ⟨kb, 0, Option.none⟩) (s.get (k := 0) (j := 3) rfl (by simp)) ?_; refine r_if (fun e => absurd e (by simp)) (fun _ => ?_)
    unfold BTreeG_I_Load.j6; refine r_nil ?_; refine r_fld ?_; refine St.r_load0 s 0 rfl rfl ?_; refine r_nil ?_; refine St.r_load0 s 2 rfl rfl ?_; refine r_nil ?_; refine r_fld ?_; refine St.r_load0 s 0 rfl rfl ?_; refine r_nil ?_; refine St.r_load0 s 2 rfl rfl ?_; refine wK.lenV ?_; refine r_sub (z := ((ts.length - 1 : Nat) : Int)) (by rw [i64w (by omega) (by omega)]; omega) ?_; refine wK.idx (n := ts.length - 1) rfl (by omega) ?_; refine r_loadM1 s 3 rfl hc ?_
    have := revert_ok (tr := tr) (t3 := t3) (t8 := t8) hm c (E := (n, 0, [.int .u64 is', .int .i64 cnt, iv, ptr kb 0]) :: (ib, io, its.flatMap enc ++ isp) :: (kb, 0, [kv']) :: (krb, kro, (ts.map GT.id).flatMap fp ++ ksp) :: ((ts.take (ts.length - 1)).flatMap (GT.all enc) ++ ((ts.drop (ts.length - 1 + 1)).flatMap (GT.all enc) ++ E))) hfc (g.kid hcm) hcsz (s.perm (by ((apply perm_rg; intro f; simp only [set_cons_zero, set_cons_succ, eraseIdx_cons_zero, eraseIdx_cons_succ, cons_append, nil_append, map_append, map_cons, map_nil, List.sum_append, List.sum_cons, List.sum_nil, map_flatMap, Nat.add_zero, Nat.zero_add]; ac_rfl)))) fun h' s => ?_
    · exact HK _ _ this
    · refine H h' ?_
      have s1 : St h0 Z ((n, 0, [.int .u64 is', .int .i64 cnt, iv, ptr kb 0]) :: (ib, io, its.flatMap enc ++ isp) :: (kb, 0, [kv']) :: (krb, kro, (ts.map GT.id).flatMap fp ++ ksp) :: (ts.flatMap (GT.all enc) ++ E)) h' := s.perm (by rw [flat_at3 (GT.all enc) hc]; ((apply perm_rg; intro f; simp only [set_cons_zero, set_cons_succ, eraseIdx_cons_zero, eraseIdx_cons_succ, cons_append, nil_append, map_append, map_cons, map_nil, List.sum_append, List.sum_cons, List.sum_nil, map_flatMap, Nat.add_zero, Nat.zero_add]; ac_rfl)))
      rw [← mfp] at s1; exact s1
theorem down_ok (o : Swo lt) (hO : OrdC Z lf lt) {t4 : Value} {tb t8 m : Nat} {iso mn : Int} {ctr : Option Addr} {x : It} (hT0 : (tb, 0, hd0 iso ctr) ∈ Z) (hT4 : (tb, 4, hd4 lf mn m) ∈ Z) (h8 : (t8, 0, enc x) ∈ Z) (hm : m ≤ 1024) (hm3 : 3 ≤ m) (ho : m % 2 = 1) : ∀ {k : Nat} (c : GT It k) {lo : Nat} {E : List Rg} {h : Heap}, 1 ≤ lo → c.pt.Fl m lo → Asc lt c.pt.items → Gd iso c → c.pt.items.length ≤ 4611686018427387903 → St h0 Z (c.all enc ++ E) h →
    (∀ (c' : GT It k) h', (∀ y ∈ c.pt.items, lt y x = true) → c.pt.splits lt m x = false → c'.pt = c.pt.set lt m x → c'.id = c.id → Gd iso c' → St h0 Z (c'.all enc ++ E) h' → loadEnd t4 tb h' Q) →
    (∀ h', St h0 Z ((c.bump 1).all enc ++ E) h' → BTreeG_I_Load.j3 (ptr tb 0) (ptr t8 0) t4 h' Q) →
    LoopOk (fun c s h K1 => BTreeG_I_Load.l7.b (c.getD 0 undef) (c.getD 1 undef) (c.getD 2 undef) (s.getD 0 undef) h K1 Q) [ptr tb 0, ptr t8 0, t4] k [ptr c.id 0] h
  | 0, (d : Nd It), lo, E, h, hlo, fl, ha, g, hsz, s, H1, H2 => by
    obtain ⟨own, n, is', cnt, its, iv, ib, io, isp, kb, kv', krb, kro, ksp⟩ := d; intro K
    have hw : own = true := g.mine
    have hiso : is' = iso := g.wf.2.1 hw
    subst hiso; subst hw
    have w : Own 2 iv its.length ib io (its.flatMap enc) isp := g.wf.1
    have s : St h0 Z ((n, 0, [.int .u64 is', .int .i64 cnt, iv, .pointer none]) :: (ib, io, its.flatMap enc ++ isp) :: E) h := s
    have hcn : cnt = its.length := g.cn
    have hl1 : lo ≤ its.length := fl.1
    have hl2 : its.length ≤ m := fl.2
    have ha : Asc lt its := ha
    have no : ∀ h', St h0 Z ((n, 0, [.int .u64 is', .int .i64 (cnt + 1), iv, .pointer none]) :: (ib, io, its.flatMap enc ++ isp) :: E) h' → BTreeG_I_Load.j3 (ptr tb 0) (ptr t8 0) t4 h' Q := fun h' s => H2 h' s
    show BTreeG_I_Load.l7.b (ptr tb 0) (ptr t8 0) t4 (ptr n 0) h K Q
    unfold BTreeG_I_Load.l7.b; refine r_nil ?_; refine r_fld ?_; refine St.r_load0 s 0 rfl rfl ?_; refine r_add (z := cnt + 1) (by rw [i64w (by omega) (by omega)]) ?_; refine r_nil ?_; refine r_fld ?_; refine St.r_store0 s 0 rfl (by simp) rfl ?_; intro h s
    try simp only [List.set_cons_zero, List.set_cons_succ] at s
    refine node_leaf_ok (a := none) (s.get (k := 0) (j := 3) rfl (by simp)) ?_; refine r_if (fun _ => ?_) (fun e => absurd e (by simp))
    refine r_nil ?_; refine r_fld ?_; refine St.r_load0 s 0 rfl rfl ?_; refine w.lenV ?_; refine r_nil ?_; refine r_fld ?_; refine s.r_lz hT4 5 rfl rfl ?_; refine r_cmpI ?_; refine r_if (fun hroom => ?_) (fun hfull => ?_)
    · have hroom : its.length < m := by have : (its.length : Int) < m := by simpa using hroom
                                        omega
      refine r_nil ?_; refine r_fld ?_; refine St.r_load0 s 0 rfl rfl ?_; refine r_nil ?_; refine r_fld ?_; refine St.r_load0 s 0 rfl rfl ?_; refine w.lenV ?_; refine r_sub (z := ((its.length - 1 : Nat) : Int)) (by rw [i64w (by omega) (by omega)]; omega) ?_; refine w.idx (n := its.length - 1) rfl (by omega) ?_
      have hy : its[its.length - 1]? = some (its[its.length - 1]'(by omega)) := List.getElem?_eq_getElem (by omega)
      refine s.r_loadF encl 1 rfl hy ?_; refine s.r_lzE h8 0 (enc x) rfl (by simp) rfl ?_; refine Less_ok hO s (s.clz hT4 2 rfl rfl) fun E2 h s2 => ?_
      have s := (s.join s2).sub (List.sublist_append_right E2 _)
      refine r_if (fun hlt => ?_) (fun hge => ?_)
      · have hlt : lt (its[its.length - 1]'(by omega)) x = true := hlt
        have hall : ∀ y ∈ its, lt y x = true := fun y hy => by
          obtain ⟨i, hi, rfl⟩ := List.getElem_of_mem hy
          rcases Nat.lt_or_ge i (its.length - 1) with h | h
          · exact o.tr _ _ _ (List.pairwise_iff_getElem.1 ha i (its.length - 1) hi (by omega) h) hlt
          · have : i = its.length - 1 := by omega
            subst this; exact hlt
        obtain ⟨e1, e2⟩ := pos_end hall
        have eput : lput lt its x = its ++ [x] := by rw [lput_ins e2, e1]; unfold ins; simp
        have hsp : PT.splits lt m (h := 0) its x = false := by rw [PT.splits_leaf, e2]; simp; omega
        refine r_nil ?_; refine r_fld ?_; refine St.r_load0 s 0 rfl rfl ?_; refine s.r_lzE h8 0 (enc x) rfl (by simp) rfl ?_; refine St.r_mkSl (sz := 2) (cs := enc x) s (by ((simp only [fillV, fill1, Value.cells, zeros_succ, zeros_zero, size_toArray, length_cons, length_nil, length_append, take_succ_cons, take_zero, take_nil, drop_succ_cons, drop_zero, drop_nil, cons_append, nil_append, append_nil, Nat.reduceAdd, Nat.reduceMul, Nat.reduceLeDiff, Nat.reduceEqDiff, and_self, and_true, true_and, if_true, Nat.le_refl, Nat.zero_add, Nat.add_zero, Nat.zero_mul, reduceIte, if_false] <;> rfl))) rfl fun q h s w1 => ?_; refine And.intro (by exact St.r_still0 s 1 rfl rfl) ?_; refine St.r_app s 2 (sz := 2) (n := 1) (new := enc x) rfl w rfl (w1.rdl s 0 rfl) (enc1 _) (by omega) (by omega) fun v' b' o' sp' h s w' => ?_; rw [snoc_enc] at s w'
        have w' : Own 2 v' (its ++ [x]).length b' o' ((its ++ [x]).flatMap enc) sp' := by rw [List.length_append]; exact w'
        refine r_nil ?_; refine r_fld ?_; refine St.r_store0 s 1 rfl (by simp) w'.one ?_; intro h s
        exact H1 (⟨true, n, is', cnt + 1, its ++ [x], v', b', o', sp', kb, kv', krb, kro, ksp⟩ : Nd It) h hall hsp (by show its ++ [x] = lput lt its x; rw [eput]) rfl
          (Gd.leaf w' rfl rfl (by show cnt + 1 = ((its ++ [x]).length : Int); rw [List.length_append, hcn]; simp)) (s.drop 1)
      · unfold BTreeG_I_Load.j9
        exact no h s
    · unfold BTreeG_I_Load.j9
      exact no h s
  | k + 1, t, lo, E, h, hlo, fl, ha, g, hsz, s, H1, H2 => by
    obtain ⟨d, ts⟩ := t; obtain ⟨own, n, is', cnt, its, iv, ib, io, isp, kb, kv', krb, kro, ksp⟩ := d; intro K HK
    have hw : own = true := g.mine.1
    have hiso : is' = iso := g.wf.1.2.1 hw
    subst hiso; subst hw
    have hkl : ts.length = its.length + 1 := g.wf.2.2.1
    have w : Own 2 iv its.length ib io (its.flatMap enc) isp := g.wf.1.1
    have wK : Own 1 kv' ts.length krb kro ((ts.map GT.id).map fun m => ptr m 0) ksp := g.wf.2.1
    have hcn : cnt = (PT.items (h := k + 1) (its, ts.map GT.pt)).length := g.cn.1
    have hsz : (PT.items (h := k + 1) (its, ts.map GT.pt)).length ≤ 4611686018427387903 := hsz
    have hlm : its.length ≤ m := fl.2.1
    obtain ⟨c, hc⟩ : ∃ c, ts[its.length]? = some c := ⟨ts[its.length]'(by omega), List.getElem?_eq_getElem (by omega)⟩
    have hcm := List.mem_of_getElem? hc
    have hcm2 : c.pt ∈ ts.map GT.pt := List.mem_map.2 ⟨c, hcm, rfl⟩
    have hfc : PT.Fl m (m / 2) c.pt := fl.2.2.2 _ hcm2
    have hcsz : c.pt.items.length ≤ 4611686018427387903 := by
      have h1 : (inter its ((ts.map GT.pt).map PT.items)).length = _ := inter_length _ _
      have h2 : (inter its ((ts.map GT.pt).map PT.items)).length ≤ 4611686018427387903 := hsz
      have h3 : c.pt.items.length ≤ (((ts.map GT.pt).map PT.items).map List.length).sum := mem_le_sum (by
        rw [List.map_map, List.map_map]; exact List.mem_map.2 ⟨c, hcm, rfl⟩)
      omega
    have hc2 : ts[ts.length - 1]? = some c := by rw [show ts.length - 1 = its.length by omega]; exact hc
    have hcp : (ts.map GT.pt)[its.length]? = some c.pt := by rw [List.getElem?_map, hc]; rfl
    obtain ⟨c0, hc0, _, eit⟩ := PT.around (t := ((its, ts.map GT.pt) : PT It (k + 1))) fl (Nat.le_refl its.length)
    have : c0 = c.pt := Option.some.inj (hc0.symm.trans hcp)
    subst this
    have eit : PT.items (h := k + 1) (its, ts.map GT.pt) = lz its (((ts.map GT.pt).take its.length).map PT.items) ++ c.pt.items := by
      have e1 : rz (its.drop its.length) (((ts.map GT.pt).drop (its.length + 1)).map PT.items) = [] := by rw [List.drop_length]; rfl
      have e2 : PT.items (h := k + 1) (its, ts.map GT.pt) = lz (its.take its.length) (((ts.map GT.pt).take its.length).map PT.items) ++ (c.pt.items ++ rz (its.drop its.length) (((ts.map GT.pt).drop (its.length + 1)).map PT.items)) := eit
      rw [e2, e1, List.append_nil, List.take_length]
    have ha : Asc lt (PT.items (h := k + 1) (its, ts.map GT.pt)) := ha
    have hac : Asc lt c.pt.items := by rw [eit] at ha; exact (asc_app ha).2.1
    have hne : ∃ z, z ∈ c.pt.items := by
      have h1 := (hfc.le).1
      have h2 := (PT.its_sub c.pt).length_le
      cases e : c.pt.items with
      | nil => rw [e, List.length_nil] at h2; omega
      | cons z r => exact ⟨z, List.mem_cons_self ..⟩
    have s : St h0 Z ((n, 0, [.int .u64 is', .int .i64 cnt, iv, ptr kb 0]) :: (ib, io, its.flatMap enc ++ isp) :: (kb, 0, [kv']) :: (krb, kro, ((ts.map GT.id).map fun m => ptr m 0) ++ ksp) :: (ts.flatMap (GT.all enc) ++ E)) h := s
    rw [mfp, flat_at3 (GT.all enc) hc] at s
    show BTreeG_I_Load.l7.b (ptr tb 0) (ptr t8 0) t4 (ptr n 0) h K Q
    unfold BTreeG_I_Load.l7.b; refine r_nil ?_; refine r_fld ?_; refine St.r_load0 s 0 rfl rfl ?_; refine r_add (z := cnt + 1) (by rw [i64w (by omega) (by omega)]) ?_; refine r_nil ?_; refine r_fld ?_; refine St.r_store0 s 0 rfl (by simp) rfl ?_; intro h s
    try simp only [List.set_cons_zero, List.set_cons_succ] at s
    refine node_leaf_ok (a := some ⟨kb, 0, Option.none⟩) (s.get (k := 0) (j := 3) rfl (by simp)) ?_; refine r_if (fun e => absurd e (by simp)) (fun _ => ?_)
    unfold BTreeG_I_Load.j8; refine r_nil ?_; refine r_fld ?_; refine St.r_load0 s 0 rfl rfl ?_; refine r_nil ?_; refine St.r_load0 s 2 rfl rfl ?_; refine r_nil ?_; refine r_fld ?_; refine St.r_load0 s 0 rfl rfl ?_; refine r_nil ?_; refine St.r_load0 s 2 rfl rfl ?_; refine wK.lenV ?_; refine r_sub (z := ((its.length : Nat) : Int)) (by rw [i64w (by omega) (by omega)]; omega) ?_; refine wK.idx (n := its.length) rfl (by omega) ?_
    have hcell : cl h krb (kro + its.length * 1) = some (ptr c.id 0) := by
      have hid : (ts.map GT.id)[its.length]? = some c.id := by rw [List.getElem?_map, hc]; rfl
      obtain ⟨hi, he⟩ := List.getElem?_eq_some_iff.1 hid
      have := s.get (k := 3) (j := its.length * 1) rfl (by rw [List.length_append, flat_len fpl]; omega)
      rw [this, List.getElem?_append_left (by rw [flat_len fpl]; omega)]
      have h2 := flat_get (f := fp) fpl (ts.map GT.id) its.length hi 0 (by decide)
      rw [Nat.add_zero] at h2; rw [h2, he]; rfl
    have hciso : cl h c.id 0 = some (.int .u64 is') := by
      have hown : c.nd.own = true := (g.kid hcm).mine.nd
      obtain ⟨a2, a3, a4, hmem⟩ := topIso (t := c)
      have hci : c.nd.iso = is' := by
        have := (g.kid hcm).wf
        cases k with
        | zero => exact this.2.1 hown
        | succ k => exact this.1.2.1 hown
      rw [hci] at hmem
      have hmm : (c.id, 0, [.int .u64 is', a2, a3, a4]) ∈ c.all enc ++ (ts.drop (its.length + 1)).flatMap (GT.all enc) := List.mem_append.2 (.inl hmem)
      have hmm := List.mem_append.2 (.inr hmm : _ ∈ (ts.take its.length).flatMap (GT.all enc) ∨ _)
      have hmm := List.mem_append.2 (.inl hmm : _ ∨ _ ∈ E)
      have := (s.e _ (List.mem_cons_of_mem _ (List.mem_cons_of_mem _ (List.mem_cons_of_mem _ (List.mem_cons_of_mem _ hmm))))).1.at0 0 rfl
      exact this
    refine isoLoad_ok (n := c.id) (iso := is') (by have := s.getZ hT0 (j := 0) (by simp); simpa using this) hcell (fun _ => hciso) ?_
    have := down_ok o hO (t4 := t4) hT0 hT4 h8 hm hm3 ho c (E := (n, 0, [.int .u64 is', .int .i64 (cnt + 1), iv, ptr kb 0]) :: (ib, io, its.flatMap enc ++ isp) :: (kb, 0, [kv']) :: (krb, kro, (ts.map GT.id).flatMap fp ++ ksp) :: ((ts.take its.length).flatMap (GT.all enc) ++ ((ts.drop (its.length + 1)).flatMap (GT.all enc) ++ E))) (by omega) hfc hac (g.kid hcm) hcsz (s.perm (by ((apply perm_rg; intro f; simp only [set_cons_zero, set_cons_succ, eraseIdx_cons_zero, eraseIdx_cons_succ, cons_append, nil_append, map_append, map_cons, map_nil, List.sum_append, List.sum_cons, List.sum_nil, map_flatMap, Nat.add_zero, Nat.zero_add]; ac_rfl)))) (fun c' h' a1 a2 a3 a4 a5 s => ?_) (fun h' s => ?_)
    · exact HK _ _ this
    · obtain ⟨z, hz⟩ := hne
      have hall : ∀ y ∈ PT.items (h := k + 1) (its, ts.map GT.pt), lt y x = true := fun y hy => by
        rw [eit] at hy ha
        rcases List.mem_append.1 hy with e | e
        · exact o.tr _ _ _ ((asc_app ha).2.2 y e z hz) (a1 z hz)
        · exact a1 y e
      obtain ⟨p1, p2⟩ := pos_end (fun y hy => hall y ((PT.its_sub1 ((its, ts.map GT.pt) : PT It (k + 1))).subset hy) : ∀ y ∈ its, lt y x = true)
      have hcp' : (ts.map GT.pt)[pos lt its x]? = some c.pt := by rw [p1]; exact hcp
      have e1 := PT.set_kid (t := ((its, ts.map GT.pt) : PT It (k + 1))) (m := m) p2 hcp' a2
      have hsp : PT.splits lt m (h := k + 1) (its, ts.map GT.pt) x = false := by rw [PT.splits_kid (t := ((its, ts.map GT.pt) : PT It (k + 1))) p2 hcp', a2]; simp
      have ept : (ts.set its.length c').map GT.pt = (ts.map GT.pt).set (pos lt its x) (c.pt.set lt m x) := by rw [List.map_set, a3, p1]
      have hi := (List.getElem?_eq_some_iff.1 hc).1
      have hc' : (ts.set its.length c')[its.length]? = some c' := List.getElem?_set_self hi
      have etake : (ts.set its.length c').take its.length = ts.take its.length := List.take_set_of_le (Nat.le_refl _)
      have edrop : (ts.set its.length c').drop (its.length + 1) = ts.drop (its.length + 1) := List.drop_set_of_lt (by omega)
      have hlenI : (PT.items (h := k + 1) (its, (ts.set its.length c').map GT.pt)).length = (PT.items (h := k + 1) (its, ts.map GT.pt)).length + 1 := by
        have hcl : c'.pt.items.length = c.pt.items.length + 1 := by
          rw [a3, (PT.set_items o ho hfc hac a2).1, lput_length, (pos_end a1).2]; rfl
        have h1 : (inter its (((ts.set its.length c').map GT.pt).map PT.items)).length = _ := inter_length _ _
        have h2 : (inter its ((ts.map GT.pt).map PT.items)).length = _ := inter_length _ _
        have e3 : ∀ (l : List (GT It k)), ((l.map GT.pt).map PT.items).map List.length = l.map fun t => t.pt.items.length := fun l => by rw [List.map_map, List.map_map]; rfl
        have h4 : ((ts.set its.length c').map fun t => t.pt.items.length).sum = (ts.map fun t => t.pt.items.length).sum + 1 := by
          conv => lhs; rw [take_at hc', etake, edrop]
          conv => rhs; rw [take_at hc]
          simp only [List.map_append, List.map_cons, List.sum_append, List.sum_cons, hcl]; omega
        show (inter its (((ts.set its.length c').map GT.pt).map PT.items)).length = (inter its ((ts.map GT.pt).map PT.items)).length + 1
        rw [h1, h2, e3, e3, h4]; omega
      refine H1 ((⟨true, n, is', cnt + 1, its, iv, ib, io, isp, kb, kv', krb, kro, ksp⟩ : Nd It), ts.set its.length c') h' hall hsp (by show (its, (ts.set its.length c').map GT.pt) = _; rw [ept]; exact e1.symm) rfl
        (Gd.setKid (d := ⟨true, n, is', cnt, its, iv, ib, io, isp, kb, kv', krb, kro, ksp⟩) g hc a4 a5 (by
          show cnt + 1 = ((PT.items (h := k + 1) (its, (ts.set its.length c').map GT.pt)).length : Int); rw [hlenI, hcn]; simp)) ?_
      have s1 : St h0 Z ((n, 0, [.int .u64 is', .int .i64 (cnt + 1), iv, ptr kb 0]) :: (ib, io, its.flatMap enc ++ isp) :: (kb, 0, [kv']) :: (krb, kro, ((ts.set its.length c').map GT.id).flatMap fp ++ ksp) :: ((ts.set its.length c').flatMap (GT.all enc) ++ E)) h' :=
        s.perm (by rw [set_ids hc a4, flat_at3 (GT.all enc) hc', etake, edrop]; ((apply perm_rg; intro f; simp only [set_cons_zero, set_cons_succ, eraseIdx_cons_zero, eraseIdx_cons_succ, cons_append, nil_append, map_append, map_cons, map_nil, List.sum_append, List.sum_cons, List.sum_nil, map_flatMap, Nat.add_zero, Nat.zero_add]; ac_rfl)))
      rw [← mfp] at s1; exact s1
    · refine H2 h' ?_
      have hi := (List.getElem?_eq_some_iff.1 hc2).1
      have hc' : (ts.set (ts.length - 1) (c.bump 1))[ts.length - 1]? = some (c.bump 1) := List.getElem?_set_self hi
      have etake : (ts.set (ts.length - 1) (c.bump 1)).take (ts.length - 1) = ts.take its.length := by rw [List.take_set_of_le (Nat.le_refl _)]; congr 1; omega
      have edrop : (ts.set (ts.length - 1) (c.bump 1)).drop (ts.length - 1 + 1) = ts.drop (its.length + 1) := by rw [List.drop_set_of_lt (by omega)]; congr 1; omega
      have s1 : St h0 Z ((n, 0, [.int .u64 is', .int .i64 (cnt + 1), iv, ptr kb 0]) :: (ib, io, its.flatMap enc ++ isp) :: (kb, 0, [kv']) :: (krb, kro, ((ts.modify (ts.length - 1) (GT.bump 1)).map GT.id).flatMap fp ++ ksp) :: ((ts.modify (ts.length - 1) (GT.bump 1)).flatMap (GT.all enc) ++ E)) h' :=
        s.perm (by rw [modify_last hc2, set_ids hc2 (GT.bump_id c), flat_at3 (GT.all enc) hc', etake, edrop]; ((apply perm_rg; intro f; simp only [set_cons_zero, set_cons_succ, eraseIdx_cons_zero, eraseIdx_cons_succ, cons_append, nil_append, map_append, map_cons, map_nil, List.sum_append, List.sum_cons, List.sum_nil, map_flatMap, Nat.add_zero, Nat.zero_add]; ac_rfl)))
      rw [← mfp] at s1; exact s1
theorem Load_ok (o : Swo lt) {A : List Rg} (hO : OrdA A lf lt) {tb m : Nat} {iso mn : Int} {ctr : Option Addr} {g : Rt} {x : It} (M : TreeOk lt m iso g) (hmn : mn ≠ 0) (hsz : (rPt g).items.length ≤ 4611686018427387903)
    (s : St h0 Z ((tb, 0, hdr iso ctr (rA g) (rPt g).items.length lf mn m) :: (rAll g ++ (A ++ E))) h)
    (H : ∀ (g' : Rt) h', rPt g' = (rPt g).set lt m x → TreeOk lt m iso g' → St h0 Z ((tb, 0, hdr iso ctr (rA g') (rPt g').items.length lf mn m) :: (rAll g' ++ (A ++ E))) h' → Q (.tuple #[old (lget lt (rPt g).items x), .bool (lget lt (rPt g).items x).isSome]) h') :
    BTreeG_I_Load.call #[ptr tb 0, av x] h Q := by
  refine BTreeG_I_Load.body _ _ _ _ ?_; unfold BTreeG_I_Load.sh; refine St.r_box (cs := enc x) s fun t3 h s => ?_; refine s.r_alloc fun t4 h s => ?_; refine lock_ok ?_; refine r_if (fun e => absurd e (by simp)) (fun _ => ?_)
  unfold BTreeG_I_Load.j1
  have fin : ∀ {h : Heap}, St h0 Z ((t3, 0, enc x) :: (t4, 0, enc emp) :: (tb, 0, hdr iso ctr (rA g) (rPt g).items.length lf mn m) :: (rAll g ++ (A ++ E))) h → BTreeG_I_Load.j4 (ptr tb 0) (ptr t3 0) (ptr t4 0) h Q := fun {h} s => by
    unfold BTreeG_I_Load.j4; refine St.r_loadN0 s 0 rfl (by simp) ?_; refine setHint_ok o hO M hmn hsz Hn.none (x := x) (E := (t4, 0, enc emp) :: (t3, 0, enc x) :: E) ((s.empty 0 0).perm (by ((apply perm_rg; intro f; simp only [set_cons_zero, set_cons_succ, eraseIdx_cons_zero, eraseIdx_cons_succ, cons_append, nil_append, map_append, map_cons, map_nil, List.sum_append, List.sum_cons, List.sum_nil, map_flatMap, Nat.add_zero, Nat.zero_add]; ac_rfl)))) fun g' hc' h' e M' hh s => ?_
    have s : St h0 Z ((t4, 0, enc emp) :: (t3, 0, enc x) :: (0, 0, hc') :: (tb, 0, hdr iso ctr (rA g') (rPt g').items.length lf mn m) :: (rAll g' ++ (A ++ E))) h' := s.perm (by ((apply perm_rg; intro f; simp only [set_cons_zero, set_cons_succ, eraseIdx_cons_zero, eraseIdx_cons_succ, cons_append, nil_append, map_append, map_cons, map_nil, List.sum_append, List.sum_cons, List.sum_nil, map_flatMap, Nat.add_zero, Nat.zero_add]; ac_rfl)))
    refine r_ext rfl ?_; refine r_ext rfl ?_; refine St.r_storeN0 s 0 rfl rfl (by simp) (enc1 ((lget lt (rPt g).items x).getD emp)) ?_; intro h s
    refine St.r_loadN0 s 0 rfl (by simp) ?_; exact H g' h e M' (s.drop 3)
  refine r_nil ?_; refine r_fld ?_; refine St.r_load0 s 2 rfl rfl ?_; refine r_eqNilP ?_
  cases g with
  | none =>
    refine r_if (fun _ => ?_) (fun e => absurd e (by simp [rA]))
    exact fin (s.perm (by ((apply perm_rg; intro f; simp only [set_cons_zero, set_cons_succ, eraseIdx_cons_zero, eraseIdx_cons_succ, cons_append, nil_append, map_append, map_cons, map_nil, List.sum_append, List.sum_cons, List.sum_nil, map_flatMap, Nat.add_zero, Nat.zero_add]; ac_rfl))))
  | some t =>
    obtain ⟨k, t⟩ := t; refine r_if (fun e => absurd e (by simp [rA])) (fun _ => ?_)
    unfold BTreeG_I_Load.j2
    have key : ∀ g' : Rt, rPt g' = (rPt (some ⟨k, t⟩)).set lt m x → rGd iso g' → TreeOk lt m iso g' := fun g' e gd => by
      obtain ⟨e1, e2⟩ := MT.set_items (x := x) o M.odd M.m3 M.fl M.asc; exact ⟨gd, by rw [e]; exact e2, by rw [e, e1]; exact asc_lput o M.asc, M.m3, M.m1, M.odd⟩
    have s := hdr_cut (s.front 2 rfl)
    have s0 : St h0 Z (([(tb, 0, hd0 iso ctr), (tb, 4, hd4 lf mn m), (t3, 0, enc x)] ++ A) ++ ((tb, 2, [ptr t.id 0]) :: (tb, 3, [.int .i64 t.pt.items.length]) :: (t4, 0, enc emp) :: (t.all enc ++ E))) h := s.perm (by
      show ((tb, 0, hd0 iso ctr) :: (tb, 4, hd4 lf mn m) :: (t3, 0, enc x) :: (A ++ ((tb, 2, [ptr t.id 0]) :: (tb, 3, [.int .i64 t.pt.items.length]) :: (t4, 0, enc emp) :: (t.all enc ++ E)))).Perm ((tb, 0, hd0 iso ctr) :: (tb, 4, hd4 lf mn m) :: (tb, 2, [ptr t.id 0]) :: (tb, 3, [.int .i64 t.pt.items.length]) :: (t4, 0, enc emp) :: (t3, 0, enc x) :: (t.all enc ++ (A ++ E)))
      ((apply perm_rg; intro f; simp only [set_cons_zero, set_cons_succ, eraseIdx_cons_zero, eraseIdx_cons_succ, cons_append, nil_append, map_append, map_cons, map_nil, List.sum_append, List.sum_cons, List.sum_nil, map_flatMap, Nat.add_zero, Nat.zero_add]; ac_rfl)))
    obtain ⟨s1, back⟩ := s0.borrow
    have z0 : (tb, 0, hd0 iso ctr) ∈ ([(tb, 0, hd0 iso ctr), (tb, 4, hd4 lf mn m), (t3, 0, enc x)] ++ A) ++ Z := List.mem_cons_self ..
    have z4 : (tb, 4, hd4 lf mn m) ∈ ([(tb, 0, hd0 iso ctr), (tb, 4, hd4 lf mn m), (t3, 0, enc x)] ++ A) ++ Z := List.mem_cons_of_mem _ (List.mem_cons_self ..)
    have z8 : (t3, 0, enc x) ∈ ([(tb, 0, hd0 iso ctr), (tb, 4, hd4 lf mn m), (t3, 0, enc x)] ++ A) ++ Z := List.mem_cons_of_mem _ (List.mem_cons_of_mem _ (List.mem_cons_self ..))
    have hOC : OrdC (([(tb, 0, hd0 iso ctr), (tb, 4, hd4 lf mn m), (t3, 0, enc x)] ++ A) ++ Z) lf lt := hO _ fun r hr => List.mem_append_left _ (List.mem_append_right _ hr)
    have hgd : Gd iso t := M.gd
    have hfl : t.pt.Fl m 1 := M.fl
    have hasc : Asc lt t.pt.items := M.asc
    have hszt : t.pt.items.length ≤ 4611686018427387903 := hsz
    have hiso : ∀ {Z' E' : List Rg} {h : Heap}, St h0 Z' (t.all enc ++ E') h → cl h t.id 0 = some (.int .u64 iso) := fun s => by
      obtain ⟨a2, a3, a4, hmem⟩ := topIso (t := t)
      have hown := hgd.mine.nd
      have hci : t.nd.iso = iso := by
        have := hgd.wf
        cases k with
        | zero => exact this.2.1 hown
        | succ k => exact this.1.2.1 hown
      rw [hci] at hmem; exact (s.e _ (List.mem_append.2 (.inl hmem))).1.at0 0 rfl
    refine r_nil ?_; refine r_fld ?_; refine isoLoad_ok (n := t.id) (iso := iso) (by have := s1.getZ z0 (j := 0) (by simp); simpa using this) (by have := s1.get (k := 0) (j := 0) rfl (by simp); simpa using this) (fun _ => hiso (s1.perm (E' := t.all enc ++ ((tb, 2, [ptr t.id 0]) :: (tb, 3, [.int .i64 t.pt.items.length]) :: (t4, 0, enc emp) :: E)) (by ((apply perm_rg; intro f; simp only [set_cons_zero, set_cons_succ, eraseIdx_cons_zero, eraseIdx_cons_succ, cons_append, nil_append, map_append, map_cons, map_nil, List.sum_append, List.sum_cons, List.sum_nil, map_flatMap, Nat.add_zero, Nat.zero_add]; ac_rfl))))) ?_; refine (down_ok o hOC (t4 := ptr t4 0) z0 z4 z8 M.m1 M.m3 M.odd t (E := (tb, 2, [ptr t.id 0]) :: (tb, 3, [.int .i64 t.pt.items.length]) :: (t4, 0, enc emp) :: E) (Nat.le_refl 1) hfl hasc hgd hszt (s1.perm (by ((apply perm_rg; intro f; simp only [set_cons_zero, set_cons_succ, eraseIdx_cons_zero, eraseIdx_cons_succ, cons_append, nil_append, map_append, map_cons, map_nil, List.sum_append, List.sum_cons, List.sum_nil, map_flatMap, Nat.add_zero, Nat.zero_add]; ac_rfl)))) (fun c' h' a1 a2 a3 a4 a5 s => ?_) (fun h' s => ?_)).loop
    · unfold loadEnd
      have s : St h0 (([(tb, 0, hd0 iso ctr), (tb, 4, hd4 lf mn m), (t3, 0, enc x)] ++ A) ++ Z) ((tb, 3, [.int .i64 t.pt.items.length]) :: (tb, 2, [ptr t.id 0]) :: (t4, 0, enc emp) :: (c'.all enc ++ E)) h' := s.perm (by ((apply perm_rg; intro f; simp only [set_cons_zero, set_cons_succ, eraseIdx_cons_zero, eraseIdx_cons_succ, cons_append, nil_append, map_append, map_cons, map_nil, List.sum_append, List.sum_cons, List.sum_nil, map_flatMap, Nat.add_zero, Nat.zero_add]; ac_rfl)))
      refine r_nil ?_; refine r_fld ?_; refine s.r_load1 0 (o := 3) (j := 0) rfl rfl ?_; refine r_add (z := ((t.pt.items.length + 1 : Nat) : Int)) (by rw [i64w (by omega) (by omega)]; omega) ?_; refine r_nil ?_; refine r_fld ?_; refine St.r_store1 s 0 (o := 3) (j := 0) rfl (by simp) rfl ?_; intro h s
      refine r_nil ?_; refine r_fld ?_; refine s.r_lzE z4 3 (enc emp) rfl (by simp) rfl ?_; refine St.r_storeN0 s 2 rfl rfl (by simp) (enc1 emp) ?_; intro h s
      refine St.r_loadN0 s 2 rfl (by simp) ?_
      have e0 : rPt (some ⟨k, c'⟩) = (rPt (some ⟨k, t⟩)).set lt m x := by
        show some (⟨k, c'.pt⟩ : (j : Nat) × PT It j) = MT.set lt m (some ⟨k, t.pt⟩) x
        unfold MT.set
        simp only [a2, Bool.false_eq_true, ↓reduceIte, a3]
      have hl : c'.pt.items.length = t.pt.items.length + 1 := by rw [a3, (PT.set_items o M.odd hfl hasc a2).1, lput_length, (pos_end a1).2]; rfl
      have := H (some ⟨k, c'⟩) h e0 (key _ e0 a5) (by
        have s2 := back _ h s
        show St h0 Z ((tb, 0, hdr iso ctr (some ⟨c'.id, 0, Option.none⟩) c'.pt.items.length lf mn m) :: (c'.all enc ++ (A ++ E))) h
        refine hdr_glue ?_; rw [hl, a4]; exact (s2.perm (E' := (t3, 0, enc x) :: (t4, 0, enc emp) :: (tb, 0, hd0 iso ctr) :: (tb, 4, hd4 lf mn m) :: (tb, 2, [ptr t.id 0]) :: (tb, 3, [.int .i64 ((t.pt.items.length + 1 : Nat) : Int)]) :: (c'.all enc ++ (A ++ E))) (by ((apply perm_rg; intro f; simp only [set_cons_zero, set_cons_succ, eraseIdx_cons_zero, eraseIdx_cons_succ, cons_append, nil_append, map_append, map_cons, map_nil, List.sum_append, List.sum_cons, List.sum_nil, map_flatMap, Nat.add_zero, Nat.zero_add]; ac_rfl)))).drop 2)
      have hn : lget lt (rPt (some ⟨k, t⟩)).items x = none := (pos_end a1).2
      rw [hn] at this; exact this
    · unfold BTreeG_I_Load.j3
      have s : St h0 (([(tb, 0, hd0 iso ctr), (tb, 4, hd4 lf mn m), (t3, 0, enc x)] ++ A) ++ Z) ((tb, 2, [ptr t.id 0]) :: (tb, 3, [.int .i64 t.pt.items.length]) :: (t4, 0, enc emp) :: ((t.bump 1).all enc ++ E)) h' := s.perm (by ((apply perm_rg; intro f; simp only [set_cons_zero, set_cons_succ, eraseIdx_cons_zero, eraseIdx_cons_succ, cons_append, nil_append, map_append, map_cons, map_nil, List.sum_append, List.sum_cons, List.sum_nil, map_flatMap, Nat.add_zero, Nat.zero_add]; ac_rfl)))
      refine r_nil ?_; refine r_fld ?_; refine s.r_load1 0 (o := 2) (j := 0) rfl rfl ?_; refine (revert_ok M.m1 t (E := (tb, 2, [ptr t.id 0]) :: (tb, 3, [.int .i64 t.pt.items.length]) :: (t4, 0, enc emp) :: E) hfl hgd hszt (s.perm (by ((apply perm_rg; intro f; simp only [set_cons_zero, set_cons_succ, eraseIdx_cons_zero, eraseIdx_cons_succ, cons_append, nil_append, map_append, map_cons, map_nil, List.sum_append, List.sum_cons, List.sum_nil, map_flatMap, Nat.add_zero, Nat.zero_add]; ac_rfl)))) fun h' s => ?_).loop
      have s2 := back ((tb, 2, [ptr t.id 0]) :: (tb, 3, [.int .i64 t.pt.items.length]) :: (t4, 0, enc emp) :: (t.all enc ++ E)) h' (s.perm (by ((apply perm_rg; intro f; simp only [set_cons_zero, set_cons_succ, eraseIdx_cons_zero, eraseIdx_cons_succ, cons_append, nil_append, map_append, map_cons, map_nil, List.sum_append, List.sum_cons, List.sum_nil, map_flatMap, Nat.add_zero, Nat.zero_add]; ac_rfl))))
      have s4 : St h0 Z ((tb, 0, hd0 iso ctr) :: (tb, 4, hd4 lf mn m) :: (tb, 2, [ptr t.id 0]) :: (tb, 3, [.int .i64 t.pt.items.length]) :: (t3, 0, enc x) :: (t4, 0, enc emp) :: (t.all enc ++ (A ++ E))) h' := s2.perm (by ((apply perm_rg; intro f; simp only [set_cons_zero, set_cons_succ, eraseIdx_cons_zero, eraseIdx_cons_succ, cons_append, nil_append, map_append, map_cons, map_nil, List.sum_append, List.sum_cons, List.sum_nil, map_flatMap, Nat.add_zero, Nat.zero_add]; ac_rfl)))
      have s5 : St h0 Z ((tb, 0, hdr iso ctr (rA (some ⟨k, t⟩)) (rPt (some ⟨k, t⟩)).items.length lf mn m) :: (t3, 0, enc x) :: (t4, 0, enc emp) :: (rAll (some ⟨k, t⟩) ++ (A ++ E))) h' := hdr_glue s4
      exact fin (s5.perm (by ((apply perm_rg; intro f; simp only [set_cons_zero, set_cons_succ, eraseIdx_cons_zero, eraseIdx_cons_succ, cons_append, nil_append, map_append, map_cons, map_nil, List.sum_append, List.sum_cons, List.sum_nil, map_flatMap, Nat.add_zero, Nat.zero_add]; ac_rfl))))
end Go.Proofs.Ytljecmjdmdjldaa.Gi
end
section
namespace Go.Proofs.Ytljecmjdmdjldaa.Gi
open Go.Hp Go.Proofs.Ytljecmjdmdjldaa
variable {h0 h : Heap} {Z E : List Rg} {Q : Value → Heap → Prop} {lt : It → It → Bool} {lf : Value}
theorem slcF0 {K : Value → Prop} {L : List It} {v : Value} (r : Rdl 2 h v L.length (L.flatMap enc)) {k' : IntKind} {z' : Int} {j : Nat} (hz' : z' = j) (hj : j ≤ L.length)
    (H : ∀ v', Rdl 2 h v' (L.take j).length ((L.take j).flatMap enc) → K v') : Hp.slc 2 v none (some (.int k' z')) none K := by
  subst hz'; refine r.slc (l := 0) (m := j) rfl ⟨k', j, rfl, by omega, by omega, by simp⟩ (Nat.zero_le _) hj fun v' r' => H v' ?_; rw [Nat.zero_mul, List.drop_zero, Nat.sub_zero, flat_take encl L j hj] at r'; rw [List.length_take, Nat.min_eq_left hj]; exact r'
theorem slcF1 {K : Value → Prop} {L : List It} {v : Value} (r : Rdl 2 h v L.length (L.flatMap enc)) {k : IntKind} {z : Int} {i : Nat} (hz : z = i) (hi : i ≤ L.length)
    (H : ∀ v', Rdl 2 h v' (L.drop i).length ((L.drop i).flatMap enc) → K v') : Hp.slc 2 v (some (.int k z)) none none K := by
  subst hz; refine r.slc (l := i) (m := L.length) ⟨k, i, rfl, by omega, by omega, by simp⟩ rfl hi (Nat.le_refl _) fun v' r' => H v' ?_
  have e : ((L.flatMap enc).drop (i * 2)).take ((L.length - i) * 2) = (L.drop i).flatMap enc := by
    rw [flat_drop encl, List.take_of_length_le (by rw [flat_len encl, List.length_drop]; exact Nat.le_refl _)]
  rw [e] at r'; rw [List.length_drop]; exact r'
theorem Put_ok {ow : List Int} {ov : Value} {l : List It} {v : Value} {x : It} (ho : OwAt h ow ov) (hr : Rdl 2 h v l.length (l.flatMap enc)) (hl : l.length ≤ 1073741824)
    (H : ∀ v' rf E' h', rf = .agg (foundC (lget (ltO ow) l x)).toArray → St h [] E' h' → Rdl 2 h' v' (lput (ltO ow) l x).length ((lput (ltO ow) l x).flatMap enc) → (∃ b o sp, Own 2 v' (lput (ltO ow) l x).length b o ((lput (ltO ow) l x).flatMap enc) sp ∧ (b, o, (lput (ltO ow) l x).flatMap enc ++ sp) ∈ E') → Q (.tuple #[v', rf]) h') : s_Put.call #[ov, v, av x] h Q := by
  refine s_Put.body _ _ _ _ _ ?_; unfold s_Put.sh
  have s := St.start h
  refine St.r_box (cs := enc x) s fun t5 h1 s => ?_; refine s.r_alloc fun t7 h1 s => ?_; refine St.r_loadN0 s 1 rfl (by simp) ?_; refine s_Place_ok (x := x) (ho.st s) (hr.st s) (by omega) fun E2 h1 s2 => ?_
  have s := (s.join s2).perm List.perm_append_comm
  have s : St h [] ((t7, 0, [.int .i64 0, .int .i64 0, .bool false]) :: (t5, 0, enc x) :: E2) h1 := s
  have hple := pos_le (lt := ltO ow) l x
  have hput : lput (ltO ow) l x = l.take (pos (ltO ow) l x) ++ x :: l.drop (pos (ltO ow) l x + if (lget (ltO ow) l x).isSome then 1 else 0) := rfl
  have hg : ∀ y, lget (ltO ow) l x = some y → ∃ hp : pos (ltO ow) l x < l.length, l[pos (ltO ow) l x] = y := fun y e => by
    obtain ⟨hp, h1, _⟩ := lget_some e; exact ⟨hp, h1⟩
  generalize pos (ltO ow) l x = i at *
  generalize lget (ltO ow) l x = lg at *
  refine r_ext rfl ?_; refine r_ext rfl ?_; refine St.r_mkSl (sz := 2) (cs := []) s (by ((simp only [fillV, fill1, Value.cells, zeros_succ, zeros_zero, size_toArray, length_cons, length_nil, length_append, take_succ_cons, take_zero, take_nil, drop_succ_cons, drop_zero, drop_nil, cons_append, nil_append, append_nil, Nat.reduceAdd, Nat.reduceMul, Nat.reduceLeDiff, Nat.reduceEqDiff, and_self, and_true, true_and, if_true, Nat.le_refl, Nat.zero_add, Nat.add_zero, Nat.zero_mul, reduceIte, if_false] <;> rfl))) rfl fun q h1 s wq => ?_; refine slcF0 (hr.st s) rfl hple fun v1 r1 => ?_; refine s.r_appL (f := enc) (L := []) (M := l.take i) 0 rfl wq rfl r1 (fun _ _ => enc1 _) (by simp; omega) (by simp; omega) fun va ba oa pa h1 s wa => ?_; rw [List.nil_append] at wa
  have s : St h [] ((ba, oa, (l.take i).flatMap enc ++ pa) :: (t7, 0, [.int .i64 0, .int .i64 0, .bool false]) :: (t5, 0, enc x) :: E2) h1 := s
  refine St.r_loadN0 s 2 rfl (by simp) ?_; refine St.r_mkSl (sz := 2) (cs := enc x) s (by ((simp only [fillV, fill1, Value.cells, zeros_succ, zeros_zero, size_toArray, length_cons, length_nil, length_append, take_succ_cons, take_zero, take_nil, drop_succ_cons, drop_zero, drop_nil, cons_append, nil_append, append_nil, Nat.reduceAdd, Nat.reduceMul, Nat.reduceLeDiff, Nat.reduceEqDiff, and_self, and_true, true_and, if_true, Nat.le_refl, Nat.zero_add, Nat.add_zero, Nat.zero_mul, reduceIte, if_false] <;> rfl))) rfl fun q2 h1 s wq2 => ?_; refine s.r_appL (f := enc) (L := l.take i) (M := [x]) 1 rfl wa rfl (by have := wq2.rdl s 0 rfl; simpa using this) (fun _ _ => enc1 _) (by simp; omega) (by simp; omega) fun vb bb ob pb h1 s wb => ?_
  have s : St h [] ((bb, ob, (l.take i ++ [x]).flatMap enc ++ pb) :: (t7, 0, [.int .i64 0, .int .i64 0, .bool false]) :: (t5, 0, enc x) :: E2) h1 := s.tail rfl
  cases lg with
  | some y =>
    obtain ⟨hi, hy⟩ := hg y rfl
    have hput : lput (ltO ow) l x = (l.take i ++ [x]) ++ l.drop (i + 1) := by rw [hput]; simp
    refine r_if (fun _ => ?_) (fun e => absurd e (by simp))
    refine r_add1 (by omega) ?_; refine slcF1 (hr.st s) rfl hi fun v2 r2 => ?_; refine hr.at (n := i) rfl encl rfl rfl hi fun b o hb => ?_; refine (hb.st s).loadN rfl ?_
    ((apply r_build; ((simp only [fillV, fill1, Value.cells, zeros_succ, zeros_zero, size_toArray, length_cons, length_nil, length_append, take_succ_cons, take_zero, take_nil, drop_succ_cons, drop_zero, drop_nil, cons_append, nil_append, append_nil, Nat.reduceAdd, Nat.reduceMul, Nat.reduceLeDiff, Nat.reduceEqDiff, and_self, and_true, true_and, if_true, Nat.le_refl, Nat.zero_add, Nat.add_zero, Nat.zero_mul, reduceIte, if_false] <;> rfl))))
    refine s.r_appL (f := enc) (L := l.take i ++ [x]) (M := l.drop (i + 1)) 0 rfl wb rfl r2 (fun _ _ => enc1 _) (by simp; omega) (by simp; omega) fun vc bc oc pc h2 s wc => ?_; rw [← hput] at wc s; refine ⟨(hb.st s).stillN rfl, ?_⟩
    · have s : St h [] ((bc, oc, (lput (ltO ow) l x).flatMap enc ++ pc) :: (t7, 0, [.int .i64 0, .int .i64 0, .bool false]) :: (t5, 0, enc x) :: E2) h2 := s
      refine St.r_storeN0 s 1 (ys := [.int .i64 l[i].1, .int .i64 l[i].2, .bool true]) rfl rfl (by simp) (by simp [one1]) ?_; intro h2 s
      refine St.r_loadN0 s 1 rfl (by simp) ?_; exact H vc _ _ _ (by rw [hy]; rfl) s (wc.rdl s 0 rfl) ⟨bc, oc, pc, wc, List.mem_cons_self ..⟩
  | none =>
    have hput : lput (ltO ow) l x = (l.take i ++ [x]) ++ l.drop i := by rw [hput]; simp
    refine r_if (fun e => absurd e (by simp)) (fun _ => ?_)
    unfold s_Put.j1; refine slcF1 (hr.st s) rfl hple fun v2 r2 => ?_; refine s.r_appL (f := enc) (L := l.take i ++ [x]) (M := l.drop i) 0 rfl wb rfl r2 (fun _ _ => enc1 _) (by simp; omega) (by simp; omega) fun vc bc oc pc h2 s wc => ?_; rw [← hput] at wc s
    ((apply r_build; ((simp only [fillV, fill1, Value.cells, zeros_succ, zeros_zero, size_toArray, length_cons, length_nil, length_append, take_succ_cons, take_zero, take_nil, drop_succ_cons, drop_zero, drop_nil, cons_append, nil_append, append_nil, Nat.reduceAdd, Nat.reduceMul, Nat.reduceLeDiff, Nat.reduceEqDiff, and_self, and_true, true_and, if_true, Nat.le_refl, Nat.zero_add, Nat.add_zero, Nat.zero_mul, reduceIte, if_false] <;> rfl))))
    have s : St h [] ((bc, oc, (lput (ltO ow) l x).flatMap enc ++ pc) :: (t7, 0, [.int .i64 0, .int .i64 0, .bool false]) :: (t5, 0, enc x) :: E2) h2 := s
    refine St.r_storeN0 s 1 (ys := [.int .i64 0, .int .i64 0, .bool false]) rfl rfl (by simp) (by simp [one1]) ?_; intro h2 s
    refine St.r_loadN0 s 1 rfl (by simp) ?_; exact H vc _ _ _ rfl s (wc.rdl s 0 rfl) ⟨bc, oc, pc, wc, List.mem_cons_self ..⟩
theorem its_ne {m : Nat} {y : MT It} (f : y.Fl m) : (if (toD (mt0 y).2).1 = [] then 0 else (toD (mt0 y).2).lv.1) = mh y := by
  cases y with
  | none => rfl
  | some t =>
    obtain ⟨k, x⟩ := t
    have f : x.Fl m 1 := f
    have h1 := f.le.1
    show (if (toD x).1 = [] then 0 else (toD x).lv.1) = k + 1
    rw [toD_lv f, if_neg]; rw [toD_its]; intro e; rw [e] at h1; simp at h1
theorem valid_mt {ow : List Int} {d : Nat} (hd : d = 0 ∨ 2 ≤ d) {y : MT It} (f : y.Fl (dmax d)) (ha : Asc (ltO ow) y.items) : validN ow d (toD (mt0 y).2) := by
  cases y with
  | none => exact .inl ⟨rfl, rfl⟩
  | some t => exact toD_valid hd f ha
theorem mt0_mh (y : MT It) : (mt0 y).1 ≤ mh y := by
  cases y with
  | none => exact Nat.zero_le _
  | some t => exact Nat.le_succ t.1
def endH (s3 s8 s9 s10 due : Value) (t45 : Value) (h : Heap) (Q : Value → Heap → Prop) : Prop :=
    loadN 3 s9 h fun t46 =>
    loadN 3 s8 h fun t47 =>
    eqR (EqV Try.prog 10000 46) t46 t47 fun t48 =>
    br t48 true (loadN 3 s3 h fun t50 =>
    loadN 3 s10 h fun t51 =>
    l_holds.call #[t50, t51, due] h fun t53 h =>
    br t53 true (cmpI (fun a b => a == b) t45 (.int .i64 0) fun t57 =>
    br t57 false (cmpI (fun a b => a == b) t45 (.int .i64 1) fun t60 =>
    br t60 true (l_aliveN.call #[] h fun t64 h =>
    Q t64 h) (Q (.bool false) h)) (l_aliveN.call #[] h fun t64_2 h =>
    Q t64_2 h)) (Q (.bool false) h)) (Q (.bool false) h)
theorem endH_ok {ow : List Int} {ov : Value} {nl : Bool} {d k : Nat} {g : Heap} {vi' vk' vd : Value} {s3 s8 s9 s10 : Nat} {R : List Rg} {y : MT It} {o : Option It} {z : Int} (hd : d = 0 ∨ 2 ≤ d) (hd2 : d ≤ 128) (ho : OwAt g ow ov)
    (hk : k ≤ 1048576) (hy : mh y ≤ k + 2) (hyl : y.items.length ≤ 268435457) (yf : y.Fl (dmax d)) (ya : Asc (ltO ow) y.items) (hz : z = 0 ∨ z = 1)
    (hc : ArgC h (mt0 y).2 vi' vk') (hdue : Rdl 2 h vd y.items.length (y.items.flatMap enc))
    (s : St g [] ((s10, 0, [vi', vk', .int .i64 y.items.length]) :: (s9, 0, foundC o) :: (s8, 0, foundC o) :: (s3, 0, [ov, .int .i64 d, .bool nl]) :: R) h)
    (H : ∀ E' h', St g [] E' h' → Q (.bool true) h') : endH (ptr s3 0) (ptr s8 0) (ptr s9 0) (ptr s10 0) vd (.int .i64 z) h Q := by
  obtain ⟨m3, m1, mo, me, mn0⟩ := dmax_ok hd (by omega); unfold endH
  have hbk := bulk_mt m3 yf
  have hbv := valid_mt hd yf ya
  have hmk : (mt0 y).1 ≤ k + 1 := by
    cases y with
    | none => exact Nat.zero_le _
    | some t => have : t.1 + 1 ≤ k + 2 := hy; show t.1 ≤ _; omega
  have live : ∀ {E' h'}, St g [] E' h' → l_aliveN.call #[] h' Q := fun s => l_aliveN_ok fun E' h' s' => H _ _ (s.join s')
  refine St.r_loadN0 s 1 rfl (by simp [foundC_len]) ?_; refine St.r_loadN0 s 2 rfl (by simp [foundC_len]) ?_
  have eo : ((foundC o).drop 0).take 3 = foundC o := by cases o <;> rfl
  rw [eo]; refine ⟨_, _, true, rfl, rfl, eqF o, ?_⟩
  refine r_br (fun _ => ?_) (fun e => absurd e (by decide))
  refine St.r_loadN0 s 3 rfl (by simp) ?_; refine St.r_loadN0 s 0 rfl (by simp) ?_
  have hit : (mt0 y).2.items.length = y.items.length := by rw [mt0_items]
  have key := holds_ok (nl := nl) (Q := fun t53 h => br t53 true (cmpI (fun a b => a == b) (.int .i64 z) (.int .i64 0) fun t57 =>
    br t57 false (cmpI (fun a b => a == b) (.int .i64 z) (.int .i64 1) fun t60 =>
    br t60 true (l_aliveN.call #[] h fun t64 h =>
    Q t64 h) (Q (.bool false) h)) (l_aliveN.call #[] h fun t64_2 h =>
    Q t64_2 h)) (Q (.bool false) h)) hd (by omega) (mt0 y).2 (ho.st s) hc hbv (by omega) (by omega) (mt0_items y).symm hdue fun E4 h4 s4 => by
      have s := s.join s4
      refine r_br (fun _ => ?_) (fun e => absurd e (by decide))
      rcases hz with e | e
      · rw [e]
        refine r_cmpI ?_; refine r_br (fun e => absurd e (by decide)) (fun _ => ?_)
        exact live s
      · rw [e]
        refine r_cmpI ?_; refine r_br (fun _ => ?_) (fun e => absurd e (by decide))
        refine r_cmpI ?_; refine r_br (fun _ => ?_) (fun e => absurd e (by decide))
        exact live s
  rw [hit] at key; exact key
theorem i_NLoad_ok {ow : List Int} {ov : Value} {nl : Bool} {d : Nat} {m0 : MT It} {vi vk vc : Value} {x : It} (hd : d = 0 ∨ 2 ≤ d) (hd2 : d ≤ 512) (hov : one1 ov = true) (h1 : one1 vi = true) (h2 : one1 vk = true) (h3 : one1 vc = true) (hs : ∀ h', Fr (fun _ _ => False) h h' → Stands ow ov nl d m0 h' vi vk vc) (hl : m0.items.length ≤ 268435456)
    (H : ∀ (y : MT It) vi' vk' E' h', y = m0.set (ltO ow) (dmax d) x → y.items = lput (ltO ow) m0.items x → y.Fl (dmax d) → Asc (ltO ow) y.items → St h [] E' h' → ArgC h' (mt0 y).2 vi' vk' → Q (.tuple #[.agg (foundC (lget (ltO ow) m0.items x)).toArray, .agg #[vi', vk', .int .i64 y.items.length]]) h') : i_NLoad.call #[.agg #[ov, .int .i64 d, .bool nl], .agg #[vi, vk, vc], av x] h Q := by
  obtain ⟨m3, m1, mo, me, mn0⟩ := dmax_ok hd hd2; refine i_NLoad.body _ _ _ _ _ ?_; unfold i_NLoad.sh
  have s := St.start h
  refine St.r_box (cs := [ov, .int .i64 d, .bool nl]) s fun b2 h s => ?_; refine St.r_box (cs := [vi, vk, vc]) s fun b3 h s => ?_; refine St.r_box (cs := enc x) s fun b4 h s => ?_; refine s.r_alloc fun b6 h s => ?_; refine s.r_alloc fun b7 h s => ?_; refine St.r_loadN0 s 4 rfl (by simp) ?_; refine St.r_loadN0 s 3 rfl (by simp) ?_; refine hs h s.fr fun g tb lf cb A E1 h e T => ?_; subst e
  have s1 := T.st
  have s := (s.join s1).perm List.perm_append_comm
  refine St.r_loadN0 s 2 rfl (by simp) ?_
  have s : St _ [] ((tb, 0, hdr 1 (some ⟨cb, 0, none⟩) (rA g) (rPt g).items.length lf (dmin d : Nat) (dmax d)) :: (rAll g ++ (A ++ ((b6, 0, zF) :: (b7, 0, zN) :: (b4, 0, enc x) :: (b3, 0, [vi, vk, vc]) :: (b2, 0, [ov, .int .i64 d, .bool nl]) :: E1)))) h := s.perm (by ((apply perm_rg; intro f; simp only [set_cons_zero, set_cons_succ, eraseIdx_cons_zero, eraseIdx_cons_succ, cons_append, nil_append, map_append, map_cons, map_nil, List.sum_append, List.sum_cons, List.sum_nil, map_flatMap, Nat.add_zero, Nat.zero_add]; ac_rfl)))
  refine Load_ok (mn := (dmin d : Nat)) (swoO ow) T.ord (x := x) T.ok (by omega) (by omega) s fun g' h e1 M' s => ?_
  have e2 := (MT.set_items (x := x) (swoO ow) mo m3 T.ok.fl T.ok.asc).1
  rw [← e1] at e2; refine r_ext rfl ?_; refine r_ext rfl ?_; refine found_ok fun E3 h s3 => ?_
  have s := (s.join s3).perm List.perm_append_comm
  refine s.r_alloc fun b9 h s => ?_
  have s : St _ [] ((b9, 0, zF) :: (b6, 0, zF) :: (b7, 0, zN) :: (tb, 0, hdr 1 (some ⟨cb, 0, none⟩) (rA g') (rPt g').items.length lf (dmin d : Nat) (dmax d)) :: (rAll g' ++ (A ++ ((b4, 0, enc x) :: (b3, 0, [vi, vk, vc]) :: (b2, 0, [ov, .int .i64 d, .bool nl]) :: (E1 ++ E3))))) h := s.perm (by ((apply perm_rg; intro f; simp only [set_cons_zero, set_cons_succ, eraseIdx_cons_zero, eraseIdx_cons_succ, cons_append, nil_append, map_append, map_cons, map_nil, List.sum_append, List.sum_cons, List.sum_nil, map_flatMap, Nat.add_zero, Nat.zero_add]; ac_rfl)))
  have hle : (rPt g').items.length ≤ (rPt g).items.length + 1 := by
    rw [e2]
    have : (lput (ltO ow) (rPt g).items x).length = _ := lput_length
    rw [this]; split <;> omega
  exact ff_ok M' (by omega) s fun vi' vk' E' h' s ha => H (rPt g') vi' vk' E' h' e1 e2 M'.fl M'.asc s ha
def restL (s3 s4 s5 t8 due t33 : Value) (h : Heap) (Q : Value → Heap → Prop) : Prop :=
  storeN 3 t8 t33 h fun h =>
    loadN 3 s3 h fun t35 =>
    loadN 3 s4 h fun t36 =>
    loadN 2 s5 h fun t37 =>
    i_NLoad.call #[t35, t36, t37] h fun t38 h =>
    extr 0 t38 fun t39 =>
    extr 1 t38 fun t40 =>
    alloc [(.int .i64 0), (.int .i64 0), (.bool false)] 46 h fun t9 h =>
    alloc [(.slice none 0 0), (.slice none 0 0), (.int .i64 0)] 37 h fun t10 h =>
    storeN 3 t9 t39 h fun h =>
    storeN 3 t10 t40 h fun h =>
    loadN 3 t10 h fun t41 =>
    loadN 3 s4 h fun t43 =>
    s_NodeHeight.call #[t41] h fun t42 h =>
    stillN 3 s4 t43 h ∧ s_NodeHeight.call #[t43] h fun t44 h =>
    arith (· - ·) t42 t44 fun t45 => endH s3 t8 t9 t10 due t45 h Q
theorem restL_ok {ow : List Int} {ov : Value} {nl : Bool} {d k : Nat} {t : DT (k + 1)} {m0 : MT It} {g : Heap} {vi vk vd : Value} {c : Int} {s3 s4 s5 s8 : Nat} {R : List Rg} {x : It} (hd : d = 0 ∨ 2 ≤ d) (hd2 : d ≤ 128) (ho : OwAt g ow ov)
    (ha : ArgD g t vi vk) (hb : t.bulk ≤ 1048576) (hk : k ≤ 1048576) (e1 : m0.items = t.items) (e2 : mh m0 = (if t.1 = [] then 0 else t.lv.1)) (hst : ∀ h, Fr (fun _ _ => False) g h → Stands ow ov nl d m0 h vi vk (.int .i64 c))
    (hdue : ∃ b o sp, Own 2 vd (lput (ltO ow) t.items x).length b o ((lput (ltO ow) t.items x).flatMap enc) sp ∧ (b, o, (lput (ltO ow) t.items x).flatMap enc ++ sp) ∈ R)
    (s : St g [] ((s8, 0, zF) :: (s5, 0, enc x) :: (s4, 0, [vi, vk, .int .i64 c]) :: (s3, 0, [ov, .int .i64 d, .bool nl]) :: R) h)
    (H : ∀ E' h', St g [] E' h' → Q (.bool true) h') : restL (ptr s3 0) (ptr s4 0) (ptr s5 0) (ptr s8 0) vd (.agg (foundC (lget (ltO ow) t.items x)).toArray) h Q := by
  obtain ⟨db, dof, dsp, dw, dm⟩ := hdue
  have hil := t.items_le
  have hone := ha.one
  obtain ⟨m3, m1, mo, me, mn0⟩ := dmax_ok hd (by omega); unfold restL; refine St.r_storeN0 s 0 rfl (foundC_len _) (by simp) (foundC_one _) ?_; intro h s
  have s : St g [] ((s8, 0, foundC (lget (ltO ow) t.items x)) :: (s5, 0, enc x) :: (s4, 0, [vi, vk, .int .i64 c]) :: (s3, 0, [ov, .int .i64 d, .bool nl]) :: R) h := fc3 (g := h) s
  refine St.r_loadN0 s 3 rfl (by simp) ?_; refine St.r_loadN0 s 2 rfl (by simp) ?_; refine St.r_loadN0 s 1 rfl (by simp) ?_; refine i_NLoad_ok hd (by omega) (x := x) ho.one hone.1 hone.2 rfl (mv_stands hst s) (by rw [e1]; omega) fun y vi' vk' E2 h y1 y2 y3 y4 s2 hc => ?_
  have s := (s.join s2).perm List.perm_append_comm
  rw [e1] at y2
  have hyl : (lput (ltO ow) t.items x).length ≤ t.items.length + 1 := by
    have : (lput (ltO ow) t.items x).length = _ := lput_length
    rw [this]; split <;> omega
  obtain ⟨mh1, mh2⟩ := mh_set ow (dmax d) m0 x; rw [← y1] at mh1 mh2
  have hlv := t.lv_le
  have hm0 : mh m0 ≤ k + 1 := by rw [e2]; split <;> omega
  rw [e1]; refine r_ext rfl ?_; refine r_ext rfl ?_
  have hone2 := hc.one
  have u := St.start h
  refine u.r_alloc fun s9 h u => ?_; refine u.r_alloc fun s10 h u => ?_; refine St.r_storeN0 u 1 rfl (foundC_len _) (by simp) (foundC_one _) ?_; intro h u
  refine St.r_storeN0 u 0 (ys := [vi', vk', .int .i64 y.items.length]) rfl rfl (by simp) (one3 hone2.1 hone2.2 rfl) ?_; intro h u
  have u : St _ [] ((s9, 0, List.take 0 zF ++ foundC (lget (ltO ow) t.items x) ++ List.drop (0 + 3) zF) :: (s10, 0, [vi', vk', .int .i64 y.items.length]) :: []) h := u.perm (List.Perm.swap _ _ _)
  have u := fc3 (g := h) u
  have hc := hc.fr u.fr
  have s := s.join u
  have s : St g [] ((s10, 0, [vi', vk', .int .i64 y.items.length]) :: (s9, 0, foundC (lget (ltO ow) t.items x)) :: (s8, 0, foundC (lget (ltO ow) t.items x)) :: (s3, 0, [ov, .int .i64 d, .bool nl]) :: (s4, 0, [vi, vk, .int .i64 c]) :: (s5, 0, enc x) :: (R ++ E2)) h := s.perm (by ((apply perm_rg; intro f; simp only [set_cons_zero, set_cons_succ, eraseIdx_cons_zero, eraseIdx_cons_succ, cons_append, nil_append, map_append, map_cons, map_nil, List.sum_append, List.sum_cons, List.sum_nil, map_flatMap, Nat.add_zero, Nat.zero_add]; ac_rfl)))
  refine St.r_loadN0 s 0 rfl (by simp) ?_; refine St.r_loadN0 s 4 rfl (by simp) ?_
  have hbk := bulk_mt m3 y3
  have hmk : (mt0 y).1 ≤ k + 2 := by have := mt0_mh y; omega
  have hyl2 : y.items.length ≤ t.items.length + 1 := by rw [y2]; omega
  refine NodeHeight_ok (toD (mt0 y).2) hc.toD (by omega) (by omega) rfl fun E3 h2 s3' => ?_; rw [its_ne y3]
  have s := (s.join s3').perm List.perm_append_comm
  have hc := hc.fr s3'.fr
  refine ⟨St.r_stillN0 s 4 (j := 0) (n := 3) rfl (by simp) rfl, ?_⟩
  refine NodeHeight_ok t (ha.fr s.fr) (by omega) (by omega) rfl fun E4 h3 s4' => ?_
  have s := (s.join s4').perm List.perm_append_comm
  have hc := hc.fr s4'.fr
  have s : St g [] ((s10, 0, [vi', vk', .int .i64 y.items.length]) :: (s9, 0, foundC (lget (ltO ow) t.items x)) :: (s8, 0, foundC (lget (ltO ow) t.items x)) :: (s3, 0, [ov, .int .i64 d, .bool nl]) :: ((s4, 0, [vi, vk, .int .i64 c]) :: (s5, 0, enc x) :: (R ++ E2) ++ E3 ++ E4)) h3 := s
  rw [← e2]; refine ⟨_, _, _, rfl, rfl, ?_⟩
  refine endH_ok (k := k) hd hd2 ho hk (by omega) (by rw [y2]; omega) y3 y4 ?_ hc ?_ s H
  · rcases mh2 with e | e
    · left; rw [e]; show IntKind.i64.wrap ((mh m0 : Int) - (mh m0 : Int)) = 0; rw [Int.sub_self]; decide
    · right; rw [e]; show IntKind.i64.wrap (((mh m0 + 1 : Nat) : Int) - (mh m0 : Int)) = 1; rw [show (((mh m0 + 1 : Nat) : Int) - (mh m0 : Int)) = 1 by omega]; decide
  · rw [y2]
    refine dw.rdlO (s.ok (List.mem_append_left _ ?_))
    refine List.mem_cons_of_mem _ (List.mem_cons_of_mem _ (List.mem_cons_of_mem _ (List.mem_cons_of_mem _ (List.mem_append_left _ (List.mem_append_left _ (List.mem_cons_of_mem _ (List.mem_cons_of_mem _ (List.mem_append_left _ dm))))))))
theorem l_FnNLoad_ok {ow : List Int} {ov : Value} {d c : Int} {nl : Bool} {k : Nat} (t : DT (k + 1)) {vi vk : Value} {x : It} (ho : Rdl 1 h ov ow.length (ow.flatMap fi)) (ha : ArgD h t vi vk) (hb : t.bulk ≤ 1048576) (hk : k ≤ 1048576) (H : ∀ E' h', St h [] E' h' → Q (.bool true) h') :
    l_FnNLoad.call #[.agg #[ov, .int .i64 d, .bool nl], .agg #[vi, vk, .int .i64 c], av x] h Q := by
  obtain ⟨hr, cs, hcl, hrk, _⟩ := id ha
  have hkl := t.kids_le
  have hil := t.items_le
  have hone := ha.one
  refine l_FnNLoad.body _ _ _ _ _ ?_; unfold l_FnNLoad.sh
  have s := St.start h
  refine St.r_box (cs := [ov, .int .i64 d, .bool nl]) s fun t3 h s => ?_; refine St.r_box (cs := [vi, vk, .int .i64 c]) s fun t4 h s => ?_; refine St.r_box (cs := enc x) s fun t5 h s => ?_; refine St.r_loadN0 s 2 rfl (by simp) ?_; refine l_zzFits1_ok (ho.st s) fun E1 h s1 => ?_
  have s := (s.join s1).perm List.perm_append_comm
  refine r_not ?_; refine r_br (fun e => ?_) (fun e => H _ _ s)
  have how : ow.length ≤ 2147483647 := by simpa using e
  have ho : OwAt _ ow ov := ⟨ho, how⟩
  refine St.r_loadN0 s 1 rfl (by simp) ?_; refine l_zzFits3_ok (hr.st s) (hrk.st s) (by omega) (by omega) rfl fun E2 h s2 => ?_
  have s := (s.join s2).perm List.perm_append_comm
  refine r_not ?_; refine r_if (fun e => absurd e (by decide)) (fun _ => ?_)
  have live : ∀ {E' h'}, St _ [] E' h' → l_aliveN.call #[] h' Q := fun s => l_aliveN_ok fun E' h' s' => H _ _ (s.join s')
  unfold l_FnNLoad.j1; refine St.r_loadN0 s 2 rfl (by simp) ?_; refine St.r_loadN0 s 1 rfl (by simp) ?_; refine valid_from s ho ha hb hk rfl (fun E3 h s => ?_) fun d' m0 E3 h ed hd hd2 e1 e2 e3 e4 hst s => ?_
  · refine r_not ?_
    exact r_if (fun e => live s) (fun e => absurd e (by decide))
  subst ed; refine r_not ?_; refine r_if (fun e => absurd e (by decide)) (fun _ => ?_)
  unfold l_FnNLoad.j2; refine r_fld (n := 0) ?_; refine St.r_load0 s 2 rfl rfl ?_; refine St.r_loadN0 s 1 rfl (by simp) ?_; refine St.r_loadN0 s 0 rfl (by simp) ?_
  have s : St _ [] ((t5, 0, enc x) :: (t4, 0, [vi, vk, .int .i64 c]) :: (t3, 0, [ov, .int .i64 d', .bool nl]) :: (E1 ++ E2 ++ E3)) h := s
  generalize E1 ++ E2 ++ E3 = R at s
  refine ⟨?_, ?_⟩
  · refine s_NodeItems_own t (ha.fr s.fr) (by omega) rfl fun v bv bo sp E4 h s4 w => ?_
    have s := (s.join s4).perm List.perm_append_comm
    have s : St _ [] ((t5, 0, enc x) :: (t4, 0, [vi, vk, .int .i64 c]) :: (t3, 0, [ov, .int .i64 d', .bool nl]) :: (bv, bo, t.items.flatMap enc ++ sp) :: (R ++ E4)) h := s.perm (by ((apply perm_rg; intro f; simp only [set_cons_zero, set_cons_succ, eraseIdx_cons_zero, eraseIdx_cons_succ, cons_append, nil_append, map_append, map_cons, map_nil, List.sum_append, List.sum_cons, List.sum_nil, map_flatMap, Nat.add_zero, Nat.zero_add]; ac_rfl)))
    refine ⟨St.r_still0 s 2 rfl rfl, St.r_stillN0 s 0 (j := 0) (n := 2) rfl (by simp) rfl, ?_, ?_⟩
    · refine Put_ok (x := x) (ho.st s) (w.rdl s 3 rfl) (by omega) fun v2 rf E5 h erf s5 _ hreg => ?_
      subst erf
      have s := (s.join s5).perm List.perm_append_comm
      refine r_ext rfl ?_; refine r_ext rfl ?_; refine s.r_alloc fun t8 h s => ?_; obtain ⟨b, o, sp2, w2, hm⟩ := hreg; exact restL_ok (R := (bv, bo, t.items.flatMap enc ++ sp) :: (R ++ E4 ++ E5)) hd hd2 ho ha hb hk e1 e2 hst ⟨b, o, sp2, w2, List.mem_cons_of_mem _ (List.mem_append_right _ hm)⟩ (s.perm (List.Perm.of_eq (by simp))) H
    · refine s.r_alloc fun t8 h s => ?_
      refine ⟨St.r_still0 s 3 rfl rfl, St.r_stillN0 s 1 (j := 0) (n := 2) rfl (by simp) rfl, ?_⟩
      refine Put_ok (x := x) (ho.st s) (w.rdl s 4 rfl) (by omega) fun v2 rf E5 h erf s5 _ hreg => ?_; subst erf
      have s := (s.join s5).perm List.perm_append_comm
      refine r_ext rfl ?_; refine r_ext rfl ?_; obtain ⟨b, o, sp2, w2, hm⟩ := hreg; exact restL_ok (R := (bv, bo, t.items.flatMap enc ++ sp) :: (R ++ E4 ++ E5)) hd hd2 ho ha hb hk e1 e2 hst ⟨b, o, sp2, w2, List.mem_cons_of_mem _ (List.mem_append_right _ hm)⟩ (s.perm (List.Perm.of_eq (by simp))) H
  · refine s.r_alloc fun t8 h s => ?_
    refine ⟨St.r_still0 s 3 rfl rfl, St.r_stillN0 s 2 (j := 0) (n := 3) rfl (by simp) rfl, St.r_stillN0 s 1 (j := 0) (n := 2) rfl (by simp) rfl, ?_⟩
    refine s_NodeItems_own t (ha.fr s.fr) (by omega) rfl fun v bv bo sp E4 h s4 w => ?_
    have s := (s.join s4).perm List.perm_append_comm
    have s : St _ [] ((t8, 0, zF) :: (t5, 0, enc x) :: (t4, 0, [vi, vk, .int .i64 c]) :: (t3, 0, [ov, .int .i64 d', .bool nl]) :: (bv, bo, t.items.flatMap enc ++ sp) :: (R ++ E4)) h := s.perm (by ((apply perm_rg; intro f; simp only [set_cons_zero, set_cons_succ, eraseIdx_cons_zero, eraseIdx_cons_succ, cons_append, nil_append, map_append, map_cons, map_nil, List.sum_append, List.sum_cons, List.sum_nil, map_flatMap, Nat.add_zero, Nat.zero_add]; ac_rfl)))
    refine ⟨St.r_still0 s 3 rfl rfl, St.r_stillN0 s 1 (j := 0) (n := 2) rfl (by simp) rfl, ?_⟩
    refine Put_ok (x := x) (ho.st s) (w.rdl s 4 rfl) (by omega) fun v2 rf E5 h erf s5 _ hreg => ?_; subst erf
    have s := (s.join s5).perm List.perm_append_comm
    refine r_ext rfl ?_; refine r_ext rfl ?_; obtain ⟨b, o, sp2, w2, hm⟩ := hreg; exact restL_ok (R := (bv, bo, t.items.flatMap enc ++ sp) :: (R ++ E4 ++ E5)) hd hd2 ho ha hb hk e1 e2 hst ⟨b, o, sp2, w2, List.mem_cons_of_mem _ (List.mem_append_right _ hm)⟩ (s.perm (List.Perm.of_eq (by simp))) H
end Go.Proofs.Ytljecmjdmdjldaa.Gi
end
