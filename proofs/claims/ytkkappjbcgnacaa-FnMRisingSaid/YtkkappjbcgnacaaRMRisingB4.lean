/-
  Texts of this claim, laid together: KrIi KsIi KzIi KgIi KhIi KiIi KlIi KtIi KuIi KvIi KmIi KyIi Ma.
  Conditions: as each of them tells.
-/
import Derived.Test.YtkkappjbcgnacaaRMRisingB3
section
namespace Go.Proofs.Ytkkappjbcgnacaa.Ii
open Go.Hp Go.Proofs.Ytkkappjbcgnacaa
set_option linter.unusedVariables false
set_option linter.unusedSimpArgs false
set_option maxHeartbeats 4000000
variable {h0 h : Heap} {Z E : List Rg} {Q : Value → Heap → Prop}
attribute [local irreducible] load1 loadN store1 storeN fld nilck lenV idx arith cmpI notV extr mkSl app cpy slc ifV

theorem rebalance_j {tb m j : Nat} {iso mn : Int} {ctr : Option Addr} (hT0 : (tb, 0, hd0 iso ctr) ∈ Z) (hT4 : (tb, 4, hd4 mn m) ∈ Z) (hm3 : 3 ≤ m) (hm1 : m ≤ 1024) (ho : m % 2 = 1) {k : Nat} (t : GT It (k + 1))
    (hlm : t.pt.1.length ≤ m) (hj : j < t.pt.1.length) (hfx : ∀ c ∈ t.pt.2, PT.Fl m (m / 2 - 1) c) (hd : ∀ c c', t.pt.2[j]? = some c → t.pt.2[j + 1]? = some c' → (c.its.length + 1 = m / 2 ∧ PT.Fl m (m / 2) c') ∨ (PT.Fl m (m / 2) c ∧ c'.its.length + 1 = m / 2)) (hfy : ∀ i c, t.pt.2[i]? = some c → i ≠ j → i ≠ j + 1 → PT.Fl m (m / 2) c)
    (hsz : t.pt.items.length ≤ 4611686018427387903) (g : Gd iso t) (s : St h0 Z (t.all enc ++ E) h)
    (H : ∀ (t' : GT It (k + 1)) h', Mended iso m j t t' → St h0 Z (t'.all enc ++ E) h' → Q (.tuple #[]) h') : Map_ii_nodeRebalance.j1 (ptr tb 0) (ptr t.id 0) (.int .i64 j) h Q := by
  obtain ⟨d, ts⟩ := t
  obtain ⟨own, n, is', cnt, its, iv, ib, io, isp, kb, kv, krb, kro, ksp⟩ := d
  have hj : j < its.length := hj
  have hlm : its.length ≤ m := hlm
  have w : Own 2 iv its.length ib io (its.flatMap enc) isp := g.own
  have wK : Own 1 kv ((ts.map GT.id).map pp).length krb kro (((ts.map GT.id).map pp).flatMap fv) ksp := g.ownK
  have hkl : ts.length = its.length + 1 := g.wf.2.2.1
  have hiso : is' = iso := g.iso
  have hcn : cnt = (PT.items (h := k + 1) (its, ts.map GT.pt)).length := g.cn.1
  subst hiso
  have s : St h0 Z (((n, 0, [.int .u64 is', .int .i64 cnt, iv, ptr kb 0]) :: (ib, io, its.flatMap enc ++ isp) :: (kb, 0, [kv]) :: (krb, kro, ((ts.map GT.id).map pp).flatMap fv ++ ksp) :: ts.flatMap (GT.all enc)) ++ E) h := by
    have e := all_eq (k := k + 1) ((⟨own, n, is', cnt, its, iv, ib, io, isp, kb, kv, krb, kro, ksp⟩ : Nd It), ts)
    rw [e] at s; exact s
  obtain ⟨A, l, r, B, ets, hA⟩ := two_of (ts := ts) (j := j) (by omega)
  obtain ⟨P, y, S, eits, hP⟩ := one_of (ts := its) (j := j) hj
  have hB : B.length = S.length := by rw [ets, eits] at hkl; simp at hkl; omega
  subst ets; subst eits
  have gl : Gd is' l := g.kid (by simp)
  have gr : Gd is' r := g.kid (by simp)
  have fl0 : l.pt.Fl m (m / 2 - 1) := hfx _ (List.mem_map.2 ⟨l, by simp, rfl⟩)
  have fr0 : r.pt.Fl m (m / 2 - 1) := hfx _ (List.mem_map.2 ⟨r, by simp, rfl⟩)
  have flr : (l.pt.its.length + 1 = m / 2 ∧ r.pt.Fl m (m / 2)) ∨ (l.pt.Fl m (m / 2) ∧ r.pt.its.length + 1 = m / 2) := by
    have h1 : ((A ++ l :: r :: B).map GT.pt)[j]? = some l.pt := by rw [List.map_append, List.map_cons]; exact getAt (by simpa using hA)
    have h2 : ((A ++ l :: r :: B).map GT.pt)[j + 1]? = some r.pt := by
      rw [show A ++ l :: r :: B = (A ++ [l]) ++ r :: B by simp, List.map_append, List.map_cons]; exact getAt (by simp [hA])
    exact hd _ _ h1 h2
  have hab : ∀ c ∈ A ++ B, PT.Fl m (m / 2) c.pt := fun c hc => by
    obtain ⟨i, hi, e⟩ := List.getElem_of_mem hc
    rcases Nat.lt_or_ge i A.length with hl | hl
    · rw [List.getElem_append_left hl] at e
      refine hfy i c.pt ?_ (by omega) (by omega)
      show ((A ++ l :: r :: B).map GT.pt)[i]? = some c.pt
      rw [List.getElem?_map, List.getElem?_append_left hl, List.getElem?_eq_getElem hl, e]; rfl
    · rw [List.getElem_append_right hl] at e
      rw [List.length_append] at hi
      refine hfy (i + 2) c.pt ?_ (by omega) (by omega)
      show ((A ++ l :: r :: B).map GT.pt)[i + 2]? = some c.pt
      rw [List.getElem?_map, List.getElem?_append_right (by omega), show i + 2 - A.length = (i - A.length) + 2 by omega, List.getElem?_cons_succ, List.getElem?_cons_succ, List.getElem?_eq_getElem (by omega), e]; rfl
  have ll := fl_its fl0
  have lr := fl_its fr0
  have hlr : (l.nd.its.length + 1 = m / 2 ∧ m / 2 ≤ r.nd.its.length) ∨ (m / 2 ≤ l.nd.its.length ∧ r.nd.its.length + 1 = m / 2) := by
    rw [GT.pt_its, GT.pt_its] at flr
    exact flr.imp (fun f => ⟨f.1, (fl_its f.2).1⟩) (fun f => ⟨(fl_its f.1).1, f.2⟩)
  have wl := gl.own
  have wr := gr.own
  have cl0 := gl.cntEq
  have cr0 := gr.cntEq
  have il := gl.iso
  have ir := gr.iso
  rw [ids_pp] at s wK
  have hKl : ((A.map GT.id).map pp ++ pp l.id :: pp r.id :: (B.map GT.id).map pp).length = P.length + S.length + 2 := by simp; omega
  have hil : (P ++ y :: S).length = P.length + S.length + 1 := by simp; omega
  have s : St h0 Z ((l.id, 0, [.int .u64 l.nd.iso, .int .i64 l.nd.cnt, l.nd.iv, GT.kp l]) :: (l.nd.ib, l.nd.io, l.nd.its.flatMap enc ++ l.nd.isp) :: (r.id, 0, [.int .u64 r.nd.iso, .int .i64 r.nd.cnt, r.nd.iv, GT.kp r]) :: (r.nd.ib, r.nd.io, r.nd.its.flatMap enc ++ r.nd.isp) ::
      (n, 0, [.int .u64 is', .int .i64 cnt, iv, ptr kb 0]) :: (ib, io, (P ++ y :: S).flatMap enc ++ isp) :: (kb, 0, [kv]) :: (krb, kro, ((A.map GT.id).map pp ++ pp l.id :: pp r.id :: (B.map GT.id).map pp).flatMap fv ++ ksp) :: (GT.rest l ++ (GT.rest r ++ (A.flatMap (GT.all enc) ++ (B.flatMap (GT.all enc) ++ E))))) h := by
    have e : (A ++ l :: r :: B).flatMap (GT.all enc) = A.flatMap (GT.all enc) ++ (l.all enc ++ (r.all enc ++ B.flatMap (GT.all enc))) := by rw [List.flatMap_append, List.flatMap_cons, List.flatMap_cons]
    refine s.perm ?_
    rw [e, all_eq l, all_eq r]
    ((apply perm_rg; intro f; simp only [List.set_cons_zero, List.set_cons_succ, List.eraseIdx_cons_zero, List.eraseIdx_cons_succ, List.cons_append, List.nil_append, List.map_append, List.map_cons, List.map_nil, List.sum_append, List.sum_cons, List.sum_nil, List.map_flatMap, Nat.add_zero, Nat.zero_add]; ac_rfl))
  rw [il, ir, cl0, cr0] at s
  have hr1 : r.nd.its.length ≤ r.pt.items.length := by have := (PT.its_sub r.pt).length_le; rwa [GT.pt_its] at this
  have hl1 : l.nd.its.length ≤ l.pt.items.length := by have := (PT.its_sub l.pt).length_le; rwa [GT.pt_its] at this
  have hsz2 : (lz P (A.map fun c => c.pt.items)).length + l.pt.items.length + 1 + r.pt.items.length + (rz S (B.map fun c => c.pt.items)).length ≤ 4611686018427387903 := by
    have e := PT.items_two P S y (A.map GT.pt) (B.map GT.pt) l.pt r.pt (by rw [List.length_map]; omega) (by rw [List.length_map]; omega)
    have h2 : (PT.items (h := k + 1) (P ++ y :: S, (A ++ l :: r :: B).map GT.pt)).length ≤ 4611686018427387903 := hsz
    rw [List.map_append, List.map_cons, List.map_cons, e] at h2
    simp only [List.length_append, List.length_cons, List.map_map, Function.comp_def] at h2
    omega
  have gA : ∀ c ∈ A, Gd is' c := fun c hc => g.kid (by simp [hc])
  have gB : ∀ c ∈ B, Gd is' c := fun c hc => g.kid (by simp [hc])
  have hi : ∀ {E h}, St h0 Z E h → cl h tb 0 = some (.int .u64 is') := fun s => by have := s.getZ hT0 (j := 0) (by simp); simpa using this
  have kj : ((A.map GT.id).map pp ++ pp l.id :: pp r.id :: (B.map GT.id).map pp)[j]? = some (ptr l.id 0) := getAt (by simp [hA])
  have kj1 : ((A.map GT.id).map pp ++ pp l.id :: pp r.id :: (B.map GT.id).map pp)[j + 1]? = some (ptr r.id 0) := by
    have : (A.map GT.id).map pp ++ pp l.id :: pp r.id :: (B.map GT.id).map pp = ((A.map GT.id).map pp ++ [pp l.id]) ++ pp r.id :: (B.map GT.id).map pp := by simp
    rw [this]; exact getAt (by simp [hA])
  have pj : (P ++ y :: S)[j]? = some y := getAt hP
  show Map_ii_nodeRebalance.j1 (ptr tb 0) (ptr n 0) (.int .i64 j) h Q
  unfold Map_ii_nodeRebalance.j1
  refine r_nil ?_
  refine r_fld ?_
  refine St.r_load0 s 4 rfl rfl ?_
  refine r_nil ?_
  refine St.r_load0 s 6 rfl rfl ?_
  (refine Own.idx (by assumption) rfl (by first | omega | (simp; done) | (simp; omega)) ?_)
  refine isoLoad_ok (hi s) (s.clV 7 rfl kj) (fun _ => s.cl0 0 rfl rfl) ?_
  refine r_nil ?_
  refine r_fld ?_
  refine St.r_load0 s 4 rfl rfl ?_
  refine r_nil ?_
  refine St.r_load0 s 6 rfl rfl ?_
  refine r_add1 (by omega) ?_
  (refine Own.idx (by assumption) rfl (by first | omega | (simp; done) | (simp; omega)) ?_)
  refine isoLoad_ok (hi s) (s.clV 7 rfl kj1) (fun _ => s.cl0 2 rfl rfl) ?_
  refine r_nil ?_
  refine r_fld ?_
  refine St.r_load0 s 0 rfl rfl ?_
  refine Own.lenV (by assumption) ?_
  refine r_nil ?_
  refine r_fld ?_
  refine St.r_load0 s 2 rfl rfl ?_
  refine Own.lenV (by assumption) ?_
  refine r_addN (by omega) ?_
  refine r_nil ?_
  refine r_fld ?_
  refine s.r_lz hT4 3 rfl rfl ?_
  refine r_cmpI ?_
  refine r_if (fun hlt => ?_) (fun hge => ?_)
  · have hlt : l.nd.its.length + r.nd.its.length < m := by have := of_decide_eq_true hlt; omega
    refine r_nil ?_
    refine r_fld ?_
    refine St.r_load0 s 0 rfl rfl ?_
    refine r_nil ?_
    refine r_fld ?_
    refine St.r_load0 s 4 rfl rfl ?_
    (refine Own.idx (by assumption) rfl (by first | omega | (simp; done) | (simp; omega)) ?_)
    refine s.r_loadF encl 5 rfl (by assumption) ?_
    refine St.r_mkSl (sz := 2) (cs := enc y) s (by ((simp only [fillV, fill1, Value.cells, zeros_succ, zeros_zero, List.size_toArray, List.length_cons, List.length_nil, List.length_append, List.take_succ_cons, List.take_zero, List.take_nil, List.drop_succ_cons, List.drop_zero, List.drop_nil, List.cons_append, List.nil_append, List.append_nil, Nat.reduceAdd, Nat.reduceMul, Nat.reduceLeDiff, Nat.reduceEqDiff, and_self, and_true, true_and, if_true, Nat.le_refl, Nat.zero_add, Nat.add_zero, Nat.zero_mul, reduceIte, if_false] <;> rfl))) rfl fun q h s w1 => ?_
    refine And.intro (by exact St.r_still0 s 1 rfl rfl) ?_
    refine s.r_appL (M := [y]) 2 rfl wl rfl (by have := w1.rdl s 0 rfl; simpa using this) (fun _ _ => enc1 _) (by simp; omega) (by simp; omega) fun liv1 lib1 lio1 lisp1 h s wl1 => ?_
    have s := s.tail rfl
    refine r_nil ?_
    refine r_fld ?_
    (refine St.r_store0 s 0 rfl (by simp) (Own.one (by assumption)) ?_; intro h s; try simp only [List.set_cons_zero, List.set_cons_succ] at s)
    refine r_nil ?_
    refine r_fld ?_
    refine St.r_load0 s 0 rfl rfl ?_
    refine r_nil ?_
    refine r_fld ?_
    refine St.r_load0 s 2 rfl rfl ?_
    refine s.r_appL (M := r.nd.its) 1 rfl wl1 rfl (wr.rdl s 3 rfl) (fun _ _ => enc1 _) (by simp; omega) (by simp; omega) fun liv2 lib2 lio2 lisp2 h s wl2 => ?_
    refine r_nil ?_
    refine r_fld ?_
    (refine St.r_store0 s 0 rfl (by simp) (Own.one (by assumption)) ?_; intro h s; try simp only [List.set_cons_zero, List.set_cons_succ] at s)
    -- the node itself
    have tail : ∀ {X : List Rg} {kp : Value} {h : Heap}, St h0 Z ((l.id, 0, [.int .u64 is', .int .i64 l.pt.items.length, liv2, kp]) :: (lib2, lio2, (l.nd.its ++ [y] ++ r.nd.its).flatMap enc ++ lisp2) :: (r.id, 0, [.int .u64 is', .int .i64 r.pt.items.length, r.nd.iv, GT.kp r]) :: (r.nd.ib, r.nd.io, r.nd.its.flatMap enc ++ r.nd.isp) ::
        (n, 0, [.int .u64 is', .int .i64 cnt, iv, ptr kb 0]) :: (ib, io, (P ++ y :: S).flatMap enc ++ isp) :: (kb, 0, [kv]) :: (krb, kro, ((A.map GT.id).map pp ++ pp l.id :: pp r.id :: (B.map GT.id).map pp).flatMap fv ++ ksp) :: X) h →
        (∀ iv2 isp2 kv2 ksp2 h, Own 2 iv2 (P ++ S).length ib io ((P ++ S).flatMap enc) isp2 → Own 1 kv2 ((A.map GT.id).map pp ++ pp l.id :: (B.map GT.id).map pp).length krb kro (((A.map GT.id).map pp ++ pp l.id :: (B.map GT.id).map pp).flatMap fv) ksp2 →
          St h0 Z ((l.id, 0, [.int .u64 is', .int .i64 ((l.pt.items.length + (r.pt.items.length + 1) : Nat) : Int), liv2, kp]) :: (lib2, lio2, (l.nd.its ++ [y] ++ r.nd.its).flatMap enc ++ lisp2) :: (r.id, 0, [.int .u64 is', .int .i64 r.pt.items.length, r.nd.iv, GT.kp r]) :: (r.nd.ib, r.nd.io, r.nd.its.flatMap enc ++ r.nd.isp) ::
            (n, 0, [.int .u64 is', .int .i64 cnt, iv2, ptr kb 0]) :: (ib, io, (P ++ S).flatMap enc ++ isp2) :: (kb, 0, [kv2]) :: (krb, kro, ((A.map GT.id).map pp ++ pp l.id :: (B.map GT.id).map pp).flatMap fv ++ ksp2) :: X) h → Q (.tuple #[]) h) →
        Map_ii_nodeRebalance.j2 (ptr tb 0) (ptr n 0) (.int .i64 j) (ptr l.id 0) (ptr r.id 0) h Q := by
      intro X kp h s K
      unfold Map_ii_nodeRebalance.j2
      refine r_nil ?_
      refine r_fld ?_
      refine St.r_load0 s 0 rfl rfl ?_
      refine r_nil ?_
      refine r_fld ?_
      refine St.r_load0 s 2 rfl rfl ?_
      refine r_add1 (by omega) ?_
      refine r_addN (by omega) ?_
      refine r_nil ?_
      refine r_fld ?_
      (refine St.r_store0 s 0 rfl (by simp) rfl ?_; intro h s; try simp only [List.set_cons_zero, List.set_cons_succ] at s)
      refine r_nil ?_
      refine r_fld ?_
      refine St.r_load0 s 4 rfl rfl ?_
      refine w.slcLo encl (i := j) rfl (by omega) fun dd wd => ?_
      refine r_nil ?_
      refine r_fld ?_
      refine St.r_load0 s 4 rfl rfl ?_
      refine r_add1 (by omega) ?_
      refine (w.rdl s 5 rfl).slcLo encl (i := j + 1) rfl (by omega) fun src rs => ?_
      refine s.r_cpyF encl 5 (L := P ++ y :: S) (M := (P ++ y :: S).drop (j + 1)) rfl wd (by simp; omega) rs rfl (fun y _ => enc1 y) fun h s => ?_
      refine r_nil ?_
      refine r_fld ?_
      refine St.r_load0 s 4 rfl rfl ?_
      refine r_nil ?_
      refine r_fld ?_
      refine St.r_load0 s 4 rfl rfl ?_
      refine Own.lenV (by assumption) ?_
      refine r_sub1 (by omega) (by omega) ?_
      refine r_nil ?_
      refine r_fld ?_
      refine s.r_lzE hT4 0 (enc emp) rfl (by simp) rfl ?_
      (refine Own.idx (by assumption) rfl (by first | omega | (simp; done) | (simp; omega)) ?_)
      (refine s.r_storeF encl 5 rfl (by first | omega | (simp; done) | (simp; omega)) (enc1 _) ?_; intro h s; try simp only [List.set_cons_zero, List.set_cons_succ] at s)
      refine r_nil ?_
      refine r_fld ?_
      refine St.r_load0 s 4 rfl rfl ?_
      refine r_nil ?_
      refine r_fld ?_
      refine St.r_load0 s 4 rfl rfl ?_
      refine Own.lenV (by assumption) ?_
      refine r_sub1 (by omega) (by omega) ?_
      have hj2 : j < (P ++ y :: S).length := by omega
      have hpe : (P ++ y :: S).eraseIdx j = P ++ S := eraseIdx_at hP
      refine (w.list encl (del_len (P ++ y :: S) emp hj2)).slcHi encl rfl (by rw [del_len _ _ hj2]; omega) fun iv2 w2 => ?_
      have s := s.del (f := enc) 5 rfl _ (del_erase (P ++ y :: S) emp hj2)
      rw [del_erase (P ++ y :: S) emp hj2, hpe] at w2
      rw [hpe] at s
      refine r_nil ?_
      refine r_fld ?_
      (refine St.r_store0 s 4 rfl (by simp) (Own.one (by assumption)) ?_; intro h s; try simp only [List.set_cons_zero, List.set_cons_succ] at s)
      refine r_nil ?_
      refine r_fld ?_
      refine St.r_load0 s 4 rfl rfl ?_
      refine r_nil ?_
      refine St.r_load0 s 6 rfl rfl ?_
      refine r_add1 (by omega) ?_
      generalize hKK : (A.map GT.id).map pp ++ pp l.id :: pp r.id :: (B.map GT.id).map pp = KK at *
      have hK1 : KK.eraseIdx (j + 1) = (A.map GT.id).map pp ++ pp l.id :: (B.map GT.id).map pp := by
        rw [← hKK, show (A.map GT.id).map pp ++ pp l.id :: pp r.id :: (B.map GT.id).map pp = ((A.map GT.id).map pp ++ [pp l.id]) ++ pp r.id :: (B.map GT.id).map pp by simp, eraseIdx_at (by simp [hA])]
        simp
      have hKo : ∀ x ∈ KK, one1 x = true := fun x hx => by
        rw [← hKK] at hx
        rcases List.mem_append.1 hx with h | h
        · obtain ⟨a, _, rfl⟩ := List.mem_map.1 h; rfl
        · rcases List.mem_cons.1 h with h | h
          · rw [h]; rfl
          · rcases List.mem_cons.1 h with h | h
            · rw [h]; rfl
            · obtain ⟨a, _, rfl⟩ := List.mem_map.1 h; rfl
      refine wK.slcLo fvl (i := j + 1) rfl (by omega) fun dk wdk => ?_
      refine r_nil ?_
      refine r_fld ?_
      refine St.r_load0 s 4 rfl rfl ?_
      refine r_nil ?_
      refine St.r_load0 s 6 rfl rfl ?_
      refine r_add2 (by omega) ?_
      refine (wK.rdl s 7 rfl).slcLo fvl (i := j + 1 + 1) rfl (by omega) fun sk rsk => ?_
      refine s.r_cpyF fvl 7 (L := KK) (M := KK.drop (j + 1 + 1)) rfl wdk (by simp; omega) rsk rfl (fun x hx => by intro c hc; rw [List.mem_singleton.1 hc]; exact hKo x (List.mem_of_mem_drop hx)) fun h s => ?_
      refine r_nil ?_
      refine r_fld ?_
      refine St.r_load0 s 4 rfl rfl ?_
      refine r_nil ?_
      refine St.r_load0 s 6 rfl rfl ?_
      refine r_nil ?_
      refine r_fld ?_
      refine St.r_load0 s 4 rfl rfl ?_
      refine r_nil ?_
      refine St.r_load0 s 6 rfl rfl ?_
      refine Own.lenV (by assumption) ?_
      refine r_sub1 (by omega) (by omega) ?_
      (refine Own.idx (by assumption) rfl (by first | omega | (simp; done) | (simp; omega)) ?_)
      (refine s.r_storeV 7 rfl (by first | omega | (simp; done) | (simp; omega)) rfl ?_; intro h s; try simp only [List.set_cons_zero, List.set_cons_succ] at s)
      refine r_nil ?_
      refine r_fld ?_
      refine St.r_load0 s 4 rfl rfl ?_
      refine r_nil ?_
      refine r_fld ?_
      refine St.r_load0 s 4 rfl rfl ?_
      refine r_nil ?_
      refine St.r_load0 s 6 rfl rfl ?_
      refine r_nil ?_
      refine r_fld ?_
      refine St.r_load0 s 4 rfl rfl ?_
      refine r_nil ?_
      refine St.r_load0 s 6 rfl rfl ?_
      refine Own.lenV (by assumption) ?_
      refine r_sub1 (by omega) (by omega) ?_
      have hj3 : j + 1 < KK.length := by omega
      refine (wK.list fvl (del_len KK (.pointer none) hj3)).slcHi fvl rfl (by rw [del_len _ _ hj3]; omega) fun kv2 wk2 => ?_
      have s := s.del (f := fv) 7 rfl _ (del_erase KK (.pointer none) hj3)
      rw [del_erase KK (.pointer none) hj3, hK1] at wk2
      rw [hK1] at s
      refine r_nil ?_
      (refine St.r_store0 s 6 rfl (by simp) (Own.one (by assumption)) ?_; intro h s; try simp only [List.set_cons_zero, List.set_cons_succ] at s)
      exact K _ _ _ _ _ w2 wk2 s
    cases k with
    | zero =>
      refine leaf_ok (a := none) (s.cl0 0 rfl rfl) ?_
      refine r_not ?_
      refine r_if (fun e => absurd e (by simp)) (fun _ => ?_)
      have s := St.kids0 s
      refine tail s fun iv2 isp2 kv2 ksp2 h w2 wk2 s => ?_
      obtain ⟨l', hl1', gl', hl2', hl3', hl4'⟩ := mk_leaf (iso := is') (n := l.id) wl2
      have wK2 : Own 1 kv2 (((A ++ l' :: B).map GT.id).map pp).length krb kro ((((A ++ l' :: B).map GT.id).map pp).flatMap fv) ksp2 := by rw [ids_one, hl1']; exact wk2
      obtain ⟨t', ht1, gt, ht2, ht3, ht4⟩ := mk_inner (n := n) (kb := kb) (iso := is') w2 wK2 (by simp; omega) (fun c hc => by
        rcases List.mem_append.1 hc with h | h
        · exact gA c h
        · rcases List.mem_cons.1 h with h | h
          · subst h; exact gl'
          · exact gB c h)
      have hfl' : l'.pt.Fl m (m / 2) := by rw [hl2']; exact fl_leaf (by simp; omega) (by simp; omega)
      refine (fun M => H t' h M ((s.perm (E' := (r.id, 0, [.int .u64 is', .int .i64 r.pt.items.length, r.nd.iv, GT.kp r]) :: (r.nd.ib, r.nd.io, r.nd.its.flatMap enc ++ r.nd.isp) :: (t'.all enc ++ E)) ?_).drop 2)) ?_
      rotate_left
      · refine mended_one rfl ht2 (by omega) (by omega) ht1 gt hab hlm hfl' ?_ hP ⟨hlt, ?_⟩
        · rw [hl2']
          show l.nd.its ++ y :: r.nd.its = l.nd.its ++ [y] ++ r.nd.its
          simp
        · rw [hl2']
          show l.nd.its ++ y :: r.nd.its = l.nd.its ++ [y] ++ r.nd.its
          simp
      have e1 := M.2.1
      rw [ht2] at e1
      have e1 : ((PT.items (h := 1) (P ++ S, (A ++ l' :: B).map GT.pt)).length : Int) = cnt := by rw [hcn, e1]; rfl
      have e2 : (A ++ l' :: B).flatMap (GT.all enc) = A.flatMap (GT.all enc) ++ (l'.all enc ++ B.flatMap (GT.all enc)) := by rw [List.flatMap_append, List.flatMap_cons]
      have e3 : l.pt.items.length + (r.pt.items.length + 1) = (l.nd.its ++ [y] ++ r.nd.its).length := by
        show l.nd.its.length + (r.nd.its.length + 1) = _
        simp <;> omega
      rw [ht4, e1, e2, hl4', ids_one, hl1', e3]
      ((apply perm_rg; intro f; simp only [List.set_cons_zero, List.set_cons_succ, List.eraseIdx_cons_zero, List.eraseIdx_cons_succ, List.cons_append, List.nil_append, List.map_append, List.map_cons, List.map_nil, List.sum_append, List.sum_cons, List.sum_nil, List.map_flatMap, Nat.add_zero, Nat.zero_add]; ac_rfl))
    | succ k =>
      obtain ⟨dl, lk⟩ := l
      obtain ⟨dr, rk⟩ := r
      refine leaf_ok (a := some ⟨dl.kb, 0, none⟩) (s.cl0 0 rfl rfl) ?_
      refine r_not ?_
      refine r_if (fun _ => ?_) (fun e => absurd e (by simp))
      have s := St.kids8 s
      have s : St h0 Z ((dl.n, 0, [_, _, _, ptr dl.kb 0]) :: _ :: (dr.n, 0, [_, _, _, ptr dr.kb 0]) :: _ :: _ :: _ :: _ :: _ :: (dl.kb, 0, [dl.kv]) :: (dl.krb, dl.kro, ((lk.map GT.id).map pp).flatMap fv ++ dl.ksp) :: (dr.kb, 0, [dr.kv]) :: (dr.krb, dr.kro, ((rk.map GT.id).map pp).flatMap fv ++ dr.ksp) ::
        (lk.flatMap (GT.all enc) ++ (rk.flatMap (GT.all enc) ++ (A.flatMap (GT.all enc) ++ (B.flatMap (GT.all enc) ++ E))))) h := s
      have wLK : Own 1 dl.kv ((lk.map GT.id).map pp).length dl.krb dl.kro (((lk.map GT.id).map pp).flatMap fv) dl.ksp := gl.ownK
      have wRK : Own 1 dr.kv ((rk.map GT.id).map pp).length dr.krb dr.kro (((rk.map GT.id).map pp).flatMap fv) dr.ksp := gr.ownK
      have hlk : lk.length = dl.its.length + 1 := gl.wf.2.2.1
      have hrk : rk.length = dr.its.length + 1 := gr.wf.2.2.1
      have hdl : dl.its.length ≤ m := ll.2
      have hdr : dr.its.length ≤ m := lr.2
      have hrkL : ((rk.map GT.id).map pp).length = dr.its.length + 1 := by rw [List.length_map, List.length_map]; exact hrk
      have hlkL : ((lk.map GT.id).map pp).length = dl.its.length + 1 := by rw [List.length_map, List.length_map]; exact hlk
      refine r_nil ?_
      refine r_fld ?_
      refine St.r_load0 s 0 rfl rfl ?_
      refine r_nil ?_
      refine r_fld ?_
      refine St.r_load0 s 0 rfl rfl ?_
      refine r_nil ?_
      refine St.r_load0 s 8 rfl rfl ?_
      refine r_nil ?_
      refine r_fld ?_
      refine St.r_load0 s 2 rfl rfl ?_
      refine r_nil ?_
      refine St.r_load0 s 10 rfl rfl ?_
      refine s.r_appL (f := fv) (L := (lk.map GT.id).map pp) (M := (rk.map GT.id).map pp) 9 rfl wLK rfl (wRK.rdl s 11 rfl) (fun x hx => by obtain ⟨a, _, rfl⟩ := List.mem_map.1 hx; simp [one1]) (by omega) (by omega) fun lkv1 lkb1 lko1 lks1 h s wLK1 => ?_
      refine And.intro (by exact St.r_still0 s 0 rfl rfl) ?_
      refine r_nil ?_
      (refine St.r_store0 s 8 rfl (by simp) (Own.one (by assumption)) ?_; intro h s; try simp only [List.set_cons_zero, List.set_cons_succ] at s)
      refine tail s fun iv2 isp2 kv2 ksp2 h w2 wk2 s => ?_
      have eL : ((lk ++ rk).map GT.id).map pp = (lk.map GT.id).map pp ++ (rk.map GT.id).map pp := by simp
      rw [← eL] at s wLK1
      obtain ⟨l', hl1', gl', hl2', hl3', hl4'⟩ := mk_inner (iso := is') (n := dl.n) (kb := dl.kb) (ts := lk ++ rk) wl2 wLK1 (by show _ = (dl.its ++ [y] ++ dr.its).length + 1; simp; omega) (fun q hq => by
        rcases List.mem_append.1 hq with h | h
        · exact gl.kid h
        · exact gr.kid h)
      have wK2 : Own 1 kv2 (((A ++ l' :: B).map GT.id).map pp).length krb kro ((((A ++ l' :: B).map GT.id).map pp).flatMap fv) ksp2 := by rw [ids_one, hl1']; exact wk2
      obtain ⟨t', ht1, gt, ht2, ht3, ht4⟩ := mk_inner (n := n) (kb := kb) (iso := is') w2 wK2 (by simp; omega) (fun c hc => by
        rcases List.mem_append.1 hc with h | h
        · exact gA c h
        · rcases List.mem_cons.1 h with h | h
          · subst h; exact gl'
          · exact gB c h)
      have fkl : ∀ q ∈ lk, PT.Fl m (m / 2) q.pt := fun q hq => fl0.2.2.2 _ (List.mem_map.2 ⟨q, hq, rfl⟩)
      have fkr : ∀ q ∈ rk, PT.Fl m (m / 2) q.pt := fun q hq => fr0.2.2.2 _ (List.mem_map.2 ⟨q, hq, rfl⟩)
      have hlt2 : dl.its.length + dr.its.length < m := hlt
      have hlr2 : (dl.its.length + 1 = m / 2 ∧ m / 2 ≤ dr.its.length) ∨ (m / 2 ≤ dl.its.length ∧ dr.its.length + 1 = m / 2) := hlr
      have hfl' : l'.pt.Fl m (m / 2) := by
        rw [hl2']
        refine fl_inner (by show m / 2 ≤ (dl.its ++ [y] ++ dr.its).length; simp; omega) (by show (dl.its ++ [y] ++ dr.its).length ≤ m; simp; omega) (by show _ = (dl.its ++ [y] ++ dr.its).length + 1; simp; omega) fun q hq => ?_
        obtain ⟨x, hx, rfl⟩ := List.mem_map.1 hq
        rcases List.mem_append.1 hx with h | h
        · exact fkl x h
        · exact fkr x h
      have hlI : l'.pt.items = (GT.pt (h := k + 1) (dl, lk)).items ++ y :: (GT.pt (h := k + 1) (dr, rk)).items := by
        rw [hl2']
        show inter (dl.its ++ [y] ++ dr.its) (((lk ++ rk).map GT.pt).map PT.items) = inter dl.its ((lk.map GT.pt).map PT.items) ++ y :: inter dr.its ((rk.map GT.pt).map PT.items)
        rw [List.map_append, List.map_append, List.append_assoc]
        exact inter_join _ _ _ _ _ (by simp; omega)
      refine (fun M => H t' h M ((s.perm (E' := (dr.n, 0, [.int .u64 is', .int .i64 (GT.pt (h := k + 1) (dr, rk)).items.length, dr.iv, ptr dr.kb 0]) :: (dr.ib, dr.io, dr.its.flatMap enc ++ dr.isp) :: (dr.kb, 0, [dr.kv]) :: (dr.krb, dr.kro, ((rk.map GT.id).map pp).flatMap fv ++ dr.ksp) :: (t'.all enc ++ E)) ?_).drop 4)) ?_
      rotate_left
      · refine mended_one rfl ht2 (by omega) (by omega) ht1 gt hab hlm hfl' (by rw [hlI]) hP ⟨hlt, ?_⟩
        rw [hl2']
        show (dl.its ++ y :: dr.its, lk.map GT.pt ++ rk.map GT.pt) = (dl.its ++ [y] ++ dr.its, (lk ++ rk).map GT.pt)
        rw [List.map_append]; simp
      have e1 := M.2.1
      rw [ht2] at e1
      have e1 : ((PT.items (h := k + 2) (P ++ S, (A ++ l' :: B).map GT.pt)).length : Int) = cnt := by rw [hcn, e1]; rfl
      have e2 : (A ++ l' :: B).flatMap (GT.all enc) = A.flatMap (GT.all enc) ++ (l'.all enc ++ B.flatMap (GT.all enc)) := by rw [List.flatMap_append, List.flatMap_cons]
      have e3 : (PT.items (h := k + 1) ((GT.nd (h := k + 1) (dl, lk)).its ++ [y] ++ (GT.nd (h := k + 1) (dr, rk)).its, (lk ++ rk).map GT.pt)).length = (GT.pt (h := k + 1) (dl, lk)).items.length + ((GT.pt (h := k + 1) (dr, rk)).items.length + 1) := by
        have := congrArg List.length hlI
        rw [hl2', List.length_append, List.length_cons] at this
        exact this
      have e5 : (lk ++ rk).flatMap (GT.all enc) = lk.flatMap (GT.all enc) ++ rk.flatMap (GT.all enc) := List.flatMap_append
      rw [ht4, e1, e2, hl4', ids_one, hl1', e3, e5]
      ((apply perm_rg; intro f; simp only [List.set_cons_zero, List.set_cons_succ, List.eraseIdx_cons_zero, List.eraseIdx_cons_succ, List.cons_append, List.nil_append, List.map_append, List.map_cons, List.map_nil, List.sum_append, List.sum_cons, List.sum_nil, List.map_flatMap, Nat.add_zero, Nat.zero_add]; ac_rfl))
  · have hge : m ≤ l.nd.its.length + r.nd.its.length := by have := of_decide_eq_false hge; omega
    refine r_nil ?_
    refine r_fld ?_
    refine St.r_load0 s 0 rfl rfl ?_
    refine Own.lenV (by assumption) ?_
    refine r_nil ?_
    refine r_fld ?_
    refine St.r_load0 s 2 rfl rfl ?_
    refine Own.lenV (by assumption) ?_
    refine r_cmpI ?_
    refine r_if (fun hgt => ?_) (fun hle => ?_)
    · have hgt : r.nd.its.length < l.nd.its.length := by have := of_decide_eq_true hgt; omega
      refine r_nil ?_
      refine r_fld ?_
      refine St.r_load0 s 2 rfl rfl ?_
      refine r_nil ?_
      refine r_fld ?_
      refine s.r_lzE hT4 0 (enc emp) rfl (by simp) rfl ?_
      refine St.r_mkSl (sz := 2) (cs := enc emp) s (by ((simp only [fillV, fill1, Value.cells, zeros_succ, zeros_zero, List.size_toArray, List.length_cons, List.length_nil, List.length_append, List.take_succ_cons, List.take_zero, List.take_nil, List.drop_succ_cons, List.drop_zero, List.drop_nil, List.cons_append, List.nil_append, List.append_nil, Nat.reduceAdd, Nat.reduceMul, Nat.reduceLeDiff, Nat.reduceEqDiff, and_self, and_true, true_and, if_true, Nat.le_refl, Nat.zero_add, Nat.add_zero, Nat.zero_mul, reduceIte, if_false] <;> rfl))) rfl fun q h s w1 => ?_
      refine And.intro (by exact St.r_still0 s 3 rfl rfl) ?_
      refine s.r_appL (M := [emp]) 4 rfl wr rfl (by have := w1.rdl s 0 rfl; simpa using this) (fun _ _ => enc1 _) (by simp; omega) (by simp; omega) fun riv1 rib1 rio1 risp1 h s wr1 => ?_
      have s := s.tail rfl
      refine r_nil ?_
      refine r_fld ?_
      (refine St.r_store0 s 2 rfl (by simp) (Own.one (by assumption)) ?_; intro h s; try simp only [List.set_cons_zero, List.set_cons_succ] at s)
      refine r_nil ?_
      refine r_fld ?_
      refine St.r_load0 s 2 rfl rfl ?_
      refine wr1.slcLo encl (i := 1) rfl (by simp) fun dd wd => ?_
      refine r_nil ?_
      refine r_fld ?_
      refine St.r_load0 s 2 rfl rfl ?_
      refine s.r_cpyF encl 3 (L := r.nd.its ++ [emp]) (M := (r.nd.its ++ [emp]).drop 0) rfl wd (by simp; omega) (wr1.rdl s 3 rfl).z0 rfl (fun y _ => enc1 y) fun h s => ?_
      have hl0 : 1 ≤ l.nd.its.length := by omega
      obtain ⟨L, z, hL⟩ := last_of hl0
      have hzl : l.nd.its[l.nd.its.length - 1]? = some z := by rw [hL]; simp
      have hLl : l.nd.its.length = L.length + 1 := by rw [hL]; simp
      refine r_nil ?_
      refine r_fld ?_
      refine St.r_load0 s 2 rfl rfl ?_
      refine r_nil ?_
      refine r_fld ?_
      refine St.r_load0 s 4 rfl rfl ?_
      (refine Own.idx (by assumption) rfl (by first | omega | (simp; done) | (simp; omega)) ?_)
      refine s.r_loadF encl 5 rfl (by assumption) ?_
      (refine Own.idx (by assumption) rfl (by first | omega | (simp; done) | (simp; omega)) ?_)
      (refine s.r_storeF encl 3 rfl (by first | omega | (simp; done) | (simp; omega)) (enc1 _) ?_; intro h s; try simp only [List.set_cons_zero, List.set_cons_succ] at s)
      refine r_nil ?_
      refine r_fld ?_
      refine St.r_load0 s 2 rfl rfl ?_
      refine r_add1 (by omega) ?_
      refine r_nil ?_
      refine r_fld ?_
      (refine St.r_store0 s 2 rfl (by simp) rfl ?_; intro h s; try simp only [List.set_cons_zero, List.set_cons_succ] at s)
      refine r_nil ?_
      refine r_fld ?_
      refine St.r_load0 s 4 rfl rfl ?_
      refine r_nil ?_
      refine r_fld ?_
      refine St.r_load0 s 0 rfl rfl ?_
      refine r_nil ?_
      refine r_fld ?_
      refine St.r_load0 s 0 rfl rfl ?_
      refine Own.lenV (by assumption) ?_
      refine r_sub1 (by omega) (by omega) ?_
      (refine Own.idx (by assumption) rfl (by first | omega | (simp; done) | (simp; omega)) ?_)
      refine s.r_loadF encl 1 rfl (by assumption) ?_
      (refine Own.idx (by assumption) rfl (by first | omega | (simp; done) | (simp; omega)) ?_)
      (refine s.r_storeF encl 5 rfl (by first | omega | (simp; done) | (simp; omega)) (enc1 _) ?_; intro h s; try simp only [List.set_cons_zero, List.set_cons_succ] at s)
      refine r_nil ?_
      refine r_fld ?_
      refine St.r_load0 s 0 rfl rfl ?_
      refine r_nil ?_
      refine r_fld ?_
      refine St.r_load0 s 0 rfl rfl ?_
      refine Own.lenV (by assumption) ?_
      refine r_sub1 (by omega) (by omega) ?_
      refine r_nil ?_
      refine r_fld ?_
      refine s.r_lzE hT4 0 (enc emp) rfl (by simp) rfl ?_
      (refine Own.idx (by assumption) rfl (by first | omega | (simp; done) | (simp; omega)) ?_)
      (refine s.r_storeF encl 1 rfl (by first | omega | (simp; done) | (simp; omega)) (enc1 _) ?_; intro h s; try simp only [List.set_cons_zero, List.set_cons_succ] at s)
      refine r_nil ?_
      refine r_fld ?_
      refine St.r_load0 s 0 rfl rfl ?_
      refine r_nil ?_
      refine r_fld ?_
      refine St.r_load0 s 0 rfl rfl ?_
      refine Own.lenV (by assumption) ?_
      refine r_sub1 (by omega) (by omega) ?_
      rw [ins_steps r.nd.its emp y (Nat.zero_le _), ins0] at s
      have wr2 : Own 2 riv1 (y :: r.nd.its).length rib1 rio1 ((y :: r.nd.its).flatMap enc) risp1 := wr1.list encl (by simp)
      rw [setAt hP] at s
      refine (wl.list encl (pop_len (e := emp))).slcHi encl rfl (by rw [pop_len]; omega) fun liv2 wl2 => ?_
      have s := s.del (f := enc) 1 rfl _ (pop_steps (e := emp) hL)
      rw [pop_steps (e := emp) hL] at wl2
      refine r_nil ?_
      refine r_fld ?_
      (refine St.r_store0 s 0 rfl (by simp) (Own.one (by assumption)) ?_; intro h s; try simp only [List.set_cons_zero, List.set_cons_succ] at s)
      refine r_nil ?_
      refine r_fld ?_
      refine St.r_load0 s 0 rfl rfl ?_
      refine r_sub1 (by omega) (by omega) ?_
      refine r_nil ?_
      refine r_fld ?_
      (refine St.r_store0 s 0 rfl (by simp) rfl ?_; intro h s; try simp only [List.set_cons_zero, List.set_cons_succ] at s)
      have w2 : Own 2 iv (P ++ z :: S).length ib io ((P ++ z :: S).flatMap enc) isp := w.list encl (by simp)
      cases k with
      | zero =>
        refine leaf_ok (a := none) (s.cl0 0 rfl rfl) ?_
        refine r_not ?_
        refine r_if (fun e => absurd e (by simp)) (fun _ => ?_)
        have s := St.kids0 s
        obtain ⟨l', hl1', gl', hl2', hl3', hl4'⟩ := mk_leaf (iso := is') (n := l.id) wl2
        obtain ⟨r', hr1', gr', hr2', hr3', hr4'⟩ := mk_leaf (iso := is') (n := r.id) wr2
        have wK2 : Own 1 kv (((A ++ l' :: r' :: B).map GT.id).map pp).length krb kro ((((A ++ l' :: r' :: B).map GT.id).map pp).flatMap fv) ksp := by rw [ids_pp, hl1', hr1']; exact wK
        obtain ⟨t', ht1, gt, ht2, ht3, ht4⟩ := mk_inner (n := n) (kb := kb) (iso := is') w2 wK2 (by simp; omega) (fun c hc => by
          rcases List.mem_append.1 hc with h | h
          · exact gA c h
          · rcases List.mem_cons.1 h with h | h
            · subst h; exact gl'
            · rcases List.mem_cons.1 h with h | h
              · subst h; exact gr'
              · exact gB c h)
        have hfl' : l'.pt.Fl m (m / 2) := by rw [hl2']; exact fl_leaf (by omega) (by omega)
        have hfr' : r'.pt.Fl m (m / 2) := by rw [hr2']; exact fl_leaf (by simp; omega) (by simp; omega)
        refine (fun M => H t' h M (s.perm ?_)) ?_
        rotate_left
        · refine mended_two rfl ht2 (by omega) (by omega) ht1 gt hab hlm hfl' hfr' ?_ hP ⟨by omega, .inl ⟨hgt, ?_⟩⟩
          · rw [hl2', hr2']
            show l.nd.its ++ y :: r.nd.its = L ++ z :: (y :: r.nd.its)
            rw [hL]; simp
          · rw [hl2', hr2']
            show (l.nd.its.dropLast, l.nd.its.getLast?.getD y, y :: r.nd.its) = (L, z, y :: r.nd.its)
            rw [hL]; simp
        have e1 := M.2.1
        rw [ht2] at e1
        have e1 : ((PT.items (h := 1) (P ++ z :: S, (A ++ l' :: r' :: B).map GT.pt)).length : Int) = cnt := by rw [hcn, e1]; rfl
        have e2 : (A ++ l' :: r' :: B).flatMap (GT.all enc) = A.flatMap (GT.all enc) ++ (l'.all enc ++ (r'.all enc ++ B.flatMap (GT.all enc))) := by rw [List.flatMap_append, List.flatMap_cons, List.flatMap_cons]
        have e3 : l.pt.items.length = l.nd.its.length := rfl
        have e4 : r.pt.items.length = r.nd.its.length := rfl
        rw [ht4, e1, e2, hl4', hr4', ids_pp, hl1', hr1', e3, e4, hLl, List.length_cons, Nat.add_sub_cancel]
        ((apply perm_rg; intro f; simp only [List.set_cons_zero, List.set_cons_succ, List.eraseIdx_cons_zero, List.eraseIdx_cons_succ, List.cons_append, List.nil_append, List.map_append, List.map_cons, List.map_nil, List.sum_append, List.sum_cons, List.sum_nil, List.map_flatMap, Nat.add_zero, Nat.zero_add]; ac_rfl))
      | succ k =>
        obtain ⟨dl, lk⟩ := l
        obtain ⟨dr, rk⟩ := r
        refine leaf_ok (a := some ⟨dl.kb, 0, none⟩) (s.cl0 0 rfl rfl) ?_
        refine r_not ?_
        refine r_if (fun _ => ?_) (fun e => absurd e (by simp))
        have s := St.kids8 s
        have s : St h0 Z ((dl.n, 0, [_, _, _, ptr dl.kb 0]) :: _ :: (dr.n, 0, [_, _, _, ptr dr.kb 0]) :: _ :: _ :: _ :: _ :: _ :: (dl.kb, 0, [dl.kv]) :: (dl.krb, dl.kro, ((lk.map GT.id).map pp).flatMap fv ++ dl.ksp) :: (dr.kb, 0, [dr.kv]) :: (dr.krb, dr.kro, ((rk.map GT.id).map pp).flatMap fv ++ dr.ksp) ::
          (lk.flatMap (GT.all enc) ++ (rk.flatMap (GT.all enc) ++ (A.flatMap (GT.all enc) ++ (B.flatMap (GT.all enc) ++ E))))) h := s
        have wLK : Own 1 dl.kv ((lk.map GT.id).map pp).length dl.krb dl.kro (((lk.map GT.id).map pp).flatMap fv) dl.ksp := gl.ownK
        have wRK : Own 1 dr.kv ((rk.map GT.id).map pp).length dr.krb dr.kro (((rk.map GT.id).map pp).flatMap fv) dr.ksp := gr.ownK
        have hlk : lk.length = dl.its.length + 1 := gl.wf.2.2.1
        have hrk : rk.length = dr.its.length + 1 := gr.wf.2.2.1
        have hdl : dl.its.length ≤ m := ll.2
        have hdr : dr.its.length ≤ m := lr.2
        have hLl : dl.its.length = L.length + 1 := hLl
        obtain ⟨lk', c, ec⟩ := last_of (show 1 ≤ lk.length by omega)
        have hrkL : ((rk.map GT.id).map pp).length = dr.its.length + 1 := by rw [List.length_map, List.length_map]; exact hrk
        have hlkL : ((lk.map GT.id).map pp).length = dl.its.length + 1 := by rw [List.length_map, List.length_map]; exact hlk
        have hlkE : (lk.map GT.id).map pp = (lk'.map GT.id).map pp ++ [ptr c.id 0] := by rw [ec]; simp
        have hlast : ((lk.map GT.id).map pp)[((lk.map GT.id).map pp).length - 1]? = some (ptr c.id 0) := by rw [hlkE]; simp
        refine r_nil ?_
        refine r_fld ?_
        refine St.r_load0 s 2 rfl rfl ?_
        refine r_nil ?_
        refine r_fld ?_
        refine St.r_load0 s 2 rfl rfl ?_
        refine r_nil ?_
        refine St.r_load0 s 10 rfl rfl ?_
        refine St.r_mkSl (sz := 1) (cs := [.pointer none]) s (by ((simp only [fillV, fill1, Value.cells, zeros_succ, zeros_zero, List.size_toArray, List.length_cons, List.length_nil, List.length_append, List.take_succ_cons, List.take_zero, List.take_nil, List.drop_succ_cons, List.drop_zero, List.drop_nil, List.cons_append, List.nil_append, List.append_nil, Nat.reduceAdd, Nat.reduceMul, Nat.reduceLeDiff, Nat.reduceEqDiff, and_self, and_true, true_and, if_true, Nat.le_refl, Nat.zero_add, Nat.add_zero, Nat.zero_mul, reduceIte, if_false] <;> rfl))) rfl fun q h s w1 => ?_
        refine And.intro (by exact St.r_still0 s 3 rfl rfl) ?_
        refine And.intro (by exact St.r_still0 s 3 rfl rfl) ?_
        refine And.intro (by exact St.r_still0 s 11 rfl rfl) ?_
        refine s.r_appL (f := fv) (L := (rk.map GT.id).map pp) (M := [.pointer none]) 12 rfl wRK rfl (w1.rdl s 0 rfl) (fun _ h => by simp [one1, List.mem_singleton.1 h]) (by simp; omega) (by simp; omega) fun rkv1 rkb1 rko1 rks1 h s wRK1 => ?_
        have s := s.tail rfl
        refine And.intro (by exact St.r_still0 s 2 rfl rfl) ?_
        refine r_nil ?_
        (refine St.r_store0 s 10 rfl (by simp) (Own.one (by assumption)) ?_; intro h s; try simp only [List.set_cons_zero, List.set_cons_succ] at s)
        refine r_nil ?_
        refine r_fld ?_
        refine St.r_load0 s 2 rfl rfl ?_
        refine r_nil ?_
        refine St.r_load0 s 10 rfl rfl ?_
        refine wRK1.slcLo fvl (i := 1) rfl (by simp) fun dd wd2 => ?_
        refine r_nil ?_
        refine r_fld ?_
        refine St.r_load0 s 2 rfl rfl ?_
        refine r_nil ?_
        refine St.r_load0 s 10 rfl rfl ?_
        refine s.r_cpyF fvl 11 (L := (rk.map GT.id).map pp ++ [Value.pointer none]) (M := ((rk.map GT.id).map pp ++ [Value.pointer none]).drop 0) rfl wd2 (by simp; omega) (wRK1.rdl s 11 rfl).z0 rfl (fun y hy => by
          rw [List.drop_zero] at hy
          rcases List.mem_append.1 hy with hy | hy
          · obtain ⟨a, _, rfl⟩ := List.mem_map.1 hy; simp [one1]
          · rw [List.mem_singleton.1 hy]; simp [one1]) fun h s => ?_
        refine r_nil ?_
        refine r_fld ?_
        refine St.r_load0 s 2 rfl rfl ?_
        refine r_nil ?_
        refine St.r_load0 s 10 rfl rfl ?_
        refine r_nil ?_
        refine r_fld ?_
        refine St.r_load0 s 0 rfl rfl ?_
        refine r_nil ?_
        refine St.r_load0 s 8 rfl rfl ?_
        refine r_nil ?_
        refine r_fld ?_
        refine St.r_load0 s 0 rfl rfl ?_
        refine r_nil ?_
        refine St.r_load0 s 8 rfl rfl ?_
        refine Own.lenV (by assumption) ?_
        refine r_sub1 (by omega) (by omega) ?_
        (refine Own.idx (by assumption) rfl (by first | omega | (simp; done) | (simp; omega)) ?_)
        refine s.r_loadV 9 rfl (by assumption) ?_
        (refine Own.idx (by assumption) rfl (by first | omega | (simp; done) | (simp; omega)) ?_)
        (refine s.r_storeV 11 rfl (by first | omega | (simp; done) | (simp; omega)) rfl ?_; intro h s; try simp only [List.set_cons_zero, List.set_cons_succ] at s)
        refine r_nil ?_
        refine r_fld ?_
        refine St.r_load0 s 0 rfl rfl ?_
        refine r_nil ?_
        refine St.r_load0 s 8 rfl rfl ?_
        refine r_nil ?_
        refine r_fld ?_
        refine St.r_load0 s 0 rfl rfl ?_
        refine r_nil ?_
        refine St.r_load0 s 8 rfl rfl ?_
        refine Own.lenV (by assumption) ?_
        refine r_sub1 (by omega) (by omega) ?_
        (refine Own.idx (by assumption) rfl (by first | omega | (simp; done) | (simp; omega)) ?_)
        (refine s.r_storeV 9 rfl (by first | omega | (simp; done) | (simp; omega)) rfl ?_; intro h s; try simp only [List.set_cons_zero, List.set_cons_succ] at s)
        refine r_nil ?_
        refine r_fld ?_
        refine St.r_load0 s 0 rfl rfl ?_
        refine r_nil ?_
        refine r_fld ?_
        refine St.r_load0 s 0 rfl rfl ?_
        refine r_nil ?_
        refine St.r_load0 s 8 rfl rfl ?_
        refine r_nil ?_
        refine r_fld ?_
        refine St.r_load0 s 0 rfl rfl ?_
        refine r_nil ?_
        refine St.r_load0 s 8 rfl rfl ?_
        refine Own.lenV (by assumption) ?_
        refine r_sub1 (by omega) (by omega) ?_
        rw [ins_steps ((rk.map GT.id).map pp) (.pointer none) (ptr c.id 0) (Nat.zero_le _), ins0] at s
        have wRK2 : Own 1 rkv1 (ptr c.id 0 :: (rk.map GT.id).map pp).length rkb1 rko1 ((ptr c.id 0 :: (rk.map GT.id).map pp).flatMap fv) rks1 := wRK1.list fvl (by simp)
        clear wRK1
        refine (wLK.list fvl (pop_len (e := .pointer none))).slcHi fvl rfl (by rw [pop_len]; omega) fun lkv2 wLK2 => ?_
        have s := s.del (f := fv) 9 rfl _ (pop_steps (e := .pointer none) hlkE)
        rw [pop_steps (e := .pointer none) hlkE] at wLK2
        obtain ⟨a1, a2, a3, hcm⟩ := GT.topA (t := c)
        have hcl : c ∈ lk := by rw [ec]; simp
        have gc : Gd is' c := gl.kid hcl
        have hcm' : (c.id, 0, [a1, .int .i64 c.nd.cnt, a2, a3]) ∈ lk.flatMap (GT.all enc) := List.mem_flatMap.2 ⟨c, hcl, hcm⟩
        rw [gc.cntEq] at hcm'
        have hL' : dl.its = L ++ [z] := hL
        have hlk'l : lk'.length = L.length + 1 := by rw [ec] at hlk; simp at hlk; omega
        have hlI : (GT.pt (h := k + 1) (dl, lk)).items = inter L ((lk'.map GT.pt).map PT.items) ++ z :: c.pt.items := by
          show inter dl.its ((lk.map GT.pt).map PT.items) = _
          rw [ec, hL', List.map_append, List.map_append]
          exact inter_snoc _ _ _ _ (by simp; omega)
        have hlL := congrArg List.length hlI
        rw [List.length_append, List.length_cons] at hlL
        have hc0 : (ptr c.id 0 :: (rk.map GT.id).map pp)[0]? = some (ptr c.id 0) := rfl
        refine r_nil ?_
        (refine St.r_store0 s 8 rfl (by simp) (Own.one (by assumption)) ?_; intro h s; try simp only [List.set_cons_zero, List.set_cons_succ] at s)
        refine r_nil ?_
        refine r_fld ?_
        refine St.r_load0 s 0 rfl rfl ?_
        refine r_nil ?_
        refine r_fld ?_
        refine St.r_load0 s 2 rfl rfl ?_
        refine r_nil ?_
        refine St.r_load0 s 10 rfl rfl ?_
        (refine Own.idx (by assumption) rfl (by first | omega | (simp; done) | (simp; omega)) ?_)
        refine s.r_loadI 11 0 rfl rfl rfl ?_
        refine r_nil ?_
        refine r_fld ?_
        refine s.r_loadD 12 (List.mem_append.2 (.inl hcm')) rfl ?_
        refine r_subN (by omega) (by omega) ?_
        refine r_nil ?_
        refine r_fld ?_
        (refine St.r_store0 s 0 rfl (by simp) rfl ?_; intro h s; try simp only [List.set_cons_zero, List.set_cons_succ] at s)
        refine r_nil ?_
        refine r_fld ?_
        refine St.r_load0 s 2 rfl rfl ?_
        refine r_nil ?_
        refine r_fld ?_
        refine St.r_load0 s 2 rfl rfl ?_
        refine r_nil ?_
        refine St.r_load0 s 10 rfl rfl ?_
        (refine Own.idx (by assumption) rfl (by first | omega | (simp; done) | (simp; omega)) ?_)
        refine s.r_loadI 11 0 rfl rfl rfl ?_
        refine r_nil ?_
        refine r_fld ?_
        refine s.r_loadD 12 (List.mem_append.2 (.inl hcm')) rfl ?_
        refine r_addN (by omega) ?_
        refine r_nil ?_
        refine r_fld ?_
        (refine St.r_store0 s 2 rfl (by simp) rfl ?_; intro h s; try simp only [List.set_cons_zero, List.set_cons_succ] at s)
        obtain ⟨l', hl1', gl', hl2', hl3', hl4'⟩ := mk_inner (iso := is') (n := dl.n) (kb := dl.kb) (ts := lk') wl2 wLK2 hlk'l (fun q hq => gl.kid (by rw [ec]; exact List.mem_append.2 (.inl hq)))
        obtain ⟨r', hr1', gr', hr2', hr3', hr4'⟩ := mk_inner (iso := is') (n := dr.n) (kb := dr.kb) (ts := c :: rk) wr2 wRK2 (by show _ = (y :: dr.its).length + 1; simp; omega) (fun q hq => by
          rcases List.mem_cons.1 hq with h | h
          · rw [h]; exact gc
          · exact gr.kid h)
        have wK2 : Own 1 kv (((A ++ l' :: r' :: B).map GT.id).map pp).length krb kro ((((A ++ l' :: r' :: B).map GT.id).map pp).flatMap fv) ksp := by rw [ids_pp, hl1', hr1']; exact wK
        obtain ⟨t', ht1, gt, ht2, ht3, ht4⟩ := mk_inner (n := n) (kb := kb) (iso := is') w2 wK2 (by simp; omega) (fun c hc => by
          rcases List.mem_append.1 hc with h | h
          · exact gA c h
          · rcases List.mem_cons.1 h with h | h
            · subst h; exact gl'
            · rcases List.mem_cons.1 h with h | h
              · subst h; exact gr'
              · exact gB c h)
        have fkl : ∀ q ∈ lk, PT.Fl m (m / 2) q.pt := fun q hq => fl0.2.2.2 _ (List.mem_map.2 ⟨q, hq, rfl⟩)
        have fkr : ∀ q ∈ rk, PT.Fl m (m / 2) q.pt := fun q hq => fr0.2.2.2 _ (List.mem_map.2 ⟨q, hq, rfl⟩)
        have hgt2 : dr.its.length < dl.its.length := hgt
        have hlr2 : (dl.its.length + 1 = m / 2 ∧ m / 2 ≤ dr.its.length) ∨ (m / 2 ≤ dl.its.length ∧ dr.its.length + 1 = m / 2) := hlr
        have hge2 : m ≤ dl.its.length + dr.its.length := hge
        have hfl' : l'.pt.Fl m (m / 2) := by
          rw [hl2']
          refine fl_inner (by omega) (by omega) (by simp; omega) fun q hq => ?_
          obtain ⟨x, hx, rfl⟩ := List.mem_map.1 hq
          exact fkl x (by rw [ec]; exact List.mem_append.2 (.inl hx))
        have hfr' : r'.pt.Fl m (m / 2) := by
          rw [hr2']
          refine fl_inner (by show m / 2 ≤ (y :: dr.its).length; simp; omega) (by show (y :: dr.its).length ≤ m; simp; omega) (by show _ = (y :: dr.its).length + 1; simp; omega) fun q hq => ?_
          obtain ⟨x, hx, rfl⟩ := List.mem_map.1 hq
          rcases List.mem_cons.1 hx with h | h
          · rw [h]; exact fkl c hcl
          · exact fkr x h
        have hl'I : l'.pt.items = inter L ((lk'.map GT.pt).map PT.items) := by rw [hl2']; rfl
        have hr'I : r'.pt.items = c.pt.items ++ y :: (GT.pt (h := k + 1) (dr, rk)).items := by rw [hr2']; rfl
        refine (fun M => H t' h M (s.perm ?_)) ?_
        rotate_left
        · refine mended_two rfl ht2 (by omega) (by omega) ht1 gt hab hlm hfl' hfr' (by rw [hlI, hl'I, hr'I]; simp) hP ⟨by show ¬ dl.its.length + dr.its.length < m; omega, .inl ⟨hgt, ?_⟩⟩
          rw [hl2', hr2']
          show ((dl.its.dropLast, (lk.map GT.pt).dropLast), dl.its.getLast?.getD y, (y :: dr.its, (lk.map GT.pt).getLast?.toList ++ rk.map GT.pt)) = ((L, lk'.map GT.pt), z, (y :: dr.its, (c :: rk).map GT.pt))
          have hL' : dl.its = L ++ [z] := hL
          rw [hL', ec]; simp
        have e1 := M.2.1
        rw [ht2] at e1
        have e1 : ((PT.items (h := k + 2) (P ++ z :: S, (A ++ l' :: r' :: B).map GT.pt)).length : Int) = cnt := by rw [hcn, e1]; rfl
        have e2 : (A ++ l' :: r' :: B).flatMap (GT.all enc) = A.flatMap (GT.all enc) ++ (l'.all enc ++ (r'.all enc ++ B.flatMap (GT.all enc))) := by rw [List.flatMap_append, List.flatMap_cons, List.flatMap_cons]
        have e3 : (PT.items (h := k + 1) (y :: (GT.nd (h := k + 1) (dr, rk)).its, (c :: rk).map GT.pt)).length = (GT.pt (h := k + 1) (dr, rk)).items.length + 1 + c.pt.items.length := by
          have := congrArg List.length hr'I
          rw [hr2'] at this
          rw [List.length_append, List.length_cons] at this
          exact this.trans (by omega)
        have e4 : (PT.items (h := k + 1) (L, lk'.map GT.pt)).length = (GT.pt (h := k + 1) (dl, lk)).items.length - 1 - c.pt.items.length := by
          show (inter L ((lk'.map GT.pt).map PT.items)).length = _
          omega
        have e5 : lk.flatMap (GT.all enc) = lk'.flatMap (GT.all enc) ++ c.all enc := by rw [ec, List.flatMap_append, List.flatMap_singleton]
        rw [ht4, e1, e2, hl4', hr4', ids_pp, hl1', hr1', e3, e4]
        have e6 : (c :: rk).flatMap (GT.all enc) = c.all enc ++ rk.flatMap (GT.all enc) := List.flatMap_cons
        have e7 : (((c :: rk).map GT.id).map pp) = ptr c.id 0 :: (rk.map GT.id).map pp := rfl
        rw [e5, e6, e7]
        ((apply perm_rg; intro f; simp only [List.set_cons_zero, List.set_cons_succ, List.eraseIdx_cons_zero, List.eraseIdx_cons_succ, List.cons_append, List.nil_append, List.map_append, List.map_cons, List.map_nil, List.sum_append, List.sum_cons, List.sum_nil, List.map_flatMap, Nat.add_zero, Nat.zero_add]; ac_rfl))
    · have hle : l.nd.its.length ≤ r.nd.its.length := by have := of_decide_eq_false hle; omega
      refine r_nil ?_
      refine r_fld ?_
      refine St.r_load0 s 0 rfl rfl ?_
      refine r_nil ?_
      refine r_fld ?_
      refine St.r_load0 s 4 rfl rfl ?_
      (refine Own.idx (by assumption) rfl (by first | omega | (simp; done) | (simp; omega)) ?_)
      refine s.r_loadF encl 5 rfl (by assumption) ?_
      refine St.r_mkSl (sz := 2) (cs := enc y) s (by ((simp only [fillV, fill1, Value.cells, zeros_succ, zeros_zero, List.size_toArray, List.length_cons, List.length_nil, List.length_append, List.take_succ_cons, List.take_zero, List.take_nil, List.drop_succ_cons, List.drop_zero, List.drop_nil, List.cons_append, List.nil_append, List.append_nil, Nat.reduceAdd, Nat.reduceMul, Nat.reduceLeDiff, Nat.reduceEqDiff, and_self, and_true, true_and, if_true, Nat.le_refl, Nat.zero_add, Nat.add_zero, Nat.zero_mul, reduceIte, if_false] <;> rfl))) rfl fun q h s w1 => ?_
      refine And.intro (by exact St.r_still0 s 1 rfl rfl) ?_
      refine s.r_appL (M := [y]) 2 rfl wl rfl (by have := w1.rdl s 0 rfl; simpa using this) (fun _ _ => enc1 _) (by simp; omega) (by simp; omega) fun liv1 lib1 lio1 lisp1 h s wl1 => ?_
      have s := s.tail rfl
      refine r_nil ?_
      refine r_fld ?_
      (refine St.r_store0 s 0 rfl (by simp) (Own.one (by assumption)) ?_; intro h s; try simp only [List.set_cons_zero, List.set_cons_succ] at s)
      refine r_nil ?_
      refine r_fld ?_
      refine St.r_load0 s 0 rfl rfl ?_
      refine r_add1 (by omega) ?_
      refine r_nil ?_
      refine r_fld ?_
      (refine St.r_store0 s 0 rfl (by simp) rfl ?_; intro h s; try simp only [List.set_cons_zero, List.set_cons_succ] at s)
      refine r_nil ?_
      refine r_fld ?_
      refine St.r_load0 s 4 rfl rfl ?_
      refine r_nil ?_
      refine r_fld ?_
      refine St.r_load0 s 2 rfl rfl ?_
      (refine Own.idx (by assumption) rfl (by first | omega | (simp; done) | (simp; omega)) ?_)
      (refine s.r_loadF encl 3 rfl (List.getElem?_eq_getElem (by first | omega | (simp; done) | (simp; omega))) ?_)
      (refine Own.idx (by assumption) rfl (by first | omega | (simp; done) | (simp; omega)) ?_)
      (refine s.r_storeF encl 5 rfl (by first | omega | (simp; done) | (simp; omega)) (enc1 _) ?_; intro h s; try simp only [List.set_cons_zero, List.set_cons_succ] at s)
      refine r_nil ?_
      refine r_fld ?_
      refine St.r_load0 s 2 rfl rfl ?_
      refine r_nil ?_
      refine r_fld ?_
      refine St.r_load0 s 2 rfl rfl ?_
      refine (wr.rdl s 3 rfl).slcLo encl (i := 1) rfl (by omega) fun src rs => ?_
      refine s.r_cpyF encl 3 (L := r.nd.its) (M := r.nd.its.drop 1) rfl wr.z0 (by simp) rs rfl (fun y _ => enc1 y) fun h s => ?_
      refine r_nil ?_
      refine r_fld ?_
      refine St.r_load0 s 2 rfl rfl ?_
      refine r_nil ?_
      refine r_fld ?_
      refine St.r_load0 s 2 rfl rfl ?_
      refine Own.lenV (by assumption) ?_
      refine r_sub1 (by omega) (by omega) ?_
      refine r_nil ?_
      refine r_fld ?_
      refine s.r_lzE hT4 0 (enc emp) rfl (by simp) rfl ?_
      (refine Own.idx (by assumption) rfl (by first | omega | (simp; done) | (simp; omega)) ?_)
      (refine s.r_storeF encl 3 rfl (by first | omega | (simp; done) | (simp; omega)) (enc1 _) ?_; intro h s; try simp only [List.set_cons_zero, List.set_cons_succ] at s)
      refine r_nil ?_
      refine r_fld ?_
      refine St.r_load0 s 2 rfl rfl ?_
      refine r_nil ?_
      refine r_fld ?_
      refine St.r_load0 s 2 rfl rfl ?_
      refine Own.lenV (by assumption) ?_
      refine r_sub1 (by omega) (by omega) ?_
      have hr0 : 0 < r.nd.its.length := by omega
      refine (wr.list encl (del_len r.nd.its emp hr0)).slcHi encl rfl (by rw [del_len _ _ hr0]; omega) fun riv2 wr2 => ?_
      have s := s.del (f := enc) 3 rfl _ (del_erase r.nd.its emp hr0)
      rw [del_erase r.nd.its emp hr0] at wr2
      refine r_nil ?_
      refine r_fld ?_
      (refine St.r_store0 s 2 rfl (by simp) (Own.one (by assumption)) ?_; intro h s; try simp only [List.set_cons_zero, List.set_cons_succ] at s)
      refine r_nil ?_
      refine r_fld ?_
      refine St.r_load0 s 2 rfl rfl ?_
      refine r_sub1 (by omega) (by omega) ?_
      refine r_nil ?_
      refine r_fld ?_
      (refine St.r_store0 s 2 rfl (by simp) rfl ?_; intro h s; try simp only [List.set_cons_zero, List.set_cons_succ] at s)
      obtain ⟨z, R, hR⟩ := head_of (show 1 ≤ r.nd.its.length by omega)
      have hz : r.nd.its[0]'(by omega) = z := by simp [hR]
      have hR0 : r.nd.its.eraseIdx 0 = R := by rw [hR]; rfl
      have hRl : r.nd.its.length = R.length + 1 := by rw [hR]; rfl
      rw [hz, setAt hP] at s
      rw [hR0] at s wr2
      have w2 : Own 2 iv (P ++ z :: S).length ib io ((P ++ z :: S).flatMap enc) isp := w.list encl (by simp)
      cases k with
      | zero =>
        refine leaf_ok (a := none) (s.cl0 0 rfl rfl) ?_
        refine r_not ?_
        refine r_if (fun e => absurd e (by simp)) (fun _ => ?_)
        have s := St.kids0 s
        obtain ⟨l', hl1', gl', hl2', hl3', hl4'⟩ := mk_leaf (iso := is') (n := l.id) wl1
        obtain ⟨r', hr1', gr', hr2', hr3', hr4'⟩ := mk_leaf (iso := is') (n := r.id) wr2
        have wK2 : Own 1 kv (((A ++ l' :: r' :: B).map GT.id).map pp).length krb kro ((((A ++ l' :: r' :: B).map GT.id).map pp).flatMap fv) ksp := by rw [ids_pp, hl1', hr1']; exact wK
        obtain ⟨t', ht1, gt, ht2, ht3, ht4⟩ := mk_inner (n := n) (kb := kb) (iso := is') w2 wK2 (by simp; omega) (fun c hc => by
          rcases List.mem_append.1 hc with h | h
          · exact gA c h
          · rcases List.mem_cons.1 h with h | h
            · subst h; exact gl'
            · rcases List.mem_cons.1 h with h | h
              · subst h; exact gr'
              · exact gB c h)
        have hfl' : l'.pt.Fl m (m / 2) := by rw [hl2']; exact fl_leaf (by simp; omega) (by simp; omega)
        have hfr' : r'.pt.Fl m (m / 2) := by rw [hr2']; exact fl_leaf (by omega) (by omega)
        have hx : l.pt.items ++ y :: r.pt.items = l'.pt.items ++ z :: r'.pt.items := by
          rw [hl2', hr2']
          show l.nd.its ++ y :: r.nd.its = (l.nd.its ++ [y]) ++ z :: R
          rw [hR]; simp
        have M := mended_two (t := ((⟨own, n, is', cnt, P ++ y :: S, iv, ib, io, isp, kb, kv, krb, kro, ksp⟩ : Nd It), A ++ l :: r :: B)) (iso := is') rfl ht2 (by omega) (by omega) ht1 gt hab hlm hfl' hfr' hx hP ⟨by omega, .inr ⟨by omega, by
          rw [hl2', hr2']
          show (l.nd.its ++ [y], r.nd.its.head?.getD y, r.nd.its.tail) = (l.nd.its ++ [y], z, R)
          rw [hR]; rfl⟩⟩
        refine H t' h M (s.perm ?_)
        have e1 : ((PT.items (h := 1) (P ++ z :: S, (A ++ l' :: r' :: B).map GT.pt)).length : Int) = cnt := by have := M.2.1; rw [ht2] at this; rw [hcn, this]; rfl
        have e2 : (A ++ l' :: r' :: B).flatMap (GT.all enc) = A.flatMap (GT.all enc) ++ (l'.all enc ++ (r'.all enc ++ B.flatMap (GT.all enc))) := by rw [List.flatMap_append, List.flatMap_cons, List.flatMap_cons]
        have e3 : l.pt.items.length = l.nd.its.length := rfl
        have e4 : r.pt.items.length = r.nd.its.length := rfl
        rw [ht4, e1, e2, hl4', hr4', ids_pp, hl1', hr1', e3, e4, hRl, List.length_append, List.length_singleton, Nat.add_sub_cancel]
        ((apply perm_rg; intro f; simp only [List.set_cons_zero, List.set_cons_succ, List.eraseIdx_cons_zero, List.eraseIdx_cons_succ, List.cons_append, List.nil_append, List.map_append, List.map_cons, List.map_nil, List.sum_append, List.sum_cons, List.sum_nil, List.map_flatMap, Nat.add_zero, Nat.zero_add]; ac_rfl))
      | succ k =>
        obtain ⟨dl, lk⟩ := l
        obtain ⟨dr, rk⟩ := r
        refine leaf_ok (a := some ⟨dl.kb, 0, none⟩) (s.cl0 0 rfl rfl) ?_
        refine r_not ?_
        refine r_if (fun _ => ?_) (fun e => absurd e (by simp))
        have s := St.kids8 s
        have s : St h0 Z ((dl.n, 0, [_, _, _, ptr dl.kb 0]) :: _ :: (dr.n, 0, [_, _, _, ptr dr.kb 0]) :: _ :: _ :: _ :: _ :: _ :: (dl.kb, 0, [dl.kv]) :: (dl.krb, dl.kro, ((lk.map GT.id).map pp).flatMap fv ++ dl.ksp) :: (dr.kb, 0, [dr.kv]) :: (dr.krb, dr.kro, ((rk.map GT.id).map pp).flatMap fv ++ dr.ksp) ::
          (lk.flatMap (GT.all enc) ++ (rk.flatMap (GT.all enc) ++ (A.flatMap (GT.all enc) ++ (B.flatMap (GT.all enc) ++ E))))) h := s
        have wLK : Own 1 dl.kv ((lk.map GT.id).map pp).length dl.krb dl.kro (((lk.map GT.id).map pp).flatMap fv) dl.ksp := gl.ownK
        have wRK : Own 1 dr.kv ((rk.map GT.id).map pp).length dr.krb dr.kro (((rk.map GT.id).map pp).flatMap fv) dr.ksp := gr.ownK
        have hlk : lk.length = dl.its.length + 1 := gl.wf.2.2.1
        have hrk : rk.length = dr.its.length + 1 := gr.wf.2.2.1
        have hdl : dl.its.length ≤ m := ll.2
        have hdr : dr.its.length ≤ m := lr.2
        have hRl : dr.its.length = R.length + 1 := hRl
        obtain ⟨c, rk', ec⟩ := head_of (show 1 ≤ rk.length by omega)
        have hrkL : ((rk.map GT.id).map pp).length = dr.its.length + 1 := by rw [List.length_map, List.length_map]; exact hrk
        have hlkL : ((lk.map GT.id).map pp).length = dl.its.length + 1 := by rw [List.length_map, List.length_map]; exact hlk
        have hrk0 : 0 < ((rk.map GT.id).map pp).length := by simp; omega
        have hc0 : ((rk.map GT.id).map pp)[0]? = some (ptr c.id 0) := by rw [ec]; rfl
        refine r_nil ?_
        refine r_fld ?_
        refine St.r_load0 s 0 rfl rfl ?_
        refine r_nil ?_
        refine r_fld ?_
        refine St.r_load0 s 0 rfl rfl ?_
        refine r_nil ?_
        refine St.r_load0 s 8 rfl rfl ?_
        refine r_nil ?_
        refine r_fld ?_
        refine St.r_load0 s 2 rfl rfl ?_
        refine r_nil ?_
        refine St.r_load0 s 10 rfl rfl ?_
        (refine Own.idx (by assumption) rfl (by first | omega | (simp; done) | (simp; omega)) ?_)
        refine s.r_loadV 11 rfl (by assumption) ?_
        refine St.r_mkSl (sz := 1) (cs := [ptr c.id 0]) s (by ((simp only [fillV, fill1, Value.cells, zeros_succ, zeros_zero, List.size_toArray, List.length_cons, List.length_nil, List.length_append, List.take_succ_cons, List.take_zero, List.take_nil, List.drop_succ_cons, List.drop_zero, List.drop_nil, List.cons_append, List.nil_append, List.append_nil, Nat.reduceAdd, Nat.reduceMul, Nat.reduceLeDiff, Nat.reduceEqDiff, and_self, and_true, true_and, if_true, Nat.le_refl, Nat.zero_add, Nat.add_zero, Nat.zero_mul, reduceIte, if_false] <;> rfl))) rfl fun q h s w1 => ?_
        refine And.intro (by exact St.r_still0 s 1 rfl rfl) ?_
        refine And.intro (by exact St.r_still0 s 1 rfl rfl) ?_
        refine And.intro (by exact St.r_still0 s 9 rfl rfl) ?_
        refine s.r_appL (f := fv) (L := (lk.map GT.id).map pp) (M := [pp c.id]) 10 rfl wLK rfl (w1.rdl s 0 rfl) (fun _ h => by simp [one1, List.mem_singleton.1 h]) (by simp; omega) (by simp; omega) fun lkv1 lkb1 lko1 lks1 h s wLK1 => ?_
        have s := s.tail rfl
        refine And.intro (by exact St.r_still0 s 0 rfl rfl) ?_
        refine r_nil ?_
        (refine St.r_store0 s 8 rfl (by simp) (Own.one (by assumption)) ?_; intro h s; try simp only [List.set_cons_zero, List.set_cons_succ] at s)
        refine r_nil ?_
        refine r_fld ?_
        refine St.r_load0 s 2 rfl rfl ?_
        refine r_nil ?_
        refine St.r_load0 s 10 rfl rfl ?_
        refine r_nil ?_
        refine r_fld ?_
        refine St.r_load0 s 2 rfl rfl ?_
        refine r_nil ?_
        refine St.r_load0 s 10 rfl rfl ?_
        refine (wRK.rdl s 11 rfl).slcLo fvl (i := 1) rfl (by simp; omega) fun src rs => ?_
        refine s.r_cpyF fvl 11 (L := (rk.map GT.id).map pp) (M := ((rk.map GT.id).map pp).drop 1) rfl wRK.z0 (by simp) rs rfl (fun y hy => by obtain ⟨a, _, rfl⟩ := List.mem_map.1 (List.mem_of_mem_drop hy); simp [one1]) fun h s => ?_
        refine r_nil ?_
        refine r_fld ?_
        refine St.r_load0 s 2 rfl rfl ?_
        refine r_nil ?_
        refine St.r_load0 s 10 rfl rfl ?_
        refine r_nil ?_
        refine r_fld ?_
        refine St.r_load0 s 2 rfl rfl ?_
        refine r_nil ?_
        refine St.r_load0 s 10 rfl rfl ?_
        refine Own.lenV (by assumption) ?_
        refine r_sub1 (by omega) (by omega) ?_
        (refine Own.idx (by assumption) rfl (by first | omega | (simp; done) | (simp; omega)) ?_)
        (refine s.r_storeV 11 rfl (by first | omega | (simp; done) | (simp; omega)) rfl ?_; intro h s; try simp only [List.set_cons_zero, List.set_cons_succ] at s)
        refine r_nil ?_
        refine r_fld ?_
        refine St.r_load0 s 2 rfl rfl ?_
        refine r_nil ?_
        refine r_fld ?_
        refine St.r_load0 s 2 rfl rfl ?_
        refine r_nil ?_
        refine St.r_load0 s 10 rfl rfl ?_
        refine r_nil ?_
        refine r_fld ?_
        refine St.r_load0 s 2 rfl rfl ?_
        refine r_nil ?_
        refine St.r_load0 s 10 rfl rfl ?_
        refine Own.lenV (by assumption) ?_
        refine r_sub1 (by omega) (by omega) ?_
        refine (wRK.list fvl (del_len _ (.pointer none) hrk0)).slcHi fvl rfl (by rw [del_len _ _ hrk0]; omega) fun rkv2 wRK2 => ?_
        have s := s.del (f := fv) 11 rfl _ (del_erase _ (.pointer none) hrk0)
        rw [del_erase _ (.pointer none) hrk0] at wRK2
        have hrk2 : ((rk.map GT.id).map pp).eraseIdx 0 = (rk'.map GT.id).map pp := by rw [ec]; rfl
        rw [hrk2] at s wRK2
        have hL1 : ((lk.map GT.id).map pp ++ [pp c.id]).length = dl.its.length + 2 := by rw [List.length_append, hlkL]; rfl
        have hlast : ((lk.map GT.id).map pp ++ [pp c.id])[((lk.map GT.id).map pp ++ [pp c.id]).length - 1]? = some (ptr c.id 0) := by simp
        obtain ⟨a1, a2, a3, hcm⟩ := GT.topA (t := c)
        have hcr : c ∈ rk := by rw [ec]; exact List.mem_cons_self ..
        have gc : Gd is' c := gr.kid hcr
        have hcm' : (c.id, 0, [a1, .int .i64 c.nd.cnt, a2, a3]) ∈ rk.flatMap (GT.all enc) := List.mem_flatMap.2 ⟨c, hcr, hcm⟩
        rw [gc.cntEq] at hcm'
        have hR' : dr.its = z :: R := hR
        have hrI : (GT.pt (h := k + 1) (dr, rk)).items = c.pt.items ++ z :: inter R ((rk'.map GT.pt).map PT.items) := by
          show inter dr.its ((rk.map GT.pt).map PT.items) = _
          rw [ec, hR']; rfl
        have hrL := congrArg List.length hrI
        rw [List.length_append, List.length_cons] at hrL
        refine r_nil ?_
        (refine St.r_store0 s 10 rfl (by simp) (Own.one (by assumption)) ?_; intro h s; try simp only [List.set_cons_zero, List.set_cons_succ] at s)
        refine r_nil ?_
        refine r_fld ?_
        refine St.r_load0 s 0 rfl rfl ?_
        refine r_nil ?_
        refine r_fld ?_
        refine St.r_load0 s 0 rfl rfl ?_
        refine r_nil ?_
        refine St.r_load0 s 8 rfl rfl ?_
        refine r_nil ?_
        refine r_fld ?_
        refine St.r_load0 s 0 rfl rfl ?_
        refine r_nil ?_
        refine St.r_load0 s 8 rfl rfl ?_
        refine Own.lenV (by assumption) ?_
        refine r_sub1 (by omega) (by omega) ?_
        (refine Own.idx (by assumption) rfl (by first | omega | (simp; done) | (simp; omega)) ?_)
        refine s.r_loadV 9 rfl (by assumption) ?_
        refine r_nil ?_
        refine r_fld ?_
        refine s.r_loadD 12 (List.mem_append.2 (.inr (List.mem_append.2 (.inl hcm')))) rfl ?_
        refine r_addN (by omega) ?_
        refine r_nil ?_
        refine r_fld ?_
        (refine St.r_store0 s 0 rfl (by simp) rfl ?_; intro h s; try simp only [List.set_cons_zero, List.set_cons_succ] at s)
        refine r_nil ?_
        refine r_fld ?_
        refine St.r_load0 s 2 rfl rfl ?_
        refine r_nil ?_
        refine r_fld ?_
        refine St.r_load0 s 0 rfl rfl ?_
        refine r_nil ?_
        refine St.r_load0 s 8 rfl rfl ?_
        refine r_nil ?_
        refine r_fld ?_
        refine St.r_load0 s 0 rfl rfl ?_
        refine r_nil ?_
        refine St.r_load0 s 8 rfl rfl ?_
        refine Own.lenV (by assumption) ?_
        refine r_sub1 (by omega) (by omega) ?_
        (refine Own.idx (by assumption) rfl (by first | omega | (simp; done) | (simp; omega)) ?_)
        refine s.r_loadV 9 rfl (by assumption) ?_
        refine r_nil ?_
        refine r_fld ?_
        refine s.r_loadD 12 (List.mem_append.2 (.inr (List.mem_append.2 (.inl hcm')))) rfl ?_
        refine r_subN (by omega) (by omega) ?_
        refine r_nil ?_
        refine r_fld ?_
        (refine St.r_store0 s 2 rfl (by simp) rfl ?_; intro h s; try simp only [List.set_cons_zero, List.set_cons_succ] at s)
        have eL : ((lk ++ [c]).map GT.id).map pp = (lk.map GT.id).map pp ++ [pp c.id] := by simp
        rw [← eL] at s wLK1
        obtain ⟨l', hl1', gl', hl2', hl3', hl4'⟩ := mk_inner (iso := is') (n := dl.n) (kb := dl.kb) (ts := lk ++ [c]) wl1 wLK1 (by show _ = (dl.its ++ [y]).length + 1; simp; omega) (fun q hq => by
          rcases List.mem_append.1 hq with h | h
          · exact gl.kid h
          · rw [List.mem_singleton.1 h]; exact gc)
        obtain ⟨r', hr1', gr', hr2', hr3', hr4'⟩ := mk_inner (iso := is') (n := dr.n) (kb := dr.kb) (ts := rk') wr2 wRK2 (by rw [ec] at hrk; simp at hrk; omega) (fun q hq => gr.kid (by rw [ec]; exact List.mem_cons_of_mem _ hq))
        have wK2 : Own 1 kv (((A ++ l' :: r' :: B).map GT.id).map pp).length krb kro ((((A ++ l' :: r' :: B).map GT.id).map pp).flatMap fv) ksp := by rw [ids_pp, hl1', hr1']; exact wK
        obtain ⟨t', ht1, gt, ht2, ht3, ht4⟩ := mk_inner (n := n) (kb := kb) (iso := is') w2 wK2 (by simp; omega) (fun c hc => by
          rcases List.mem_append.1 hc with h | h
          · exact gA c h
          · rcases List.mem_cons.1 h with h | h
            · subst h; exact gl'
            · rcases List.mem_cons.1 h with h | h
              · subst h; exact gr'
              · exact gB c h)
        have fkl : ∀ q ∈ lk, PT.Fl m (m / 2) q.pt := fun q hq => fl0.2.2.2 _ (List.mem_map.2 ⟨q, hq, rfl⟩)
        have fkr : ∀ q ∈ rk, PT.Fl m (m / 2) q.pt := fun q hq => fr0.2.2.2 _ (List.mem_map.2 ⟨q, hq, rfl⟩)
        have hle2 : dl.its.length ≤ dr.its.length := hle
        have hlr2 : (dl.its.length + 1 = m / 2 ∧ m / 2 ≤ dr.its.length) ∨ (m / 2 ≤ dl.its.length ∧ dr.its.length + 1 = m / 2) := hlr
        have hge2 : m ≤ dl.its.length + dr.its.length := hge
        have hfl' : l'.pt.Fl m (m / 2) := by
          rw [hl2']
          refine fl_inner (by show m / 2 ≤ (dl.its ++ [y]).length; simp; omega) (by show (dl.its ++ [y]).length ≤ m; simp; omega) (by show _ = (dl.its ++ [y]).length + 1; simp; omega) fun q hq => ?_
          obtain ⟨x, hx, rfl⟩ := List.mem_map.1 hq
          rcases List.mem_append.1 hx with h | h
          · exact fkl x h
          · rw [List.mem_singleton.1 h]; exact fkr c hcr
        have hfr' : r'.pt.Fl m (m / 2) := by
          rw [hr2']
          refine fl_inner (by omega) (by omega) (by rw [ec] at hrk; simp at hrk; simp; omega) fun q hq => ?_
          obtain ⟨x, hx, rfl⟩ := List.mem_map.1 hq
          exact fkr x (by rw [ec]; exact List.mem_cons_of_mem _ hx)
        have hlI : l'.pt.items = (GT.pt (h := k + 1) (dl, lk)).items ++ y :: c.pt.items := by
          rw [hl2']
          show inter (dl.its ++ [y]) (((lk ++ [c]).map GT.pt).map PT.items) = inter dl.its ((lk.map GT.pt).map PT.items) ++ _
          rw [List.map_append, List.map_append]
          exact inter_snoc _ _ _ _ (by simp; omega)
        have hr'I : r'.pt.items = inter R ((rk'.map GT.pt).map PT.items) := by rw [hr2']; rfl
        refine (fun M => H t' h M (s.perm ?_)) ?_
        rotate_left
        · refine mended_two rfl ht2 (by omega) (by omega) ht1 gt hab hlm hfl' hfr' (by rw [hrI, hlI, hr'I]; simp) hP ⟨by show ¬ dl.its.length + dr.its.length < m; omega, .inr ⟨by show ¬ dr.its.length < dl.its.length; omega, ?_⟩⟩
          rw [hl2', hr2']
          show ((dl.its ++ [y], lk.map GT.pt ++ (rk.map GT.pt).head?.toList), dr.its.head?.getD y, (dr.its.tail, (rk.map GT.pt).tail)) = ((dl.its ++ [y], (lk ++ [c]).map GT.pt), z, (R, rk'.map GT.pt))
          have hR' : dr.its = z :: R := hR
          rw [hR', ec]; simp
        have e1 := M.2.1
        rw [ht2] at e1
        have e1 : ((PT.items (h := k + 2) (P ++ z :: S, (A ++ l' :: r' :: B).map GT.pt)).length : Int) = cnt := by rw [hcn, e1]; rfl
        have e2 : (A ++ l' :: r' :: B).flatMap (GT.all enc) = A.flatMap (GT.all enc) ++ (l'.all enc ++ (r'.all enc ++ B.flatMap (GT.all enc))) := by rw [List.flatMap_append, List.flatMap_cons, List.flatMap_cons]
        have e3 : (PT.items (h := k + 1) ((GT.nd (h := k + 1) (dl, lk)).its ++ [y], (lk ++ [c]).map GT.pt)).length = (GT.pt (h := k + 1) (dl, lk)).items.length + 1 + c.pt.items.length := by
          have := congrArg List.length hlI
          rw [hl2'] at this
          rw [List.length_append, List.length_cons] at this
          exact this.trans (by omega)
        have e4 : (PT.items (h := k + 1) (R, rk'.map GT.pt)).length = (GT.pt (h := k + 1) (dr, rk)).items.length - 1 - c.pt.items.length := by
          show (inter R ((rk'.map GT.pt).map PT.items)).length = _
          omega
        have e5 : rk.flatMap (GT.all enc) = c.all enc ++ rk'.flatMap (GT.all enc) := by rw [ec, List.flatMap_cons]
        have e6 : (lk ++ [c]).flatMap (GT.all enc) = lk.flatMap (GT.all enc) ++ c.all enc := by rw [List.flatMap_append, List.flatMap_singleton]
        rw [ht4, e1, e2, hl4', hr4', ids_pp, hl1', hr1', e6, e3, e4]
        rw [e5]
        ((apply perm_rg; intro f; simp only [List.set_cons_zero, List.set_cons_succ, List.eraseIdx_cons_zero, List.eraseIdx_cons_succ, List.cons_append, List.nil_append, List.map_append, List.map_cons, List.map_nil, List.sum_append, List.sum_cons, List.sum_nil, List.map_flatMap, Nat.add_zero, Nat.zero_add]; ac_rfl))
end Go.Proofs.Ytkkappjbcgnacaa.Ii
end
section
namespace Go.Proofs.Ytkkappjbcgnacaa.Ii
open Go.Hp Go.Proofs.Ytkkappjbcgnacaa
set_option linter.unusedVariables false
set_option linter.unusedSimpArgs false
set_option maxHeartbeats 4000000
variable {h0 h : Heap} {Z E : List Rg} {Q : Value → Heap → Prop}
attribute [local irreducible] load1 loadN store1 storeN fld nilck lenV idx arith cmpI notV extr mkSl app cpy slc ifV

theorem fl_any {m lo lo' : Nat} : ∀ {k : Nat} {t : PT It k}, t.Fl m lo → lo' ≤ t.its.length → t.Fl m lo'
  | 0, _, f, h => ⟨h, f.2⟩
  | _ + 1, _, f, h => ⟨h, f.2⟩
theorem fx_set {m lo i k : Nat} {its : List It} {ks : List (PT It k)} {c : PT It k} (f : PT.Fl m lo (h := k + 1) (its, ks)) (fc : c.Fl m (m / 2 - 1)) (its' : List It) (hl : its'.length = its.length) : PT.Fx m lo i ((its', ks.set i c) : PT It (k + 1)) := by
  obtain ⟨f1, f2, f3, f4⟩ := f
  refine ⟨by show lo ≤ its'.length; rw [hl]; exact f1, by show its'.length ≤ m; rw [hl]; exact f2, by show (ks.set i c).length = its'.length + 1; rw [hl, List.length_set]; exact f3, fun j q hq => ?_⟩
  have hq : (ks.set i c)[j]? = some q := hq
  rw [List.getElem?_set] at hq
  by_cases e : i = j
  · subst e
    rw [if_pos rfl] at hq ⊢
    split at hq
    · cases hq; exact fc
    · cases hq
  · rw [if_neg e] at hq
    rw [if_neg (fun h => e h.symm)]
    exact f4 q (List.mem_of_getElem? hq)
theorem topI : ∀ {k : Nat} {t : GT It k}, ∃ a1 a2 a3, (t.id, 0, [a1, a2, t.nd.iv, a3]) ∈ t.all enc
  | 0, d => ⟨_, _, _, List.mem_cons_self ..⟩
  | _ + 1, t => ⟨_, _, _, List.mem_append.2 (.inl (List.mem_cons_self ..))⟩

theorem rebalance_ok {tb m i lo : Nat} {iso mn : Int} {ctr : Option Addr} (hT0 : (tb, 0, hd0 iso ctr) ∈ Z) (hT4 : (tb, 4, hd4 mn m) ∈ Z) (hm3 : 3 ≤ m) (hm1 : m ≤ 1024) (ho : m % 2 = 1) {k : Nat} (t : GT It (k + 1))
    (fx : t.pt.Fx m lo i) (h1 : 1 ≤ t.pt.1.length) (hi : i ≤ t.pt.1.length) (hdef : ∀ c, t.pt.2[i]? = some c → c.its.length + 1 = m / 2)
    (hsz : t.pt.items.length ≤ 4611686018427387903) (g : Gd iso t) (s : St h0 Z (t.all enc ++ E) h)
    (H : ∀ (t' : GT It (k + 1)) h', Mended iso m (if i = t.pt.1.length then i - 1 else i) t t' → St h0 Z (t'.all enc ++ E) h' → Q (.tuple #[]) h') : Map_ii_nodeRebalance.call #[ptr tb 0, ptr t.id 0, .int .i64 i] h Q := by
  obtain ⟨f1, f2, f3, f4⟩ := fx
  have hall : ∀ c ∈ t.pt.2, PT.Fl m (m / 2 - 1) c := fun c hc => by
    obtain ⟨j, hj⟩ := List.getElem?_of_mem hc
    have := f4 j c hj
    split at this
    · exact this
    · exact this.mono (by omega)
  refine Map_ii_nodeRebalance.body _ _ _ _ _ ?_
  unfold Map_ii_nodeRebalance.sh
  have main : ∀ j, j < t.pt.1.length → (j = i ∨ j + 1 = i) → j = (if i = t.pt.1.length then i - 1 else i) → Map_ii_nodeRebalance.j1 (ptr tb 0) (ptr t.id 0) (.int .i64 j) h Q := fun j hj hij hje => by
    rw [← hje] at H
    refine rebalance_j hT0 hT4 hm3 hm1 ho t f2 hj hall (fun c c' hc hc' => ?_) (fun q c hc n1 n2 => ?_) hsz g s H
    · rcases hij with e | e
      · subst e
        refine .inl ⟨hdef c hc, ?_⟩
        have := f4 (j + 1) c' hc'
        rw [if_neg (by omega)] at this; exact this
      · refine .inr ⟨?_, hdef c' (e ▸ hc')⟩
        have := f4 j c hc
        rw [if_neg (by omega)] at this; exact this
    · have := f4 q c hc
      rw [if_neg (by omega)] at this; exact this
  have w : Own 2 t.nd.iv t.nd.its.length t.nd.ib t.nd.io (t.nd.its.flatMap enc) t.nd.isp := g.own
  have hil : t.pt.1.length = t.nd.its.length := rfl
  have s2 := s
  rw [all_eq] at s2
  have s := s2
  have s : St h0 Z ((t.id, 0, [.int .u64 t.nd.iso, .int .i64 t.nd.cnt, t.nd.iv, GT.kp t]) :: (t.nd.ib, t.nd.io, t.nd.its.flatMap enc ++ t.nd.isp) :: (GT.rest t ++ E)) h := s
  refine r_nil ?_
  refine r_fld ?_
  refine St.r_load0 s 0 rfl rfl ?_
  refine Own.lenV (by assumption) ?_
  refine r_cmpI ?_
  refine r_if (fun he => ?_) (fun hn => ?_)
  · have he : i = t.nd.its.length := by simp at he; omega
    refine r_sub1 (by omega) (by omega) ?_
    refine main (i - 1) (by omega) (.inr (by omega)) (by rw [if_pos (by omega)])
  · have hn : i ≠ t.nd.its.length := by simp at hn; omega
    exact main i (by omega) (.inl rfl) (by rw [if_neg (by omega)])

theorem del_after {tb m i lo n ib io kb krb kro t8 t14 pb po : Nat} {iso mn : Int} {ctr : Option Addr} {its : List It} {iv kv : Value} {isp ksp : List Value} {y z8 : It} (hT0 : (tb, 0, hd0 iso ctr) ∈ Z) (hT4 : (tb, 4, hd4 mn m) ∈ Z) (hmn : mn = ((m / 2 : Nat) : Int)) (hm3 : 3 ≤ m) (hm1 : m ≤ 1024) (ho : m % 2 = 1) {k : Nat} {ts : List (GT It k)}
    (w : Own 2 iv its.length ib io (its.flatMap enc) isp) (wK : Own 1 kv ((ts.map GT.id).map pp).length krb kro (((ts.map GT.id).map pp).flatMap fv) ksp) (gk : ∀ c ∈ ts, Gd iso c)
    (fx : PT.Fx m lo i ((its, ts.map GT.pt) : PT It (k + 1))) (h1 : 1 ≤ its.length) (hi : i ≤ its.length) (hsz : (PT.items (h := k + 1) (its, ts.map GT.pt)).length ≤ 4611686018427387903)
    (s : St h0 Z ((t14, 0, enc y) :: (t8, 0, enc z8) :: (pb, po, [ptr n 0]) :: (n, 0, [.int .u64 iso, .int .i64 (((PT.items (h := k + 1) (its, ts.map GT.pt)).length + 1 : Nat) : Int), iv, ptr kb 0]) :: (ib, io, its.flatMap enc ++ isp) :: (kb, 0, [kv]) :: (krb, kro, ((ts.map GT.id).map pp).flatMap fv ++ ksp) :: (ts.flatMap (GT.all enc) ++ E)) h)
    (H : ∀ (t' : GT It (k + 1)) h', t'.id = n → t'.pt.items = PT.items (h := k + 1) (its, ts.map GT.pt) → t'.pt.Fl m (its.length - 1) → Gd iso t' → St h0 Z ((pb, po, [ptr n 0]) :: (t'.all enc ++ E)) h' → Q (.tuple #[.agg (enc y).toArray, .bool true]) h') :
    Map_ii_delete.j4 (ptr tb 0) (ptr t8 0) (ptr n 0) (.int .i64 i) (ptr t14 0) h Q := by
  have hkl : ts.length = its.length + 1 := by have := fx.2.2.1; simpa using this
  have hlm : its.length ≤ m := fx.2.1
  have hKl : ((ts.map GT.id).map pp).length = ts.length := by rw [List.length_map, List.length_map]
  obtain ⟨c, hc⟩ : ∃ c, ts[i]? = some c := ⟨ts[i]'(by omega), List.getElem?_eq_getElem (by omega)⟩
  have hcm := List.mem_of_getElem? hc
  have gc := gk c hcm
  have hck : ((ts.map GT.id).map pp)[i]? = some (ptr c.id 0) := by rw [List.getElem?_map, List.getElem?_map, hc]; rfl
  have hcp : (ts.map GT.pt)[i]? = some c.pt := by rw [List.getElem?_map, hc]; rfl
  have fc : PT.Fl m (m / 2 - 1) c.pt := by have := fx.2.2.2 i c.pt hcp; rw [if_pos rfl] at this; exact this
  have hcl : c.nd.its.length ≤ m := (fl_its fc).2
  have hcl1 : m / 2 - 1 ≤ c.nd.its.length := (fl_its fc).1
  obtain ⟨a1, a2, a3, hct⟩ := topI (t := c)
  have wc := gc.own
  have hct' : (c.id, 0, [a1, a2, c.nd.iv, a3]) ∈ ts.flatMap (GT.all enc) := List.mem_flatMap.2 ⟨c, hcm, hct⟩
  obtain ⟨t0, ht1, gt, ht2, ht3, ht4⟩ := mk_inner (n := n) (kb := kb) (iso := iso) w wK hkl gk
  subst hmn
  unfold Map_ii_delete.j4
  refine r_nil ?_
  refine r_fld ?_
  refine St.r_load0 s 3 rfl rfl ?_
  refine r_sub1 (by omega) (by omega) ?_
  refine r_nil ?_
  refine r_fld ?_
  (refine St.r_store0 s 3 rfl (by simp) rfl ?_; intro h s; try simp only [List.set_cons_zero, List.set_cons_succ] at s)
  refine r_nil ?_
  refine r_fld ?_
  refine St.r_load0 s 3 rfl rfl ?_
  refine r_nil ?_
  refine St.r_load0 s 5 rfl rfl ?_
  (refine Own.idx (by assumption) rfl (by first | omega | (simp; done) | (simp; omega)) ?_)
  refine s.r_loadV 6 rfl (by assumption) ?_
  refine r_nil ?_
  refine r_fld ?_
  refine s.r_loadD 7 (List.mem_append.2 (.inl hct')) rfl ?_
  refine Own.lenV (by assumption) ?_
  refine r_nil ?_
  refine r_fld ?_
  refine s.r_lz hT4 2 rfl rfl ?_
  refine r_cmpI ?_
  refine r_if (fun hlt => ?_) (fun hge => ?_)
  · have hlt : c.nd.its.length < m / 2 := by have := of_decide_eq_true hlt; omega
    have s0 : St h0 Z (t0.all enc ++ ((t14, 0, enc y) :: (t8, 0, enc z8) :: (pb, po, [ptr n 0]) :: E)) h := s.perm (by rw [ht4]; simp only [Nat.add_sub_cancel]; ((apply perm_rg; intro f; simp only [List.set_cons_zero, List.set_cons_succ, List.eraseIdx_cons_zero, List.eraseIdx_cons_succ, List.cons_append, List.nil_append, List.map_append, List.map_cons, List.map_nil, List.sum_append, List.sum_cons, List.sum_nil, List.map_flatMap, Nat.add_zero, Nat.zero_add]; ac_rfl)))
    rw [← ht1]
    refine rebalance_ok hT0 hT4 hm3 hm1 ho t0 (by rw [ht2]; exact fx) (by rw [ht2]; exact h1) (by rw [ht2]; exact hi) (fun q hq => ?_) (by rw [ht2]; exact hsz) gt s0 fun t' h M s => ?_
    · rw [ht2] at hq
      have : q = c.pt := Option.some.inj (hq.symm.trans hcp)
      rw [this, GT.pt_its]; omega
    · obtain ⟨M1, M2, M3, M4, _⟩ := M
      have s : St h0 Z ((t14, 0, enc y) :: (t8, 0, enc z8) :: (pb, po, [ptr n 0]) :: (t'.all enc ++ E)) h := s.perm (by ((apply perm_rg; intro f; simp only [List.set_cons_zero, List.set_cons_succ, List.eraseIdx_cons_zero, List.eraseIdx_cons_succ, List.cons_append, List.nil_append, List.map_append, List.map_cons, List.map_nil, List.sum_append, List.sum_cons, List.sum_nil, List.map_flatMap, Nat.add_zero, Nat.zero_add]; ac_rfl)))
      unfold Map_ii_delete.j5
      refine St.r_loadN0 s 0 rfl (by simp) ?_
      (refine St.r_storeN0 s 1 rfl rfl (by simp) (enc1 _) ?_; intro h s; try simp only [List.set_cons_zero, List.set_cons_succ] at s)
      refine St.r_loadN0 s 1 rfl (by simp) ?_
      rw [ht2] at M2 M3
      exact H t' h (M1.trans ht1) M2 M3 M4 (s.drop 2)
  · have hge : m / 2 ≤ c.nd.its.length := by have := of_decide_eq_false hge; omega
    unfold Map_ii_delete.j5
    refine St.r_loadN0 s 0 rfl (by simp) ?_
    (refine St.r_storeN0 s 1 rfl rfl (by simp) (enc1 _) ?_; intro h s; try simp only [List.set_cons_zero, List.set_cons_succ] at s)
    refine St.r_loadN0 s 1 rfl (by simp) ?_
    refine H t0 h ht1 (by rw [ht2]) ?_ gt ((s.perm (E' := (t14, 0, enc y) :: (t8, 0, enc y) :: ((pb, po, [ptr n 0]) :: (t0.all enc ++ E))) ?_).drop 2)
    · rw [ht2]
      refine fl_inner (by omega) hlm (by rw [List.length_map]; exact hkl) fun q hq => ?_
      obtain ⟨j, hj⟩ := List.getElem?_of_mem hq
      have := fx.2.2.2 j q hj
      split at this
      · rename_i e; subst e
        have : q = c.pt := Option.some.inj (hj.symm.trans hcp)
        rw [this]; exact fl_any fc (by rw [GT.pt_its]; exact hge)
      · exact this
    · rw [ht4]; simp only [Nat.add_sub_cancel]; ((apply perm_rg; intro f; simp only [List.set_cons_zero, List.set_cons_succ, List.eraseIdx_cons_zero, List.eraseIdx_cons_succ, List.cons_append, List.nil_append, List.map_append, List.map_cons, List.map_nil, List.sum_append, List.sum_cons, List.sum_nil, List.map_flatMap, Nat.add_zero, Nat.zero_add]; ac_rfl))
end Go.Proofs.Ytkkappjbcgnacaa.Ii
end
section
namespace Go.Proofs.Ytkkappjbcgnacaa
open Go.Hp
set_option linter.unusedVariables false
set_option linter.unusedSimpArgs false
theorem degree_ok {h : Heap} {Q : Value → Heap → Prop} {d : Int} (h1 : 2 ≤ d) (h2 : d ≤ 1073741824) (H : Q (.tuple #[.int .i64 (d - 1), .int .i64 (2 * d - 1)]) h) : degreeToMinMax.call #[.int .i64 d] h Q := by
  refine degreeToMinMax.body _ _ _ ?_
  unfold degreeToMinMax.sh
  simp only [w_load1, w_loadN, w_nil, w_fld, w_idx, w_len, w_lenStr, w_cap, w_arith, w_divi, w_remi, w_cmpI, w_cmpS, w_not, w_ext, w_eqNilP, w_neNilP, w_eqB, w_pick, w_max, w_ifV, w_br, w_store1, w_storeN, w_alloc, w_box, add_mk, Nat.zero_add, Nat.add_zero, Option.some.injEq, exists_eq_left', List.getElem?_cons_zero, List.getElem?_cons_succ, List.getD_cons_zero, List.getD_cons_succ]
  refine ⟨fun e => absurd e (by simp; omega), fun _ => ⟨fun e => absurd e (by simp; omega), fun _ => ?_⟩⟩
  unfold degreeToMinMax.j1
  simp only [w_load1, w_loadN, w_nil, w_fld, w_idx, w_len, w_lenStr, w_cap, w_arith, w_divi, w_remi, w_cmpI, w_cmpS, w_not, w_ext, w_eqNilP, w_neNilP, w_eqB, w_pick, w_max, w_ifV, w_br, w_store1, w_storeN, w_alloc, w_box, add_mk, Nat.zero_add, Nat.add_zero, Option.some.injEq, exists_eq_left', List.getElem?_cons_zero, List.getElem?_cons_succ, List.getD_cons_zero, List.getD_cons_succ]
  rw [i64w (n := d * 2) (by omega) (by omega), i64w (n := d * 2 - 1) (by omega) (by omega)]
  have hd : (d * 2 - 1).tdiv 2 = d - 1 := by rw [Int.tdiv_eq_ediv_of_nonneg (by omega)]; omega
  rw [hd, i64w (n := d - 1) (by omega) (by omega), show d * 2 - 1 = 2 * d - 1 by omega]
  exact ⟨by decide, H⟩
end Go.Proofs.Ytkkappjbcgnacaa
end
section
namespace Go.Proofs.Ytkkappjbcgnacaa.Ii
open Go.Hp Go.Proofs.Ytkkappjbcgnacaa
set_option linter.unusedVariables false
set_option linter.unusedSimpArgs false
variable {h0 h : Heap} {Z E : List Rg} {Q : Value → Heap → Prop}

structure MapOk (m : Nat) (iso : Int) (g : Rt) : Prop where
  gd : rGd iso g
  fl : (rPt g).Fl m
  asc : Asc lt (rPt g).items
  m3 : 3 ≤ m
  m1 : m ≤ 1024
  odd : m % 2 = 1
theorem MapOk.none {m : Nat} {iso : Int} (m3 : 3 ≤ m) (m1 : m ≤ 1024) (odd : m % 2 = 1) : MapOk m iso none := ⟨trivial, trivial, List.Pairwise.nil, m3, m1, odd⟩

theorem init_skip {tb : Nat} {d iso cnt mn mx : Int} {ctr root : Option Addr} (s : St h0 Z ((tb, 0, hdr iso ctr root cnt mn mx) :: E) h) (hmn : mn ≠ 0) (H : Q (.tuple #[]) h) : Map_ii_init.call #[ptr tb 0, .int .i64 d] h Q := by
  refine Map_ii_init.body _ _ _ _ ?_
  unfold Map_ii_init.sh
  refine r_nil ?_
  refine r_fld ?_
  refine St.r_load0 s 0 rfl rfl ?_
  refine r_cmpI ?_
  exact r_if (fun _ => H) (fun e => absurd e (by simpa using hmn))
theorem init_set {tb : Nat} {d a b iso cnt : Int} {ctr root : Option Addr} (s : St h0 Z ((tb, 0, hdr iso ctr root cnt 0 0) :: E) h) (hd : ∀ {h : Heap} {Q : Value → Heap → Prop}, Q (.tuple #[.int .i64 a, .int .i64 b]) h → degreeToMinMax.call #[.int .i64 d] h Q)
    (H : ∀ h', St h0 Z ((tb, 0, hdr iso ctr root cnt a b) :: E) h' → Q (.tuple #[]) h') : Map_ii_init.call #[ptr tb 0, .int .i64 d] h Q := by
  refine Map_ii_init.body _ _ _ _ ?_
  unfold Map_ii_init.sh
  refine r_nil ?_
  refine r_fld ?_
  refine St.r_load0 s 0 rfl rfl ?_
  refine r_cmpI ?_
  refine r_if (fun e => absurd e (by decide)) (fun _ => ?_)
  unfold Map_ii_init.j1
  refine hd ?_
  refine r_ext rfl ?_
  refine r_ext rfl ?_
  refine r_nil ?_
  refine r_fld ?_
  refine St.r_store0 s 0 rfl (by simp) rfl ?_
  intro h s
  try simp only [List.set_cons_zero, List.set_cons_succ] at s
  refine r_nil ?_
  refine r_fld ?_
  refine St.r_store0 s 0 rfl (by simp) rfl ?_
  intro h s
  try simp only [List.set_cons_zero, List.set_cons_succ] at s
  refine r_nil ?_
  refine r_fld ?_
  refine r_fld ?_
  refine St.r_load0 s 0 rfl rfl ?_
  refine r_ext rfl ?_
  refine r_ext rfl ?_
  refine r_nil ?_
  refine r_fld ?_
  refine St.r_store0 s 0 rfl (by simp) rfl ?_
  intro h s
  try simp only [List.set_cons_zero, List.set_cons_succ] at s
  refine r_nil ?_
  refine r_fld ?_
  refine St.r_load0 s 0 rfl rfl ?_
  refine r_not ?_
  refine r_if (fun _ => ?_) (fun e => absurd e (by decide))
  refine r_nil ?_
  refine r_fld ?_
  refine r_fld ?_
  refine St.r_load0 s 0 rfl rfl ?_
  refine r_ext rfl ?_
  refine r_ext rfl ?_
  refine r_nil ?_
  refine r_fld ?_
  refine St.r_store0 s 0 rfl (by simp) rfl ?_
  intro h s
  try simp only [List.set_cons_zero, List.set_cons_succ] at s
  exact H _ s

/-- The first item of a map. -/
theorem Set_first {tb : Nat} {iso mn mx mn' mx' : Int} {ctr : Option Addr} {x : It} (s : St h0 Z ((tb, 0, hdr iso ctr none 0 mn mx) :: E) h)
    (hin : ∀ {E : List Rg} {h : Heap} {Q : Value → Heap → Prop}, St h0 Z ((tb, 0, hdr iso ctr none 0 mn mx) :: E) h → (∀ h', St h0 Z ((tb, 0, hdr iso ctr none 0 mn' mx') :: E) h' → Q (.tuple #[]) h') → Map_ii_init.call #[ptr tb 0, .int .i64 0] h Q)
    (H : ∀ (t : GT It 0) h', t.pt = ([x] : List It) → Gd iso t → St h0 Z ((tb, 0, hdr iso ctr (some ⟨t.id, 0, none⟩) 1 mn' mx') :: (t.all enc ++ E)) h' → Q (.tuple #[old none, .bool false]) h') :
    Map_ii_Set.call #[ptr tb 0, kv x.1, vv x.2] h Q := by
  refine Map_ii_Set.body _ _ _ _ _ ?_
  unfold Map_ii_Set.sh
  (apply r_build; (simp only [fillV, fill1, Value.cells, zeros_succ, zeros_zero, List.size_toArray, List.length_cons, List.length_nil, List.length_append, List.take_succ_cons, List.take_zero, List.take_nil, List.drop_succ_cons, List.drop_zero, List.drop_nil, List.cons_append, List.nil_append, List.append_nil, Nat.reduceAdd, Nat.reduceMul, Nat.reduceLeDiff, Nat.reduceEqDiff, and_self, and_true, true_and, if_true, Nat.le_refl, Nat.zero_add, Nat.add_zero, Nat.zero_mul, reduceIte, if_false] <;> rfl))
  refine s.r_alloc fun t8 h s => ?_
  refine St.r_storeN0 s 0 rfl rfl (by simp) (enc1 x) ?_; intro h s
  refine r_nil ?_
  refine r_fld ?_
  refine St.r_load0 s 1 rfl rfl ?_
  refine r_eqNilP ?_
  refine r_if (fun _ => ?_) (fun e => absurd e (by simp))
  refine hin (s.front 1 rfl) fun h s => ?_
  refine newNode_leaf (iso := iso) (by have := s.get (k := 0) (j := 0) rfl (by simp); simpa using this) fun n h s1 => ?_
  have s := s.join s1
  have s : St h0 Z ((n, 0, [.int .u64 iso, .int .i64 0, .slice none 0 0, .pointer none]) :: (tb, 0, hdr iso ctr none 0 mn' mx') :: (t8, 0, enc x) :: E) h := s
  refine r_nil ?_
  refine r_fld ?_
  refine St.r_store0 s 1 rfl (by simp) rfl ?_
  intro h s
  try simp only [List.set_cons_zero, List.set_cons_succ] at s
  refine r_nil ?_
  refine r_fld ?_
  refine St.r_load0 s 1 rfl rfl ?_
  refine St.r_loadN0 s 2 rfl (by simp) ?_
  have fin : ∀ {iv : Value} {ib io : Nat} {isp : List Value} {h : Heap}, Own 2 iv 1 ib io (enc x) isp →
      St h0 Z ((n, 0, [.int .u64 iso, .int .i64 0, iv, .pointer none]) :: (tb, 0, hdr iso ctr (some ⟨n, 0, none⟩) 0 mn' mx') :: (ib, io, enc x ++ isp) :: (t8, 0, enc x) :: E) h →
      (nilck (ptr tb 0) fun t41 => fld 2 t41 fun t42 => load1 t42 h fun t43 => nilck t43 fun t44 => fld 1 t44 fun t45 => store1 t45 (.int .i64 1) h fun h => nilck (ptr tb 0) fun t47 => fld 3 t47 fun t48 => store1 t48 (.int .i64 1) h fun h =>
        nilck (ptr tb 0) fun t50 => fld 4 t50 fun t51 =>
        fld 0 t51 fun t52 => load1 t52 h fun t53 => Q (.tuple #[t53, (.bool false)]) h) := by
    intro iv ib io isp h wi s
    refine r_nil ?_
    refine r_fld ?_
    refine St.r_load0 s 1 rfl rfl ?_
    refine r_nil ?_
    refine r_fld ?_
    refine St.r_store0 s 0 rfl (by simp) rfl ?_
    intro h s
    try simp only [List.set_cons_zero, List.set_cons_succ] at s
    refine r_nil ?_
    refine r_fld ?_
    refine St.r_store0 s 1 rfl (by simp) rfl ?_
    intro h s
    try simp only [List.set_cons_zero, List.set_cons_succ] at s
    refine r_nil ?_
    refine r_fld ?_
    refine r_fld ?_
    refine St.r_load0 s 1 rfl rfl ?_
    exact H (⟨true, n, iso, 1, [x], iv, ib, io, isp, 0, .pointer none, 0, 0, []⟩ : Nd It) h rfl (Gd.leaf (by show Own 2 iv [x].length ib io ([x].flatMap enc) isp; simpa using wi) rfl rfl rfl)
      ((s.perm (E' := (t8, 0, enc x) :: (tb, 0, hdr iso ctr (some ⟨n, 0, none⟩) 1 mn' mx') :: (n, 0, [.int .u64 iso, .int .i64 1, iv, .pointer none]) :: (ib, io, [x].flatMap enc ++ isp) :: E) (by rw [List.flatMap_singleton]; ((apply perm_rg; intro f; simp only [List.set_cons_zero, List.set_cons_succ, List.eraseIdx_cons_zero, List.eraseIdx_cons_succ, List.cons_append, List.nil_append, List.map_append, List.map_cons, List.map_nil, List.sum_append, List.sum_cons, List.sum_nil, List.map_flatMap, Nat.add_zero, Nat.zero_add]; ac_rfl)))).drop 1)
  constructor
  · refine St.r_mkSl (sz := 2) (cs := []) s (by ((simp only [fillV, fill1, Value.cells, zeros_succ, zeros_zero, List.size_toArray, List.length_cons, List.length_nil, List.length_append, List.take_succ_cons, List.take_zero, List.take_nil, List.drop_succ_cons, List.drop_zero, List.drop_nil, List.cons_append, List.nil_append, List.append_nil, Nat.reduceAdd, Nat.reduceMul, Nat.reduceLeDiff, Nat.reduceEqDiff, and_self, and_true, true_and, if_true, Nat.le_refl, Nat.zero_add, Nat.add_zero, Nat.zero_mul, reduceIte, if_false] <;> rfl))) rfl fun q1 h s w1 => ?_
    refine ⟨by (first | exact St.r_still0 s 0 rfl rfl | exact St.r_still0 s 1 rfl rfl | exact St.r_still0 s 2 rfl rfl | exact St.r_still0 s 3 rfl rfl | exact St.r_still0 s 4 rfl rfl | exact St.r_still0 s 5 rfl rfl | exact St.r_still0 s 6 rfl rfl), St.r_stillN0 s 3 rfl (by simp) rfl, ?_⟩
    refine St.r_mkSl (sz := 2) (cs := enc x) s (by ((simp only [fillV, fill1, Value.cells, zeros_succ, zeros_zero, List.size_toArray, List.length_cons, List.length_nil, List.length_append, List.take_succ_cons, List.take_zero, List.take_nil, List.drop_succ_cons, List.drop_zero, List.drop_nil, List.cons_append, List.nil_append, List.append_nil, Nat.reduceAdd, Nat.reduceMul, Nat.reduceLeDiff, Nat.reduceEqDiff, and_self, and_true, true_and, if_true, Nat.le_refl, Nat.zero_add, Nat.add_zero, Nat.zero_mul, reduceIte, if_false] <;> rfl))) rfl fun q2 h s w2 => ?_
    refine ⟨by (first | exact St.r_still0 s 0 rfl rfl | exact St.r_still0 s 1 rfl rfl | exact St.r_still0 s 2 rfl rfl | exact St.r_still0 s 3 rfl rfl | exact St.r_still0 s 4 rfl rfl | exact St.r_still0 s 5 rfl rfl | exact St.r_still0 s 6 rfl rfl), ?_⟩
    refine St.r_app s 1 (sz := 2) (n := 1) (new := enc x) rfl w1 rfl (w2.rdl s 0 rfl) (enc1 _) (by omega) (by omega) fun iv ib io isp h s wi => ?_
    refine ⟨by (first | exact St.r_still0 s 0 rfl rfl | exact St.r_still0 s 1 rfl rfl | exact St.r_still0 s 2 rfl rfl | exact St.r_still0 s 3 rfl rfl | exact St.r_still0 s 4 rfl rfl | exact St.r_still0 s 5 rfl rfl | exact St.r_still0 s 6 rfl rfl), ?_⟩
    refine r_nil ?_
    refine r_fld ?_
    refine St.r_store0 s 2 rfl (by simp) wi.one ?_; intro h s
    exact fin wi ((s.perm (E' := (q2, 0, enc x ++ []) :: _) (by simp; ((apply perm_rg; intro f; simp only [List.set_cons_zero, List.set_cons_succ, List.eraseIdx_cons_zero, List.eraseIdx_cons_succ, List.cons_append, List.nil_append, List.map_append, List.map_cons, List.map_nil, List.sum_append, List.sum_cons, List.sum_nil, List.map_flatMap, Nat.add_zero, Nat.zero_add]; ac_rfl)))).drop 1)
  · refine St.r_mkSl (sz := 2) (cs := enc x) s (by ((simp only [fillV, fill1, Value.cells, zeros_succ, zeros_zero, List.size_toArray, List.length_cons, List.length_nil, List.length_append, List.take_succ_cons, List.take_zero, List.take_nil, List.drop_succ_cons, List.drop_zero, List.drop_nil, List.cons_append, List.nil_append, List.append_nil, Nat.reduceAdd, Nat.reduceMul, Nat.reduceLeDiff, Nat.reduceEqDiff, and_self, and_true, true_and, if_true, Nat.le_refl, Nat.zero_add, Nat.add_zero, Nat.zero_mul, reduceIte, if_false] <;> rfl))) rfl fun q2 h s w2 => ?_
    refine ⟨by (first | exact St.r_still0 s 0 rfl rfl | exact St.r_still0 s 1 rfl rfl | exact St.r_still0 s 2 rfl rfl | exact St.r_still0 s 3 rfl rfl | exact St.r_still0 s 4 rfl rfl | exact St.r_still0 s 5 rfl rfl | exact St.r_still0 s 6 rfl rfl), ?_⟩
    refine St.r_mkSl (sz := 2) (cs := []) s (by ((simp only [fillV, fill1, Value.cells, zeros_succ, zeros_zero, List.size_toArray, List.length_cons, List.length_nil, List.length_append, List.take_succ_cons, List.take_zero, List.take_nil, List.drop_succ_cons, List.drop_zero, List.drop_nil, List.cons_append, List.nil_append, List.append_nil, Nat.reduceAdd, Nat.reduceMul, Nat.reduceLeDiff, Nat.reduceEqDiff, and_self, and_true, true_and, if_true, Nat.le_refl, Nat.zero_add, Nat.add_zero, Nat.zero_mul, reduceIte, if_false] <;> rfl))) rfl fun q1 h s w1 => ?_
    refine ⟨by (first | exact St.r_still0 s 0 rfl rfl | exact St.r_still0 s 1 rfl rfl | exact St.r_still0 s 2 rfl rfl | exact St.r_still0 s 3 rfl rfl | exact St.r_still0 s 4 rfl rfl | exact St.r_still0 s 5 rfl rfl | exact St.r_still0 s 6 rfl rfl), ?_⟩
    refine St.r_app s 0 (sz := 2) (n := 1) (new := enc x) rfl w1 rfl (w2.rdl s 1 rfl) (enc1 _) (by omega) (by omega) fun iv ib io isp h s wi => ?_
    refine ⟨by (first | exact St.r_still0 s 0 rfl rfl | exact St.r_still0 s 1 rfl rfl | exact St.r_still0 s 2 rfl rfl | exact St.r_still0 s 3 rfl rfl | exact St.r_still0 s 4 rfl rfl | exact St.r_still0 s 5 rfl rfl | exact St.r_still0 s 6 rfl rfl), ?_⟩
    refine r_nil ?_
    refine r_fld ?_
    refine St.r_store0 s 2 rfl (by simp) wi.one ?_; intro h s
    exact fin wi ((s.perm (E' := (q2, 0, enc x ++ []) :: _) (by simp; ((apply perm_rg; intro f; simp only [List.set_cons_zero, List.set_cons_succ, List.eraseIdx_cons_zero, List.eraseIdx_cons_succ, List.cons_append, List.nil_append, List.map_append, List.map_cons, List.map_nil, List.sum_append, List.sum_cons, List.sum_nil, List.map_flatMap, Nat.add_zero, Nat.zero_add]; ac_rfl)))).drop 1)

/-- A map's head in parts. -/
theorem hdr_cut {tb : Nat} {iso cnt mn mx : Int} {ctr root : Option Addr} (s : St h0 Z ((tb, 0, hdr iso ctr root cnt mn mx) :: E) h) : St h0 Z ((tb, 0, hd0 iso ctr) :: (tb, 4, hd4 mn mx) :: (tb, 2, [.pointer root]) :: (tb, 3, [.int .i64 cnt]) :: E) h := by
  have s1 : St h0 Z ((tb, 0, hd0 iso ctr ++ ([.pointer root] ++ ([.int .i64 cnt] ++ hd4 mn mx))) :: E) h := s
  have s2 := s1.cut
  have s3 := (s2.front 1 rfl).cut
  have s4 := (s3.front 1 rfl).cut
  exact s4.perm (E' := (tb, 0, hd0 iso ctr) :: (tb, 4, hd4 mn mx) :: (tb, 2, [.pointer root]) :: (tb, 3, [.int .i64 cnt]) :: E) (by
    show ((tb, 0, hd0 iso ctr) :: (tb, 4, hd4 mn mx) :: (tb, 2, [.pointer root]) :: (tb, 3, [.int .i64 cnt]) :: E).Perm ((tb, 3, [.int .i64 cnt]) :: (tb, 4, hd4 mn mx) :: (tb, 2, [.pointer root]) :: (tb, 0, hd0 iso ctr) :: E)
    ((apply perm_rg; intro f; simp only [List.set_cons_zero, List.set_cons_succ, List.eraseIdx_cons_zero, List.eraseIdx_cons_succ, List.cons_append, List.nil_append, List.map_append, List.map_cons, List.map_nil, List.sum_append, List.sum_cons, List.sum_nil, List.map_flatMap, Nat.add_zero, Nat.zero_add]; ac_rfl)))
theorem hdr_glue {tb : Nat} {iso cnt mn mx : Int} {ctr root : Option Addr} (s : St h0 Z ((tb, 0, hd0 iso ctr) :: (tb, 4, hd4 mn mx) :: (tb, 2, [.pointer root]) :: (tb, 3, [.int .i64 cnt]) :: E) h) : St h0 Z ((tb, 0, hdr iso ctr root cnt mn mx) :: E) h := by
  have s1 : St h0 Z ((tb, 3, [.int .i64 cnt]) :: (tb, 3 + [Value.int .i64 cnt].length, hd4 mn mx) :: (tb, 2, [.pointer root]) :: (tb, 0, hd0 iso ctr) :: E) h := s.perm (by
    show ((tb, 3, [.int .i64 cnt]) :: (tb, 4, hd4 mn mx) :: (tb, 2, [.pointer root]) :: (tb, 0, hd0 iso ctr) :: E).Perm _
    ((apply perm_rg; intro f; simp only [List.set_cons_zero, List.set_cons_succ, List.eraseIdx_cons_zero, List.eraseIdx_cons_succ, List.cons_append, List.nil_append, List.map_append, List.map_cons, List.map_nil, List.sum_append, List.sum_cons, List.sum_nil, List.map_flatMap, Nat.add_zero, Nat.zero_add]; ac_rfl)))
  have s2 := s1.glue
  have s3 : St h0 Z ((tb, 2, [.pointer root]) :: (tb, 2 + [Value.pointer root].length, [.int .i64 cnt] ++ hd4 mn mx) :: (tb, 0, hd0 iso ctr) :: E) h := s2.perm (by
    show ((tb, 2, [.pointer root]) :: (tb, 3, [.int .i64 cnt] ++ hd4 mn mx) :: (tb, 0, hd0 iso ctr) :: E).Perm _
    exact List.Perm.swap _ _ _)
  have s4 := s3.glue
  have s5 : St h0 Z ((tb, 0, hd0 iso ctr) :: (tb, 0 + (hd0 iso ctr).length, [.pointer root] ++ ([.int .i64 cnt] ++ hd4 mn mx)) :: E) h := s4.perm (by
    show ((tb, 0, hd0 iso ctr) :: (tb, 2, [.pointer root] ++ ([.int .i64 cnt] ++ hd4 mn mx)) :: E).Perm _
    exact List.Perm.swap _ _ _)
  exact s5.glue

theorem Set_ok {tb m : Nat} {iso mn : Int} {ctr : Option Addr} {g : Rt} {x : It} (M : MapOk m iso g) (hmn : mn ≠ 0) (hsz : (rPt g).items.length ≤ 4611686018427387903) (s : St h0 Z ((tb, 0, hdr iso ctr (rA g) (rPt g).items.length mn m) :: (rAll g ++ E)) h)
    (H : ∀ (g' : Rt) h', rPt g' = (rPt g).set lt m x → MapOk m iso g' → St h0 Z ((tb, 0, hdr iso ctr (rA g') (rPt g').items.length mn m) :: (rAll g' ++ E)) h' → Q (.tuple #[old (lget lt (rPt g).items x), .bool (lget lt (rPt g).items x).isSome]) h') :
    Map_ii_Set.call #[ptr tb 0, kv x.1, vv x.2] h Q := by
  have key : ∀ g' : Rt, rPt g' = (rPt g).set lt m x → rGd iso g' → MapOk m iso g' := fun g' e gd => by
    obtain ⟨e1, e2⟩ := MT.set_items (x := x) swo M.odd M.m3 M.fl M.asc
    exact ⟨gd, by rw [e]; exact e2, by rw [e, e1]; exact asc_lput swo M.asc, M.m3, M.m1, M.odd⟩
  cases g with
  | none =>
    refine Set_first (E := E) (mn' := mn) (mx' := m) s (fun s K => init_skip s hmn (K _ s)) fun t h' e gd s => ?_
    refine H (some ⟨0, t⟩) h' ?_ ?_ ?_
    · show some (⟨0, t.pt⟩ : (j : Nat) × PT It j) = some ⟨0, ([x] : List It)⟩; rw [e]
    · refine key (some ⟨0, t⟩) ?_ gd
      show some (⟨0, t.pt⟩ : (j : Nat) × PT It j) = some ⟨0, ([x] : List It)⟩; rw [e]
    · show St h0 Z ((tb, 0, hdr iso ctr (some ⟨t.id, 0, none⟩) t.pt.items.length mn m) :: (t.all enc ++ E)) h'
      have : t.pt.items.length = 1 := by rw [e]; rfl
      rw [this]; exact s
  | some t =>
    obtain ⟨k, t⟩ := t
    have htb : h0.size ≤ tb := (s.e _ (List.mem_cons_self ..)).2 (by simp)
    have s := hdr_cut s
    obtain ⟨s1, back⟩ := St.borrow (A := [(tb, 0, hd0 iso ctr), (tb, 4, hd4 mn m)]) (E := (tb, 2, [ptr t.id 0]) :: (tb, 3, [.int .i64 t.pt.items.length]) :: (t.all enc ++ E)) s
    refine Set_cut htb (List.mem_cons_self ..) (List.mem_cons_of_mem _ (List.mem_cons_self ..)) M.m1 M.m3 M.odd t M.fl M.asc hsz M.gd rfl s1 fun g' h' e1 e2 s2 => ?_
    refine H (some g') h' e1 (key (some g') e1 e2) ?_
    exact hdr_glue (back _ h' s2)
theorem NewMap_ok (s : St h0 Z E h) {d : Nat} (h1 : 2 ≤ d) (h2 : d ≤ 512) (H : ∀ b h', St h0 Z ((b, 0, hdr 0 none none 0 ((d - 1 : Nat) : Int) ((2 * d - 1 : Nat) : Int)) :: E) h' → Q (ptr b 0) h') : NewMap_ii.call #[.int .i64 d] h Q := by
  refine NewMap_ii.body _ _ _ ?_
  unfold NewMap_ii.sh
  refine s.r_alloc fun b h s => ?_
  refine init_set s (fun K => degree_ok (d := d) (by omega) (by omega) K) fun h' s => ?_
  have e1 : (d : Int) - 1 = ((d - 1 : Nat) : Int) := by omega
  have e2 : 2 * (d : Int) - 1 = ((2 * d - 1 : Nat) : Int) := by omega
  rw [e1, e2] at s
  exact H b h' s
end Go.Proofs.Ytkkappjbcgnacaa.Ii
end
section
namespace Go.Proofs.Ytkkappjbcgnacaa.Ii
open Go.Hp Go.Proofs.Ytkkappjbcgnacaa
set_option linter.unusedVariables false
set_option linter.unusedSimpArgs false
variable {h0 h : Heap} {Z E : List Rg} {Q : Value → Heap → Prop}

theorem isoLoad_ro {tr : Value} {pb po n : Nat} (hp : cl h pb po = some (ptr n 0)) (H : Q (ptr n 0) h) : Map_ii_isoLoad.call #[tr, ptr pb po, .bool false] h Q := by
  refine Map_ii_isoLoad.body _ _ _ _ _ ?_
  unfold Map_ii_isoLoad.sh
  refine r_br (fun e => absurd e (by decide)) (fun _ => ?_)
  unfold Map_ii_isoLoad.j1
  refine r_nil ?_
  exact r_ld hp H
theorem allZ_leaf {d : Nd It} (hz : ∀ r ∈ GT.all enc (h := 0) d, r ∈ Z) : (d.n, 0, [.int .u64 d.iso, .int .i64 d.cnt, d.iv, .pointer none]) ∈ Z ∧ (d.ib, d.io, d.its.flatMap enc ++ d.isp) ∈ Z := by
  have hz : ∀ r ∈ d.leaf enc, r ∈ Z := hz
  exact ⟨hz _ (List.mem_cons_self ..), hz _ (List.mem_cons_of_mem _ (List.mem_cons_self ..))⟩
theorem allZ_inner {k : Nat} {d : Nd It} {ts : List (GT It k)} (hz : ∀ r ∈ GT.all enc (h := k + 1) (d, ts), r ∈ Z) :
    (d.n, 0, [.int .u64 d.iso, .int .i64 d.cnt, d.iv, ptr d.kb 0]) ∈ Z ∧ (d.ib, d.io, d.its.flatMap enc ++ d.isp) ∈ Z ∧ (d.kb, 0, [d.kv]) ∈ Z ∧ (d.krb, d.kro, (ts.map GT.id).flatMap fp ++ d.ksp) ∈ Z ∧ ∀ c ∈ ts, ∀ r ∈ c.all enc, r ∈ Z := by
  have hz : ∀ r ∈ d.inner enc (ts.map GT.id) ++ ts.flatMap (GT.all enc), r ∈ Z := hz
  have h1 : ∀ r ∈ d.inner enc (ts.map GT.id), r ∈ Z := fun r hr => hz r (List.mem_append.2 (.inl hr))
  refine ⟨h1 _ (List.mem_cons_self ..), h1 _ (List.mem_cons_of_mem _ (List.mem_cons_self ..)), h1 _ (List.mem_cons_of_mem _ (List.mem_cons_of_mem _ (List.mem_cons_self ..))), ?_, fun c hc r hr => hz r (List.mem_append.2 (.inr (List.mem_flatMap.2 ⟨c, hc, hr⟩)))⟩
  have := h1 _ (List.mem_cons_of_mem _ (List.mem_cons_of_mem _ (List.mem_cons_of_mem _ (List.mem_cons_self ..))))
  rw [mfp] at this; exact this
/-- The kid's cell. -/
theorem kidcell {k : Nat} {ts : List (GT It k)} {krb kro i : Nat} {ksp : List Value} {c : GT It k} (hk : (krb, kro, (ts.map GT.id).flatMap fp ++ ksp) ∈ Z) (hc : ts[i]? = some c) (s : St h0 Z E h) : cl h krb (kro + i * 1) = some (ptr c.id 0) := by
  have hi : i < (ts.map GT.id).length := by rw [List.length_map]; exact (List.getElem?_eq_some_iff.1 hc).1
  refine s.clz hk (i * 1) rfl ?_
  rw [List.getElem?_append_left (by rw [flat_len fpl]; omega)]
  have := flat_get (f := fp) fpl (ts.map GT.id) i hi 0 (by decide)
  rw [Nat.add_zero] at this
  rw [this]
  have e : (ts.map GT.id)[i] = c.id := by
    have : (ts.map GT.id)[i]? = some c.id := by rw [List.getElem?_map, hc]; rfl
    exact (List.getElem?_eq_some_iff.1 this).2
  rw [e]; rfl

end Go.Proofs.Ytkkappjbcgnacaa.Ii
end
section
namespace Go.Proofs.Ytkkappjbcgnacaa.Ii
open Go.Hp Go.Proofs.Ytkkappjbcgnacaa
set_option linter.unusedVariables false
set_option linter.unusedSimpArgs false
variable {h0 h : Heap} {Z E : List Rg} {Q : Value → Heap → Prop}

theorem grow_ok {l : List It} {v : Value} {d : Nat} (hr : Rdl 2 h v l.length (l.flatMap encA)) (hl : l.length ≤ 2147483647) (h1 : 2 ≤ d) (h2 : d ≤ 512)
    (H : ∀ (g : Rt) tb h', rPt g = grown (2 * d - 1) l → (rPt g).items = setAll l → MapOk (2 * d - 1) 0 g → St h [] ((tb, 0, hdr 0 none (rA g) (rPt g).items.length ((d - 1 : Nat) : Int) ((2 * d - 1 : Nat) : Int)) :: rAll g) h' → Q (ptr tb 0) h') : i_growMap.call #[.int .i64 d, v] h Q := by
  refine i_growMap.body _ _ _ _ ?_
  unfold i_growMap.sh
  have s := St.start h
  refine NewMap_ok s h1 h2 fun tb h s => ?_
  refine hr.lenV ?_
  refine loop_up (n := l.length) (fun j => [.int .i64 j]) (fun j h' => ∃ (g : Rt) (R : List Rg), rPt g = grown (2 * d - 1) (l.take j) ∧ (rPt g).items = setAll (l.take j) ∧ MapOk (2 * d - 1) 0 g ∧ St _ [] ((tb, 0, hdr 0 none (rA g) (rPt g).items.length ((d - 1 : Nat) : Int) ((2 * d - 1 : Nat) : Int)) :: (rAll g ++ R)) h')
    ⟨none, [], rfl, rfl, MapOk.none (by omega) (by omega) (by omega), s⟩ ?_
  rintro j h hj ⟨g, R, e0, e, M, s⟩ K HK
  unfold i_growMap.l2.b
  refine r_cmpI ?_
  refine r_if (fun hlt => ?_) (fun hge => ?_)
  · have hlt : j < l.length := by simpa using hlt
    unfold i_growMap.j3
    refine (hr.st s).at (n := j) rfl encAl rfl rfl hlt fun b o hb => ?_
    refine hb.loadN rfl ?_
    refine s.r_alloc fun t7 h s => ?_
    refine St.r_storeN0 s 0 rfl rfl (by simp) (encA1 _) ?_; intro h s
    refine r_fld ?_
    refine St.r_load0 s 0 rfl rfl ?_
    refine r_fld ?_
    refine St.r_load0 s 0 rfl rfl ?_
    have hle := setAll_len (l.take j)
    rw [List.length_take] at hle
    refine Set_ok (mn := ((d - 1 : Nat) : Int)) (x := l[j]) (E := (t7, 0, encA l[j]) :: R) M (by omega) (by rw [e]; omega) (s.perm (by ((apply perm_rg; intro f; simp only [List.set_cons_zero, List.set_cons_succ, List.eraseIdx_cons_zero, List.eraseIdx_cons_succ, List.cons_append, List.nil_append, List.map_append, List.map_cons, List.map_nil, List.sum_append, List.sum_cons, List.sum_nil, List.map_flatMap, Nat.add_zero, Nat.zero_add]; ac_rfl)))) fun g' h' e1 M' s => ?_
    unfold i_growMap.j4
    refine r_add (z := ((j + 1 : Nat) : Int)) (by rw [i64w (by omega) (by omega)]; omega) ?_
    have et : l.take (j + 1) = l.take j ++ [l[j]] := List.take_succ_eq_append_getElem hlt
    refine HK h' hlt ⟨g', _, ?_, ?_, M', s⟩
    · rw [e1, e0, et, grown_snoc]
    · rw [e1, et, setAll_snoc, ← e]
      exact (MT.set_items swo M.odd M.m3 M.fl M.asc).1
  · have hge : j = l.length := by simp at hge; omega
    subst hge
    rw [List.take_length] at e e0
    unfold i_growMap.j1
    exact H g tb h e0 e M (s.sub (List.Sublist.cons_cons _ (List.sublist_append_left _ _)))

end Go.Proofs.Ytkkappjbcgnacaa.Ii
end
section
namespace Go.Proofs.Ytkkappjbcgnacaa.Ii
open Go.Hp Go.Proofs.Ytkkappjbcgnacaa
set_option linter.unusedVariables false
set_option linter.unusedSimpArgs false
variable {h0 h : Heap} {Z E : List Rg} {Q : Value → Heap → Prop}

theorem pos_end {l : List It} {x : It} (h : ∀ y ∈ l, lt y x = true) : pos lt l x = l.length ∧ lget lt l x = none := by
  have e : pos lt l x = l.length := pos_uni (Nat.le_refl _) (fun j hj _ => h _ (List.getElem_mem hj)) (fun hl => absurd hl (Nat.lt_irrefl _))
  exact ⟨e, by unfold lget; rw [e, List.getElem?_eq_none (Nat.le_refl _)]; rfl⟩

theorem topIso : ∀ {k : Nat} {t : GT It k}, ∃ a2 a3 a4, (t.id, 0, [.int .u64 t.nd.iso, a2, a3, a4]) ∈ t.all enc
  | 0, d => ⟨_, _, _, List.mem_cons_self ..⟩
  | _ + 1, t => ⟨_, _, _, List.mem_append.2 (.inl (List.mem_cons_self ..))⟩
/-- What is left to do behind the append. -/
def loadEnd (tb : Nat) (h : Heap) (Q : Value → Heap → Prop) : Prop :=
  nilck (ptr tb 0) fun t77 => fld 3 t77 fun t78 => load1 t78 h fun t79 => arith (· + ·) t79 (.int .i64 1) fun t80 => nilck (ptr tb 0) fun t81 => fld 3 t81 fun t82 => store1 t82 t80 h fun h => nilck (ptr tb 0) fun t84 => fld 4 t84 fun t85 =>
    fld 0 t85 fun t86 => load1 t86 h fun t87 => Q (.tuple #[t87, (.bool false)]) h
/-- Back up: the counts as they were. -/
theorem revert_ok {tr t8 : Value} {iso : Int} {m : Nat} (hm : m ≤ 1024) : ∀ {k : Nat} (c : GT It k) {lo : Nat} {E : List Rg} {h : Heap}, c.pt.Fl m lo → Gd iso c → c.pt.items.length ≤ 4611686018427387903 → St h0 Z ((c.bump 1).all enc ++ E) h → (∀ h', St h0 Z (c.all enc ++ E) h' → Map_ii_Load.j3 tr t8 h' Q) →
    LoopOk (fun c s h K1 => Map_ii_Load.l4.b (c.getD 0 undef) (c.getD 1 undef) (s.getD 0 undef) h K1 Q) [tr, t8] k [ptr c.id 0] h
  | 0, (d : Nd It), lo, E, h, fl, g, hsz, s, H => by
    obtain ⟨own, n, is', cnt, its, iv, ib, io, isp, kb, kv', krb, kro, ksp⟩ := d
    intro K
    have s : St h0 Z ((n, 0, [.int .u64 is', .int .i64 (cnt + 1), iv, .pointer none]) :: (ib, io, its.flatMap enc ++ isp) :: E) h := s
    have hcn : cnt = its.length := g.cn
    have hsz : its.length ≤ 4611686018427387903 := hsz
    show Map_ii_Load.l4.b tr t8 (ptr n 0) h K Q
    unfold Map_ii_Load.l4.b
    refine r_nil ?_
    refine r_fld ?_
    refine St.r_load0 s 0 rfl rfl ?_
    refine r_sub (z := cnt) (by rw [i64w (by omega) (by omega)]; omega) ?_
    refine r_nil ?_
    refine r_fld ?_
    refine St.r_store0 s 0 rfl (by simp) rfl ?_
    intro h s
    try simp only [List.set_cons_zero, List.set_cons_succ] at s
    refine leaf_ok (a := none) (s.get (k := 0) (j := 3) rfl (by simp)) ?_
    refine r_if (fun _ => ?_) (fun e => absurd e (by simp))
    exact H h s
  | k + 1, t, lo, E, h, fl, g, hsz, s, H => by
    obtain ⟨d, ts⟩ := t
    obtain ⟨own, n, is', cnt, its, iv, ib, io, isp, kb, kv', krb, kro, ksp⟩ := d
    intro K HK
    have hkl : ts.length = its.length + 1 := g.wf.2.2.1
    have wK : Own 1 kv' ts.length krb kro ((ts.map GT.id).map fun m => ptr m 0) ksp := g.wf.2.1
    have hcn : cnt = (PT.items (h := k + 1) (its, ts.map GT.pt)).length := g.cn.1
    have hsz : (PT.items (h := k + 1) (its, ts.map GT.pt)).length ≤ 4611686018427387903 := hsz
    obtain ⟨c, hc⟩ : ∃ c, ts[ts.length - 1]? = some c := ⟨ts[ts.length - 1]'(by omega), List.getElem?_eq_getElem (by omega)⟩
    have hcm := List.mem_of_getElem? hc
    have hcm2 : c.pt ∈ ts.map GT.pt := List.mem_map.2 ⟨c, hcm, rfl⟩
    have hfc : PT.Fl m (m / 2) c.pt := fl.2.2.2 _ hcm2
    have hlm : its.length ≤ m := fl.2.1
    have hcsz : c.pt.items.length ≤ 4611686018427387903 := by
      have h1 : (inter its ((ts.map GT.pt).map PT.items)).length = _ := inter_length _ _
      have h2 : (inter its ((ts.map GT.pt).map PT.items)).length ≤ 4611686018427387903 := hsz
      have h3 : c.pt.items.length ≤ (((ts.map GT.pt).map PT.items).map List.length).sum := mem_le_sum (by
        rw [List.map_map, List.map_map]; exact List.mem_map.2 ⟨c, hcm, rfl⟩)
      omega
    have s : St h0 Z ((n, 0, [.int .u64 is', .int .i64 (cnt + 1), iv, ptr kb 0]) :: (ib, io, its.flatMap enc ++ isp) :: (kb, 0, [kv']) :: (krb, kro, (((ts.modify (ts.length - 1) (GT.bump 1)).map GT.id).map fun m => ptr m 0) ++ ksp) :: ((ts.modify (ts.length - 1) (GT.bump 1)).flatMap (GT.all enc) ++ E)) h := s
    rw [modify_last hc, mfp] at s
    have hi := (List.getElem?_eq_some_iff.1 hc).1
    have hc' : (ts.set (ts.length - 1) (c.bump 1))[ts.length - 1]? = some (c.bump 1) := List.getElem?_set_self hi
    have etake : (ts.set (ts.length - 1) (c.bump 1)).take (ts.length - 1) = ts.take (ts.length - 1) := List.take_set_of_le (Nat.le_refl _)
    have edrop : (ts.set (ts.length - 1) (c.bump 1)).drop (ts.length - 1 + 1) = ts.drop (ts.length - 1 + 1) := List.drop_set_of_lt (by omega)
    rw [flat_at3 (GT.all enc) hc', etake, edrop, set_ids hc (GT.bump_id c)] at s
    show Map_ii_Load.l4.b tr t8 (ptr n 0) h K Q
    unfold Map_ii_Load.l4.b
    refine r_nil ?_
    refine r_fld ?_
    refine St.r_load0 s 0 rfl rfl ?_
    refine r_sub (z := cnt) (by rw [i64w (by omega) (by omega)]; omega) ?_
    refine r_nil ?_
    refine r_fld ?_
    refine St.r_store0 s 0 rfl (by simp) rfl ?_
    intro h s
    try simp only [List.set_cons_zero, List.set_cons_succ] at s
    refine leaf_ok (a := some ⟨kb, 0, Option.none⟩) (s.get (k := 0) (j := 3) rfl (by simp)) ?_
    refine r_if (fun e => absurd e (by simp)) (fun _ => ?_)
    unfold Map_ii_Load.j5
    refine r_nil ?_
    refine r_fld ?_
    refine St.r_load0 s 0 rfl rfl ?_
    refine r_nil ?_
    refine St.r_load0 s 2 rfl rfl ?_
    refine r_nil ?_
    refine r_fld ?_
    refine St.r_load0 s 0 rfl rfl ?_
    refine r_nil ?_
    refine St.r_load0 s 2 rfl rfl ?_
    refine wK.lenV ?_
    refine r_sub (z := ((ts.length - 1 : Nat) : Int)) (by rw [i64w (by omega) (by omega)]; omega) ?_
    refine wK.idx (n := ts.length - 1) rfl (by omega) ?_
    refine r_loadM1 s 3 rfl hc ?_
    have := revert_ok (tr := tr) (t8 := t8) hm c (E := (n, 0, [.int .u64 is', .int .i64 cnt, iv, ptr kb 0]) :: (ib, io, its.flatMap enc ++ isp) :: (kb, 0, [kv']) :: (krb, kro, (ts.map GT.id).flatMap fp ++ ksp) :: ((ts.take (ts.length - 1)).flatMap (GT.all enc) ++ ((ts.drop (ts.length - 1 + 1)).flatMap (GT.all enc) ++ E))) hfc (g.kid hcm) hcsz (s.perm (by ((apply perm_rg; intro f; simp only [List.set_cons_zero, List.set_cons_succ, List.eraseIdx_cons_zero, List.eraseIdx_cons_succ, List.cons_append, List.nil_append, List.map_append, List.map_cons, List.map_nil, List.sum_append, List.sum_cons, List.sum_nil, List.map_flatMap, Nat.add_zero, Nat.zero_add]; ac_rfl)))) fun h' s => ?_
    · exact HK _ _ this
    · refine H h' ?_
      have s1 : St h0 Z ((n, 0, [.int .u64 is', .int .i64 cnt, iv, ptr kb 0]) :: (ib, io, its.flatMap enc ++ isp) :: (kb, 0, [kv']) :: (krb, kro, (ts.map GT.id).flatMap fp ++ ksp) :: (ts.flatMap (GT.all enc) ++ E)) h' := s.perm (by rw [flat_at3 (GT.all enc) hc]; ((apply perm_rg; intro f; simp only [List.set_cons_zero, List.set_cons_succ, List.eraseIdx_cons_zero, List.eraseIdx_cons_succ, List.cons_append, List.nil_append, List.map_append, List.map_cons, List.map_nil, List.sum_append, List.sum_cons, List.sum_nil, List.map_flatMap, Nat.add_zero, Nat.zero_add]; ac_rfl)))
      rw [← mfp] at s1
      exact s1

/-- Down the last way: the item is appended to the last leaf, or nothing but the counts has changed. -/
theorem down_ok {tb t8 m : Nat} {iso mn : Int} {ctr : Option Addr} {x : It} (hT0 : (tb, 0, hd0 iso ctr) ∈ Z) (hT4 : (tb, 4, hd4 mn m) ∈ Z) (h8 : (t8, 0, enc x) ∈ Z) (hm : m ≤ 1024) (hm3 : 3 ≤ m) (ho : m % 2 = 1) : ∀ {k : Nat} (c : GT It k) {lo : Nat} {E : List Rg} {h : Heap}, 1 ≤ lo → c.pt.Fl m lo → Asc lt c.pt.items → Gd iso c → c.pt.items.length ≤ 4611686018427387903 → St h0 Z (c.all enc ++ E) h →
    (∀ (c' : GT It k) h', (∀ y ∈ c.pt.items, lt y x = true) → c.pt.splits lt m x = false → c'.pt = c.pt.set lt m x → c'.id = c.id → Gd iso c' → St h0 Z (c'.all enc ++ E) h' → loadEnd tb h' Q) →
    (∀ h', St h0 Z ((c.bump 1).all enc ++ E) h' → Map_ii_Load.j2 (ptr tb 0) (ptr t8 0) h' Q) →
    LoopOk (fun c s h K1 => Map_ii_Load.l6.b (c.getD 0 undef) (c.getD 1 undef) (s.getD 0 undef) h K1 Q) [ptr tb 0, ptr t8 0] k [ptr c.id 0] h
  | 0, (d : Nd It), lo, E, h, hlo, fl, ha, g, hsz, s, H1, H2 => by
    obtain ⟨own, n, is', cnt, its, iv, ib, io, isp, kb, kv', krb, kro, ksp⟩ := d
    intro K
    have hw : own = true := g.mine
    have hiso : is' = iso := g.wf.2.1 hw
    subst hiso; subst hw
    have w : Own 2 iv its.length ib io (its.flatMap enc) isp := g.wf.1
    have s : St h0 Z ((n, 0, [.int .u64 is', .int .i64 cnt, iv, .pointer none]) :: (ib, io, its.flatMap enc ++ isp) :: E) h := s
    have hcn : cnt = its.length := g.cn
    have hl1 : lo ≤ its.length := fl.1
    have hl2 : its.length ≤ m := fl.2
    have ha : Asc lt its := ha
    have no : ∀ h', St h0 Z ((n, 0, [.int .u64 is', .int .i64 (cnt + 1), iv, .pointer none]) :: (ib, io, its.flatMap enc ++ isp) :: E) h' → Map_ii_Load.j2 (ptr tb 0) (ptr t8 0) h' Q := fun h' s => H2 h' s
    show Map_ii_Load.l6.b (ptr tb 0) (ptr t8 0) (ptr n 0) h K Q
    unfold Map_ii_Load.l6.b
    refine r_nil ?_
    refine r_fld ?_
    refine St.r_load0 s 0 rfl rfl ?_
    refine r_add (z := cnt + 1) (by rw [i64w (by omega) (by omega)]) ?_
    refine r_nil ?_
    refine r_fld ?_
    refine St.r_store0 s 0 rfl (by simp) rfl ?_
    intro h s
    try simp only [List.set_cons_zero, List.set_cons_succ] at s
    refine leaf_ok (a := none) (s.get (k := 0) (j := 3) rfl (by simp)) ?_
    refine r_if (fun _ => ?_) (fun e => absurd e (by simp))
    refine r_nil ?_
    refine r_fld ?_
    refine St.r_load0 s 0 rfl rfl ?_
    refine w.lenV ?_
    refine r_nil ?_
    refine r_fld ?_
    refine s.r_lz hT4 3 rfl rfl ?_
    refine r_cmpI ?_
    refine r_if (fun hroom => ?_) (fun hfull => ?_)
    · have hroom : its.length < m := by have : (its.length : Int) < m := by simpa using hroom
                                        omega
      refine r_nil ?_
      refine r_fld ?_
      refine St.r_load0 s 0 rfl rfl ?_
      refine r_nil ?_
      refine r_fld ?_
      refine St.r_load0 s 0 rfl rfl ?_
      refine w.lenV ?_
      refine r_sub (z := ((its.length - 1 : Nat) : Int)) (by rw [i64w (by omega) (by omega)]; omega) ?_
      refine w.idx (n := its.length - 1) rfl (by omega) ?_
      refine r_fld ?_
      have hy : its[its.length - 1]? = some (its[its.length - 1]'(by omega)) := List.getElem?_eq_getElem (by omega)
      refine s.r_load1F encl (r := 1) 1 rfl hy rfl ?_
      refine r_fld ?_
      refine s.r_lz0 h8 (j := 1) rfl ?_
      refine r_cmpI ?_
      refine r_if (fun hlt => ?_) (fun hge => ?_)
      · have hlt : lt (its[its.length - 1]'(by omega)) x = true := hlt
        have hall : ∀ y ∈ its, lt y x = true := fun y hy => by
          obtain ⟨i, hi, rfl⟩ := List.getElem_of_mem hy
          rcases Nat.lt_or_ge i (its.length - 1) with h | h
          · exact swo.tr _ _ _ (List.pairwise_iff_getElem.1 ha i (its.length - 1) hi (by omega) h) hlt
          · have : i = its.length - 1 := by omega
            subst this; exact hlt
        obtain ⟨e1, e2⟩ := pos_end hall
        have eput : lput lt its x = its ++ [x] := by rw [lput_ins e2, e1]; unfold ins; simp
        have hsp : PT.splits lt m (h := 0) its x = false := by rw [PT.splits_leaf, e2]; simp; omega
        refine r_nil ?_
        refine r_fld ?_
        refine St.r_load0 s 0 rfl rfl ?_
        refine s.r_lzE h8 0 (enc x) rfl (by simp) rfl ?_
        refine St.r_mkSl (sz := 2) (cs := enc x) s (by ((simp only [fillV, fill1, Value.cells, zeros_succ, zeros_zero, List.size_toArray, List.length_cons, List.length_nil, List.length_append, List.take_succ_cons, List.take_zero, List.take_nil, List.drop_succ_cons, List.drop_zero, List.drop_nil, List.cons_append, List.nil_append, List.append_nil, Nat.reduceAdd, Nat.reduceMul, Nat.reduceLeDiff, Nat.reduceEqDiff, and_self, and_true, true_and, if_true, Nat.le_refl, Nat.zero_add, Nat.add_zero, Nat.zero_mul, reduceIte, if_false] <;> rfl))) rfl fun q h s w1 => ?_
        refine And.intro (by exact St.r_still0 s 1 rfl rfl) ?_
        refine St.r_app s 2 (sz := 2) (n := 1) (new := enc x) rfl w rfl (w1.rdl s 0 rfl) (enc1 _) (by omega) (by omega) fun v' b' o' sp' h s w' => ?_
        rw [snoc_enc] at s w'
        have w' : Own 2 v' (its ++ [x]).length b' o' ((its ++ [x]).flatMap enc) sp' := by rw [List.length_append]; exact w'
        refine r_nil ?_
        refine r_fld ?_
        refine St.r_store0 s 1 rfl (by simp) w'.one ?_; intro h s
        exact H1 (⟨true, n, is', cnt + 1, its ++ [x], v', b', o', sp', kb, kv', krb, kro, ksp⟩ : Nd It) h hall hsp (by show its ++ [x] = lput lt its x; rw [eput]) rfl
          (Gd.leaf w' rfl rfl (by show cnt + 1 = ((its ++ [x]).length : Int); rw [List.length_append, hcn]; simp)) (s.drop 1)
      · unfold Map_ii_Load.j8
        exact no h s
    · unfold Map_ii_Load.j8
      exact no h s
  | k + 1, t, lo, E, h, hlo, fl, ha, g, hsz, s, H1, H2 => by
    obtain ⟨d, ts⟩ := t
    obtain ⟨own, n, is', cnt, its, iv, ib, io, isp, kb, kv', krb, kro, ksp⟩ := d
    intro K HK
    have hw : own = true := g.mine.1
    have hiso : is' = iso := g.wf.1.2.1 hw
    subst hiso; subst hw
    have hkl : ts.length = its.length + 1 := g.wf.2.2.1
    have w : Own 2 iv its.length ib io (its.flatMap enc) isp := g.wf.1.1
    have wK : Own 1 kv' ts.length krb kro ((ts.map GT.id).map fun m => ptr m 0) ksp := g.wf.2.1
    have hcn : cnt = (PT.items (h := k + 1) (its, ts.map GT.pt)).length := g.cn.1
    have hsz : (PT.items (h := k + 1) (its, ts.map GT.pt)).length ≤ 4611686018427387903 := hsz
    have hlm : its.length ≤ m := fl.2.1
    obtain ⟨c, hc⟩ : ∃ c, ts[its.length]? = some c := ⟨ts[its.length]'(by omega), List.getElem?_eq_getElem (by omega)⟩
    have hcm := List.mem_of_getElem? hc
    have hcm2 : c.pt ∈ ts.map GT.pt := List.mem_map.2 ⟨c, hcm, rfl⟩
    have hfc : PT.Fl m (m / 2) c.pt := fl.2.2.2 _ hcm2
    have hcsz : c.pt.items.length ≤ 4611686018427387903 := by
      have h1 : (inter its ((ts.map GT.pt).map PT.items)).length = _ := inter_length _ _
      have h2 : (inter its ((ts.map GT.pt).map PT.items)).length ≤ 4611686018427387903 := hsz
      have h3 : c.pt.items.length ≤ (((ts.map GT.pt).map PT.items).map List.length).sum := mem_le_sum (by
        rw [List.map_map, List.map_map]; exact List.mem_map.2 ⟨c, hcm, rfl⟩)
      omega
    have hc2 : ts[ts.length - 1]? = some c := by rw [show ts.length - 1 = its.length by omega]; exact hc
    have hcp : (ts.map GT.pt)[its.length]? = some c.pt := by rw [List.getElem?_map, hc]; rfl
    obtain ⟨c0, hc0, _, eit⟩ := PT.around (t := ((its, ts.map GT.pt) : PT It (k + 1))) fl (Nat.le_refl its.length)
    have : c0 = c.pt := Option.some.inj (hc0.symm.trans hcp)
    subst this
    have eit : PT.items (h := k + 1) (its, ts.map GT.pt) = lz its (((ts.map GT.pt).take its.length).map PT.items) ++ c.pt.items := by
      have e1 : rz (its.drop its.length) (((ts.map GT.pt).drop (its.length + 1)).map PT.items) = [] := by rw [List.drop_length]; rfl
      have e2 : PT.items (h := k + 1) (its, ts.map GT.pt) = lz (its.take its.length) (((ts.map GT.pt).take its.length).map PT.items) ++ (c.pt.items ++ rz (its.drop its.length) (((ts.map GT.pt).drop (its.length + 1)).map PT.items)) := eit
      rw [e2, e1, List.append_nil, List.take_length]
    have ha : Asc lt (PT.items (h := k + 1) (its, ts.map GT.pt)) := ha
    have hac : Asc lt c.pt.items := by rw [eit] at ha; exact (asc_app ha).2.1
    have hne : ∃ z, z ∈ c.pt.items := by
      have h1 := (hfc.le).1
      have h2 := (PT.its_sub c.pt).length_le
      cases e : c.pt.items with
      | nil => rw [e, List.length_nil] at h2; omega
      | cons z r => exact ⟨z, List.mem_cons_self ..⟩
    have s : St h0 Z ((n, 0, [.int .u64 is', .int .i64 cnt, iv, ptr kb 0]) :: (ib, io, its.flatMap enc ++ isp) :: (kb, 0, [kv']) :: (krb, kro, ((ts.map GT.id).map fun m => ptr m 0) ++ ksp) :: (ts.flatMap (GT.all enc) ++ E)) h := s
    rw [mfp, flat_at3 (GT.all enc) hc] at s
    show Map_ii_Load.l6.b (ptr tb 0) (ptr t8 0) (ptr n 0) h K Q
    unfold Map_ii_Load.l6.b
    refine r_nil ?_
    refine r_fld ?_
    refine St.r_load0 s 0 rfl rfl ?_
    refine r_add (z := cnt + 1) (by rw [i64w (by omega) (by omega)]) ?_
    refine r_nil ?_
    refine r_fld ?_
    refine St.r_store0 s 0 rfl (by simp) rfl ?_
    intro h s
    try simp only [List.set_cons_zero, List.set_cons_succ] at s
    refine leaf_ok (a := some ⟨kb, 0, Option.none⟩) (s.get (k := 0) (j := 3) rfl (by simp)) ?_
    refine r_if (fun e => absurd e (by simp)) (fun _ => ?_)
    unfold Map_ii_Load.j7
    refine r_nil ?_
    refine r_fld ?_
    refine St.r_load0 s 0 rfl rfl ?_
    refine r_nil ?_
    refine St.r_load0 s 2 rfl rfl ?_
    refine r_nil ?_
    refine r_fld ?_
    refine St.r_load0 s 0 rfl rfl ?_
    refine r_nil ?_
    refine St.r_load0 s 2 rfl rfl ?_
    refine wK.lenV ?_
    refine r_sub (z := ((its.length : Nat) : Int)) (by rw [i64w (by omega) (by omega)]; omega) ?_
    refine wK.idx (n := its.length) rfl (by omega) ?_
    have hcell : cl h krb (kro + its.length * 1) = some (ptr c.id 0) := by
      have hid : (ts.map GT.id)[its.length]? = some c.id := by rw [List.getElem?_map, hc]; rfl
      obtain ⟨hi, he⟩ := List.getElem?_eq_some_iff.1 hid
      have := s.get (k := 3) (j := its.length * 1) rfl (by rw [List.length_append, flat_len fpl]; omega)
      rw [this, List.getElem?_append_left (by rw [flat_len fpl]; omega)]
      have h2 := flat_get (f := fp) fpl (ts.map GT.id) its.length hi 0 (by decide)
      rw [Nat.add_zero] at h2
      rw [h2, he]; rfl
    have hciso : cl h c.id 0 = some (.int .u64 is') := by
      have hown : c.nd.own = true := (g.kid hcm).mine.nd
      obtain ⟨a2, a3, a4, hmem⟩ := topIso (t := c)
      have hci : c.nd.iso = is' := by
        have := (g.kid hcm).wf
        cases k with
        | zero => exact this.2.1 hown
        | succ k => exact this.1.2.1 hown
      rw [hci] at hmem
      have hmm : (c.id, 0, [.int .u64 is', a2, a3, a4]) ∈ c.all enc ++ (ts.drop (its.length + 1)).flatMap (GT.all enc) := List.mem_append.2 (.inl hmem)
      have hmm := List.mem_append.2 (.inr hmm : _ ∈ (ts.take its.length).flatMap (GT.all enc) ∨ _)
      have hmm := List.mem_append.2 (.inl hmm : _ ∨ _ ∈ E)
      have := (s.e _ (List.mem_cons_of_mem _ (List.mem_cons_of_mem _ (List.mem_cons_of_mem _ (List.mem_cons_of_mem _ hmm))))).1.at0 0 rfl
      exact this
    refine isoLoad_ok (n := c.id) (iso := is') (by have := s.getZ hT0 (j := 0) (by simp); simpa using this) hcell (fun _ => hciso) ?_
    have := down_ok hT0 hT4 h8 hm hm3 ho c (E := (n, 0, [.int .u64 is', .int .i64 (cnt + 1), iv, ptr kb 0]) :: (ib, io, its.flatMap enc ++ isp) :: (kb, 0, [kv']) :: (krb, kro, (ts.map GT.id).flatMap fp ++ ksp) :: ((ts.take its.length).flatMap (GT.all enc) ++ ((ts.drop (its.length + 1)).flatMap (GT.all enc) ++ E))) (by omega) hfc hac (g.kid hcm) hcsz (s.perm (by ((apply perm_rg; intro f; simp only [List.set_cons_zero, List.set_cons_succ, List.eraseIdx_cons_zero, List.eraseIdx_cons_succ, List.cons_append, List.nil_append, List.map_append, List.map_cons, List.map_nil, List.sum_append, List.sum_cons, List.sum_nil, List.map_flatMap, Nat.add_zero, Nat.zero_add]; ac_rfl)))) (fun c' h' a1 a2 a3 a4 a5 s => ?_) (fun h' s => ?_)
    · exact HK _ _ this
    · obtain ⟨z, hz⟩ := hne
      have hall : ∀ y ∈ PT.items (h := k + 1) (its, ts.map GT.pt), lt y x = true := fun y hy => by
        rw [eit] at hy ha
        rcases List.mem_append.1 hy with e | e
        · exact swo.tr _ _ _ ((asc_app ha).2.2 y e z hz) (a1 z hz)
        · exact a1 y e
      obtain ⟨p1, p2⟩ := pos_end (fun y hy => hall y ((PT.its_sub1 ((its, ts.map GT.pt) : PT It (k + 1))).subset hy) : ∀ y ∈ its, lt y x = true)
      have hcp' : (ts.map GT.pt)[pos lt its x]? = some c.pt := by rw [p1]; exact hcp
      have e1 := PT.set_kid (t := ((its, ts.map GT.pt) : PT It (k + 1))) (m := m) p2 hcp' a2
      have hsp : PT.splits lt m (h := k + 1) (its, ts.map GT.pt) x = false := by rw [PT.splits_kid (t := ((its, ts.map GT.pt) : PT It (k + 1))) p2 hcp', a2]; simp
      have ept : (ts.set its.length c').map GT.pt = (ts.map GT.pt).set (pos lt its x) (c.pt.set lt m x) := by rw [List.map_set, a3, p1]
      have hi := (List.getElem?_eq_some_iff.1 hc).1
      have hc' : (ts.set its.length c')[its.length]? = some c' := List.getElem?_set_self hi
      have etake : (ts.set its.length c').take its.length = ts.take its.length := List.take_set_of_le (Nat.le_refl _)
      have edrop : (ts.set its.length c').drop (its.length + 1) = ts.drop (its.length + 1) := List.drop_set_of_lt (by omega)
      have hlenI : (PT.items (h := k + 1) (its, (ts.set its.length c').map GT.pt)).length = (PT.items (h := k + 1) (its, ts.map GT.pt)).length + 1 := by
        have hcl : c'.pt.items.length = c.pt.items.length + 1 := by
          rw [a3, (PT.set_items swo ho hfc hac a2).1, lput_length, (pos_end a1).2]; rfl
        have h1 : (inter its (((ts.set its.length c').map GT.pt).map PT.items)).length = _ := inter_length _ _
        have h2 : (inter its ((ts.map GT.pt).map PT.items)).length = _ := inter_length _ _
        have e3 : ∀ (l : List (GT It k)), ((l.map GT.pt).map PT.items).map List.length = l.map fun t => t.pt.items.length := fun l => by rw [List.map_map, List.map_map]; rfl
        have h4 : ((ts.set its.length c').map fun t => t.pt.items.length).sum = (ts.map fun t => t.pt.items.length).sum + 1 := by
          conv => lhs; rw [take_at hc', etake, edrop]
          conv => rhs; rw [take_at hc]
          simp only [List.map_append, List.map_cons, List.sum_append, List.sum_cons, hcl]; omega
        show (inter its (((ts.set its.length c').map GT.pt).map PT.items)).length = (inter its ((ts.map GT.pt).map PT.items)).length + 1
        rw [h1, h2, e3, e3, h4]; omega
      refine H1 ((⟨true, n, is', cnt + 1, its, iv, ib, io, isp, kb, kv', krb, kro, ksp⟩ : Nd It), ts.set its.length c') h' hall hsp (by show (its, (ts.set its.length c').map GT.pt) = _; rw [ept]; exact e1.symm) rfl
        (Gd.setKid (d := ⟨true, n, is', cnt, its, iv, ib, io, isp, kb, kv', krb, kro, ksp⟩) g hc a4 a5 (by
          show cnt + 1 = ((PT.items (h := k + 1) (its, (ts.set its.length c').map GT.pt)).length : Int); rw [hlenI, hcn]; simp)) ?_
      have s1 : St h0 Z ((n, 0, [.int .u64 is', .int .i64 (cnt + 1), iv, ptr kb 0]) :: (ib, io, its.flatMap enc ++ isp) :: (kb, 0, [kv']) :: (krb, kro, ((ts.set its.length c').map GT.id).flatMap fp ++ ksp) :: ((ts.set its.length c').flatMap (GT.all enc) ++ E)) h' :=
        s.perm (by rw [set_ids hc a4, flat_at3 (GT.all enc) hc', etake, edrop]; ((apply perm_rg; intro f; simp only [List.set_cons_zero, List.set_cons_succ, List.eraseIdx_cons_zero, List.eraseIdx_cons_succ, List.cons_append, List.nil_append, List.map_append, List.map_cons, List.map_nil, List.sum_append, List.sum_cons, List.sum_nil, List.map_flatMap, Nat.add_zero, Nat.zero_add]; ac_rfl)))
      rw [← mfp] at s1
      exact s1
    · refine H2 h' ?_
      have hi := (List.getElem?_eq_some_iff.1 hc2).1
      have hc' : (ts.set (ts.length - 1) (c.bump 1))[ts.length - 1]? = some (c.bump 1) := List.getElem?_set_self hi
      have etake : (ts.set (ts.length - 1) (c.bump 1)).take (ts.length - 1) = ts.take its.length := by rw [List.take_set_of_le (Nat.le_refl _)]; congr 1; omega
      have edrop : (ts.set (ts.length - 1) (c.bump 1)).drop (ts.length - 1 + 1) = ts.drop (its.length + 1) := by rw [List.drop_set_of_lt (by omega)]; congr 1; omega
      have s1 : St h0 Z ((n, 0, [.int .u64 is', .int .i64 (cnt + 1), iv, ptr kb 0]) :: (ib, io, its.flatMap enc ++ isp) :: (kb, 0, [kv']) :: (krb, kro, ((ts.modify (ts.length - 1) (GT.bump 1)).map GT.id).flatMap fp ++ ksp) :: ((ts.modify (ts.length - 1) (GT.bump 1)).flatMap (GT.all enc) ++ E)) h' :=
        s.perm (by rw [modify_last hc2, set_ids hc2 (GT.bump_id c), flat_at3 (GT.all enc) hc', etake, edrop]; ((apply perm_rg; intro f; simp only [List.set_cons_zero, List.set_cons_succ, List.eraseIdx_cons_zero, List.eraseIdx_cons_succ, List.cons_append, List.nil_append, List.map_append, List.map_cons, List.map_nil, List.sum_append, List.sum_cons, List.sum_nil, List.map_flatMap, Nat.add_zero, Nat.zero_add]; ac_rfl)))
      rw [← mfp] at s1
      exact s1

theorem Load_ok {tb m : Nat} {iso mn : Int} {ctr : Option Addr} {g : Rt} {x : It} (M : MapOk m iso g) (hmn : mn ≠ 0) (hsz : (rPt g).items.length ≤ 4611686018427387903) (s : St h0 Z ((tb, 0, hdr iso ctr (rA g) (rPt g).items.length mn m) :: (rAll g ++ E)) h)
    (H : ∀ (g' : Rt) h', rPt g' = (rPt g).set lt m x → MapOk m iso g' → St h0 Z ((tb, 0, hdr iso ctr (rA g') (rPt g').items.length mn m) :: (rAll g' ++ E)) h' → Q (.tuple #[old (lget lt (rPt g).items x), .bool (lget lt (rPt g).items x).isSome]) h') :
    Map_ii_Load.call #[ptr tb 0, kv x.1, vv x.2] h Q := by
  refine Map_ii_Load.body _ _ _ _ _ ?_
  unfold Map_ii_Load.sh
  (apply r_build; (simp only [fillV, fill1, Value.cells, zeros_succ, zeros_zero, List.size_toArray, List.length_cons, List.length_nil, List.length_append, List.take_succ_cons, List.take_zero, List.take_nil, List.drop_succ_cons, List.drop_zero, List.drop_nil, List.cons_append, List.nil_append, List.append_nil, Nat.reduceAdd, Nat.reduceMul, Nat.reduceLeDiff, Nat.reduceEqDiff, and_self, and_true, true_and, if_true, Nat.le_refl, Nat.zero_add, Nat.add_zero, Nat.zero_mul, reduceIte, if_false] <;> rfl))
  refine s.r_alloc fun t8 h s => ?_
  refine St.r_storeN0 s 0 rfl rfl (by simp) (enc1 x) ?_; intro h s
  refine r_nil ?_
  refine r_fld ?_
  refine St.r_load0 s 1 rfl rfl ?_
  refine r_eqNilP ?_
  cases g with
  | none =>
    refine r_if (fun _ => ?_) (fun e => absurd e (by simp [rA]))
    refine r_fld ?_
    refine St.r_load0 s 0 rfl rfl ?_
    refine r_fld ?_
    refine St.r_load0 s 0 rfl rfl ?_
    refine Set_ok (tb := tb) (ctr := ctr) (x := x) (E := (t8, 0, enc x) :: E) M hmn hsz (s.perm (by ((apply perm_rg; intro f; simp only [List.set_cons_zero, List.set_cons_succ, List.eraseIdx_cons_zero, List.eraseIdx_cons_succ, List.cons_append, List.nil_append, List.map_append, List.map_cons, List.map_nil, List.sum_append, List.sum_cons, List.sum_nil, List.map_flatMap, Nat.add_zero, Nat.zero_add]; ac_rfl)))) fun g' h' e M' s => ?_
    refine r_ext rfl ?_
    refine r_ext rfl ?_
    exact H g' h' e M' ((s.perm (E' := (t8, 0, enc x) :: (tb, 0, hdr iso ctr (rA g') (rPt g').items.length mn m) :: (rAll g' ++ E)) (by ((apply perm_rg; intro f; simp only [List.set_cons_zero, List.set_cons_succ, List.eraseIdx_cons_zero, List.eraseIdx_cons_succ, List.cons_append, List.nil_append, List.map_append, List.map_cons, List.map_nil, List.sum_append, List.sum_cons, List.sum_nil, List.map_flatMap, Nat.add_zero, Nat.zero_add]; ac_rfl)))).drop 1)
  | some t =>
    obtain ⟨k, t⟩ := t
    refine r_if (fun e => absurd e (by simp [rA])) (fun _ => ?_)
    unfold Map_ii_Load.j1
    have key : ∀ g' : Rt, rPt g' = (rPt (some ⟨k, t⟩)).set lt m x → rGd iso g' → MapOk m iso g' := fun g' e gd => by
      obtain ⟨e1, e2⟩ := MT.set_items (x := x) swo M.odd M.m3 M.fl M.asc
      exact ⟨gd, by rw [e]; exact e2, by rw [e, e1]; exact asc_lput swo M.asc, M.m3, M.m1, M.odd⟩
    have htb : h0.size ≤ tb := (s.e _ (List.mem_cons_of_mem _ (List.mem_cons_self ..))).2 (by simp)
    have s := hdr_cut (s.front 1 rfl)
    have s0 : St h0 Z ([(tb, 0, hd0 iso ctr), (tb, 4, hd4 mn m), (t8, 0, enc x)] ++ ((tb, 2, [ptr t.id 0]) :: (tb, 3, [.int .i64 t.pt.items.length]) :: (t.all enc ++ E))) h := s.perm (by
      show ((tb, 0, hd0 iso ctr) :: (tb, 4, hd4 mn m) :: (t8, 0, enc x) :: (tb, 2, [ptr t.id 0]) :: (tb, 3, [.int .i64 t.pt.items.length]) :: (t.all enc ++ E)).Perm ((tb, 0, hd0 iso ctr) :: (tb, 4, hd4 mn m) :: (tb, 2, [ptr t.id 0]) :: (tb, 3, [.int .i64 t.pt.items.length]) :: (t8, 0, enc x) :: (t.all enc ++ E))
      ((apply perm_rg; intro f; simp only [List.set_cons_zero, List.set_cons_succ, List.eraseIdx_cons_zero, List.eraseIdx_cons_succ, List.cons_append, List.nil_append, List.map_append, List.map_cons, List.map_nil, List.sum_append, List.sum_cons, List.sum_nil, List.map_flatMap, Nat.add_zero, Nat.zero_add]; ac_rfl)))
    obtain ⟨s1, back⟩ := s0.borrow
    have z0 : (tb, 0, hd0 iso ctr) ∈ [(tb, 0, hd0 iso ctr), (tb, 4, hd4 mn m), (t8, 0, enc x)] ++ Z := List.mem_cons_self ..
    have z4 : (tb, 4, hd4 mn m) ∈ [(tb, 0, hd0 iso ctr), (tb, 4, hd4 mn m), (t8, 0, enc x)] ++ Z := List.mem_cons_of_mem _ (List.mem_cons_self ..)
    have z8 : (t8, 0, enc x) ∈ [(tb, 0, hd0 iso ctr), (tb, 4, hd4 mn m), (t8, 0, enc x)] ++ Z := List.mem_cons_of_mem _ (List.mem_cons_of_mem _ (List.mem_cons_self ..))
    have hgd : Gd iso t := M.gd
    have hfl : t.pt.Fl m 1 := M.fl
    have hasc : Asc lt t.pt.items := M.asc
    have hszt : t.pt.items.length ≤ 4611686018427387903 := hsz
    have hiso : ∀ {E' : List Rg} {h : Heap}, St h0 ([(tb, 0, hd0 iso ctr), (tb, 4, hd4 mn m), (t8, 0, enc x)] ++ Z) (t.all enc ++ E') h → cl h t.id 0 = some (.int .u64 iso) := fun s => by
      obtain ⟨a2, a3, a4, hmem⟩ := topIso (t := t)
      have hown := hgd.mine.nd
      have hci : t.nd.iso = iso := by
        have := hgd.wf
        cases k with
        | zero => exact this.2.1 hown
        | succ k => exact this.1.2.1 hown
      rw [hci] at hmem
      exact (s.e _ (List.mem_append.2 (.inl hmem))).1.at0 0 rfl
    refine r_nil ?_
    refine r_fld ?_
    refine isoLoad_ok (n := t.id) (iso := iso) (by have := s1.getZ z0 (j := 0) (by simp); simpa using this) (by have := s1.get (k := 0) (j := 0) rfl (by simp); simpa using this) (fun _ => hiso (s1.perm (E' := t.all enc ++ ((tb, 2, [ptr t.id 0]) :: (tb, 3, [.int .i64 t.pt.items.length]) :: E)) (by ((apply perm_rg; intro f; simp only [List.set_cons_zero, List.set_cons_succ, List.eraseIdx_cons_zero, List.eraseIdx_cons_succ, List.cons_append, List.nil_append, List.map_append, List.map_cons, List.map_nil, List.sum_append, List.sum_cons, List.sum_nil, List.map_flatMap, Nat.add_zero, Nat.zero_add]; ac_rfl))))) ?_
    refine (down_ok z0 z4 z8 M.m1 M.m3 M.odd t (E := (tb, 2, [ptr t.id 0]) :: (tb, 3, [.int .i64 t.pt.items.length]) :: E) (Nat.le_refl 1) hfl hasc hgd hszt (s1.perm (by ((apply perm_rg; intro f; simp only [List.set_cons_zero, List.set_cons_succ, List.eraseIdx_cons_zero, List.eraseIdx_cons_succ, List.cons_append, List.nil_append, List.map_append, List.map_cons, List.map_nil, List.sum_append, List.sum_cons, List.sum_nil, List.map_flatMap, Nat.add_zero, Nat.zero_add]; ac_rfl)))) (fun c' h' a1 a2 a3 a4 a5 s => ?_) (fun h' s => ?_)).loop
    · unfold loadEnd
      have s : St h0 ([(tb, 0, hd0 iso ctr), (tb, 4, hd4 mn m), (t8, 0, enc x)] ++ Z) ((tb, 3, [.int .i64 t.pt.items.length]) :: (tb, 2, [ptr t.id 0]) :: (c'.all enc ++ E)) h' := s.perm (by ((apply perm_rg; intro f; simp only [List.set_cons_zero, List.set_cons_succ, List.eraseIdx_cons_zero, List.eraseIdx_cons_succ, List.cons_append, List.nil_append, List.map_append, List.map_cons, List.map_nil, List.sum_append, List.sum_cons, List.sum_nil, List.map_flatMap, Nat.add_zero, Nat.zero_add]; ac_rfl)))
      refine r_nil ?_
      refine r_fld ?_
      refine s.r_load1 0 (o := 3) (j := 0) rfl rfl ?_
      refine r_add (z := ((t.pt.items.length + 1 : Nat) : Int)) (by rw [i64w (by omega) (by omega)]; omega) ?_
      refine r_nil ?_
      refine r_fld ?_
      refine St.r_store1 s 0 (o := 3) (j := 0) rfl (by simp) rfl ?_; intro h s
      refine r_nil ?_
      refine r_fld ?_
      refine r_fld ?_
      refine s.r_lz z4 0 rfl rfl ?_
      have e0 : rPt (some ⟨k, c'⟩) = (rPt (some ⟨k, t⟩)).set lt m x := by
        show some (⟨k, c'.pt⟩ : (j : Nat) × PT It j) = MT.set lt m (some ⟨k, t.pt⟩) x
        unfold MT.set
        simp only [a2, Bool.false_eq_true, ↓reduceIte, a3]
      have hl : c'.pt.items.length = t.pt.items.length + 1 := by rw [a3, (PT.set_items swo M.odd hfl hasc a2).1, lput_length, (pos_end a1).2]; rfl
      have := H (some ⟨k, c'⟩) h e0 (key _ e0 a5) (by
        have s2 := back _ h s
        show St h0 Z ((tb, 0, hdr iso ctr (some ⟨c'.id, 0, Option.none⟩) c'.pt.items.length mn m) :: (c'.all enc ++ E)) h
        refine hdr_glue ?_
        rw [hl, a4]
        exact (s2.perm (E' := (t8, 0, enc x) :: (tb, 0, hd0 iso ctr) :: (tb, 4, hd4 mn m) :: (tb, 2, [ptr t.id 0]) :: (tb, 3, [.int .i64 ((t.pt.items.length + 1 : Nat) : Int)]) :: (c'.all enc ++ E)) (by ((apply perm_rg; intro f; simp only [List.set_cons_zero, List.set_cons_succ, List.eraseIdx_cons_zero, List.eraseIdx_cons_succ, List.cons_append, List.nil_append, List.map_append, List.map_cons, List.map_nil, List.sum_append, List.sum_cons, List.sum_nil, List.map_flatMap, Nat.add_zero, Nat.zero_add]; ac_rfl)))).drop 1)
      have hn : lget lt (rPt (some ⟨k, t⟩)).items x = none := (pos_end a1).2
      rw [hn] at this
      exact this
    · unfold Map_ii_Load.j2
      have s : St h0 ([(tb, 0, hd0 iso ctr), (tb, 4, hd4 mn m), (t8, 0, enc x)] ++ Z) ((tb, 2, [ptr t.id 0]) :: (tb, 3, [.int .i64 t.pt.items.length]) :: ((t.bump 1).all enc ++ E)) h' := s.perm (by ((apply perm_rg; intro f; simp only [List.set_cons_zero, List.set_cons_succ, List.eraseIdx_cons_zero, List.eraseIdx_cons_succ, List.cons_append, List.nil_append, List.map_append, List.map_cons, List.map_nil, List.sum_append, List.sum_cons, List.sum_nil, List.map_flatMap, Nat.add_zero, Nat.zero_add]; ac_rfl)))
      refine r_nil ?_
      refine r_fld ?_
      refine s.r_load1 0 (o := 2) (j := 0) rfl rfl ?_
      refine (revert_ok M.m1 t (E := (tb, 2, [ptr t.id 0]) :: (tb, 3, [.int .i64 t.pt.items.length]) :: E) hfl hgd hszt (s.perm (by ((apply perm_rg; intro f; simp only [List.set_cons_zero, List.set_cons_succ, List.eraseIdx_cons_zero, List.eraseIdx_cons_succ, List.cons_append, List.nil_append, List.map_append, List.map_cons, List.map_nil, List.sum_append, List.sum_cons, List.sum_nil, List.map_flatMap, Nat.add_zero, Nat.zero_add]; ac_rfl)))) fun h' s => ?_).loop
      unfold Map_ii_Load.j3
      have s2 := back ((tb, 2, [ptr t.id 0]) :: (tb, 3, [.int .i64 t.pt.items.length]) :: (t.all enc ++ E)) h' (s.perm (by ((apply perm_rg; intro f; simp only [List.set_cons_zero, List.set_cons_succ, List.eraseIdx_cons_zero, List.eraseIdx_cons_succ, List.cons_append, List.nil_append, List.map_append, List.map_cons, List.map_nil, List.sum_append, List.sum_cons, List.sum_nil, List.map_flatMap, Nat.add_zero, Nat.zero_add]; ac_rfl))))
      have s3 : St h0 Z ((t8, 0, enc x) :: (tb, 0, hdr iso ctr (rA (some ⟨k, t⟩)) (rPt (some ⟨k, t⟩)).items.length mn m) :: (rAll (some ⟨k, t⟩) ++ E)) h' := by
        have s4 : St h0 Z ((tb, 0, hd0 iso ctr) :: (tb, 4, hd4 mn m) :: (tb, 2, [ptr t.id 0]) :: (tb, 3, [.int .i64 t.pt.items.length]) :: (t8, 0, enc x) :: (t.all enc ++ E)) h' := s2.perm (by ((apply perm_rg; intro f; simp only [List.set_cons_zero, List.set_cons_succ, List.eraseIdx_cons_zero, List.eraseIdx_cons_succ, List.cons_append, List.nil_append, List.map_append, List.map_cons, List.map_nil, List.sum_append, List.sum_cons, List.sum_nil, List.map_flatMap, Nat.add_zero, Nat.zero_add]; ac_rfl)))
        exact (hdr_glue s4).perm (by ((apply perm_rg; intro f; simp only [List.set_cons_zero, List.set_cons_succ, List.eraseIdx_cons_zero, List.eraseIdx_cons_succ, List.cons_append, List.nil_append, List.map_append, List.map_cons, List.map_nil, List.sum_append, List.sum_cons, List.sum_nil, List.map_flatMap, Nat.add_zero, Nat.zero_add]; ac_rfl)))
      have s := s3
      refine r_fld ?_
      refine St.r_load0 s 0 rfl rfl ?_
      refine r_fld ?_
      refine St.r_load0 s 0 rfl rfl ?_
      refine Set_ok (tb := tb) (ctr := ctr) (x := x) (E := (t8, 0, enc x) :: E) M hmn hsz (s3.perm (by ((apply perm_rg; intro f; simp only [List.set_cons_zero, List.set_cons_succ, List.eraseIdx_cons_zero, List.eraseIdx_cons_succ, List.cons_append, List.nil_append, List.map_append, List.map_cons, List.map_nil, List.sum_append, List.sum_cons, List.sum_nil, List.map_flatMap, Nat.add_zero, Nat.zero_add]; ac_rfl)))) fun g' h' e M' s => ?_
      refine r_ext rfl ?_
      refine r_ext rfl ?_
      exact H g' h' e M' ((s.perm (E' := (t8, 0, enc x) :: (tb, 0, hdr iso ctr (rA g') (rPt g').items.length mn m) :: (rAll g' ++ E)) (by ((apply perm_rg; intro f; simp only [List.set_cons_zero, List.set_cons_succ, List.eraseIdx_cons_zero, List.eraseIdx_cons_succ, List.cons_append, List.nil_append, List.map_append, List.map_cons, List.map_nil, List.sum_append, List.sum_cons, List.sum_nil, List.map_flatMap, Nat.add_zero, Nat.zero_add]; ac_rfl)))).drop 1)
end Go.Proofs.Ytkkappjbcgnacaa.Ii
end
section
namespace Go.Proofs.Ytkkappjbcgnacaa.Ii
open Go.Hp Go.Proofs.Ytkkappjbcgnacaa
set_option linter.unusedVariables false
set_option linter.unusedSimpArgs false
set_option maxHeartbeats 4000000
variable {h0 h : Heap} {Z E : List Rg} {Q : Value → Heap → Prop}
attribute [local irreducible] load1 loadN store1 storeN fld nilck lenV idx arith cmpI notV extr mkSl app cpy slc ifV

/-- What is taken out: the last item, or the one that is as x. -/
def Taken (mx : Bool) (x : It) (l l' : List It) (y : It) (ok : Bool) : Prop :=
  if mx then ok = true ∧ l = l' ++ [y] else match lget lt l x with
    | none => ok = false ∧ y = emp ∧ l' = l
    | some z => ok = true ∧ y = z ∧ l' = ldel lt l x
def DelOk (h0 : Heap) (Z : List Rg) (tb m : Nat) (iso : Int) (k : Nat) : Prop := ∀ (t : GT It k) {h : Heap} {E : List Rg} {Q : Value → Heap → Prop} {pb po lo : Nat} (mx : Bool) (x : It), t.pt.Fl m lo → Asc lt t.pt.items → t.pt.items.length ≤ 4611686018427387903 → Gd iso t → 1 ≤ t.nd.its.length →
  St h0 Z ((pb, po, [ptr t.id 0]) :: (t.all enc ++ E)) h →
  (∀ (t' : GT It k) h' y ok, t'.id = t.id → Gd iso t' → t'.pt.Fl m (t.nd.its.length - if ok then 1 else 0) → Taken mx x t.pt.items t'.pt.items y ok → St h0 Z ((pb, po, [ptr t.id 0]) :: (t'.all enc ++ E)) h' → Q (.tuple #[.agg (enc y).toArray, .bool ok]) h') →
  Map_ii_delete.call #[ptr tb 0, ptr pb po, .bool mx, kv x.1] h Q

theorem del_leaf {tb m : Nat} {iso mn : Int} {ctr : Option Addr} (hT0 : (tb, 0, hd0 iso ctr) ∈ Z) (hT4 : (tb, 4, hd4 mn m) ∈ Z) (hm1 : m ≤ 1024) : DelOk h0 Z tb m iso 0 := by
  intro (d : Nd It) h E Q pb po lo mx x fl ha hsz g h1 s H
  obtain ⟨own, n, is', cnt, its, iv, ib, io, isp, kb, kv', krb, kro, ksp⟩ := d
  have w : Own 2 iv its.length ib io (its.flatMap enc) isp := g.wf.1
  have hiso : is' = iso := g.iso
  have hcn : cnt = its.length := g.cn
  subst hiso; subst hcn
  have hl : its.length ≤ m := fl.2
  have h1 : 1 ≤ its.length := h1
  have ha : Asc lt its := ha
  have hi : ∀ {E h}, St h0 Z E h → cl h tb 0 = some (.int .u64 is') := fun s => by have := s.getZ hT0 (j := 0) (by simp); simpa using this
  have s : St h0 Z ((pb, po, [ptr n 0]) :: (n, 0, [.int .u64 is', .int .i64 its.length, iv, .pointer none]) :: (ib, io, its.flatMap enc ++ isp) :: E) h := s
  show Map_ii_delete.call #[ptr tb 0, ptr pb po, .bool mx, kv x.1] h Q
  refine Map_ii_delete.body _ _ _ _ _ _ ?_
  unfold Map_ii_delete.sh
  refine s.r_alloc fun t8 h s => ?_
  refine isoLoad_ok (hi s) (by have := s.get (k := 1) (j := 0) rfl (by simp); simpa using this) (fun _ => s.cl0 2 rfl rfl) ?_
  have s : St h0 Z ((t8, 0, enc emp) :: (pb, po, [ptr n 0]) :: (n, 0, [.int .u64 is', .int .i64 its.length, iv, .pointer none]) :: (ib, io, its.flatMap enc ++ isp) :: E) h := s
  have fin : ∀ (i : Nat) (hi : i < its.length) (kk : Value), Taken mx x its (its.eraseIdx i) its[i] true → Map_ii_delete.j1 (ptr tb 0) (.bool mx) kk (ptr t8 0) (ptr n 0) (.int .i64 i) (.bool true) h Q := by
    intro i hi kk hT
    unfold Map_ii_delete.j1
    refine leaf_ok (a := none) (s.cl0 2 rfl rfl) ?_
    refine r_if (fun _ => ?_) (fun e => absurd e (by simp))
    refine r_if (fun _ => ?_) (fun e => absurd e (by simp))
    refine r_nil ?_
    refine r_fld ?_
    refine St.r_load0 s 2 rfl rfl ?_
    (refine Own.idx (by assumption) rfl (by first | omega | (simp; done) | (simp; omega)) ?_)
    (refine s.r_loadF encl 3 rfl (List.getElem?_eq_getElem (by first | omega | (simp; done) | (simp; omega))) ?_)
    refine s.r_alloc fun t13 h s => ?_
    (refine St.r_storeN0 s 0 rfl rfl (by simp) (enc1 _) ?_; intro h s; try simp only [List.set_cons_zero, List.set_cons_succ] at s)
    refine r_nil ?_
    refine r_fld ?_
    refine St.r_load0 s 3 rfl rfl ?_
    refine w.slcLo encl (i := i) rfl (by omega) fun dd wd => ?_
    refine r_nil ?_
    refine r_fld ?_
    refine St.r_load0 s 3 rfl rfl ?_
    refine r_add1 (by omega) ?_
    refine (w.rdl s 4 rfl).slcLo encl (i := i + 1) rfl (by omega) fun src rs => ?_
    refine s.r_cpyF encl 4 (L := its) (M := its.drop (i + 1)) rfl wd (by simp; omega) rs rfl (fun y _ => enc1 y) fun h s => ?_
    refine r_nil ?_
    refine r_fld ?_
    refine St.r_load0 s 3 rfl rfl ?_
    refine r_nil ?_
    refine r_fld ?_
    refine St.r_load0 s 3 rfl rfl ?_
    refine Own.lenV (by assumption) ?_
    refine r_sub1 (by omega) (by omega) ?_
    refine r_nil ?_
    refine r_fld ?_
    refine s.r_lzE hT4 0 (enc emp) rfl (by simp) rfl ?_
    (refine Own.idx (by assumption) rfl (by first | omega | (simp; done) | (simp; omega)) ?_)
    (refine s.r_storeF encl 4 rfl (by first | omega | (simp; done) | (simp; omega)) (enc1 _) ?_; intro h s; try simp only [List.set_cons_zero, List.set_cons_succ] at s)
    refine r_nil ?_
    refine r_fld ?_
    refine St.r_load0 s 3 rfl rfl ?_
    refine r_nil ?_
    refine r_fld ?_
    refine St.r_load0 s 3 rfl rfl ?_
    refine Own.lenV (by assumption) ?_
    refine r_sub1 (by omega) (by omega) ?_
    refine (w.list encl (del_len its emp hi)).slcHi encl rfl (by rw [del_len _ _ hi]; omega) fun iv2 w2 => ?_
    have s := s.del (f := enc) 4 rfl _ (del_erase its emp hi)
    rw [del_erase its emp hi] at w2
    refine r_nil ?_
    refine r_fld ?_
    (refine St.r_store0 s 3 rfl (by simp) (Own.one (by assumption)) ?_; intro h s; try simp only [List.set_cons_zero, List.set_cons_succ] at s)
    refine r_nil ?_
    refine r_fld ?_
    refine St.r_load0 s 3 rfl rfl ?_
    refine r_sub1 (by omega) (by omega) ?_
    refine r_nil ?_
    refine r_fld ?_
    (refine St.r_store0 s 3 rfl (by simp) rfl ?_; intro h s; try simp only [List.set_cons_zero, List.set_cons_succ] at s)
    refine St.r_loadN0 s 0 rfl (by simp) ?_
    (refine St.r_storeN0 s 1 rfl rfl (by simp) (enc1 _) ?_; intro h s; try simp only [List.set_cons_zero, List.set_cons_succ] at s)
    refine St.r_loadN0 s 1 rfl (by simp) ?_
    have hel : (its.eraseIdx i).length = its.length - 1 := by rw [List.length_eraseIdx, if_pos hi]
    obtain ⟨t', ht1, gt, ht2, ht3, ht4⟩ := mk_leaf (iso := is') (n := n) w2
    refine H t' h its[i] true ht1 gt ?_ ?_ ((s.perm (E' := (t13, 0, enc its[i]) :: (t8, 0, enc its[i]) :: ((pb, po, [ptr n 0]) :: (t'.all enc ++ E))) ?_).drop 2)
    · rw [ht2]; exact fl_leaf (Nat.le_of_eq hel.symm) (by omega)
    · rw [ht2]; exact hT
    · rw [ht4]
      rw [hel]
      ((apply perm_rg; intro f; simp only [List.set_cons_zero, List.set_cons_succ, List.eraseIdx_cons_zero, List.eraseIdx_cons_succ, List.cons_append, List.nil_append, List.map_append, List.map_cons, List.map_nil, List.sum_append, List.sum_cons, List.sum_nil, List.map_flatMap, Nat.add_zero, Nat.zero_add]; ac_rfl))
  refine r_if (fun hmx => ?_) (fun hmx => ?_)
  · subst hmx
    refine r_nil ?_
    refine r_fld ?_
    refine St.r_load0 s 2 rfl rfl ?_
    refine Own.lenV (by assumption) ?_
    refine r_sub1 (by omega) (by omega) ?_
    refine fin (its.length - 1) (by omega) _ ?_
    obtain ⟨R, z, e⟩ := last_of h1
    subst e
    show _ ∧ _
    refine ⟨rfl, ?_⟩
    have := eraseIdx_at (P := R) (S := []) (y := z) rfl
    simp only [List.length_append, List.length_singleton, Nat.add_sub_cancel, this]
    simp
  · subst hmx
    refine search_ok (x := x) ha (by omega) (s.cl0 2 rfl rfl) (w.rdl s 3 rfl) ?_
    refine r_ext rfl ?_
    refine r_ext rfl ?_
    cases hg : lget lt its x with
    | some z =>
      obtain ⟨hp, hz, h3, h4⟩ := lget_some hg
      refine fin (pos lt its x) hp _ ?_
      show (match lget lt its x with | none => _ | some z => _ : Prop)
      rw [hg]
      exact ⟨rfl, hz, by rw [ldel_some hg, List.eraseIdx_eq_take_drop_succ]⟩
    | none =>
      unfold Map_ii_delete.j1
      refine leaf_ok (a := none) (s.cl0 2 rfl rfl) ?_
      refine r_if (fun _ => ?_) (fun e => absurd e (by simp))
      refine r_if (fun e => absurd e (by simp)) (fun _ => ?_)
      unfold Map_ii_delete.j6
      refine r_nil ?_
      refine r_fld ?_
      refine s.r_lzE hT4 0 (enc emp) rfl (by simp) rfl ?_
      (refine St.r_storeN0 s 0 rfl rfl (by simp) (enc1 _) ?_; intro h s; try simp only [List.set_cons_zero, List.set_cons_succ] at s)
      refine St.r_loadN0 s 0 rfl (by simp) ?_
      refine H _ h emp false rfl g (fl_any fl (Nat.le_refl its.length)) ?_ (s.drop 1)
      show (match lget lt its x with | none => _ | some z => _ : Prop)
      rw [hg]
      exact ⟨rfl, rfl, rfl⟩

theorem DelOk.succ {tb m : Nat} {iso mn : Int} {ctr : Option Addr} (hT0 : (tb, 0, hd0 iso ctr) ∈ Z) (hT4 : (tb, 4, hd4 mn m) ∈ Z) (hmn : mn = ((m / 2 : Nat) : Int)) (hm3 : 3 ≤ m) (hm1 : m ≤ 1024) (ho : m % 2 = 1) {k : Nat} (ih : DelOk h0 Z tb m iso k) : DelOk h0 Z tb m iso (k + 1) := by
  intro t h E Q pb po lo mx x fl ha hsz g h1 s H
  obtain ⟨d, ts⟩ := t
  obtain ⟨own, n, is', cnt, its, iv, ib, io, isp, kb, kv', krb, kro, ksp⟩ := d
  have w : Own 2 iv its.length ib io (its.flatMap enc) isp := g.own
  have wK : Own 1 kv' ((ts.map GT.id).map pp).length krb kro (((ts.map GT.id).map pp).flatMap fv) ksp := g.ownK
  have hiso : is' = iso := g.iso
  have hcn : cnt = (PT.items (h := k + 1) (its, ts.map GT.pt)).length := g.cn.1
  subst hiso
  have hl : its.length ≤ m := fl.2.1
  have h1 : 1 ≤ its.length := h1
  have hkl : ts.length = its.length + 1 := g.wf.2.2.1
  have hKl : ((ts.map GT.id).map pp).length = ts.length := by rw [List.length_map, List.length_map]
  have fl : PT.Fl m lo (h := k + 1) (its, ts.map GT.pt) := fl
  have ha : Asc lt (PT.items (h := k + 1) (its, ts.map GT.pt)) := ha
  have ha1 : Asc lt its := asc_of_sub ha (PT.its_sub1 ((its, ts.map GT.pt) : PT It (k + 1)))
  have hsz : (PT.items (h := k + 1) (its, ts.map GT.pt)).length ≤ 4611686018427387903 := hsz
  have hi : ∀ {E h}, St h0 Z E h → cl h tb 0 = some (.int .u64 is') := fun s => by have := s.getZ hT0 (j := 0) (by simp); simpa using this
  have s : St h0 Z ((pb, po, [ptr n 0]) :: (((n, 0, [.int .u64 is', .int .i64 cnt, iv, ptr kb 0]) :: (ib, io, its.flatMap enc ++ isp) :: (kb, 0, [kv']) :: (krb, kro, ((ts.map GT.id).map pp).flatMap fv ++ ksp) :: ts.flatMap (GT.all enc)) ++ E)) h := by
    have e := all_eq (k := k + 1) ((⟨own, n, is', cnt, its, iv, ib, io, isp, kb, kv', krb, kro, ksp⟩ : Nd It), ts)
    rw [e] at s; exact s
  subst hcn
  have s : St h0 Z ((pb, po, [ptr n 0]) :: (n, 0, [.int .u64 is', .int .i64 (PT.items (h := k + 1) (its, ts.map GT.pt)).length, iv, ptr kb 0]) :: (ib, io, its.flatMap enc ++ isp) :: (kb, 0, [kv']) :: (krb, kro, ((ts.map GT.id).map pp).flatMap fv ++ ksp) :: (ts.flatMap (GT.all enc) ++ E)) h := s
  have hkid : ∀ {i : Nat} {c : GT It k}, ts[i]? = some c → PT.Fl m (m / 2) c.pt ∧ Gd is' c ∧ 1 ≤ c.nd.its.length ∧ c.pt.items.length ≤ 4611686018427387903 ∧ Asc lt c.pt.items := fun {i c} hc => by
    have hcm := List.mem_of_getElem? hc
    have fc : PT.Fl m (m / 2) c.pt := fl.2.2.2 _ (List.mem_map.2 ⟨c, hcm, rfl⟩)
    refine ⟨fc, g.kid hcm, by have := (fl_its fc).1; omega, ?_, ?_⟩
    rotate_left
    · have hil := (List.getElem?_eq_some_iff.1 hc).1
      obtain ⟨q, hq, _, e⟩ := PT.around fl (i := i) (by show i ≤ its.length; omega)
      have hq : (ts.map GT.pt)[i]? = some q := hq
      rw [List.getElem?_map, hc] at hq
      have := Option.some.inj hq
      subst this
      have ha2 := ha
      rw [e] at ha2
      exact (asc_app (asc_app ha2).2.1).1
    have e1 : (inter its ((ts.map GT.pt).map PT.items)).length = _ := inter_length _ _
    have e2 : (inter its ((ts.map GT.pt).map PT.items)).length ≤ 4611686018427387903 := hsz
    have e3 : c.pt.items.length ≤ (((ts.map GT.pt).map PT.items).map List.length).sum := mem_le_sum (by
      rw [List.map_map, List.map_map]; exact List.mem_map.2 ⟨c, hcm, rfl⟩)
    omega
  show Map_ii_delete.call #[ptr tb 0, ptr pb po, .bool mx, kv x.1] h Q
  refine Map_ii_delete.body _ _ _ _ _ _ ?_
  unfold Map_ii_delete.sh
  refine s.r_alloc fun t8 h s => ?_
  refine isoLoad_ok (hi s) (by have := s.get (k := 1) (j := 0) rfl (by simp); simpa using this) (fun _ => s.cl0 2 rfl rfl) ?_
  -- behind the call below the kid
  have fin : ∀ {i : Nat} {c c' : GT It k} {y : It} {ok : Bool} {its' : List It} {t8' t14 : Nat} {h : Heap}, ts[i]? = some c → c'.id = c.id → Gd is' c' → c'.pt.Fl m (c.nd.its.length - if ok then 1 else 0) → its'.length = its.length →
      Taken mx x (PT.items (h := k + 1) (its, ts.map GT.pt)) (PT.items (h := k + 1) (its', (ts.map GT.pt).set i c'.pt)) y ok →
      St h0 Z ((t14, 0, enc y) :: (t8', 0, enc emp) :: (pb, po, [ptr n 0]) :: (n, 0, [.int .u64 is', .int .i64 (PT.items (h := k + 1) (its, ts.map GT.pt)).length, iv, ptr kb 0]) :: (ib, io, its'.flatMap enc ++ isp) :: (kb, 0, [kv']) :: (krb, kro, (((ts.set i c').map GT.id).map pp).flatMap fv ++ ksp) :: ((ts.set i c').flatMap (GT.all enc) ++ E)) h →
      Map_ii_delete.j3 (ptr tb 0) (ptr t8' 0) (ptr n 0) (.int .i64 i) (ptr t14 0) (.bool ok) h Q := by
    intro i c c' y ok its' t8' t14 h hc hid gc' fc' hil hT s
    obtain ⟨fc, gc, hc1, _, _⟩ := hkid hc
    have hils : i < ts.length := (List.getElem?_eq_some_iff.1 hc).1
    have w' : Own 2 iv its'.length ib io (its'.flatMap enc) isp := w.list encl hil
    have wK' : Own 1 kv' (((ts.set i c').map GT.id).map pp).length krb kro ((((ts.set i c').map GT.id).map pp).flatMap fv) ksp := by rw [set_ids hc hid]; exact wK
    have gk' : ∀ q ∈ ts.set i c', Gd is' q := fun q hq => by
      rcases List.mem_or_eq_of_mem_set hq with e | e
      · exact g.kid e
      · rw [e]; exact gc'
    have ept : (ts.set i c').map GT.pt = (ts.map GT.pt).set i c'.pt := List.map_set ..
    rw [← ept] at hT
    have hcl := (fl_its fc).1
    unfold Map_ii_delete.j3
    refine r_not ?_
    refine r_if (fun hn => ?_) (fun hn => ?_)
    · have hn : ok = false := by simpa using hn
      subst hn
      refine r_nil ?_
      refine r_fld ?_
      refine s.r_lzE hT4 0 (enc emp) rfl (by simp) rfl ?_
      (refine St.r_storeN0 s 1 rfl rfl (by simp) (enc1 _) ?_; intro h s; try simp only [List.set_cons_zero, List.set_cons_succ] at s)
      refine St.r_loadN0 s 1 rfl (by simp) ?_
      cases mx with
      | true => exact absurd hT.1 (by decide)
      | false =>
        have hT0' : (match lget lt (PT.items (h := k + 1) (its, ts.map GT.pt)) x with | none => _ | some z => _ : Prop) := hT
        cases hg : lget lt (PT.items (h := k + 1) (its, ts.map GT.pt)) x with
        | some z => rw [hg] at hT0'; exact absurd hT0'.1 (by decide)
        | none =>
          rw [hg] at hT0'
          obtain ⟨t', ht1, gt, ht2, ht3, ht4⟩ := mk_inner (n := n) (kb := kb) (iso := is') w' wK' (by rw [List.length_set]; omega) gk'
          have e4 : (PT.items (h := k + 1) (its', (ts.set i c').map GT.pt)).length = (PT.items (h := k + 1) (its, ts.map GT.pt)).length := congrArg List.length hT0'.2.2
          refine H t' h emp false ht1 gt ?_ (by rw [ht2]; show (match lget lt (PT.items (h := k + 1) (its, ts.map GT.pt)) x with | none => _ | some z => _ : Prop); rw [hg]; exact ⟨rfl, rfl, hT0'.2.2⟩)
            ((s.perm (E' := (t14, 0, enc y) :: (t8', 0, enc emp) :: ((pb, po, [ptr n 0]) :: (t'.all enc ++ E))) (by rw [ht4, e4]; ((apply perm_rg; intro f; simp only [List.set_cons_zero, List.set_cons_succ, List.eraseIdx_cons_zero, List.eraseIdx_cons_succ, List.cons_append, List.nil_append, List.map_append, List.map_cons, List.map_nil, List.sum_append, List.sum_cons, List.sum_nil, List.map_flatMap, Nat.add_zero, Nat.zero_add]; ac_rfl)))).drop 2)
          rw [ht2]
          refine fl_inner (by rw [hil]; exact Nat.le_refl _) (by omega) (by rw [List.length_map, List.length_set]; omega) fun q hq => ?_
          rw [ept] at hq
          rcases List.mem_or_eq_of_mem_set hq with e | e
          · exact fl.2.2.2 q e
          · rw [e]; exact fc'.mono (by simp; omega)
    · have hn : ok = true := by simpa using hn
      subst hn
      have hcnt : (PT.items (h := k + 1) (its, ts.map GT.pt)).length = (PT.items (h := k + 1) (its', (ts.set i c').map GT.pt)).length + 1 := by
        cases mx with
        | true => have := congrArg List.length hT.2; rw [List.length_append] at this; exact this
        | false =>
          have hT0' : (match lget lt (PT.items (h := k + 1) (its, ts.map GT.pt)) x with | none => _ | some z => _ : Prop) := hT
          have hd := ldel_len (lt := lt) (PT.items (h := k + 1) (its, ts.map GT.pt)) x
          cases hg : lget lt (PT.items (h := k + 1) (its, ts.map GT.pt)) x with
          | none => rw [hg] at hT0'; exact absurd hT0'.1 (by decide)
          | some z =>
            rw [hg] at hT0' hd
            rw [hT0'.2.2]
            simpa using hd.symm
      rw [hcnt] at s
      refine del_after (i := i) hT0 hT4 hmn hm3 hm1 ho w' wK' gk' (lo := lo) (by rw [ept]; exact fx_set fl (fc'.mono (by simp; omega)) its' hil) (by omega) (by omega) (by omega) s fun t' h' e1 e2 e3 g' s => ?_
      refine H t' h' y true e1 g' (by rw [hil] at e3; exact e3) ?_ s
      rw [e2]; exact hT
  have s : St h0 Z ((t8, 0, enc emp) :: (pb, po, [ptr n 0]) :: (n, 0, [.int .u64 is', .int .i64 (PT.items (h := k + 1) (its, ts.map GT.pt)).length, iv, ptr kb 0]) :: (ib, io, its.flatMap enc ++ isp) :: (kb, 0, [kv']) :: (krb, kro, ((ts.map GT.id).map pp).flatMap fv ++ ksp) :: (ts.flatMap (GT.all enc) ++ E)) h := s
  refine r_if (fun hmx => ?_) (fun hmx => ?_)
  · subst hmx
    refine r_nil ?_
    refine r_fld ?_
    refine St.r_load0 s 2 rfl rfl ?_
    refine Own.lenV (by assumption) ?_
    refine r_sub1 (by omega) (by omega) ?_
    unfold Map_ii_delete.j1
    refine leaf_ok (a := some ⟨kb, 0, none⟩) (s.cl0 2 rfl rfl) ?_
    refine r_if (fun e => absurd e (by simp)) (fun _ => ?_)
    unfold Map_ii_delete.j2
    refine s.r_alloc fun t14 h s => ?_
    refine r_if (fun _ => ?_) (fun e => absurd e (by simp))
    refine r_if (fun _ => ?_) (fun e => absurd e (by simp))
    refine r_add (z := ((its.length : Nat) : Int)) (by rw [i64w (by omega) (by omega)]; omega) ?_
    obtain ⟨cp, hcp, _, hdel⟩ := PT.del_last fl
    obtain ⟨c, hc⟩ : ∃ c, ts[its.length]? = some c := ⟨ts[its.length]'(by omega), List.getElem?_eq_getElem (by omega)⟩
    have : cp = c.pt := by
      have hcp : (ts.map GT.pt)[its.length]? = some cp := hcp
      rw [List.getElem?_map, hc] at hcp; exact (Option.some.inj hcp).symm
    subst this
    obtain ⟨fc, gc, hc1, hcsz, hac⟩ := hkid hc
    refine r_nil ?_
    refine r_fld ?_
    refine St.r_load0 s 3 rfl rfl ?_
    refine r_nil ?_
    refine St.r_load0 s 5 rfl rfl ?_
    (refine Own.idx (by assumption) rfl (by first | omega | (simp; done) | (simp; omega)) ?_)
    refine r_nil ?_
    refine r_fld ?_
    refine r_fld ?_
    refine s.r_lz hT4 1 rfl rfl ?_
    rw [← fpv] at s
    obtain ⟨E', sk, back⟩ := lend_kid (A := (t14, 0, enc emp) :: (t8, 0, enc emp) :: (pb, po, [ptr n 0]) :: (n, 0, [.int .u64 is', .int .i64 (PT.items (h := k + 1) (its, ts.map GT.pt)).length, iv, ptr kb 0]) :: (ib, io, its.flatMap enc ++ isp) :: (kb, 0, [kv']) :: []) (E := E) (kb := kb) (kv := kv') hc s
    refine ih c true emp fc hac hcsz gc hc1 sk fun c' h' y ok hid gc' fc' hT s => ?_
    have s := back c' h' hid s
    rw [fpv] at s
    have s : St h0 Z ((t14, 0, enc emp) :: (t8, 0, enc emp) :: (pb, po, [ptr n 0]) :: (n, 0, [.int .u64 is', .int .i64 (PT.items (h := k + 1) (its, ts.map GT.pt)).length, iv, ptr kb 0]) :: (ib, io, its.flatMap enc ++ isp) :: (kb, 0, [kv']) :: (krb, kro, (((ts.set its.length c').map GT.id).map pp).flatMap fv ++ ksp) :: ((ts.set its.length c').flatMap (GT.all enc) ++ E)) h' := s
    refine r_ext rfl ?_
    refine r_ext rfl ?_
    (refine St.r_storeN0 s 0 rfl rfl (by simp) (enc1 _) ?_; intro h s; try simp only [List.set_cons_zero, List.set_cons_succ] at s)
    obtain ⟨rfl, hT2⟩ : ok = true ∧ c.pt.items = c'.pt.items ++ [y] := hT
    refine fin hc hid gc' fc' rfl ⟨rfl, ?_⟩ s
    exact hdel c'.pt y hT2
  · subst hmx
    refine search_ok (x := x) ha1 (by omega) (s.cl0 2 rfl rfl) (w.rdl s 3 rfl) ?_
    refine r_ext rfl ?_
    refine r_ext rfl ?_
    unfold Map_ii_delete.j1
    refine leaf_ok (a := some ⟨kb, 0, none⟩) (s.cl0 2 rfl rfl) ?_
    refine r_if (fun e => absurd e (by simp)) (fun _ => ?_)
    unfold Map_ii_delete.j2
    refine s.r_alloc fun t14 h s => ?_
    have hple := pos_le (lt := lt) its x
    have s : St h0 Z ((t14, 0, enc emp) :: (t8, 0, enc emp) :: (pb, po, [ptr n 0]) :: (n, 0, [.int .u64 is', .int .i64 (PT.items (h := k + 1) (its, ts.map GT.pt)).length, iv, ptr kb 0]) :: (ib, io, its.flatMap enc ++ isp) :: (kb, 0, [kv']) :: (krb, kro, ((ts.map GT.id).map pp).flatMap fv ++ ksp) :: (ts.flatMap (GT.all enc) ++ E)) h := s
    obtain ⟨c, hc⟩ : ∃ c, ts[pos lt its x]? = some c := ⟨ts[pos lt its x]'(by omega), List.getElem?_eq_getElem (by omega)⟩
    have hcp : (ts.map GT.pt)[pos lt its x]? = some c.pt := by rw [List.getElem?_map, hc]; rfl
    obtain ⟨fc, gc, hc1, hcsz, hac⟩ := hkid hc
    cases hg : lget lt its x with
    | some z =>
      obtain ⟨hp, hz, h3, h4⟩ := lget_some hg
      obtain ⟨cp, hcp2, _, _, hgt, hdel⟩ := PT.del_own swo fl ha hg
      have hgt : lget lt (PT.items (h := k + 1) (its, ts.map GT.pt)) x = some z := hgt
      have : cp = c.pt := Option.some.inj (hcp2.symm.trans hcp)
      subst this
      have hpz : its[pos lt its x]? = some z := by rw [List.getElem?_eq_getElem hp, hz]
      have hT2 : ∀ (c' : GT It k) y, c.pt.items = c'.pt.items ++ [y] → Taken false x (PT.items (h := k + 1) (its, ts.map GT.pt)) (PT.items (h := k + 1) (its.set (pos lt its x) y, (ts.map GT.pt).set (pos lt its x) c'.pt)) z true := fun c' y e => by
        show (match lget lt (PT.items (h := k + 1) (its, ts.map GT.pt)) x with | none => _ | some z => _ : Prop)
        rw [hgt]
        exact ⟨rfl, rfl, hdel c'.pt y e⟩
      refine r_if (fun _ => ?_) (fun e => absurd e (by simp))
      refine r_if (fun e => absurd e (by simp)) (fun _ => ?_)
      refine r_nil ?_
      refine r_fld ?_
      refine St.r_load0 s 3 rfl rfl ?_
      (refine Own.idx (by assumption) rfl (by first | omega | (simp; done) | (simp; omega)) ?_)
      refine s.r_loadF encl 4 rfl (by assumption) ?_
      (refine St.r_storeN0 s 0 rfl rfl (by simp) (enc1 _) ?_; intro h s; try simp only [List.set_cons_zero, List.set_cons_succ] at s)
      refine r_nil ?_
      refine r_fld ?_
      refine St.r_load0 s 3 rfl rfl ?_
      refine r_nil ?_
      refine St.r_load0 s 5 rfl rfl ?_
      (refine Own.idx (by assumption) rfl (by first | omega | (simp; done) | (simp; omega)) ?_)
      refine r_nil ?_
      refine r_fld ?_
      refine r_fld ?_
      refine s.r_lz hT4 1 rfl rfl ?_
      constructor
      · rw [← fpv] at s
        obtain ⟨E', sk, back⟩ := lend_kid (A := (t14, 0, enc z) :: (t8, 0, enc emp) :: (pb, po, [ptr n 0]) :: (n, 0, [.int .u64 is', .int .i64 (PT.items (h := k + 1) (its, ts.map GT.pt)).length, iv, ptr kb 0]) :: (ib, io, its.flatMap enc ++ isp) :: (kb, 0, [kv']) :: []) (E := E) (kb := kb) (kv := kv') hc s
        refine ih c true emp fc hac hcsz gc hc1 sk fun c' h' y ok hid gc' fc' hT s => ?_
        have s := back c' h' hid s
        rw [fpv] at s
        have s : St h0 Z ((t14, 0, enc z) :: (t8, 0, enc emp) :: (pb, po, [ptr n 0]) :: (n, 0, [.int .u64 is', .int .i64 (PT.items (h := k + 1) (its, ts.map GT.pt)).length, iv, ptr kb 0]) :: (ib, io, its.flatMap enc ++ isp) :: (kb, 0, [kv']) :: (krb, kro, (((ts.set (pos lt its x) c').map GT.id).map pp).flatMap fv ++ ksp) :: ((ts.set (pos lt its x) c').flatMap (GT.all enc) ++ E)) h' := s
        obtain ⟨rfl, hT3⟩ : ok = true ∧ c.pt.items = c'.pt.items ++ [y] := hT
        refine r_ext rfl ?_
        refine r_ext rfl ?_
        refine s.r_alloc fun t16 h s => ?_
        (refine St.r_storeN0 s 0 rfl rfl (by simp) (enc1 _) ?_; intro h s; try simp only [List.set_cons_zero, List.set_cons_succ] at s)
        refine r_nil ?_
        refine r_fld ?_
        refine St.r_load0 s 4 rfl rfl ?_
        refine St.r_loadN0 s 0 rfl (by simp) ?_
        (refine Own.idx (by assumption) rfl (by first | omega | (simp; done) | (simp; omega)) ?_)
        (refine s.r_storeF encl 5 rfl (by first | omega | (simp; done) | (simp; omega)) (enc1 _) ?_; intro h s; try simp only [List.set_cons_zero, List.set_cons_succ] at s)
        exact fin hc hid gc' fc' (List.length_set ..) (hT2 c' y hT3) (s.drop 1)
      · refine s.r_alloc fun t16 h s => ?_
        refine ⟨by exact St.r_still0 s 4 rfl rfl, by exact St.r_still0 s 6 rfl rfl, s.r_stillZ hT4 1 rfl rfl, ?_⟩
        rw [← fpv] at s
        obtain ⟨E', sk, back⟩ := lend_kid (A := (t16, 0, enc emp) :: (t14, 0, enc z) :: (t8, 0, enc emp) :: (pb, po, [ptr n 0]) :: (n, 0, [.int .u64 is', .int .i64 (PT.items (h := k + 1) (its, ts.map GT.pt)).length, iv, ptr kb 0]) :: (ib, io, its.flatMap enc ++ isp) :: (kb, 0, [kv']) :: []) (E := E) (kb := kb) (kv := kv') hc s
        refine ih c true emp fc hac hcsz gc hc1 sk fun c' h' y ok hid gc' fc' hT s => ?_
        have s := back c' h' hid s
        rw [fpv] at s
        have s : St h0 Z ((t16, 0, enc emp) :: (t14, 0, enc z) :: (t8, 0, enc emp) :: (pb, po, [ptr n 0]) :: (n, 0, [.int .u64 is', .int .i64 (PT.items (h := k + 1) (its, ts.map GT.pt)).length, iv, ptr kb 0]) :: (ib, io, its.flatMap enc ++ isp) :: (kb, 0, [kv']) :: (krb, kro, (((ts.set (pos lt its x) c').map GT.id).map pp).flatMap fv ++ ksp) :: ((ts.set (pos lt its x) c').flatMap (GT.all enc) ++ E)) h' := s
        obtain ⟨rfl, hT3⟩ : ok = true ∧ c.pt.items = c'.pt.items ++ [y] := hT
        refine r_ext rfl ?_
        refine r_ext rfl ?_
        (refine St.r_storeN0 s 0 rfl rfl (by simp) (enc1 _) ?_; intro h s; try simp only [List.set_cons_zero, List.set_cons_succ] at s)
        refine r_nil ?_
        refine r_fld ?_
        refine St.r_load0 s 4 rfl rfl ?_
        refine St.r_loadN0 s 0 rfl (by simp) ?_
        (refine Own.idx (by assumption) rfl (by first | omega | (simp; done) | (simp; omega)) ?_)
        (refine s.r_storeF encl 5 rfl (by first | omega | (simp; done) | (simp; omega)) (enc1 _) ?_; intro h s; try simp only [List.set_cons_zero, List.set_cons_succ] at s)
        exact fin hc hid gc' fc' (List.length_set ..) (hT2 c' y hT3) (s.drop 1)
    | none =>
      obtain ⟨cp, hcp2, _, _, hgt, hdel⟩ := PT.del_kid swo fl ha hg
      have hgt : lget lt (PT.items (h := k + 1) (its, ts.map GT.pt)) x = lget lt cp.items x := hgt
      have : cp = c.pt := Option.some.inj (hcp2.symm.trans hcp)
      subst this
      refine r_if (fun e => absurd e (by simp)) (fun _ => ?_)
      refine r_nil ?_
      refine r_fld ?_
      refine St.r_load0 s 3 rfl rfl ?_
      refine r_nil ?_
      refine St.r_load0 s 5 rfl rfl ?_
      (refine Own.idx (by assumption) rfl (by first | omega | (simp; done) | (simp; omega)) ?_)
      rw [← fpv] at s
      obtain ⟨E', sk, back⟩ := lend_kid (A := (t14, 0, enc emp) :: (t8, 0, enc emp) :: (pb, po, [ptr n 0]) :: (n, 0, [.int .u64 is', .int .i64 (PT.items (h := k + 1) (its, ts.map GT.pt)).length, iv, ptr kb 0]) :: (ib, io, its.flatMap enc ++ isp) :: (kb, 0, [kv']) :: []) (E := E) (kb := kb) (kv := kv') hc s
      refine ih c false x fc hac hcsz gc hc1 sk fun c' h' y ok hid gc' fc' hT s => ?_
      have s := back c' h' hid s
      rw [fpv] at s
      have s : St h0 Z ((t14, 0, enc emp) :: (t8, 0, enc emp) :: (pb, po, [ptr n 0]) :: (n, 0, [.int .u64 is', .int .i64 (PT.items (h := k + 1) (its, ts.map GT.pt)).length, iv, ptr kb 0]) :: (ib, io, its.flatMap enc ++ isp) :: (kb, 0, [kv']) :: (krb, kro, (((ts.set (pos lt its x) c').map GT.id).map pp).flatMap fv ++ ksp) :: ((ts.set (pos lt its x) c').flatMap (GT.all enc) ++ E)) h' := s
      refine r_ext rfl ?_
      refine r_ext rfl ?_
      (refine St.r_storeN0 s 0 rfl rfl (by simp) (enc1 _) ?_; intro h s; try simp only [List.set_cons_zero, List.set_cons_succ] at s)
      refine fin hc hid gc' fc' rfl ?_ s
      have hT : (match lget lt c.pt.items x with | none => _ | some z => _ : Prop) := hT
      show (match lget lt (PT.items (h := k + 1) (its, ts.map GT.pt)) x with | none => _ | some z => _ : Prop)
      rw [hgt]
      cases hg2 : lget lt c.pt.items x with
      | none =>
        rw [hg2] at hT
        refine ⟨hT.1, hT.2.1, ?_⟩
        exact (hdel c'.pt (by rw [hT.2.2, ldel_none hg2])).trans (ldel_none (hgt.trans hg2))
      | some z =>
        rw [hg2] at hT
        exact ⟨hT.1, hT.2.1, hdel c'.pt hT.2.2⟩
theorem DelOk.all {tb m : Nat} {iso mn : Int} {ctr : Option Addr} (hT0 : (tb, 0, hd0 iso ctr) ∈ Z) (hT4 : (tb, 4, hd4 mn m) ∈ Z) (hmn : mn = ((m / 2 : Nat) : Int)) (hm3 : 3 ≤ m) (hm1 : m ≤ 1024) (ho : m % 2 = 1) : ∀ k, DelOk h0 Z tb m iso k
  | 0 => del_leaf hT0 hT4 hm1
  | k + 1 => DelOk.succ hT0 hT4 hmn hm3 hm1 ho (DelOk.all hT0 hT4 hmn hm3 hm1 ho k)

/-- A tree without an item at its top has one kid. -/
theorem rt_of {iso : Int} {m k : Nat} {t : GT It (k + 1)} (f : t.pt.Fl m 0) (h0 : t.nd.its.length = 0) : ∃ c, t.2 = [c] ∧ t.pt.items = c.pt.items := by
  obtain ⟨d, ts⟩ := t
  have hl : ts.length = d.its.length + 1 := by have := f.2.2.1; simpa [GT.pt] using this
  have h0 : d.its.length = 0 := h0
  have hts : ts.length = 1 := by omega
  obtain ⟨c, e⟩ : ∃ c, ts = [c] := by
    cases ts with
    | nil => simp at hts
    | cons c r => cases r with
      | nil => exact ⟨c, rfl⟩
      | cons _ _ => simp at hts
  subst e
  refine ⟨c, rfl, ?_⟩
  have h0 : d.its.length = 0 := h0
  show inter d.its ([c.pt.items]) = c.pt.items
  rw [List.length_eq_zero_iff.1 h0]
  simp [inter]

/-- How high a map's tree is. -/
def rH : Rt → Nat
  | none => 0
  | some t => t.1 + 1
theorem inner_items {m lo k : Nat} {x : PT It (k + 1)} (hm : 3 ≤ m) (f : x.Fl m lo) : x.items ≠ [] := by
  intro e
  have hl : x.2.length = x.1.length + 1 := f.2.2.1
  obtain ⟨c, r, hc⟩ : ∃ c r, x.2 = c :: r := head_of (by omega)
  have hf := f.2.2.2 c (by rw [hc]; simp)
  have h1 := hf.le.1
  have h2 := (PT.its_sub c).length_le
  have h3 : (inter x.1 (x.2.map PT.items)).length = 0 := by
    have : inter x.1 (x.2.map PT.items) = [] := e
    rw [this]; rfl
  rw [inter_length, hc] at h3
  simp only [List.map_cons, List.sum_cons] at h3
  omega
theorem Delete_okH {tb m : Nat} {iso : Int} {ctr : Option Addr} {g : Rt} {x : It} (M : MapOk m iso g) (hsz : (rPt g).items.length ≤ 4611686018427387903) (s : St h0 Z ((tb, 0, hdr iso ctr (rA g) (rPt g).items.length ((m / 2 : Nat) : Int) m) :: (rAll g ++ E)) h)
    (H : ∀ (g' : Rt) h', (rPt g').items = ldel lt (rPt g).items x → MapOk m iso g' → (rH g' = rH g ∨ rH g' + 1 = rH g) → St h0 Z ((tb, 0, hdr iso ctr (rA g') (rPt g').items.length ((m / 2 : Nat) : Int) m) :: (rAll g' ++ E)) h' → Q (.tuple #[old (lget lt (rPt g).items x), .bool (lget lt (rPt g).items x).isSome]) h') :
    Map_ii_Delete.call #[ptr tb 0, kv x.1] h Q := by
  have key : ∀ g' : Rt, (rPt g').items = ldel lt (rPt g).items x → rGd iso g' → (rPt g').Fl m → MapOk m iso g' := fun g' e gd f => ⟨gd, f, by rw [e]; exact asc_of_sub M.asc (ldel_sub _ _), M.m3, M.m1, M.odd⟩
  refine Map_ii_Delete.body _ _ _ _ ?_
  unfold Map_ii_Delete.sh
  cases g with
  | none =>
    refine r_nil ?_
    refine r_fld ?_
    refine St.r_load0 s 0 rfl rfl ?_
    refine r_eqNilP ?_
    refine r_if (fun _ => ?_) (fun e => absurd e (by simp [rA]))
    refine r_nil ?_
    refine r_fld ?_
    refine r_fld ?_
    refine St.r_load0 s 0 rfl rfl ?_
    exact H none h rfl (key none rfl trivial trivial) (.inl rfl) s
  | some t =>
    obtain ⟨k, t⟩ := t
    have s := hdr_cut s
    obtain ⟨s1, back⟩ := St.borrow (A := [(tb, 0, hd0 iso ctr), (tb, 4, hd4 ((m / 2 : Nat) : Int) m)]) (E := (tb, 2, [ptr t.id 0]) :: (tb, 3, [.int .i64 t.pt.items.length]) :: (t.all enc ++ E)) s
    have hT0 : (tb, 0, hd0 iso ctr) ∈ [(tb, 0, hd0 iso ctr), (tb, 4, hd4 ((m / 2 : Nat) : Int) m)] ++ Z := List.mem_cons_self ..
    have hT4 : (tb, 4, hd4 ((m / 2 : Nat) : Int) m) ∈ [(tb, 0, hd0 iso ctr), (tb, 4, hd4 ((m / 2 : Nat) : Int) m)] ++ Z := List.mem_cons_of_mem _ (List.mem_cons_self ..)
    have s := s1
    refine r_nil ?_
    refine r_fld ?_
    refine s.r_loadI 0 0 rfl rfl rfl ?_
    refine r_eqNilP ?_
    refine r_if (fun e => absurd e (by simp)) (fun _ => ?_)
    unfold Map_ii_Delete.j1
    refine r_nil ?_
    refine r_fld ?_
    have h1 : 1 ≤ t.nd.its.length := (fl_its M.fl).1
    have s2 : St h0 ([(tb, 0, hd0 iso ctr), (tb, 4, hd4 ((m / 2 : Nat) : Int) m)] ++ Z) ((tb, 0 + 2, [ptr t.id 0]) :: (t.all enc ++ ((tb, 3, [.int .i64 t.pt.items.length]) :: E))) h := s.perm (by ((apply perm_rg; intro f; simp only [List.set_cons_zero, List.set_cons_succ, List.eraseIdx_cons_zero, List.eraseIdx_cons_succ, List.cons_append, List.nil_append, List.map_append, List.map_cons, List.map_nil, List.sum_append, List.sum_cons, List.sum_nil, List.map_flatMap, Nat.add_zero, Nat.zero_add]; ac_rfl)))
    refine DelOk.all hT0 hT4 rfl M.m3 M.m1 M.odd k t false x M.fl M.asc hsz M.gd h1 s2 fun t' h' y ok e1 g' f' hT s => ?_
    have s : St h0 ([(tb, 0, hd0 iso ctr), (tb, 4, hd4 ((m / 2 : Nat) : Int) m)] ++ Z) ((tb, 2, [ptr t.id 0]) :: (tb, 3, [.int .i64 t.pt.items.length]) :: (t'.all enc ++ E)) h' := s.perm (by ((apply perm_rg; intro f; simp only [List.set_cons_zero, List.set_cons_succ, List.eraseIdx_cons_zero, List.eraseIdx_cons_succ, List.cons_append, List.nil_append, List.map_append, List.map_cons, List.map_nil, List.sum_append, List.sum_cons, List.sum_nil, List.map_flatMap, Nat.add_zero, Nat.zero_add]; ac_rfl)))
    have hT : (match lget lt t.pt.items x with | none => _ | some z => _ : Prop) := hT
    have H : ∀ (g' : Rt) h', (rPt g').items = ldel lt t.pt.items x → MapOk m iso g' → (rH g' = k + 1 ∨ rH g' + 1 = k + 1) → St h0 Z ((tb, 0, hdr iso ctr (rA g') (rPt g').items.length ((m / 2 : Nat) : Int) m) :: (rAll g' ++ E)) h' → Q (.tuple #[old (lget lt t.pt.items x), .bool (lget lt t.pt.items x).isSome]) h' := H
    have key : ∀ g' : Rt, (rPt g').items = ldel lt t.pt.items x → rGd iso g' → (rPt g').Fl m → MapOk m iso g' := key
    have hdl := ldel_len (lt := lt) t.pt.items x
    have hsz : t.pt.items.length ≤ 4611686018427387903 := hsz
    refine r_ext rfl ?_
    refine r_ext rfl ?_
    refine s.r_alloc fun t6 h s => ?_
    (refine St.r_storeN0 s 0 rfl rfl (by simp) (enc1 _) ?_; intro h s; try simp only [List.set_cons_zero, List.set_cons_succ] at s)
    refine r_not ?_
    cases hg : lget lt t.pt.items x with
    | none =>
      rw [hg] at hT H
      obtain ⟨rfl, rfl, e3⟩ := hT
      refine r_if (fun _ => ?_) (fun e => absurd e (by simp))
      refine r_nil ?_
      refine r_fld ?_
      refine r_fld ?_
      refine s.r_lz hT4 0 rfl rfl ?_
      have e4 : t'.pt.items = ldel lt t.pt.items x := by rw [ldel_none hg]; exact e3
      refine H (some ⟨k, t'⟩) h e4 (key (some ⟨k, t'⟩) e4 g' (f'.mono (by simp; omega))) (.inl rfl) ?_
      have s := hdr_glue (back _ h (s.drop 1))
      show St h0 Z ((tb, 0, hdr iso ctr (some ⟨t'.id, 0, none⟩) t'.pt.items.length ((m / 2 : Nat) : Int) m) :: (t'.all enc ++ E)) h
      rw [e1, e3]; exact s
    | some z =>
      rw [hg] at hT H hdl
      obtain ⟨rfl, rfl, e3⟩ := hT
      refine r_if (fun e => absurd e (by simp)) (fun _ => ?_)
      have fin : ∀ (g2 : Rt) h, (rPt g2).items = ldel lt t.pt.items x → rGd iso g2 → ((rPt g2).items ≠ [] → (rPt g2).Fl m) → (rH g2 = k + 1 ∨ rH g2 + 1 = k + 1) → ((rPt g2).items = [] → k = 0) →
          St h0 ([(tb, 0, hd0 iso ctr), (tb, 4, hd4 ((m / 2 : Nat) : Int) m)] ++ Z) ((t6, 0, enc y) :: (tb, 2, [.pointer (rA g2)]) :: (tb, 3, [.int .i64 t.pt.items.length]) :: (rAll g2 ++ E)) h → Map_ii_Delete.j3 (ptr tb 0) (ptr t6 0) h Q := by
        intro g2 h e4 gd2 f2 hH hE s
        have hl1 : t.pt.items.length = (rPt g2).items.length + 1 := by rw [e4]; simpa using hdl.symm
        unfold Map_ii_Delete.j3
        refine r_nil ?_
        refine r_fld ?_
        refine s.r_loadI 2 0 rfl rfl rfl ?_
        refine r_sub1 (by omega) (by omega) ?_
        refine r_nil ?_
        refine r_fld ?_
        (refine s.r_storeI 2 0 rfl rfl (by simp) rfl ?_; intro h s; try simp only [List.set_cons_zero, List.set_cons_succ] at s)
        refine r_nil ?_
        refine r_fld ?_
        refine s.r_loadI 2 0 rfl rfl rfl ?_
        refine r_cmpI ?_
        refine r_if (fun hz => ?_) (fun hz => ?_)
        · have hz : (rPt g2).items.length = 0 := by simp at hz; omega
          have e5 : ldel lt t.pt.items x = [] := by rw [← e4]; exact List.length_eq_zero_iff.1 hz
          refine r_nil ?_
          refine r_fld ?_
          (refine s.r_storeI 1 0 rfl rfl (by simp) rfl ?_; intro h s; try simp only [List.set_cons_zero, List.set_cons_succ] at s)
          unfold Map_ii_Delete.j4
          refine r_fld ?_
          refine St.r_load0 s 0 rfl rfl ?_
          refine H none h (by rw [e5]; rfl) (key none (by rw [e5]; rfl) trivial trivial) (.inr (by have := hE (List.length_eq_zero_iff.1 hz); show 0 + 1 = k + 1; omega)) ?_
          rw [show t.pt.items.length - 1 = 0 by omega] at s
          have s2 : St h0 _ ((tb, 2, [.pointer none]) :: (tb, 3, [.int .i64 ((0 : Nat) : Int)]) :: E) h := (s.drop 1).sub (List.Sublist.cons_cons _ (List.Sublist.cons_cons _ (List.sublist_append_right _ _)))
          exact hdr_glue (back _ h s2)
        · have hz : (rPt g2).items.length ≠ 0 := by intro e; simp at hz; omega
          unfold Map_ii_Delete.j4
          refine r_fld ?_
          refine St.r_load0 s 0 rfl rfl ?_
          refine H g2 h e4 (key g2 e4 gd2 (f2 (fun e => hz (by rw [e]; rfl)))) hH ?_
          have s := hdr_glue (back _ h (s.drop 1))
          rw [hl1, Nat.add_sub_cancel] at s
          exact s
      unfold Map_ii_Delete.j2
      have s : St h0 ([(tb, 0, hd0 iso ctr), (tb, 4, hd4 ((m / 2 : Nat) : Int) m)] ++ Z) ((t6, 0, enc y) :: (tb, 2, [ptr t.id 0]) :: (tb, 3, [.int .i64 t.pt.items.length]) :: (t'.all enc ++ E)) h := s
      have wt := g'.own
      rw [all_eq t', e1] at s
      have s : St h0 ([(tb, 0, hd0 iso ctr), (tb, 4, hd4 ((m / 2 : Nat) : Int) m)] ++ Z) ((t6, 0, enc y) :: (tb, 2, [ptr t.id 0]) :: (tb, 3, [.int .i64 t.pt.items.length]) :: (t.id, 0, [.int .u64 t'.nd.iso, .int .i64 t'.nd.cnt, t'.nd.iv, GT.kp t']) :: (t'.nd.ib, t'.nd.io, t'.nd.its.flatMap enc ++ t'.nd.isp) :: (GT.rest t' ++ E)) h := s
      have base : t'.nd.its.length ≠ 0 ∨ t'.pt.items = [] → Map_ii_Delete.j3 (ptr tb 0) (ptr t6 0) h Q := fun hb => by
        refine fin (some ⟨k, t'⟩) h e3 g' (fun hne => ?_) (.inl rfl) (fun he => ?_) ?_
        · rcases hb with hb | hb
          · exact (fl_any (lo' := 1) f' (by rw [GT.pt_its]; omega) : t'.pt.Fl m 1)
          · exact absurd hb hne
        · cases k with
          | zero => rfl
          | succ k => exact absurd he (inner_items M.m3 f')
        · show St h0 _ ((t6, 0, enc y) :: (tb, 2, [ptr t'.id 0]) :: (tb, 3, [.int .i64 t.pt.items.length]) :: (t'.all enc ++ E)) h
          rw [all_eq t', e1]; exact s
      refine r_nil ?_
      refine r_fld ?_
      refine s.r_loadI 1 0 rfl rfl rfl ?_
      refine r_nil ?_
      refine r_fld ?_
      refine St.r_load0 s 3 rfl rfl ?_
      refine Own.lenV (by assumption) ?_
      refine r_cmpI ?_
      refine r_br (fun hz => ?_) (fun hz => ?_)
      · have hz : t'.nd.its.length = 0 := by have := eq_of_beq hz; omega
        refine r_nil ?_
        refine r_fld ?_
        refine s.r_loadI 1 0 rfl rfl rfl ?_
        cases k with
        | zero =>
          refine leaf_ok (a := none) (s.cl0 3 rfl rfl) ?_
          refine r_not ?_
          refine r_if (fun e => absurd e (by simp)) (fun _ => ?_)
          exact base (.inr (List.length_eq_zero_iff.1 hz))
        | succ k =>
          refine leaf_ok (a := some ⟨t'.1.kb, 0, none⟩) (s.cl0 3 rfl rfl) ?_
          refine r_not ?_
          refine r_if (fun _ => ?_) (fun e => absurd e (by simp))
          obtain ⟨c, ec, eit⟩ := rt_of (iso := iso) (f'.mono (Nat.zero_le _)) hz
          have wK := g'.ownK
          have s : St h0 ([(tb, 0, hd0 iso ctr), (tb, 4, hd4 ((m / 2 : Nat) : Int) m)] ++ Z) ((t6, 0, enc y) :: (tb, 2, [ptr t.id 0]) :: (tb, 3, [.int .i64 t.pt.items.length]) :: (t.id, 0, [.int .u64 t'.nd.iso, .int .i64 t'.nd.cnt, t'.nd.iv, ptr t'.1.kb 0]) :: (t'.nd.ib, t'.nd.io, t'.nd.its.flatMap enc ++ t'.nd.isp) ::
            (t'.1.kb, 0, [t'.1.kv]) :: (t'.1.krb, t'.1.kro, ((t'.2.map GT.id).map pp).flatMap fv ++ t'.1.ksp) :: (t'.2.flatMap (GT.all enc) ++ E)) h := s
          have hc0 : ((t'.2.map GT.id).map pp)[0]? = some (ptr c.id 0) := by rw [ec]; rfl
          have hkl0 : 0 < ((t'.2.map GT.id).map pp).length := by rw [ec]; simp
          refine r_nil ?_
          refine r_fld ?_
          refine s.r_loadI 1 0 rfl rfl rfl ?_
          refine r_nil ?_
          refine r_fld ?_
          refine St.r_load0 s 3 rfl rfl ?_
          refine r_nil ?_
          refine St.r_load0 s 5 rfl rfl ?_
          (refine Own.idx (by assumption) rfl (by first | omega | (simp; done) | (simp; omega)) ?_)
          refine s.r_loadV 6 rfl (by assumption) ?_
          refine r_nil ?_
          refine r_fld ?_
          (refine s.r_storeI 1 0 rfl rfl (by simp) rfl ?_; intro h s; try simp only [List.set_cons_zero, List.set_cons_succ] at s)
          refine fin (some ⟨k, c⟩) h (by rw [← e3, eit]; rfl) (g'.kid (by rw [ec]; simp)) (fun _ => ?_) (.inr rfl) (fun he => ?_) ((s.perm (E' := (t.id, 0, [.int .u64 t'.nd.iso, .int .i64 t'.nd.cnt, t'.nd.iv, ptr t'.1.kb 0]) :: (t'.nd.ib, t'.nd.io, t'.nd.its.flatMap enc ++ t'.nd.isp) :: (t'.1.kb, 0, [t'.1.kv]) :: (t'.1.krb, t'.1.kro, ((t'.2.map GT.id).map pp).flatMap fv ++ t'.1.ksp) :: ((t6, 0, enc y) :: (tb, 2, [ptr c.id 0]) :: (tb, 3, [.int .i64 t.pt.items.length]) :: (c.all enc ++ E))) ?_).drop 4)
          · have m3 := M.m3
            have := f'.2.2.2 c.pt (List.mem_map.2 ⟨c, by rw [ec]; simp, rfl⟩)
            exact this.mono (by omega)
          · have m3 := M.m3
            have hf := f'.2.2.2 c.pt (List.mem_map.2 ⟨c, by rw [ec]; simp, rfl⟩)
            have h8 := hf.le.1
            have h9 := (PT.its_sub c.pt).length_le
            have he : c.pt.items = [] := he
            rw [he] at h9
            simp at h9
            rw [h9] at h8
            simp at h8
            omega
          · have e6 : t'.2.flatMap (GT.all enc) = c.all enc := by rw [ec]; simp
            rw [e6]
            ((apply perm_rg; intro f; simp only [List.set_cons_zero, List.set_cons_succ, List.eraseIdx_cons_zero, List.eraseIdx_cons_succ, List.cons_append, List.nil_append, List.map_append, List.map_cons, List.map_nil, List.sum_append, List.sum_cons, List.sum_nil, List.map_flatMap, Nat.add_zero, Nat.zero_add]; ac_rfl))
      · have hz : t'.nd.its.length ≠ 0 := by intro e; simp [e] at hz
        exact base (.inl hz)
theorem Delete_ok {tb m : Nat} {iso : Int} {ctr : Option Addr} {g : Rt} {x : It} (M : MapOk m iso g) (hsz : (rPt g).items.length ≤ 4611686018427387903) (s : St h0 Z ((tb, 0, hdr iso ctr (rA g) (rPt g).items.length ((m / 2 : Nat) : Int) m) :: (rAll g ++ E)) h)
    (H : ∀ (g' : Rt) h', (rPt g').items = ldel lt (rPt g).items x → MapOk m iso g' → St h0 Z ((tb, 0, hdr iso ctr (rA g') (rPt g').items.length ((m / 2 : Nat) : Int) m) :: (rAll g' ++ E)) h' → Q (.tuple #[old (lget lt (rPt g).items x), .bool (lget lt (rPt g).items x).isSome]) h') :
    Map_ii_Delete.call #[ptr tb 0, kv x.1] h Q := Delete_okH M hsz s fun g' h' e m _ s => H g' h' e m s
end Go.Proofs.Ytkkappjbcgnacaa.Ii
end
section
namespace Go.Proofs.Ytkkappjbcgnacaa.Ii
open Go.Hp Go.Proofs.Ytkkappjbcgnacaa
set_option linter.unusedVariables false
set_option linter.unusedSimpArgs false
variable {h0 h : Heap} {Z E : List Rg} {Q : Value → Heap → Prop}

theorem getZ_ok {g : Rt} {tb m : Nat} {iso cnt mn mx : Int} {ctr : Option Addr} {x : It} (M : MapOk m iso g) (hT : (tb, 0, hdr iso ctr (rA g) cnt mn mx) ∈ Z) (hz : ∀ r ∈ rAll g, r ∈ Z) (s : St h0 Z E h)
    (H : Q (.tuple #[old (lget lt (rPt g).items x), .bool (lget lt (rPt g).items x).isSome]) h) : Map_ii_get.call #[ptr tb 0, kv x.1, .bool false] h Q := by
  refine Map_ii_get.body _ _ _ _ _ ?_
  unfold Map_ii_get.sh
  have m1 := M.m1
  cases g with
  | none =>
    refine r_nil ?_
    refine r_fld ?_
    refine s.r_lz0 hT rfl ?_
    refine r_eqNilP ?_
    refine r_if (fun _ => ?_) (fun e => absurd e (by simp [rA]))
    refine r_nil ?_
    refine r_fld ?_
    refine r_fld ?_
    refine s.r_lz0 hT rfl ?_
    exact H
  | some t =>
    obtain ⟨k, t⟩ := t
    have hT : (tb, 0, hdr iso ctr (some ⟨t.id, 0, none⟩) cnt mn mx) ∈ Z := hT
    refine r_nil ?_
    refine r_fld ?_
    refine s.r_lz0 hT rfl ?_
    refine r_eqNilP ?_
    refine r_if (fun e => absurd e (by simp)) (fun _ => ?_)
    unfold Map_ii_get.j1
    refine r_nil ?_
    refine r_fld ?_
    refine isoLoad_ro (s.clz hT 2 rfl rfl) ?_
    refine loop_ghost (fun q st h' => ∃ (t2 : GT It q) (lo : Nat), st = [ptr t2.id 0] ∧ h' = h ∧ Gd iso t2 ∧ t2.pt.Fl m lo ∧ Asc lt t2.pt.items ∧ (∀ r ∈ t2.all enc, r ∈ Z) ∧ lget lt t.pt.items x = lget lt t2.pt.items x) (n0 := k) ⟨t, 1, rfl, rfl, M.gd, M.fl, M.asc, hz, rfl⟩ ?_
    rintro q st g ⟨t2, lo, rfl, rfl, gd, fl, ha, hz2, he⟩ K HK
    have H : Q (.tuple #[old (lget lt t.pt.items x), .bool (lget lt t.pt.items x).isSome]) g := H
    rw [he] at H
    unfold Map_ii_get.l2.b
    cases q with
    | zero =>
      obtain ⟨own, n, is', c0, its, iv, ib, io, isp, kb, kv', krb, kro, ksp⟩ := (t2 : Nd It)
      obtain ⟨z1, z2⟩ := allZ_leaf hz2
      have w : Own 2 iv its.length ib io (its.flatMap enc) isp := gd.wf.1
      have hl : its.length ≤ m := fl.2
      have ha : Asc lt its := ha
      have H : Q (.tuple #[old (lget lt its x), .bool (lget lt its x).isSome]) g := H
      refine search_ok (x := x) ha (by omega) (s.clz z1 2 rfl rfl) (w.rdlZ s z2) ?_
      refine r_ext rfl ?_
      refine r_ext rfl ?_
      cases hg : lget lt its x with
      | some y =>
        obtain ⟨hp, hy, _, _⟩ := lget_some hg
        have hpx : its[pos lt its x]? = some y := by rw [List.getElem?_eq_getElem hp, hy]
        refine r_if (fun _ => ?_) (fun e => absurd e (by simp))
        refine r_nil ?_
        refine r_fld ?_
        refine s.r_lz0 z1 rfl ?_
        (refine Own.idx (by assumption) rfl (by first | omega | (simp; done) | (simp; omega)) ?_)
        refine r_fld ?_
        refine s.r_load1FZ encl z2 (by assumption) rfl ?_
        rw [hg] at H; exact H
      | none =>
        refine r_if (fun e => absurd e (by simp)) (fun _ => ?_)
        unfold Map_ii_get.j3
        refine leaf_ok (a := none) (s.clz z1 3 rfl rfl) ?_
        refine r_if (fun _ => ?_) (fun e => absurd e (by simp))
        refine r_nil ?_
        refine r_fld ?_
        refine r_fld ?_
        refine s.r_lz0 hT rfl ?_
        rw [hg] at H; exact H
    | succ q =>
      obtain ⟨d, ts⟩ := t2
      obtain ⟨own, n, is', c0, its, iv, ib, io, isp, kb, kv', krb, kro, ksp⟩ := d
      obtain ⟨z1, z2, z3, z4, z5⟩ := allZ_inner hz2
      have w : Own 2 iv its.length ib io (its.flatMap enc) isp := gd.wf.1.1
      have wK : Own 1 kv' ts.length krb kro ((ts.map GT.id).map fun m => ptr m 0) ksp := gd.wf.2.1
      have hkl : ts.length = its.length + 1 := gd.wf.2.2.1
      have hl : its.length ≤ m := fl.2.1
      have fl : PT.Fl m lo (h := q + 1) (its, ts.map GT.pt) := fl
      have ha : Asc lt (PT.items (h := q + 1) (its, ts.map GT.pt)) := ha
      have ha1 : Asc lt its := asc_of_sub ha (PT.its_sub1 ((its, ts.map GT.pt) : PT It (q + 1)))
      have H : Q (.tuple #[old (lget lt (PT.items (h := q + 1) (its, ts.map GT.pt)) x), .bool (lget lt (PT.items (h := q + 1) (its, ts.map GT.pt)) x).isSome]) g := H
      have hpl := pos_le (lt := lt) its x
      refine search_ok (x := x) ha1 (by omega) (s.clz z1 2 rfl rfl) (w.rdlZ s z2) ?_
      refine r_ext rfl ?_
      refine r_ext rfl ?_
      cases hg : lget lt its x with
      | some y =>
        obtain ⟨hp, hy, _, _⟩ := lget_some hg
        have hpx : its[pos lt its x]? = some y := by rw [List.getElem?_eq_getElem hp, hy]
        have hf : lget lt (PT.items (h := q + 1) (its, ts.map GT.pt)) x = some y := (PT.found swo fl ha hg).1
        refine r_if (fun _ => ?_) (fun e => absurd e (by simp))
        refine r_nil ?_
        refine r_fld ?_
        refine s.r_lz0 z1 rfl ?_
        (refine Own.idx (by assumption) rfl (by first | omega | (simp; done) | (simp; omega)) ?_)
        refine r_fld ?_
        refine s.r_load1FZ encl z2 (by assumption) rfl ?_
        rw [hf] at H; exact H
      | none =>
        obtain ⟨c, hc⟩ : ∃ c, ts[pos lt its x]? = some c := ⟨ts[pos lt its x]'(by omega), List.getElem?_eq_getElem (by omega)⟩
        have hcp : (ts.map GT.pt)[pos lt its x]? = some c.pt := by rw [List.getElem?_map, hc]; rfl
        obtain ⟨cp, hcp2, _, hac, hgt, _⟩ := PT.step swo fl ha hg
        have : cp = c.pt := Option.some.inj (hcp2.symm.trans hcp)
        subst this
        have hcm := List.mem_of_getElem? hc
        refine r_if (fun e => absurd e (by simp)) (fun _ => ?_)
        unfold Map_ii_get.j3
        refine leaf_ok (a := some ⟨kb, 0, none⟩) (s.clz z1 3 rfl rfl) ?_
        refine r_if (fun e => absurd e (by simp)) (fun _ => ?_)
        unfold Map_ii_get.j4
        refine r_nil ?_
        refine r_fld ?_
        refine s.r_lz0 z1 rfl ?_
        refine r_nil ?_
        refine s.r_lz0 z3 rfl ?_
        (refine Own.idx (by assumption) rfl (by first | omega | (simp; done) | (simp; omega)) ?_)
        refine isoLoad_ro (kidcell z4 hc s) ?_
        exact HK q _ _ (Nat.lt_succ_self q) ⟨c, m / 2, rfl, rfl, gd.kid hcm, fl.2.2.2 _ (List.mem_map.2 ⟨c, hcm, rfl⟩), hac, z5 c hcm, he.trans hgt⟩

theorem Get_ok {g : Rt} {tb m : Nat} {iso cnt mn mx : Int} {ctr : Option Addr} {x : It} (M : MapOk m iso g) (s : St h0 Z ((tb, 0, hdr iso ctr (rA g) cnt mn mx) :: (rAll g ++ E)) h)
    (H : Q (.tuple #[old (lget lt (rPt g).items x), .bool (lget lt (rPt g).items x).isSome]) h) : Map_ii_Get.call #[ptr tb 0, kv x.1] h Q := by
  refine Map_ii_Get.body _ _ _ _ ?_
  unfold Map_ii_Get.sh
  have s0 : St h0 Z (((tb, 0, hdr iso ctr (rA g) cnt mn mx) :: rAll g) ++ E) h := s
  obtain ⟨s1, _⟩ := s0.borrow
  refine getZ_ok (x := x) M (List.mem_append.2 (.inl (List.mem_cons_self ..))) (fun r hr => List.mem_append.2 (.inl (List.mem_cons_of_mem _ hr))) s1 ?_
  refine r_ext rfl ?_
  refine r_ext rfl ?_
  exact H
end Go.Proofs.Ytkkappjbcgnacaa.Ii
end
section
namespace Go.Proofs.Ytkkappjbcgnacaa.Ii
open Go.Hp Go.Proofs.Ytkkappjbcgnacaa
set_option linter.unusedVariables false
set_option linter.unusedSimpArgs false
variable {h0 h : Heap} {Z E : List Rg} {Q : Value → Heap → Prop}

theorem items_pos {m lo k : Nat} {t : PT It k} (f : t.Fl m lo) (h : 1 ≤ lo) : ∃ x r, t.items = x :: r := by
  have h1 := f.le.1
  have h2 := (PT.its_sub t).length_le
  exact head_of (by omega)
theorem minZ_ok {g : Rt} {tb m : Nat} {iso cnt mn mx : Int} {ctr : Option Addr} (M : MapOk m iso g) (hT : (tb, 0, hdr iso ctr (rA g) cnt mn mx) ∈ Z) (hz : ∀ r ∈ rAll g, r ∈ Z) (s : St h0 Z E h)
    (H : ∀ E' h', St h0 Z (E' ++ E) h' → Q (.tuple #[kv ((rPt g).items.head?.getD emp).1, vv ((rPt g).items.head?.getD emp).2, .bool (rPt g).items.head?.isSome]) h') : Map_ii_minMut.call #[ptr tb 0, .bool false] h Q := by
  refine Map_ii_minMut.body _ _ _ _ ?_
  unfold Map_ii_minMut.sh
  have m1 := M.m1
  have m3 := M.m3
  cases g with
  | none =>
    refine r_nil ?_
    refine r_fld ?_
    refine s.r_lz0 hT rfl ?_
    refine r_eqNilP ?_
    refine r_if (fun _ => ?_) (fun e => absurd e (by simp [rA]))
    exact H [] h s
  | some t =>
    obtain ⟨k, t⟩ := t
    have hT : (tb, 0, hdr iso ctr (some ⟨t.id, 0, none⟩) cnt mn mx) ∈ Z := hT
    refine r_nil ?_
    refine r_fld ?_
    refine s.r_lz0 hT rfl ?_
    refine r_eqNilP ?_
    refine r_if (fun e => absurd e (by simp)) (fun _ => ?_)
    unfold Map_ii_minMut.j1
    refine r_nil ?_
    refine r_fld ?_
    refine isoLoad_ro (s.clz hT 2 rfl rfl) ?_
    refine loop_ghost (fun q st h' => ∃ (t2 : GT It q), st = [ptr t2.id 0] ∧ h' = h ∧ Gd iso t2 ∧ t2.pt.Fl m 1 ∧ (∀ r ∈ t2.all enc, r ∈ Z) ∧ t.pt.items.head? = t2.pt.items.head?) (n0 := k) ⟨t, rfl, rfl, M.gd, M.fl, hz, rfl⟩ ?_
    rintro q st g ⟨t2, rfl, rfl, gd, fl, hz2, he⟩ K HK
    have H : ∀ E' h', St h0 Z (E' ++ E) h' → Q (.tuple #[kv (t.pt.items.head?.getD emp).1, vv (t.pt.items.head?.getD emp).2, .bool t.pt.items.head?.isSome]) h' := H
    rw [he] at H
    unfold Map_ii_minMut.l2.b
    cases q with
    | zero =>
      obtain ⟨own, n, is', c0, its, iv, ib, io, isp, kb, kv', krb, kro, ksp⟩ := (t2 : Nd It)
      obtain ⟨z1, z2⟩ := allZ_leaf hz2
      have w : Own 2 iv its.length ib io (its.flatMap enc) isp := gd.wf.1
      have hl : 1 ≤ its.length := fl.1
      have H : ∀ E' h', St h0 Z (E' ++ E) h' → Q (.tuple #[kv (its.head?.getD emp).1, vv (its.head?.getD emp).2, .bool its.head?.isSome]) h' := H
      obtain ⟨x, r, e⟩ := head_of hl
      have hx : its[0]? = some x := by rw [e]; rfl
      refine leaf_ok (a := none) (s.clz z1 3 rfl rfl) ?_
      refine r_if (fun _ => ?_) (fun e => absurd e (by simp))
      refine r_nil ?_
      refine r_fld ?_
      refine s.r_lz0 z1 rfl ?_
      (refine Own.idx (by assumption) rfl (by first | omega | (simp; done) | (simp; omega)) ?_)
      refine s.r_loadFZ encl z2 (by assumption) ?_
      refine s.r_alloc fun t8 h s => ?_
      (refine St.r_storeN0 s 0 rfl rfl (by simp) (enc1 _) ?_; intro h s; try simp only [List.set_cons_zero, List.set_cons_succ] at s)
      refine r_fld ?_
      refine St.r_load0 s 0 rfl rfl ?_
      refine r_fld ?_
      refine St.r_load0 s 0 rfl rfl ?_
      rw [e] at H
      exact H [_] h s
    | succ q =>
      obtain ⟨d, ts⟩ := t2
      obtain ⟨own, n, is', c0, its, iv, ib, io, isp, kb, kv', krb, kro, ksp⟩ := d
      obtain ⟨z1, z2, z3, z4, z5⟩ := allZ_inner hz2
      have wK : Own 1 kv' ts.length krb kro ((ts.map GT.id).map fun m => ptr m 0) ksp := gd.wf.2.1
      have hkl : ts.length = its.length + 1 := gd.wf.2.2.1
      obtain ⟨c, r, ec⟩ := head_of (show 1 ≤ ts.length by omega)
      have hc : ts[0]? = some c := by rw [ec]; rfl
      have hcm := List.mem_of_getElem? hc
      have fc : PT.Fl m (m / 2) c.pt := fl.2.2.2 _ (List.mem_map.2 ⟨c, hcm, rfl⟩)
      have fc1 : c.pt.Fl m 1 := fc.mono (by omega)
      obtain ⟨x, r2, ex⟩ := items_pos fc1 (Nat.le_refl _)
      refine leaf_ok (a := some ⟨kb, 0, none⟩) (s.clz z1 3 rfl rfl) ?_
      refine r_if (fun e => absurd e (by simp)) (fun _ => ?_)
      unfold Map_ii_minMut.j3
      refine r_nil ?_
      refine r_fld ?_
      refine s.r_lz0 z1 rfl ?_
      refine r_nil ?_
      refine s.r_lz0 z3 rfl ?_
      (refine Own.idx (by assumption) rfl (by first | omega | (simp; done) | (simp; omega)) ?_)
      refine isoLoad_ro (kidcell z4 hc s) ?_
      refine HK q _ _ (Nat.lt_succ_self q) ⟨c, rfl, rfl, gd.kid hcm, fc1, z5 c hcm, he.trans ?_⟩
      show (inter its ((ts.map GT.pt).map PT.items)).head? = _
      rw [ec, List.map_cons, List.map_cons, ex]
      simp [inter]
theorem Min_ok {g : Rt} {tb m : Nat} {iso cnt mn mx : Int} {ctr : Option Addr} (M : MapOk m iso g) (s : St h0 Z ((tb, 0, hdr iso ctr (rA g) cnt mn mx) :: (rAll g ++ E)) h)
    (H : ∀ E' h', St h0 Z (E' ++ ((tb, 0, hdr iso ctr (rA g) cnt mn mx) :: (rAll g ++ E))) h' → Q (.tuple #[kv ((rPt g).items.head?.getD emp).1, vv ((rPt g).items.head?.getD emp).2, .bool (rPt g).items.head?.isSome]) h') : Map_ii_Min.call #[ptr tb 0] h Q := by
  refine Map_ii_Min.body _ _ _ ?_
  unfold Map_ii_Min.sh
  have s0 : St h0 Z (((tb, 0, hdr iso ctr (rA g) cnt mn mx) :: rAll g) ++ E) h := s
  obtain ⟨s1, back⟩ := s0.borrow
  refine minZ_ok M (List.mem_append.2 (.inl (List.mem_cons_self ..))) (fun r hr => List.mem_append.2 (.inl (List.mem_cons_of_mem _ hr))) s1 fun E' h' s => ?_
  refine r_ext rfl ?_
  refine r_ext rfl ?_
  refine r_ext rfl ?_
  exact H E' h' ((back _ h' s).perm (by ((apply perm_rg; intro f; simp only [List.set_cons_zero, List.set_cons_succ, List.eraseIdx_cons_zero, List.eraseIdx_cons_succ, List.cons_append, List.nil_append, List.map_append, List.map_cons, List.map_nil, List.sum_append, List.sum_cons, List.sum_nil, List.map_flatMap, Nat.add_zero, Nat.zero_add]; ac_rfl))))
end Go.Proofs.Ytkkappjbcgnacaa.Ii
end
section
namespace Go.Proofs.Ytkkappjbcgnacaa.Ii
open Go.Hp Go.Proofs.Ytkkappjbcgnacaa
set_option linter.unusedVariables false
set_option linter.unusedSimpArgs false
variable {h0 h : Heap} {Z E : List Rg} {Q : Value → Heap → Prop}

theorem getLast_app {α : Type} {a b : List α} (h : b ≠ []) : (a ++ b).getLast? = b.getLast? := by
  rw [List.getLast?_append]
  cases e : b.getLast? with
  | none => exact absurd (List.getLast?_eq_none_iff.1 e) h
  | some x => rfl
theorem maxZ_ok {g : Rt} {tb m : Nat} {iso cnt mn mx : Int} {ctr : Option Addr} (M : MapOk m iso g) (hT : (tb, 0, hdr iso ctr (rA g) cnt mn mx) ∈ Z) (hz : ∀ r ∈ rAll g, r ∈ Z) (s : St h0 Z E h)
    (H : ∀ E' h', St h0 Z (E' ++ E) h' → Q (.tuple #[kv ((rPt g).items.getLast?.getD emp).1, vv ((rPt g).items.getLast?.getD emp).2, .bool (rPt g).items.getLast?.isSome]) h') : Map_ii_maxMut.call #[ptr tb 0, .bool false] h Q := by
  refine Map_ii_maxMut.body _ _ _ _ ?_
  unfold Map_ii_maxMut.sh
  have m1 := M.m1
  have m3 := M.m3
  cases g with
  | none =>
    refine r_nil ?_
    refine r_fld ?_
    refine s.r_lz0 hT rfl ?_
    refine r_eqNilP ?_
    refine r_if (fun _ => ?_) (fun e => absurd e (by simp [rA]))
    refine r_nil (r_fld (r_fld ?_))
    refine s.r_lz0 hT (j := 5) rfl ?_
    refine r_nil (r_fld (r_fld ?_))
    refine s.r_lz0 hT (j := 4) rfl ?_
    exact H [] h s
  | some t =>
    obtain ⟨k, t⟩ := t
    have hT : (tb, 0, hdr iso ctr (some ⟨t.id, 0, none⟩) cnt mn mx) ∈ Z := hT
    refine r_nil ?_
    refine r_fld ?_
    refine s.r_lz0 hT rfl ?_
    refine r_eqNilP ?_
    refine r_if (fun e => absurd e (by simp)) (fun _ => ?_)
    unfold Map_ii_maxMut.j1
    refine r_nil ?_
    refine r_fld ?_
    refine isoLoad_ro (s.clz hT 2 rfl rfl) ?_
    refine loop_ghost (fun q st h' => ∃ (t2 : GT It q), st = [ptr t2.id 0] ∧ h' = h ∧ Gd iso t2 ∧ t2.pt.Fl m 1 ∧ (∀ r ∈ t2.all enc, r ∈ Z) ∧ t.pt.items.getLast? = t2.pt.items.getLast?) (n0 := k) ⟨t, rfl, rfl, M.gd, M.fl, hz, rfl⟩ ?_
    rintro q st g ⟨t2, rfl, rfl, gd, fl, hz2, he⟩ K HK
    have H : ∀ E' h', St h0 Z (E' ++ E) h' → Q (.tuple #[kv (t.pt.items.getLast?.getD emp).1, vv (t.pt.items.getLast?.getD emp).2, .bool t.pt.items.getLast?.isSome]) h' := H
    rw [he] at H
    unfold Map_ii_maxMut.l2.b
    cases q with
    | zero =>
      obtain ⟨own, n, is', c0, its, iv, ib, io, isp, kb, kv', krb, kro, ksp⟩ := (t2 : Nd It)
      obtain ⟨z1, z2⟩ := allZ_leaf hz2
      have w : Own 2 iv its.length ib io (its.flatMap enc) isp := gd.wf.1
      have hl : 1 ≤ its.length := fl.1
      have hl2 : its.length ≤ m := fl.2
      have H : ∀ E' h', St h0 Z (E' ++ E) h' → Q (.tuple #[kv (its.getLast?.getD emp).1, vv (its.getLast?.getD emp).2, .bool its.getLast?.isSome]) h' := H
      have hx : its[its.length - 1]? = some (its[its.length - 1]'(by omega)) := List.getElem?_eq_getElem _
      have hgl : its.getLast? = some (its[its.length - 1]'(by omega)) := by rw [List.getLast?_eq_getElem?]; exact hx
      rw [hgl] at H
      generalize its[its.length - 1]'(by omega) = x at *
      refine leaf_ok (a := none) (s.clz z1 3 rfl rfl) ?_
      refine r_if (fun _ => ?_) (fun e => absurd e (by simp))
      refine r_nil ?_
      refine r_fld ?_
      refine s.r_lz0 z1 (j := 2) rfl ?_
      refine r_nil ?_
      refine r_fld ?_
      refine s.r_lz0 z1 (j := 2) rfl ?_
      refine w.lenV ?_
      refine r_sub1 hl (by omega) ?_
      refine w.idx (n := its.length - 1) rfl (by omega) ?_
      refine s.r_loadFZ encl z2 hx ?_
      refine s.r_alloc fun t8 h s => ?_
      have q1 : still1 (ptr n 2) iv h := by
        obtain ⟨a, v, e1, e2, e3⟩ := s.r_lz0 (K := fun v => v = iv) z1 (j := 2) rfl rfl
        exact ⟨a, e1, by rw [← e3]; exact e2⟩
      have q2 : stillN 2 (ptr ib (io + (its.length - 1) * 2)) (.agg (enc x).toArray) h := by
        obtain ⟨a, xs, e1, e2, e3⟩ := s.r_loadFZ (K := fun v => v = .agg (enc x).toArray) encl z2 hx rfl
        exact ⟨a, xs, e1, e3.symm, e2⟩
      refine ⟨q1, q1, q2, ?_⟩
      (refine St.r_storeN0 s 0 rfl rfl (by simp) (enc1 _) ?_; intro h s; try simp only [List.set_cons_zero, List.set_cons_succ] at s)
      refine r_fld ?_
      refine St.r_load0 s 0 rfl rfl ?_
      refine r_fld ?_
      refine St.r_load0 s 0 rfl rfl ?_
      exact H [_] h s
    | succ q =>
      obtain ⟨d, ts⟩ := t2
      obtain ⟨own, n, is', c0, its, iv, ib, io, isp, kb, kv', krb, kro, ksp⟩ := d
      obtain ⟨z1, z2, z3, z4, z5⟩ := allZ_inner hz2
      have wK : Own 1 kv' ts.length krb kro ((ts.map GT.id).map fun m => ptr m 0) ksp := gd.wf.2.1
      have hkl : ts.length = its.length + 1 := gd.wf.2.2.1
      have hl2 : its.length ≤ m := fl.2.1
      have hc : ts[ts.length - 1]? = some (ts[ts.length - 1]'(by omega)) := List.getElem?_eq_getElem _
      generalize ts[ts.length - 1]'(by omega) = c at hc
      have hcm := List.mem_of_getElem? hc
      have fc : PT.Fl m (m / 2) c.pt := fl.2.2.2 _ (List.mem_map.2 ⟨c, hcm, rfl⟩)
      have fc1 : c.pt.Fl m 1 := fc.mono (by omega)
      refine leaf_ok (a := some ⟨kb, 0, none⟩) (s.clz z1 3 rfl rfl) ?_
      refine r_if (fun e => absurd e (by simp)) (fun _ => ?_)
      unfold Map_ii_maxMut.j3
      refine r_nil ?_
      refine r_fld ?_
      refine s.r_lz0 z1 (j := 3) rfl ?_
      refine r_nil ?_
      refine s.r_lz0 z3 (j := 0) rfl ?_
      refine r_nil ?_
      refine r_fld ?_
      refine s.r_lz0 z1 (j := 3) rfl ?_
      refine r_nil ?_
      refine s.r_lz0 z3 (j := 0) rfl ?_
      refine wK.lenV ?_
      refine r_sub1 (by omega) (by omega) ?_
      refine wK.idx (n := ts.length - 1) rfl (by omega) ?_
      refine isoLoad_ro (kidcell z4 hc s) ?_
      refine HK q _ _ (Nat.lt_succ_self q) ⟨c, rfl, rfl, gd.kid hcm, fc1, z5 c hcm, he.trans ?_⟩
      obtain ⟨c', hc', _, eit⟩ := PT.around (t := ((its, ts.map GT.pt) : PT It (q + 1))) fl (Nat.le_refl its.length)
      have hc' : (ts.map GT.pt)[its.length]? = some c' := hc'
      rw [List.getElem?_map, show its.length = ts.length - 1 by omega, hc] at hc'
      have : c' = c.pt := (Option.some.inj hc').symm
      subst this
      have eit : PT.items (h := q + 1) (its, ts.map GT.pt) = lz (its.take its.length) (((ts.map GT.pt).take its.length).map PT.items) ++ (c.pt.items ++ rz (its.drop its.length) (((ts.map GT.pt).drop (its.length + 1)).map PT.items)) := eit
      show (PT.items (h := q + 1) (its, ts.map GT.pt)).getLast? = _
      rw [eit, List.drop_length]
      have er : rz ([] : List It) (((ts.map GT.pt).drop (its.length + 1)).map PT.items) = [] := by unfold rz; simp
      rw [er, List.append_nil]
      refine getLast_app fun e0 => ?_
      have h1 := (PT.its_sub c.pt).length_le
      have h2 := fc1.le.1
      rw [e0, List.length_nil] at h1
      omega
theorem Max_ok {g : Rt} {tb m : Nat} {iso cnt mn mx : Int} {ctr : Option Addr} (M : MapOk m iso g) (s : St h0 Z ((tb, 0, hdr iso ctr (rA g) cnt mn mx) :: (rAll g ++ E)) h)
    (H : ∀ E' h', St h0 Z (E' ++ ((tb, 0, hdr iso ctr (rA g) cnt mn mx) :: (rAll g ++ E))) h' → Q (.tuple #[kv ((rPt g).items.getLast?.getD emp).1, vv ((rPt g).items.getLast?.getD emp).2, .bool (rPt g).items.getLast?.isSome]) h') : Map_ii_Max.call #[ptr tb 0] h Q := by
  refine Map_ii_Max.body _ _ _ ?_
  unfold Map_ii_Max.sh
  have s0 : St h0 Z (((tb, 0, hdr iso ctr (rA g) cnt mn mx) :: rAll g) ++ E) h := s
  obtain ⟨s1, back⟩ := s0.borrow
  refine maxZ_ok M (List.mem_append.2 (.inl (List.mem_cons_self ..))) (fun r hr => List.mem_append.2 (.inl (List.mem_cons_of_mem _ hr))) s1 fun E' h' s => ?_
  refine r_ext rfl ?_
  refine r_ext rfl ?_
  refine r_ext rfl ?_
  exact H E' h' ((back _ h' s).perm (by ((apply perm_rg; intro f; simp only [List.set_cons_zero, List.set_cons_succ, List.eraseIdx_cons_zero, List.eraseIdx_cons_succ, List.cons_append, List.nil_append, List.map_append, List.map_cons, List.map_nil, List.sum_append, List.sum_cons, List.sum_nil, List.map_flatMap, Nat.add_zero, Nat.zero_add]; ac_rfl))))
end Go.Proofs.Ytkkappjbcgnacaa.Ii
end
section
namespace Go.Proofs.Ytkkappjbcgnacaa.Ii
open Go.Hp Go.Proofs.Ytkkappjbcgnacaa
set_option linter.unusedVariables false
set_option linter.unusedSimpArgs false
variable {h0 h : Heap} {Z E : List Rg} {Q : Value → Heap → Prop}

theorem found_at {lt : It → It → Bool} (o : Swo lt) {its : List It} {x : It} (ha : Asc lt its) {i : Nat} (hi : i < its.length) (h1 : lt x its[i] = false) (h2 : lt its[i] x = false) : pos lt its x = i ∧ (lget lt its x).isSome = true := by
  have hs : ∀ i j (hi : i < its.length) (hj : j < its.length), i < j → lt its[i] its[j] = true := fun i j hi hj hij => List.pairwise_iff_getElem.1 ha i j hi hj hij
  have e : pos lt its x = i := pos_uni (by omega) (fun j hj hjl => o.tr1 (hs j i hj hi hjl) h1) (fun _ => h2)
  refine ⟨e, ?_⟩
  unfold lget; rw [e, List.getElem?_eq_getElem hi, Option.bind_some, h1]; rfl
theorem PT.height_le {m : Nat} (hm : 3 ≤ m) : ∀ {k lo : Nat} {t : PT It k}, t.Fl m lo → 1 ≤ lo → k < t.items.length
  | 0, lo, t, f, hl => by have f : lo ≤ List.length (α := It) t := f.1; show 0 < List.length (α := It) t; omega
  | k + 1, lo, t, f, hl => by
    have h1 := f.1
    have h2 := f.2.2.1
    obtain ⟨c, r, e⟩ := head_of (l := t.2) (by omega)
    have hc := PT.height_le hm (f.2.2.2 c (by rw [e]; simp)) (by omega)
    have h3 : (inter t.1 (t.2.map PT.items)).length = _ := inter_length _ _
    show k + 1 < (inter t.1 (t.2.map PT.items)).length
    rw [h3, e]
    simp only [List.map_cons, List.sum_cons]
    omega
theorem Own.slcAll {α : Type} {f : α → List Value} {sz : Nat} (hf : ∀ x, (f x).length = sz) {K : Value → Prop} {v : Value} {b o : Nat} {L : List α} {sp : List Value} (w : Own sz v L.length b o (L.flatMap f) sp)
    (H : ∀ v', Own sz v' (L.drop 0).length b (o + 0 * sz) ((L.drop 0).flatMap f) sp → K v') : slc sz v none none none K := by
  have w0 := w
  obtain ⟨a, cap, e, h1, h2, h3, h4⟩ := w.ex
  subst e
  refine ⟨a, L.length, cap, 0, L.length, cap, rfl, rfl, rfl, rfl, H _ ?_⟩
  have ea : (if cap = 0 then a else a.map (·.add (0 * sz))) = a := by
    split
    · rfl
    · rw [Nat.zero_mul]; cases a <;> rfl
  rw [ea, List.drop_zero, Nat.zero_mul, Nat.add_zero, Nat.sub_zero, Nat.sub_zero]
  exact w0
/-- The counts along the first way down (or the last one), changed. -/
def bmp {It : Type} (sd : Bool) (δ : Int) : {h : Nat} → GT It h → GT It h
  | 0, d => ({ (d : Nd It) with cnt := Nd.cnt d + δ } : Nd It)
  | _ + 1, t => ({ t.1 with cnt := t.1.cnt + δ }, t.2.modify (if sd then t.2.length - 1 else 0) (bmp sd δ))
theorem bmp_id {It : Type} {sd : Bool} {δ : Int} : ∀ {h : Nat} (t : GT It h), (bmp sd δ t).id = t.id
  | 0, _ => rfl
  | _ + 1, _ => rfl
theorem modify_at {β : Type} {l : List β} {f : β → β} {c : β} {i : Nat} (hc : l[i]? = some c) : l.modify i f = l.set i (f c) := by
  obtain ⟨hi, rfl⟩ := List.getElem?_eq_some_iff.1 hc
  apply List.ext_getElem?
  intro j
  rw [List.getElem?_modify, List.getElem?_set]
  by_cases e : i = j
  · subst e; simp [hi, List.getElem?_eq_getElem hi]
  · simp [e]
/-- x is the first item (or the last one), R are the others. -/
def Ends (sd : Bool) (x : It) (R l : List It) : Prop := if sd then l = R ++ [x] else l = x :: R
theorem Ends.len {sd : Bool} {x : It} {R l : List It} (e : Ends sd x R l) : l.length = R.length + 1 := by
  unfold Ends at e; split at e <;> rw [e] <;> simp
theorem items_set {m lo k : Nat} {its : List It} {kids : List (PT It k)} {i : Nat} {c c' : PT It k} (fl : PT.Fl m lo (h := k + 1) (its, kids)) (hi : i ≤ its.length) (hc : kids[i]? = some c) (hc' : PT.Fl m (m / 2) c') :
    PT.Fl m lo (h := k + 1) (its, kids.set i c') ∧ ∃ A B, PT.items (h := k + 1) (its, kids) = A ++ (c.items ++ B) ∧ PT.items (h := k + 1) (its, kids.set i c') = A ++ (c'.items ++ B) ∧ (i = 0 → A = []) ∧ (i = its.length → B = []) := by
  have hkl : kids.length = its.length + 1 := fl.2.2.1
  have f' : PT.Fl m lo (h := k + 1) (its, kids.set i c') := by
    refine ⟨fl.1, fl.2.1, ?_, fun q hq => ?_⟩
    · show (kids.set i c').length = its.length + 1
      rw [List.length_set]; exact hkl
    · rcases List.mem_or_eq_of_mem_set (show q ∈ kids.set i c' from hq) with e | e
      · exact fl.2.2.2 q e
      · rw [e]; exact hc'
  refine ⟨f', lz (its.take i) ((kids.take i).map PT.items), rz (its.drop i) ((kids.drop (i + 1)).map PT.items), ?_, ?_, fun e => ?_, fun e => ?_⟩
  · obtain ⟨c0, h0, _, e⟩ := PT.around (t := ((its, kids) : PT It (k + 1))) fl hi
    have h0 : kids[i]? = some c0 := h0
    rw [hc] at h0
    rw [← Option.some.inj h0] at e
    exact e
  · obtain ⟨c0, h0, _, e⟩ := PT.around (t := ((its, kids.set i c') : PT It (k + 1))) f' hi
    have h0 : (kids.set i c')[i]? = some c0 := h0
    rw [List.getElem?_set_self (by omega)] at h0
    rw [← Option.some.inj h0] at e
    have e1 : (kids.set i c').take i = kids.take i := List.take_set_of_le (Nat.le_refl _)
    have e2 : (kids.set i c').drop (i + 1) = kids.drop (i + 1) := List.drop_set_of_lt (by omega)
    have e : PT.items (h := k + 1) (its, kids.set i c') = lz (its.take i) (((kids.set i c').take i).map PT.items) ++ (c'.items ++ rz (its.drop i) (((kids.set i c').drop (i + 1)).map PT.items)) := e
    rw [e1, e2] at e
    exact e
  · subst e; rfl
  · subst e; rw [List.drop_length]; rfl
theorem ends_del (o : Swo lt) {sd : Bool} {x : It} {R l : List It} (e : Ends sd x R l) (ha : Asc lt l) : lget lt l x = some x ∧ ldel lt l x = R := by
  obtain ⟨i, hi, hx, he⟩ : ∃ i, ∃ hi : i < l.length, l[i] = x ∧ l.eraseIdx i = R := by
    unfold Ends at e
    split at e
    · subst e; exact ⟨R.length, by simp, by simp, by rw [eraseIdx_at (P := R) (S := []) (y := x) rfl, List.append_nil]⟩
    · subst e; exact ⟨0, by simp, rfl, rfl⟩
  obtain ⟨p1, p2⟩ := found_at o ha hi (x := x) (by rw [hx]; exact o.irr x) (by rw [hx]; exact o.irr x)
  obtain ⟨y, hy⟩ := Option.isSome_iff_exists.1 p2
  obtain ⟨hp, h1, _, _⟩ := lget_some hy
  have h2 : l[pos lt l x]? = some x := by rw [p1, List.getElem?_eq_getElem hi, hx]
  rw [List.getElem?_eq_getElem hp, h1] at h2
  refine ⟨by rw [hy]; exact h2, ?_⟩
  rw [ldel_some hy, ← List.eraseIdx_eq_take_drop_succ, p1, he]
/-- What was taken out of l, and what is left. -/
def Popped (sd : Bool) (r : Option It) (l l' : List It) : Prop := match r with
  | none => l = [] ∧ l' = []
  | some x => Ends sd x l' l
/-- What is left to do behind the cut. -/
def popEnd (tb t6 : Nat) (h : Heap) (Q : Value → Heap → Prop) : Prop :=
  nilck (ptr tb 0) fun a => fld 3 a fun t90 => load1 t90 h fun t91 => arith (· - ·) t91 (.int .i64 1) fun t92 => nilck (ptr tb 0) fun b => fld 3 b fun t94 => store1 t94 t92 h fun h => nilck (ptr tb 0) fun c => fld 3 c fun t97 => load1 t97 h fun t98 =>
    cmpI (fun a b => a == b) t98 (.int .i64 0) fun t99 => ifV t99
      (nilck (ptr tb 0) fun d => fld 2 d fun t102 => store1 t102 (.pointer none) h fun h => fld 1 (ptr t6 0) fun t1 => load1 t1 h fun t2 => fld 0 (ptr t6 0) fun t3 => load1 t3 h fun t4 => Q (.tuple #[t2, t4, (.bool true)]) h)
      (fld 1 (ptr t6 0) fun t1 => load1 t1 h fun t2 => fld 0 (ptr t6 0) fun t3 => load1 t3 h fun t4 => Q (.tuple #[t2, t4, (.bool true)]) h)

namespace PopMin
/-- Back up: the counts as they were. -/
theorem up_pop {tr t5 : Value} {iso : Int} {m : Nat} (hm : m ≤ 1024) : ∀ {k : Nat} (c : GT It k) {lo : Nat} {E : List Rg} {h : Heap}, c.pt.Fl m lo → Gd iso c → c.pt.items.length ≤ 4611686018427387903 → St h0 Z ((bmp false (-1) c).all enc ++ E) h → (∀ h', St h0 Z (c.all enc ++ E) h' → Map_ii_PopMin.j3 tr t5 h' Q) →
    LoopOk (fun c s h K1 => Map_ii_PopMin.l5.b (c.getD 0 undef) (c.getD 1 undef) (s.getD 0 undef) h K1 Q) [tr, t5] k [ptr c.id 0] h
  | 0, (d : Nd It), lo, E, h, fl, g, hsz, s, H => by
    obtain ⟨own, n, is', cnt, its, iv, ib, io, isp, kb, kv', krb, kro, ksp⟩ := d
    intro K
    have s : St h0 Z ((n, 0, [.int .u64 is', .int .i64 (cnt + -1), iv, .pointer none]) :: (ib, io, its.flatMap enc ++ isp) :: E) h := s
    have hcn : cnt = its.length := g.cn
    have hsz : its.length ≤ 4611686018427387903 := hsz
    show Map_ii_PopMin.l5.b tr t5 (ptr n 0) h K Q
    unfold Map_ii_PopMin.l5.b
    refine r_nil ?_
    refine r_fld ?_
    refine St.r_load0 s 0 rfl rfl ?_
    refine r_add (z := cnt) (by rw [i64w (by omega) (by omega)]; omega) ?_
    refine r_nil ?_
    refine r_fld ?_
    refine St.r_store0 s 0 rfl (by simp) rfl ?_
    intro h s
    try simp only [List.set_cons_zero, List.set_cons_succ] at s
    refine leaf_ok (a := none) (s.get (k := 0) (j := 3) rfl (by simp)) ?_
    refine r_if (fun _ => ?_) (fun e => absurd e (by simp))
    exact H h s
  | k + 1, t, lo, E, h, fl, g, hsz, s, H => by
    obtain ⟨d, ts⟩ := t
    obtain ⟨own, n, is', cnt, its, iv, ib, io, isp, kb, kv', krb, kro, ksp⟩ := d
    intro K HK
    have hkl : ts.length = its.length + 1 := g.wf.2.2.1
    have wK : Own 1 kv' ts.length krb kro ((ts.map GT.id).map fun m => ptr m 0) ksp := g.wf.2.1
    have hcn : cnt = (PT.items (h := k + 1) (its, ts.map GT.pt)).length := g.cn.1
    have hsz : (PT.items (h := k + 1) (its, ts.map GT.pt)).length ≤ 4611686018427387903 := hsz
    obtain ⟨c, hc⟩ : ∃ c, ts[0]? = some c := ⟨ts[0]'(by omega), List.getElem?_eq_getElem (by omega)⟩
    have hcm := List.mem_of_getElem? hc
    have hcm2 : c.pt ∈ ts.map GT.pt := List.mem_map.2 ⟨c, hcm, rfl⟩
    have hfc : PT.Fl m (m / 2) c.pt := fl.2.2.2 _ hcm2
    have hlm : its.length ≤ m := fl.2.1
    have hcsz : c.pt.items.length ≤ 4611686018427387903 := by
      have h1 : (inter its ((ts.map GT.pt).map PT.items)).length = _ := inter_length _ _
      have h2 : (inter its ((ts.map GT.pt).map PT.items)).length ≤ 4611686018427387903 := hsz
      have h3 : c.pt.items.length ≤ (((ts.map GT.pt).map PT.items).map List.length).sum := mem_le_sum (by
        rw [List.map_map, List.map_map]; exact List.mem_map.2 ⟨c, hcm, rfl⟩)
      omega
    have s : St h0 Z ((n, 0, [.int .u64 is', .int .i64 (cnt + -1), iv, ptr kb 0]) :: (ib, io, its.flatMap enc ++ isp) :: (kb, 0, [kv']) :: (krb, kro, (((ts.modify (0) (bmp false (-1))).map GT.id).map fun m => ptr m 0) ++ ksp) :: ((ts.modify (0) (bmp false (-1))).flatMap (GT.all enc) ++ E)) h := s
    rw [modify_at hc, mfp] at s
    have hi := (List.getElem?_eq_some_iff.1 hc).1
    have hc' : (ts.set (0) (bmp false (-1) c))[0]? = some (bmp false (-1) c) := List.getElem?_set_self hi
    have etake : (ts.set (0) (bmp false (-1) c)).take (0) = ts.take (0) := List.take_set_of_le (Nat.le_refl _)
    have edrop : (ts.set (0) (bmp false (-1) c)).drop (0 + 1) = ts.drop (0 + 1) := List.drop_set_of_lt (by omega)
    rw [flat_at3 (GT.all enc) hc', etake, edrop, set_ids hc (bmp_id c)] at s
    show Map_ii_PopMin.l5.b tr t5 (ptr n 0) h K Q
    unfold Map_ii_PopMin.l5.b
    refine r_nil ?_
    refine r_fld ?_
    refine St.r_load0 s 0 rfl rfl ?_
    refine r_add (z := cnt) (by rw [i64w (by omega) (by omega)]; omega) ?_
    refine r_nil ?_
    refine r_fld ?_
    refine St.r_store0 s 0 rfl (by simp) rfl ?_
    intro h s
    try simp only [List.set_cons_zero, List.set_cons_succ] at s
    refine leaf_ok (a := some ⟨kb, 0, Option.none⟩) (s.get (k := 0) (j := 3) rfl (by simp)) ?_
    refine r_if (fun e => absurd e (by simp)) (fun _ => ?_)
    unfold Map_ii_PopMin.j6
    refine r_nil ?_
    refine r_fld ?_
    refine St.r_load0 s 0 rfl rfl ?_
    refine r_nil ?_
    refine St.r_load0 s 2 rfl rfl ?_
    refine wK.idx (n := 0) rfl (by omega) ?_
    refine r_loadM1 s 3 rfl hc ?_
    have := up_pop (tr := tr) (t5 := t5) hm c (E := (n, 0, [.int .u64 is', .int .i64 cnt, iv, ptr kb 0]) :: (ib, io, its.flatMap enc ++ isp) :: (kb, 0, [kv']) :: (krb, kro, (ts.map GT.id).flatMap fp ++ ksp) :: ((ts.take (0)).flatMap (GT.all enc) ++ ((ts.drop (0 + 1)).flatMap (GT.all enc) ++ E))) hfc (g.kid hcm) hcsz (s.perm (by ((apply perm_rg; intro f; simp only [List.set_cons_zero, List.set_cons_succ, List.eraseIdx_cons_zero, List.eraseIdx_cons_succ, List.cons_append, List.nil_append, List.map_append, List.map_cons, List.map_nil, List.sum_append, List.sum_cons, List.sum_nil, List.map_flatMap, Nat.add_zero, Nat.zero_add]; ac_rfl)))) fun h' s => ?_
    · exact HK _ _ this
    · refine H h' ?_
      have s1 : St h0 Z ((n, 0, [.int .u64 is', .int .i64 cnt, iv, ptr kb 0]) :: (ib, io, its.flatMap enc ++ isp) :: (kb, 0, [kv']) :: (krb, kro, (ts.map GT.id).flatMap fp ++ ksp) :: (ts.flatMap (GT.all enc) ++ E)) h' := s.perm (by rw [flat_at3 (GT.all enc) hc]; ((apply perm_rg; intro f; simp only [List.set_cons_zero, List.set_cons_succ, List.eraseIdx_cons_zero, List.eraseIdx_cons_succ, List.cons_append, List.nil_append, List.map_append, List.map_cons, List.map_nil, List.sum_append, List.sum_cons, List.sum_nil, List.map_flatMap, Nat.add_zero, Nat.zero_add]; ac_rfl)))
      rw [← mfp] at s1
      exact s1
/-- Down the way: the item is cut off, or nothing but the counts has changed. -/
theorem down_pop {tb t5 m : Nat} {iso : Int} {ctr : Option Addr} (hT0 : (tb, 0, hd0 iso ctr) ∈ Z) (hT4 : (tb, 4, hd4 ((m / 2 : Nat) : Int) m) ∈ Z) (hm : m ≤ 1024) (hm3 : 3 ≤ m) : ∀ {k : Nat} (c : GT It k) {lo : Nat} {E : List Rg} {h : Heap}, 1 ≤ lo → (lo = m / 2 ∨ lo = 1) → c.pt.Fl m lo → Gd iso c → c.pt.items.length ≤ 4611686018427387903 → St h0 Z (c.all enc ++ ((t5, 0, enc emp) :: E)) h →
    (∀ (c' : GT It k) h' x R, Ends false x R c.pt.items → c'.pt.items = R → (c'.pt.Fl m lo ∨ (lo ≠ m / 2 ∧ R = [])) → c'.id = c.id → Gd iso c' → St h0 Z (c'.all enc ++ ((t5, 0, enc x) :: E)) h' → popEnd tb t5 h' Q) →
    (∀ h' x R, Ends false x R c.pt.items → St h0 Z ((bmp false (-1) c).all enc ++ ((t5, 0, enc x) :: E)) h' → Map_ii_PopMin.j2 (ptr tb 0) (ptr t5 0) h' Q) →
    LoopOk (fun c s h K1 => Map_ii_PopMin.l7.b (c.getD 0 undef) (c.getD 1 undef) (s.getD 0 undef) h K1 Q) [ptr tb 0, ptr t5 0] k [ptr c.id 0] h
  | 0, (d : Nd It), lo, E, h, hlo, hlo2, fl, g, hsz, s, H1, H2 => by
    obtain ⟨own, n, is', cnt, its, iv, ib, io, isp, kb, kv', krb, kro, ksp⟩ := d
    intro K
    have hw : own = true := g.mine
    have hiso : is' = iso := g.wf.2.1 hw
    subst hiso; subst hw
    have w : Own 2 iv its.length ib io (its.flatMap enc) isp := g.wf.1
    have s : St h0 Z ((n, 0, [.int .u64 is', .int .i64 cnt, iv, .pointer none]) :: (ib, io, its.flatMap enc ++ isp) :: (t5, 0, enc emp) :: E) h := s
    have hcn : cnt = its.length := g.cn
    have hl1 : lo ≤ its.length := fl.1
    have hl2 : its.length ≤ m := fl.2
    have hE : Ends false (its[0]'(by omega)) (its.eraseIdx (0)) its := by
      cases its with
      | nil => simp at hl1; omega
      | cons a r => rfl
    have hx : its[0]? = some (its[0]'(by omega)) := List.getElem?_eq_getElem (by omega)
    generalize hxg : its[0]'(by omega) = x at *
    show Map_ii_PopMin.l7.b (ptr tb 0) (ptr t5 0) (ptr n 0) h K Q
    unfold Map_ii_PopMin.l7.b
    refine r_nil ?_
    refine r_fld ?_
    refine St.r_load0 s 0 rfl rfl ?_
    refine r_sub (z := cnt + -1) (by rw [i64w (by omega) (by omega)]; omega) ?_
    refine r_nil ?_
    refine r_fld ?_
    refine St.r_store0 s 0 rfl (by simp) rfl ?_
    intro h s
    try simp only [List.set_cons_zero, List.set_cons_succ] at s
    refine leaf_ok (a := none) (s.get (k := 0) (j := 3) rfl (by simp)) ?_
    refine r_if (fun _ => ?_) (fun e => absurd e (by simp))
    refine r_nil ?_
    refine r_fld ?_
    refine St.r_load0 s 0 rfl rfl ?_
    refine w.idx (n := 0) rfl (by omega) ?_
    refine s.r_loadF encl 1 rfl hx ?_
    refine St.r_storeN0 s 2 rfl rfl (by simp) (enc1 x) ?_; intro h s
    have s : St h0 Z ((n, 0, [.int .u64 is', .int .i64 (cnt + -1), iv, .pointer none]) :: (ib, io, its.flatMap enc ++ isp) :: (t5, 0, enc x) :: E) h := s
    refine r_nil ?_
    refine r_fld ?_
    refine St.r_load0 s 0 rfl rfl ?_
    refine w.lenV ?_
    refine r_nil ?_
    refine r_fld ?_
    refine s.r_lz hT4 2 rfl rfl ?_
    refine r_cmpI ?_
    refine r_if (fun _ => H2 h x _ hE s) (fun hne => ?_)
    have hne : its.length ≠ m / 2 := by have := hne; simp at this; omega
    have hel : (its.eraseIdx (0)).length = its.length - 1 := by rw [List.length_eraseIdx, if_pos (by omega)]
    unfold Map_ii_PopMin.j9
    refine r_nil ?_
    refine r_fld ?_
    refine St.r_load0 s 0 rfl rfl ?_
    refine Own.slcAll encl w fun dd wd => ?_
    refine r_nil ?_
    refine r_fld ?_
    refine St.r_load0 s 0 rfl rfl ?_
    refine (w.rdl s 1 rfl).slcLo encl (i := 1) rfl (by omega) fun src rs => ?_
    refine s.r_cpyF encl 1 (i := 0) (L := its) (M := its.drop 1) rfl wd (by simp) rs rfl (fun y _ => enc1 y) fun h s => ?_
    refine r_nil ?_
    refine r_fld ?_
    refine St.r_load0 s 0 rfl rfl ?_
    refine r_nil ?_
    refine r_fld ?_
    refine St.r_load0 s 0 rfl rfl ?_
    refine w.lenV ?_
    refine r_sub (z := ((its.length - 1 : Nat) : Int)) (by rw [i64w (by omega) (by omega)]; omega) ?_
    refine r_nil ?_
    refine r_fld ?_
    refine s.r_lzE hT4 0 (enc emp) rfl (by simp) rfl ?_
    have hdl := del_len its emp (i := 0) (by omega)
    have hX := hdl
    rw [List.length_set] at hX
    have her := del_erase its emp (i := 0) (by omega)
    refine w.idx (n := its.length - 1) rfl (by omega) ?_
    refine s.r_storeF encl 1 rfl (by rw [hX]; omega) (enc1 emp) ?_; intro h s
    refine r_nil ?_
    refine r_fld ?_
    refine St.r_load0 s 0 rfl rfl ?_
    refine r_nil ?_
    refine r_fld ?_
    refine St.r_load0 s 0 rfl rfl ?_
    refine w.lenV ?_
    refine r_sub (z := ((its.length - 1 : Nat) : Int)) (by rw [i64w (by omega) (by omega)]; omega) ?_
    refine (w.list encl hdl).slcHi encl rfl (by rw [hdl]; omega) fun iv2 w2 => ?_
    have s := s.del (f := enc) 1 rfl _ her
    rw [her] at w2
    refine r_nil ?_
    refine r_fld ?_
    refine St.r_store0 s 0 rfl (by simp) w2.one ?_; intro h s
    refine H1 (⟨true, n, is', cnt + -1, its.eraseIdx (0), iv2, ib, io, _, kb, kv', krb, kro, ksp⟩ : Nd It) h x _ hE rfl ?_ rfl (Gd.leaf w2 rfl rfl (by show cnt + -1 = ((its.eraseIdx (0)).length : Int); rw [hel, hcn]; omega)) s
    rcases Nat.lt_or_ge lo its.length with e | e
    · left
      show lo ≤ (its.eraseIdx (0)).length ∧ (its.eraseIdx (0)).length ≤ m
      rw [hel]; omega
    · right
      exact ⟨by omega, List.length_eq_zero_iff.1 (by rw [hel]; omega)⟩
  | k + 1, t, lo, E, h, hlo, hlo2, fl, g, hsz, s, H1, H2 => by
    obtain ⟨d, ts⟩ := t
    obtain ⟨own, n, is', cnt, its, iv, ib, io, isp, kb, kv', krb, kro, ksp⟩ := d
    intro K HK
    have hw : own = true := g.mine.1
    have hiso : is' = iso := g.wf.1.2.1 hw
    subst hiso; subst hw
    have hkl : ts.length = its.length + 1 := g.wf.2.2.1
    have wK : Own 1 kv' ts.length krb kro ((ts.map GT.id).map fun m => ptr m 0) ksp := g.wf.2.1
    have hcn : cnt = (PT.items (h := k + 1) (its, ts.map GT.pt)).length := g.cn.1
    have hsz : (PT.items (h := k + 1) (its, ts.map GT.pt)).length ≤ 4611686018427387903 := hsz
    have hlm : its.length ≤ m := fl.2.1
    have hl1 : lo ≤ its.length := fl.1
    obtain ⟨c, hc⟩ : ∃ c, ts[0]? = some c := ⟨ts[0]'(by omega), List.getElem?_eq_getElem (by omega)⟩
    have hcm := List.mem_of_getElem? hc
    have hcm2 : c.pt ∈ ts.map GT.pt := List.mem_map.2 ⟨c, hcm, rfl⟩
    have hfc : PT.Fl m (m / 2) c.pt := fl.2.2.2 _ hcm2
    have fl : PT.Fl m lo (h := k + 1) (its, ts.map GT.pt) := fl
    have hcsz : c.pt.items.length ≤ 4611686018427387903 := by
      have h1 : (inter its ((ts.map GT.pt).map PT.items)).length = _ := inter_length _ _
      have h2 : (inter its ((ts.map GT.pt).map PT.items)).length ≤ 4611686018427387903 := hsz
      have h3 : c.pt.items.length ≤ (((ts.map GT.pt).map PT.items).map List.length).sum := mem_le_sum (by
        rw [List.map_map, List.map_map]; exact List.mem_map.2 ⟨c, hcm, rfl⟩)
      omega
    have hc2 : ts[0]? = some c := by
      exact hc
    have hcp : (ts.map GT.pt)[0]? = some c.pt := by rw [List.getElem?_map, hc]; rfl
    have up : ∀ {x : It} {R0 : List It} (c' : PT It k), Ends false x R0 c.pt.items → c'.items = R0 → PT.Fl m (m / 2) c' → ∃ R, Ends false x R (PT.items (h := k + 1) (its, ts.map GT.pt)) ∧ PT.items (h := k + 1) (its, (ts.map GT.pt).set (0) c') = R ∧ PT.Fl m lo (h := k + 1) (its, (ts.map GT.pt).set (0) c') := fun {x R0} c' he hr hf => by
      obtain ⟨f', A, B, e1, e2, e3, e4⟩ := items_set fl (by omega : 0 ≤ its.length) hcp hf
      refine ⟨_, ?_, rfl, f'⟩
      rw [e1, e2, hr]
      have he : c.pt.items = x :: R0 := he
      show _ = x :: _
      rw [e3 rfl, he]; rfl
    have up0 : ∀ {x : It} {R0 : List It}, Ends false x R0 c.pt.items → ∃ R, Ends false x R (PT.items (h := k + 1) (its, ts.map GT.pt)) := fun {x R0} he => by
      obtain ⟨_, A, B, e1, _, e3, e4⟩ := items_set fl (by omega : 0 ≤ its.length) hcp hfc
      rw [e1]
      have he : c.pt.items = x :: R0 := he
      exact ⟨R0 ++ B, by rw [e3 rfl, he]; rfl⟩
    have s : St h0 Z ((n, 0, [.int .u64 is', .int .i64 cnt, iv, ptr kb 0]) :: (ib, io, its.flatMap enc ++ isp) :: (kb, 0, [kv']) :: (krb, kro, ((ts.map GT.id).map fun m => ptr m 0) ++ ksp) :: (ts.flatMap (GT.all enc) ++ ((t5, 0, enc emp) :: E))) h := s
    rw [mfp, flat_at3 (GT.all enc) hc] at s
    show Map_ii_PopMin.l7.b (ptr tb 0) (ptr t5 0) (ptr n 0) h K Q
    unfold Map_ii_PopMin.l7.b
    refine r_nil ?_
    refine r_fld ?_
    refine St.r_load0 s 0 rfl rfl ?_
    refine r_sub (z := cnt + -1) (by rw [i64w (by omega) (by omega)]; omega) ?_
    refine r_nil ?_
    refine r_fld ?_
    refine St.r_store0 s 0 rfl (by simp) rfl ?_
    intro h s
    try simp only [List.set_cons_zero, List.set_cons_succ] at s
    refine leaf_ok (a := some ⟨kb, 0, Option.none⟩) (s.get (k := 0) (j := 3) rfl (by simp)) ?_
    refine r_if (fun e => absurd e (by simp)) (fun _ => ?_)
    unfold Map_ii_PopMin.j8
    refine r_nil ?_
    refine r_fld ?_
    refine St.r_load0 s 0 rfl rfl ?_
    refine r_nil ?_
    refine St.r_load0 s 2 rfl rfl ?_
    refine wK.idx (n := 0) rfl (by omega) ?_
    have hcell : cl h krb (kro + 0 * 1) = some (ptr c.id 0) := by
      have hid : (ts.map GT.id)[0]? = some c.id := by rw [List.getElem?_map, hc]; rfl
      obtain ⟨hi, he⟩ := List.getElem?_eq_some_iff.1 hid
      have := s.get (k := 3) (j := 0 * 1) rfl (by rw [List.length_append, flat_len fpl]; omega)
      rw [this, List.getElem?_append_left (by rw [flat_len fpl]; omega)]
      have h2 := flat_get (f := fp) fpl (ts.map GT.id) (0) hi 0 (by decide)
      rw [Nat.add_zero] at h2
      rw [h2, he]; rfl
    have hciso : cl h c.id 0 = some (.int .u64 is') := by
      have hown : c.nd.own = true := (g.kid hcm).mine.nd
      obtain ⟨a2, a3, a4, hmem⟩ := topIso (t := c)
      have hci : c.nd.iso = is' := by
        have := (g.kid hcm).wf
        cases k with
        | zero => exact this.2.1 hown
        | succ k => exact this.1.2.1 hown
      rw [hci] at hmem
      have hmm : (c.id, 0, [.int .u64 is', a2, a3, a4]) ∈ c.all enc ++ (ts.drop (0 + 1)).flatMap (GT.all enc) := List.mem_append.2 (.inl hmem)
      have hmm := List.mem_append.2 (.inr hmm : _ ∈ (ts.take (0)).flatMap (GT.all enc) ∨ _)
      have hmm := List.mem_append.2 (.inl hmm : _ ∨ _ ∈ (t5, 0, enc emp) :: E)
      have := (s.e _ (List.mem_cons_of_mem _ (List.mem_cons_of_mem _ (List.mem_cons_of_mem _ (List.mem_cons_of_mem _ hmm))))).1.at0 0 rfl
      exact this
    refine isoLoad_ok (n := c.id) (iso := is') (by have := s.getZ hT0 (j := 0) (by simp); simpa using this) hcell (fun _ => hciso) ?_
    have := down_pop (t5 := t5) hT0 hT4 hm hm3 c (E := (n, 0, [.int .u64 is', .int .i64 (cnt + -1), iv, ptr kb 0]) :: (ib, io, its.flatMap enc ++ isp) :: (kb, 0, [kv']) :: (krb, kro, (ts.map GT.id).flatMap fp ++ ksp) :: ((ts.take (0)).flatMap (GT.all enc) ++ ((ts.drop (0 + 1)).flatMap (GT.all enc) ++ E))) (by omega) (.inl rfl) hfc (g.kid hcm) hcsz (s.perm (by ((apply perm_rg; intro f; simp only [List.set_cons_zero, List.set_cons_succ, List.eraseIdx_cons_zero, List.eraseIdx_cons_succ, List.cons_append, List.nil_append, List.map_append, List.map_cons, List.map_nil, List.sum_append, List.sum_cons, List.sum_nil, List.map_flatMap, Nat.add_zero, Nat.zero_add]; ac_rfl)))) (fun c' h' x R0 a1 a2 a3 a4 a5 s => ?_) (fun h' x R0 a1 s => ?_)
    · exact HK _ _ this
    · have hf' : PT.Fl m (m / 2) c'.pt := by
        rcases a3 with e | e
        · exact e
        · exact absurd rfl e.1
      obtain ⟨R, u1, u2, u3⟩ := up c'.pt a1 a2 hf'
      have ept : (ts.set (0) c').map GT.pt = (ts.map GT.pt).set (0) c'.pt := by rw [List.map_set]
      have hi := (List.getElem?_eq_some_iff.1 hc).1
      have hc' : (ts.set (0) c')[0]? = some c' := List.getElem?_set_self hi
      have etake : (ts.set (0) c').take (0) = ts.take (0) := List.take_set_of_le (Nat.le_refl _)
      have edrop : (ts.set (0) c').drop (0 + 1) = ts.drop (0 + 1) := List.drop_set_of_lt (by omega)
      have hlen := u1.len
      refine H1 ((⟨true, n, is', cnt + -1, its, iv, ib, io, isp, kb, kv', krb, kro, ksp⟩ : Nd It), ts.set (0) c') h' x R u1 (by show PT.items (h := k + 1) (its, (ts.set (0) c').map GT.pt) = _; rw [ept]; exact u2) (.inl (by show PT.Fl m lo (h := k + 1) (its, (ts.set (0) c').map GT.pt); rw [ept]; exact u3)) rfl
        (Gd.setKid (d := ⟨true, n, is', cnt, its, iv, ib, io, isp, kb, kv', krb, kro, ksp⟩) g hc a4 a5 (by
          show cnt + -1 = ((PT.items (h := k + 1) (its, (ts.set (0) c').map GT.pt)).length : Int); rw [ept, u2]; omega)) ?_
      have s1 : St h0 Z ((n, 0, [.int .u64 is', .int .i64 (cnt + -1), iv, ptr kb 0]) :: (ib, io, its.flatMap enc ++ isp) :: (kb, 0, [kv']) :: (krb, kro, ((ts.set (0) c').map GT.id).flatMap fp ++ ksp) :: ((ts.set (0) c').flatMap (GT.all enc) ++ ((t5, 0, enc x) :: E))) h' :=
        s.perm (by rw [set_ids hc a4, flat_at3 (GT.all enc) hc', etake, edrop]; ((apply perm_rg; intro f; simp only [List.set_cons_zero, List.set_cons_succ, List.eraseIdx_cons_zero, List.eraseIdx_cons_succ, List.cons_append, List.nil_append, List.map_append, List.map_cons, List.map_nil, List.sum_append, List.sum_cons, List.sum_nil, List.map_flatMap, Nat.add_zero, Nat.zero_add]; ac_rfl)))
      rw [← mfp] at s1
      exact s1
    · obtain ⟨R, u1⟩ := up0 a1
      refine H2 h' x R u1 ?_
      have hi := (List.getElem?_eq_some_iff.1 hc2).1
      have hc' : (ts.set (0) (bmp false (-1) c))[0]? = some (bmp false (-1) c) := List.getElem?_set_self hi
      have etake : (ts.set (0) (bmp false (-1) c)).take (0) = ts.take (0) := by rw [List.take_set_of_le (Nat.le_refl _)]
      have edrop : (ts.set (0) (bmp false (-1) c)).drop (0 + 1) = ts.drop (0 + 1) := by rw [List.drop_set_of_lt (by omega)]
      have s1 : St h0 Z ((n, 0, [.int .u64 is', .int .i64 (cnt + -1), iv, ptr kb 0]) :: (ib, io, its.flatMap enc ++ isp) :: (kb, 0, [kv']) :: (krb, kro, ((ts.modify (0) (bmp false (-1))).map GT.id).flatMap fp ++ ksp) :: ((ts.modify (0) (bmp false (-1))).flatMap (GT.all enc) ++ ((t5, 0, enc x) :: E))) h' :=
        s.perm (by rw [modify_at hc2, set_ids hc2 (bmp_id c), flat_at3 (GT.all enc) hc', etake, edrop]; ((apply perm_rg; intro f; simp only [List.set_cons_zero, List.set_cons_succ, List.eraseIdx_cons_zero, List.eraseIdx_cons_succ, List.cons_append, List.nil_append, List.map_append, List.map_cons, List.map_nil, List.sum_append, List.sum_cons, List.sum_nil, List.map_flatMap, Nat.add_zero, Nat.zero_add]; ac_rfl)))
      rw [← mfp] at s1
      exact s1
theorem ok {tb m : Nat} {iso : Int} {ctr : Option Addr} {g : Rt} (M : MapOk m iso g) (hsz : (rPt g).items.length ≤ 4611686018427387903)
    (s : St h0 Z ((tb, 0, hdr iso ctr (rA g) (rPt g).items.length ((m / 2 : Nat) : Int) m) :: (rAll g ++ E)) h)
    (H : ∀ (r : Option It) (g' : Rt) h', Popped false r (rPt g).items (rPt g').items → MapOk m iso g' → St h0 Z ((tb, 0, hdr iso ctr (rA g') (rPt g').items.length ((m / 2 : Nat) : Int) m) :: (rAll g' ++ E)) h' → Q (.tuple #[kv (r.getD emp).1, vv (r.getD emp).2, .bool r.isSome]) h') :
    Map_ii_PopMin.call #[ptr tb 0] h Q := by
  refine Map_ii_PopMin.body _ _ _ ?_
  unfold Map_ii_PopMin.sh
  cases g with
  | none =>
    refine r_nil ?_
    refine r_fld ?_
    refine St.r_load0 s 0 rfl rfl ?_
    refine r_eqNilP ?_
    refine r_if (fun _ => ?_) (fun e => absurd e (by simp [rA]))
    refine r_nil ?_
    refine r_fld ?_
    refine r_fld ?_
    refine St.r_load0 s 0 rfl rfl ?_
    refine r_nil ?_
    refine r_fld ?_
    refine r_fld ?_
    refine St.r_load0 s 0 rfl rfl ?_
    exact H none none h ⟨rfl, rfl⟩ M s
  | some t =>
    obtain ⟨k, t⟩ := t
    have hkk : k < t.pt.items.length := PT.height_le M.m3 (t := t.pt) M.fl (Nat.le_refl _)
    have s := hdr_cut s
    obtain ⟨s1, back⟩ := St.borrow (A := [(tb, 0, hd0 iso ctr), (tb, 4, hd4 ((m / 2 : Nat) : Int) m)]) (E := (tb, 2, [ptr t.id 0]) :: (tb, 3, [.int .i64 t.pt.items.length]) :: (t.all enc ++ E)) s
    have z0 : (tb, 0, hd0 iso ctr) ∈ [(tb, 0, hd0 iso ctr), (tb, 4, hd4 ((m / 2 : Nat) : Int) m)] ++ Z := List.mem_cons_self ..
    have z4 : (tb, 4, hd4 ((m / 2 : Nat) : Int) m) ∈ [(tb, 0, hd0 iso ctr), (tb, 4, hd4 ((m / 2 : Nat) : Int) m)] ++ Z := List.mem_cons_of_mem _ (List.mem_cons_self ..)
    have hgd : Gd iso t := M.gd
    have hfl : t.pt.Fl m 1 := M.fl
    have hasc : Asc lt t.pt.items := M.asc
    have hszt : t.pt.items.length ≤ 4611686018427387903 := hsz
    have s := s1
    refine r_nil ?_
    refine r_fld ?_
    refine s.r_loadI 0 0 rfl rfl rfl ?_
    refine r_eqNilP ?_
    refine r_if (fun e => absurd e (by simp)) (fun _ => ?_)
    unfold Map_ii_PopMin.j1
    have hiso : ∀ {Z' E' : List Rg} {h : Heap}, St h0 Z' (t.all enc ++ E') h → cl h t.id 0 = some (.int .u64 iso) := fun s => by
      obtain ⟨a2, a3, a4, hmem⟩ := topIso (t := t)
      have hown := hgd.mine.nd
      have hci : t.nd.iso = iso := by
        have := hgd.wf
        cases k with
        | zero => exact this.2.1 hown
        | succ k => exact this.1.2.1 hown
      rw [hci] at hmem
      exact (s.e _ (List.mem_append.2 (.inl hmem))).1.at0 0 rfl
    refine r_nil ?_
    refine r_fld ?_
    refine isoLoad_ok (n := t.id) (iso := iso) (by have := s1.getZ z0 (j := 0) (by simp); simpa using this) (by have := s1.get (k := 0) (j := 0) rfl (by simp); simpa using this) (fun _ => hiso (s1.perm (E' := t.all enc ++ ((tb, 2, [ptr t.id 0]) :: (tb, 3, [.int .i64 t.pt.items.length]) :: E)) (by ((apply perm_rg; intro f; simp only [List.set_cons_zero, List.set_cons_succ, List.eraseIdx_cons_zero, List.eraseIdx_cons_succ, List.cons_append, List.nil_append, List.map_append, List.map_cons, List.map_nil, List.sum_append, List.sum_cons, List.sum_nil, List.map_flatMap, Nat.add_zero, Nat.zero_add]; ac_rfl))))) ?_
    refine s1.r_alloc fun t5 h s1 => ?_
    refine (down_pop (t5 := t5) z0 z4 M.m1 M.m3 t (E := (tb, 2, [ptr t.id 0]) :: (tb, 3, [.int .i64 t.pt.items.length]) :: E) (Nat.le_refl 1) (.inr rfl) hfl hgd hszt (s1.perm (by ((apply perm_rg; intro f; simp only [List.set_cons_zero, List.set_cons_succ, List.eraseIdx_cons_zero, List.eraseIdx_cons_succ, List.cons_append, List.nil_append, List.map_append, List.map_cons, List.map_nil, List.sum_append, List.sum_cons, List.sum_nil, List.map_flatMap, Nat.add_zero, Nat.zero_add]; ac_rfl)))) (fun c' h' x R a1 a2 a3 a4 a5 s => ?_) (fun h' x R a1 s => ?_)).loop
    · have hlen := a1.len
      unfold popEnd
      have s : St h0 ([(tb, 0, hd0 iso ctr), (tb, 4, hd4 ((m / 2 : Nat) : Int) m)] ++ Z) ((tb, 3, [.int .i64 t.pt.items.length]) :: (tb, 2, [ptr t.id 0]) :: (t5, 0, enc x) :: (c'.all enc ++ E)) h' := s.perm (by ((apply perm_rg; intro f; simp only [List.set_cons_zero, List.set_cons_succ, List.eraseIdx_cons_zero, List.eraseIdx_cons_succ, List.cons_append, List.nil_append, List.map_append, List.map_cons, List.map_nil, List.sum_append, List.sum_cons, List.sum_nil, List.map_flatMap, Nat.add_zero, Nat.zero_add]; ac_rfl)))
      refine r_nil ?_
      refine r_fld ?_
      refine s.r_load1 0 (o := 3) (j := 0) rfl rfl ?_
      refine r_sub (z := (R.length : Int)) (by rw [i64w (by omega) (by omega)]; omega) ?_
      refine r_nil ?_
      refine r_fld ?_
      refine St.r_store1 s 0 (o := 3) (j := 0) rfl (by simp) rfl ?_; intro h s
      refine r_nil ?_
      refine r_fld ?_
      refine s.r_load1 0 (o := 3) (j := 0) rfl rfl ?_
      refine r_cmpI ?_
      refine r_if (fun e => ?_) (fun e => ?_)
      · have hR : R = [] := by simpa using e
        subst hR
        refine r_nil ?_
        refine r_fld ?_
        refine St.r_store1 s 1 (o := 2) (j := 0) rfl (by simp) rfl ?_; intro h s
        refine r_fld (n := 1) ?_
        refine s.r_load1 2 (o := 0) (j := 1) rfl rfl ?_
        refine r_fld (n := 0) ?_
        refine s.r_load1 2 (o := 0) (j := 0) rfl rfl ?_
        refine H (some x) none h a1 (MapOk.none M.m3 M.m1 M.odd) ?_
        have s2 := back _ h s
        refine hdr_glue ?_
        exact (s2.perm (E' := (c'.all enc) ++ ((t5, 0, enc x) :: (tb, 0, hd0 iso ctr) :: (tb, 4, hd4 ((m / 2 : Nat) : Int) m) :: (tb, 2, [.pointer none]) :: (tb, 3, [.int .i64 (([] : List It).length : Nat)]) :: E)) (by ((apply perm_rg; intro f; simp only [List.set_cons_zero, List.set_cons_succ, List.eraseIdx_cons_zero, List.eraseIdx_cons_succ, List.cons_append, List.nil_append, List.map_append, List.map_cons, List.map_nil, List.sum_append, List.sum_cons, List.sum_nil, List.map_flatMap, Nat.add_zero, Nat.zero_add]; ac_rfl)))).sub (List.Sublist.trans (List.sublist_cons_self ..) (List.sublist_append_right _ _))
      · have hR : R ≠ [] := fun hR => by subst hR; simp at e
        refine r_fld (n := 1) ?_
        refine s.r_load1 2 (o := 0) (j := 1) rfl rfl ?_
        refine r_fld (n := 0) ?_
        refine s.r_load1 2 (o := 0) (j := 0) rfl rfl ?_
        have hf : c'.pt.Fl m 1 := by
          rcases a3 with e | e
          · exact e
          · exact absurd e.2 hR
        have hsub : Asc lt R := by
          have := (ends_del swo a1 hasc).2
          rw [← this]; exact asc_of_sub hasc (ldel_sub _ _)
        refine H (some x) (some ⟨k, c'⟩) h (by show Ends false x c'.pt.items t.pt.items; rw [a2]; exact a1) ⟨a5, hf, by show Asc lt c'.pt.items; rw [a2]; exact hsub, M.m3, M.m1, M.odd⟩ ?_
        have s2 := back _ h s
        show St h0 Z ((tb, 0, hdr iso ctr (some ⟨c'.id, 0, Option.none⟩) c'.pt.items.length ((m / 2 : Nat) : Int) m) :: (c'.all enc ++ E)) h
        refine hdr_glue ?_
        rw [a2, a4]
        exact (s2.perm (E' := (t5, 0, enc x) :: (tb, 0, hd0 iso ctr) :: (tb, 4, hd4 ((m / 2 : Nat) : Int) m) :: (tb, 2, [ptr t.id 0]) :: (tb, 3, [.int .i64 (R.length : Nat)]) :: (c'.all enc ++ E)) (by ((apply perm_rg; intro f; simp only [List.set_cons_zero, List.set_cons_succ, List.eraseIdx_cons_zero, List.eraseIdx_cons_succ, List.cons_append, List.nil_append, List.map_append, List.map_cons, List.map_nil, List.sum_append, List.sum_cons, List.sum_nil, List.map_flatMap, Nat.add_zero, Nat.zero_add]; ac_rfl)))).drop 1
    · obtain ⟨d1, d2⟩ := ends_del swo a1 hasc
      unfold Map_ii_PopMin.j2
      have s : St h0 ([(tb, 0, hd0 iso ctr), (tb, 4, hd4 ((m / 2 : Nat) : Int) m)] ++ Z) ((tb, 2, [ptr t.id 0]) :: (tb, 3, [.int .i64 t.pt.items.length]) :: (t5, 0, enc x) :: ((bmp false (-1) t).all enc ++ E)) h' := s.perm (by ((apply perm_rg; intro f; simp only [List.set_cons_zero, List.set_cons_succ, List.eraseIdx_cons_zero, List.eraseIdx_cons_succ, List.cons_append, List.nil_append, List.map_append, List.map_cons, List.map_nil, List.sum_append, List.sum_cons, List.sum_nil, List.map_flatMap, Nat.add_zero, Nat.zero_add]; ac_rfl)))
      refine r_nil ?_
      refine r_fld ?_
      refine s.r_load1 0 (o := 2) (j := 0) rfl rfl ?_
      refine (up_pop M.m1 t (E := (tb, 2, [ptr t.id 0]) :: (tb, 3, [.int .i64 t.pt.items.length]) :: (t5, 0, enc x) :: E) hfl hgd hszt (s.perm (by ((apply perm_rg; intro f; simp only [List.set_cons_zero, List.set_cons_succ, List.eraseIdx_cons_zero, List.eraseIdx_cons_succ, List.cons_append, List.nil_append, List.map_append, List.map_cons, List.map_nil, List.sum_append, List.sum_cons, List.sum_nil, List.map_flatMap, Nat.add_zero, Nat.zero_add]; ac_rfl)))) fun h' s => ?_).loop
      have s2 := back ((tb, 2, [ptr t.id 0]) :: (tb, 3, [.int .i64 t.pt.items.length]) :: (t5, 0, enc x) :: (t.all enc ++ E)) h' (s.perm (by ((apply perm_rg; intro f; simp only [List.set_cons_zero, List.set_cons_succ, List.eraseIdx_cons_zero, List.eraseIdx_cons_succ, List.cons_append, List.nil_append, List.map_append, List.map_cons, List.map_nil, List.sum_append, List.sum_cons, List.sum_nil, List.map_flatMap, Nat.add_zero, Nat.zero_add]; ac_rfl))))
      have s4 : St h0 Z ((tb, 0, hd0 iso ctr) :: (tb, 4, hd4 ((m / 2 : Nat) : Int) m) :: (tb, 2, [ptr t.id 0]) :: (tb, 3, [.int .i64 t.pt.items.length]) :: (t5, 0, enc x) :: (t.all enc ++ E)) h' := s2
      have s5 : St h0 Z ((tb, 0, hdr iso ctr (rA (some ⟨k, t⟩)) (rPt (some ⟨k, t⟩)).items.length ((m / 2 : Nat) : Int) m) :: (t5, 0, enc x) :: (rAll (some ⟨k, t⟩) ++ E)) h' := hdr_glue s4
      unfold Map_ii_PopMin.j3
      refine r_fld (n := 1) ?_
      refine s5.r_load1 1 (o := 0) (j := 1) rfl rfl ?_
      refine Delete_ok (x := x) (E := (t5, 0, enc x) :: E) M hsz (s5.perm (by ((apply perm_rg; intro f; simp only [List.set_cons_zero, List.set_cons_succ, List.eraseIdx_cons_zero, List.eraseIdx_cons_succ, List.cons_append, List.nil_append, List.map_append, List.map_cons, List.map_nil, List.sum_append, List.sum_cons, List.sum_nil, List.map_flatMap, Nat.add_zero, Nat.zero_add]; ac_rfl)))) fun g' h e1 M' s => ?_
      have s : St h0 Z ((t5, 0, enc x) :: (tb, 0, hdr iso ctr (rA g') (rPt g').items.length ((m / 2 : Nat) : Int) m) :: (rAll g' ++ E)) h := s.perm (by ((apply perm_rg; intro f; simp only [List.set_cons_zero, List.set_cons_succ, List.eraseIdx_cons_zero, List.eraseIdx_cons_succ, List.cons_append, List.nil_append, List.map_append, List.map_cons, List.map_nil, List.sum_append, List.sum_cons, List.sum_nil, List.map_flatMap, Nat.add_zero, Nat.zero_add]; ac_rfl)))
      have hl : lget lt (rPt (some ⟨k, t⟩)).items x = some x := d1
      rw [hl]
      refine r_ext rfl ?_
      refine r_ext rfl ?_
      refine r_if (fun _ => ?_) (fun e => absurd e (by simp))
      refine r_fld (n := 1) ?_
      refine s.r_load1 0 (o := 0) (j := 1) rfl rfl ?_
      refine H (some x) g' h ?_ M' (s.drop 1)
      show Ends false x (rPt g').items t.pt.items
      rw [e1]
      have : ldel lt (rPt (some ⟨k, t⟩)).items x = R := d2
      rw [this]; exact a1
end PopMin
end Go.Proofs.Ytkkappjbcgnacaa.Ii
end
section
namespace Go.Proofs.Ytkkappjbcgnacaa.Ii
open Go.Hp Go.Proofs.Ytkkappjbcgnacaa
set_option linter.unusedVariables false
set_option linter.unusedSimpArgs false
variable {h0 h : Heap} {Z E : List Rg} {Q : Value → Heap → Prop}
theorem fit_ok {d : Int} (H : Q (.bool (decide (2 ≤ d ∧ d ≤ 128))) h) : l_fit.call #[.int .i64 d] h Q := by
  refine l_fit.body _ _ _ ?_
  unfold l_fit.sh
  refine r_cmpI ?_
  refine r_br (fun h1 => ?_) (fun h1 => ?_)
  · have h1 : 0 < d := by simpa using h1
    refine s_Fits.body _ _ _ ?_
    unfold s_Fits.sh
    refine r_cmpI ?_
    refine r_br (fun h2 => ?_) (fun h2 => ?_)
    · refine r_cmpI ?_
      refine r_br (fun h3 => ?_) (fun h3 => ?_)
      · have h3 : 2 ≤ d := by simpa using h3
        refine r_cmpI ?_
        have e : decide (2 ≤ d ∧ d ≤ 128) = decide (d ≤ 128) := by simp [h3]
        rw [e] at H; exact H
      · have h3 : ¬ 2 ≤ d := by simpa using h3
        have e : decide (2 ≤ d ∧ d ≤ 128) = false := by simp [h3]
        rw [e] at H; exact H
    · have h2 : d = 0 := by simpa using h2
      omega
  · have h1 : ¬ 0 < d := by simpa using h1
    have e : decide (2 ≤ d ∧ d ≤ 128) = false := by simp; omega
    rw [e] at H; exact H
def exI : List It := [(5, 1), (3, 2), (9, 3), (3, 4), (1, 5), (7, 6), (8, 7)]
/-- What was found, or nothing. -/
abbrev foundC (o : Option It) : List Value := match o with
  | some p => [.int .i64 p.1, .int .i64 p.2, .bool true]
  | none => [.int .i64 0, .int .i64 0, .bool false]
theorem foundC_len (o : Option It) : (foundC o).length = 3 := by cases o <;> rfl
theorem foundC_one (o : Option It) : ∀ y ∈ foundC o, one1 y = true := by cases o <;> simp [one1]
theorem found_ok {p : It} {b : Bool} (H : ∀ E' h', St h [] E' h' → Q (.agg (foundC (if b then some p else none)).toArray) h') : i_found.call #[.agg (encA p).toArray, .bool b] h Q := by
  refine i_found.body _ _ _ _ ?_
  unfold i_found.sh
  have s := St.start h
  refine St.r_box (cs := encA p) s fun t2 h s => ?_
  refine s.r_alloc fun t4 h s => ?_
  refine r_not ?_
  cases b with
  | false =>
    refine r_if (fun _ => ?_) (fun e => absurd e (by simp))
    ((apply r_build; ((simp only [fillV, fill1, Value.cells, zeros_succ, zeros_zero, List.size_toArray, List.length_cons, List.length_nil, List.length_append, List.take_succ_cons, List.take_zero, List.take_nil, List.drop_succ_cons, List.drop_zero, List.drop_nil, List.cons_append, List.nil_append, List.append_nil, Nat.reduceAdd, Nat.reduceMul, Nat.reduceLeDiff, Nat.reduceEqDiff, and_self, and_true, true_and, if_true, Nat.le_refl, Nat.zero_add, Nat.add_zero, Nat.zero_mul, reduceIte, if_false] <;> rfl))))
    (refine St.r_storeN0 s 0 rfl rfl (by simp) (by simp [one1]) ?_; intro h s; try simp only [List.set_cons_zero, List.set_cons_succ] at s)
    refine St.r_loadN0 s 0 rfl (by simp) ?_
    exact H _ _ s
  | true =>
    refine r_if (fun e => absurd e (by simp)) (fun _ => ?_)
    unfold i_found.j1
    refine St.r_loadN0 s 1 rfl (by simp) ?_
    ((apply r_build; ((simp only [fillV, fill1, Value.cells, zeros_succ, zeros_zero, List.size_toArray, List.length_cons, List.length_nil, List.length_append, List.take_succ_cons, List.take_zero, List.take_nil, List.drop_succ_cons, List.drop_zero, List.drop_nil, List.cons_append, List.nil_append, List.append_nil, Nat.reduceAdd, Nat.reduceMul, Nat.reduceLeDiff, Nat.reduceEqDiff, and_self, and_true, true_and, if_true, Nat.le_refl, Nat.zero_add, Nat.add_zero, Nat.zero_mul, reduceIte, if_false] <;> rfl))))
    (refine St.r_storeN0 s 0 rfl rfl (by simp) (by simp [one1]) ?_; intro h s; try simp only [List.set_cons_zero, List.set_cons_succ] at s)
    refine St.r_loadN0 s 0 rfl (by simp) ?_
    exact H _ _ s
theorem pair_ok {p : It} {b : Bool} (H : ∀ E' h', St h [] E' h' → Q (.agg (foundC (if b then some p else none)).toArray) h') : i_pair.call #[kv p.1, vv p.2, .bool b] h Q := by
  refine i_pair.body _ _ _ _ _ ?_
  unfold i_pair.sh
  have s := St.start h
  refine s.r_alloc fun t6 h s => ?_
  ((apply r_build; ((simp only [fillV, fill1, Value.cells, zeros_succ, zeros_zero, List.size_toArray, List.length_cons, List.length_nil, List.length_append, List.take_succ_cons, List.take_zero, List.take_nil, List.drop_succ_cons, List.drop_zero, List.drop_nil, List.cons_append, List.nil_append, List.append_nil, Nat.reduceAdd, Nat.reduceMul, Nat.reduceLeDiff, Nat.reduceEqDiff, and_self, and_true, true_and, if_true, Nat.le_refl, Nat.zero_add, Nat.add_zero, Nat.zero_mul, reduceIte, if_false] <;> rfl))))
  refine found_ok fun E2 h2 s2 => ?_
  have s := s.join s2
  have s : St _ [] ((t6, 0, [.int .i64 0, .int .i64 0, .bool false]) :: E2) h2 := s.perm (by ((apply perm_rg; intro f; simp only [List.set_cons_zero, List.set_cons_succ, List.eraseIdx_cons_zero, List.eraseIdx_cons_succ, List.cons_append, List.nil_append, List.map_append, List.map_cons, List.map_nil, List.sum_append, List.sum_cons, List.sum_nil, List.map_flatMap, Nat.add_zero, Nat.zero_add]; ac_rfl)))
  refine St.r_storeN0 s 0 rfl (foundC_len _) (by simp) (foundC_one _) ?_; intro h s
  refine St.r_loadN0 s 0 rfl (by simp [foundC_len]) ?_
  have := H _ h s
  generalize (if b = true then some p else none) = o at *
  cases o <;> exact this
end Go.Proofs.Ytkkappjbcgnacaa.Ii
end
