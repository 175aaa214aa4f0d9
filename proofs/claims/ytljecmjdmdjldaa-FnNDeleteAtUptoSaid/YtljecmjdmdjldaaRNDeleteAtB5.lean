/-
  Texts of this claim, laid together: Gr Gs Gt Gu Nb Nc Gv Nd Ne Nf Ng Nj.
  Conditions: as each of them tells.
-/
import Derived.Test.YtljecmjdmdjldaaRNDeleteAtB4
set_option linter.unusedVariables false
set_option linter.unusedSimpArgs false
open List (set_cons_zero set_cons_succ eraseIdx_cons_zero eraseIdx_cons_succ cons_append nil_append map_append map_cons map_flatMap map_nil flatMap_cons flatMap_append flatMap_nil append_nil append_assoc length_cons length_nil length_append take_succ_cons drop_succ_cons take_zero drop_zero take_nil drop_nil size_toArray length_map)
section
namespace Go.Proofs.Ytljecmjdmdjldaa.Gi
open Go.Hp Go.Proofs.Ytljecmjdmdjldaa
set_option maxHeartbeats 4000000
variable {h0 h : Heap} {Z E : List Rg} {Q : Value → Heap → Prop} {lf : Value}
attribute [local irreducible] load1 loadN store1 storeN fld nilck lenV idx arith cmpI notV extr mkSl app cpy slc ifV
theorem rebalance_j {tb m j : Nat} {iso mn : Int} {ctr : Option Addr} (hT0 : (tb, 0, hd0 iso ctr) ∈ Z) (hT4 : (tb, 4, hd4 lf mn m) ∈ Z) (hm3 : 3 ≤ m) (hm1 : m ≤ 1024) (ho : m % 2 = 1) {k : Nat} (t : GT It (k + 1))
    (hlm : t.pt.1.length ≤ m) (hj : j < t.pt.1.length) (hfx : ∀ c ∈ t.pt.2, PT.Fl m (m / 2 - 1) c) (hd : ∀ c c', t.pt.2[j]? = some c → t.pt.2[j + 1]? = some c' → (c.its.length + 1 = m / 2 ∧ PT.Fl m (m / 2) c') ∨ (PT.Fl m (m / 2) c ∧ c'.its.length + 1 = m / 2)) (hfy : ∀ i c, t.pt.2[i]? = some c → i ≠ j → i ≠ j + 1 → PT.Fl m (m / 2) c)
    (hsz : t.pt.items.length ≤ 4611686018427387903) (g : Gd iso t) (s : St h0 Z (t.all enc ++ E) h)
    (H : ∀ (t' : GT It (k + 1)) h', Mended iso m j t t' → St h0 Z (t'.all enc ++ E) h' → Q (.tuple #[]) h') : BTreeG_I_nodeRebalance.j1 (ptr tb 0) (ptr t.id 0) (.int .i64 j) h Q := by
  obtain ⟨d, ts⟩ := t; obtain ⟨own, n, is', cnt, its, iv, ib, io, isp, kb, kv, krb, kro, ksp⟩ := d
  have hj : j < its.length := hj
  have hlm : its.length ≤ m := hlm
  have w : Own 2 iv its.length ib io (its.flatMap enc) isp := g.own
  have wK : Own 1 kv ((ts.map GT.id).map pp).length krb kro (((ts.map GT.id).map pp).flatMap fv) ksp := g.ownK
  have hkl : ts.length = its.length + 1 := g.wf.2.2.1
  have hiso : is' = iso := g.iso
  have hcn : cnt = (PT.items (h := k + 1) (its, ts.map GT.pt)).length := g.cn.1
  subst hiso
  have s : St h0 Z (((n, 0, [.int .u64 is', .int .i64 cnt, iv, ptr kb 0]) :: (ib, io, its.flatMap enc ++ isp) :: (kb, 0, [kv]) :: (krb, kro, ((ts.map GT.id).map pp).flatMap fv ++ ksp) :: ts.flatMap (GT.all enc)) ++ E) h := by
    have e := all_eq (k := k + 1) ((⟨own, n, is', cnt, its, iv, ib, io, isp, kb, kv, krb, kro, ksp⟩ : Nd It), ts)
    rw [e] at s; exact s
  obtain ⟨A, l, r, B, ets, hA⟩ := two_of (ts := ts) (j := j) (by omega); obtain ⟨P, y, S, eits, hP⟩ := one_of (ts := its) (j := j) hj
  have hB : B.length = S.length := by rw [ets, eits] at hkl; simp at hkl; omega
  subst ets; subst eits
  have gl : Gd is' l := g.kid (by simp)
  have gr : Gd is' r := g.kid (by simp)
  have fl0 : l.pt.Fl m (m / 2 - 1) := hfx _ (List.mem_map.2 ⟨l, by simp, rfl⟩)
  have fr0 : r.pt.Fl m (m / 2 - 1) := hfx _ (List.mem_map.2 ⟨r, by simp, rfl⟩)
  have flr : (l.pt.its.length + 1 = m / 2 ∧ r.pt.Fl m (m / 2)) ∨ (l.pt.Fl m (m / 2) ∧ r.pt.its.length + 1 = m / 2) := by
    have h1 : ((A ++ l :: r :: B).map GT.pt)[j]? = some l.pt := by rw [List.map_append, List.map_cons]; exact getAt (by simpa using hA)
    have h2 : ((A ++ l :: r :: B).map GT.pt)[j + 1]? = some r.pt := by
      rw [show A ++ l :: r :: B = (A ++ [l]) ++ r :: B by simp, List.map_append, List.map_cons]; exact getAt (by simp [hA])
    exact hd _ _ h1 h2
  have hab : ∀ c ∈ A ++ B, PT.Fl m (m / 2) c.pt := fun c hc => by
    obtain ⟨i, hi, e⟩ := List.getElem_of_mem hc
    rcases Nat.lt_or_ge i A.length with hl | hl
    · rw [List.getElem_append_left hl] at e
      refine hfy i c.pt ?_ (by omega) (by omega)
      show ((A ++ l :: r :: B).map GT.pt)[i]? = some c.pt
      rw [List.getElem?_map, List.getElem?_append_left hl, List.getElem?_eq_getElem hl, e]; rfl
    · rw [List.getElem_append_right hl] at e
      rw [List.length_append] at hi; refine hfy (i + 2) c.pt ?_ (by omega) (by omega)
      show ((A ++ l :: r :: B).map GT.pt)[i + 2]? = some c.pt
      rw [List.getElem?_map, List.getElem?_append_right (by omega), show i + 2 - A.length = (i - A.length) + 2 by omega, List.getElem?_cons_succ, List.getElem?_cons_succ, List.getElem?_eq_getElem (by omega), e]; rfl
  have ll := fl_its fl0
  have lr := fl_its fr0
  have hlr : (l.nd.its.length + 1 = m / 2 ∧ m / 2 ≤ r.nd.its.length) ∨ (m / 2 ≤ l.nd.its.length ∧ r.nd.its.length + 1 = m / 2) := by
    rw [GT.pt_its, GT.pt_its] at flr; exact flr.imp (fun f => ⟨f.1, (fl_its f.2).1⟩) (fun f => ⟨(fl_its f.1).1, f.2⟩)
  have wl := gl.own
  have wr := gr.own
  have cl0 := gl.cntEq
  have cr0 := gr.cntEq
  have il := gl.iso
  have ir := gr.iso
  rw [ids_pp] at s wK
  have hKl : ((A.map GT.id).map pp ++ pp l.id :: pp r.id :: (B.map GT.id).map pp).length = P.length + S.length + 2 := by simp; omega
  have hil : (P ++ y :: S).length = P.length + S.length + 1 := by simp; omega
  have s : St h0 Z ((l.id, 0, [.int .u64 l.nd.iso, .int .i64 l.nd.cnt, l.nd.iv, GT.kp l]) :: (l.nd.ib, l.nd.io, l.nd.its.flatMap enc ++ l.nd.isp) :: (r.id, 0, [.int .u64 r.nd.iso, .int .i64 r.nd.cnt, r.nd.iv, GT.kp r]) :: (r.nd.ib, r.nd.io, r.nd.its.flatMap enc ++ r.nd.isp) ::
      (n, 0, [.int .u64 is', .int .i64 cnt, iv, ptr kb 0]) :: (ib, io, (P ++ y :: S).flatMap enc ++ isp) :: (kb, 0, [kv]) :: (krb, kro, ((A.map GT.id).map pp ++ pp l.id :: pp r.id :: (B.map GT.id).map pp).flatMap fv ++ ksp) :: (GT.rest l ++ (GT.rest r ++ (A.flatMap (GT.all enc) ++ (B.flatMap (GT.all enc) ++ E))))) h := by
    have e : (A ++ l :: r :: B).flatMap (GT.all enc) = A.flatMap (GT.all enc) ++ (l.all enc ++ (r.all enc ++ B.flatMap (GT.all enc))) := by rw [List.flatMap_append, List.flatMap_cons, List.flatMap_cons]
    refine s.perm ?_; rw [e, all_eq l, all_eq r]
    ((apply perm_rg; intro f; simp only [set_cons_zero, set_cons_succ, eraseIdx_cons_zero, eraseIdx_cons_succ, cons_append, nil_append, map_append, map_cons, map_nil, List.sum_append, List.sum_cons, List.sum_nil, map_flatMap, Nat.add_zero, Nat.zero_add]; ac_rfl))
  rw [il, ir, cl0, cr0] at s
  have hr1 : r.nd.its.length ≤ r.pt.items.length := by have := (PT.its_sub r.pt).length_le; rwa [GT.pt_its] at this
  have hl1 : l.nd.its.length ≤ l.pt.items.length := by have := (PT.its_sub l.pt).length_le; rwa [GT.pt_its] at this
  have hsz2 : (lz P (A.map fun c => c.pt.items)).length + l.pt.items.length + 1 + r.pt.items.length + (rz S (B.map fun c => c.pt.items)).length ≤ 4611686018427387903 := by
    have e := PT.items_two P S y (A.map GT.pt) (B.map GT.pt) l.pt r.pt (by rw [List.length_map]; omega) (by rw [List.length_map]; omega)
    have h2 : (PT.items (h := k + 1) (P ++ y :: S, (A ++ l :: r :: B).map GT.pt)).length ≤ 4611686018427387903 := hsz
    rw [List.map_append, List.map_cons, List.map_cons, e] at h2
    simp only [List.length_append, List.length_cons, List.map_map, Function.comp_def] at h2
    omega
  have gA : ∀ c ∈ A, Gd is' c := fun c hc => g.kid (by simp [hc])
  have gB : ∀ c ∈ B, Gd is' c := fun c hc => g.kid (by simp [hc])
  have hi : ∀ {E h}, St h0 Z E h → cl h tb 0 = some (.int .u64 is') := fun s => by have := s.getZ hT0 (j := 0) (by simp); simpa using this
  have kj : ((A.map GT.id).map pp ++ pp l.id :: pp r.id :: (B.map GT.id).map pp)[j]? = some (ptr l.id 0) := getAt (by simp [hA])
  have kj1 : ((A.map GT.id).map pp ++ pp l.id :: pp r.id :: (B.map GT.id).map pp)[j + 1]? = some (ptr r.id 0) := by
    have : (A.map GT.id).map pp ++ pp l.id :: pp r.id :: (B.map GT.id).map pp = ((A.map GT.id).map pp ++ [pp l.id]) ++ pp r.id :: (B.map GT.id).map pp := by simp
    rw [this]; exact getAt (by simp [hA])
  have pj : (P ++ y :: S)[j]? = some y := getAt hP
  show BTreeG_I_nodeRebalance.j1 (ptr tb 0) (ptr n 0) (.int .i64 j) h Q
  unfold BTreeG_I_nodeRebalance.j1; refine r_nil ?_; refine r_fld ?_; refine St.r_load0 s 4 rfl rfl ?_; refine r_nil ?_; refine St.r_load0 s 6 rfl rfl ?_
  (refine Own.idx (by assumption) rfl (by first | omega | (simp; done) | (simp; omega)) ?_)
  refine isoLoad_ok (hi s) (s.clV 7 rfl kj) (fun _ => s.cl0 0 rfl rfl) ?_; refine r_nil ?_; refine r_fld ?_; refine St.r_load0 s 4 rfl rfl ?_; refine r_nil ?_; refine St.r_load0 s 6 rfl rfl ?_; refine r_add1 (by omega) ?_
  (refine Own.idx (by assumption) rfl (by first | omega | (simp; done) | (simp; omega)) ?_)
  refine isoLoad_ok (hi s) (s.clV 7 rfl kj1) (fun _ => s.cl0 2 rfl rfl) ?_; refine r_nil ?_; refine r_fld ?_; refine St.r_load0 s 0 rfl rfl ?_; refine Own.lenV (by assumption) ?_; refine r_nil ?_; refine r_fld ?_; refine St.r_load0 s 2 rfl rfl ?_; refine Own.lenV (by assumption) ?_; refine r_addN (by omega) ?_; refine r_nil ?_; refine r_fld ?_; refine s.r_lz hT4 5 rfl rfl ?_; refine r_cmpI ?_; refine r_if (fun hlt => ?_) (fun hge => ?_)
  · have hlt : l.nd.its.length + r.nd.its.length < m := by have := of_decide_eq_true hlt; omega
    refine r_nil ?_; refine r_fld ?_; refine St.r_load0 s 0 rfl rfl ?_; refine r_nil ?_; refine r_fld ?_; refine St.r_load0 s 4 rfl rfl ?_
    (refine Own.idx (by assumption) rfl (by first | omega | (simp; done) | (simp; omega)) ?_)
    refine s.r_loadF encl 5 rfl (by assumption) ?_; refine St.r_mkSl (sz := 2) (cs := enc y) s (by ((simp only [fillV, fill1, Value.cells, zeros_succ, zeros_zero, size_toArray, length_cons, length_nil, length_append, take_succ_cons, take_zero, take_nil, drop_succ_cons, drop_zero, drop_nil, cons_append, nil_append, append_nil, Nat.reduceAdd, Nat.reduceMul, Nat.reduceLeDiff, Nat.reduceEqDiff, and_self, and_true, true_and, if_true, Nat.le_refl, Nat.zero_add, Nat.add_zero, Nat.zero_mul, reduceIte, if_false] <;> rfl))) rfl fun q h s w1 => ?_; refine And.intro (by exact St.r_still0 s 1 rfl rfl) ?_; refine s.r_appL (M := [y]) 2 rfl wl rfl (by have := w1.rdl s 0 rfl; simpa using this) (fun _ _ => enc1 _) (by simp; omega) (by simp; omega) fun liv1 lib1 lio1 lisp1 h s wl1 => ?_
    have s := s.tail rfl
    refine r_nil ?_; refine r_fld ?_
    (refine St.r_store0 s 0 rfl (by simp) (Own.one (by assumption)) ?_; intro h s; try simp only [List.set_cons_zero, List.set_cons_succ] at s)
    refine r_nil ?_; refine r_fld ?_; refine St.r_load0 s 0 rfl rfl ?_; refine r_nil ?_; refine r_fld ?_; refine St.r_load0 s 2 rfl rfl ?_; refine s.r_appL (M := r.nd.its) 1 rfl wl1 rfl (wr.rdl s 3 rfl) (fun _ _ => enc1 _) (by simp; omega) (by simp; omega) fun liv2 lib2 lio2 lisp2 h s wl2 => ?_; refine r_nil ?_; refine r_fld ?_
    (refine St.r_store0 s 0 rfl (by simp) (Own.one (by assumption)) ?_; intro h s; try simp only [List.set_cons_zero, List.set_cons_succ] at s)
    -- the node itself
    have tail : ∀ {X : List Rg} {kp : Value} {h : Heap}, St h0 Z ((l.id, 0, [.int .u64 is', .int .i64 l.pt.items.length, liv2, kp]) :: (lib2, lio2, (l.nd.its ++ [y] ++ r.nd.its).flatMap enc ++ lisp2) :: (r.id, 0, [.int .u64 is', .int .i64 r.pt.items.length, r.nd.iv, GT.kp r]) :: (r.nd.ib, r.nd.io, r.nd.its.flatMap enc ++ r.nd.isp) ::
        (n, 0, [.int .u64 is', .int .i64 cnt, iv, ptr kb 0]) :: (ib, io, (P ++ y :: S).flatMap enc ++ isp) :: (kb, 0, [kv]) :: (krb, kro, ((A.map GT.id).map pp ++ pp l.id :: pp r.id :: (B.map GT.id).map pp).flatMap fv ++ ksp) :: X) h →
        (∀ iv2 isp2 kv2 ksp2 h, Own 2 iv2 (P ++ S).length ib io ((P ++ S).flatMap enc) isp2 → Own 1 kv2 ((A.map GT.id).map pp ++ pp l.id :: (B.map GT.id).map pp).length krb kro (((A.map GT.id).map pp ++ pp l.id :: (B.map GT.id).map pp).flatMap fv) ksp2 →
          St h0 Z ((l.id, 0, [.int .u64 is', .int .i64 ((l.pt.items.length + (r.pt.items.length + 1) : Nat) : Int), liv2, kp]) :: (lib2, lio2, (l.nd.its ++ [y] ++ r.nd.its).flatMap enc ++ lisp2) :: (r.id, 0, [.int .u64 is', .int .i64 r.pt.items.length, r.nd.iv, GT.kp r]) :: (r.nd.ib, r.nd.io, r.nd.its.flatMap enc ++ r.nd.isp) ::
            (n, 0, [.int .u64 is', .int .i64 cnt, iv2, ptr kb 0]) :: (ib, io, (P ++ S).flatMap enc ++ isp2) :: (kb, 0, [kv2]) :: (krb, kro, ((A.map GT.id).map pp ++ pp l.id :: (B.map GT.id).map pp).flatMap fv ++ ksp2) :: X) h → Q (.tuple #[]) h) →
        BTreeG_I_nodeRebalance.j2 (ptr tb 0) (ptr n 0) (.int .i64 j) (ptr l.id 0) (ptr r.id 0) h Q := by
      intro X kp h s K; unfold BTreeG_I_nodeRebalance.j2; refine r_nil ?_; refine r_fld ?_; refine St.r_load0 s 0 rfl rfl ?_; refine r_nil ?_; refine r_fld ?_; refine St.r_load0 s 2 rfl rfl ?_; refine r_add1 (by omega) ?_; refine r_addN (by omega) ?_; refine r_nil ?_; refine r_fld ?_
      (refine St.r_store0 s 0 rfl (by simp) rfl ?_; intro h s; try simp only [List.set_cons_zero, List.set_cons_succ] at s)
      refine r_nil ?_; refine r_fld ?_; refine St.r_load0 s 4 rfl rfl ?_; refine w.slcLo encl (i := j) rfl (by omega) fun dd wd => ?_; refine r_nil ?_; refine r_fld ?_; refine St.r_load0 s 4 rfl rfl ?_; refine r_add1 (by omega) ?_; refine (w.rdl s 5 rfl).slcLo encl (i := j + 1) rfl (by omega) fun src rs => ?_; refine s.r_cpyF encl 5 (L := P ++ y :: S) (M := (P ++ y :: S).drop (j + 1)) rfl wd (by simp; omega) rs rfl (fun y _ => enc1 y) fun h s => ?_; refine r_nil ?_; refine r_fld ?_; refine St.r_load0 s 4 rfl rfl ?_; refine r_nil ?_; refine r_fld ?_; refine St.r_load0 s 4 rfl rfl ?_; refine Own.lenV (by assumption) ?_; refine r_sub1 (by omega) (by omega) ?_; refine r_nil ?_; refine r_fld ?_; refine s.r_lzE hT4 3 (enc emp) rfl (by simp) rfl ?_
      (refine Own.idx (by assumption) rfl (by first | omega | (simp; done) | (simp; omega)) ?_)
      (refine s.r_storeF encl 5 rfl (by first | omega | (simp; done) | (simp; omega)) (enc1 _) ?_; intro h s; try simp only [List.set_cons_zero, List.set_cons_succ] at s)
      refine r_nil ?_; refine r_fld ?_; refine St.r_load0 s 4 rfl rfl ?_; refine r_nil ?_; refine r_fld ?_; refine St.r_load0 s 4 rfl rfl ?_; refine Own.lenV (by assumption) ?_; refine r_sub1 (by omega) (by omega) ?_
      have hj2 : j < (P ++ y :: S).length := by omega
      have hpe : (P ++ y :: S).eraseIdx j = P ++ S := eraseIdx_at hP
      refine (w.list encl (del_len (P ++ y :: S) emp hj2)).slcHi encl rfl (by rw [del_len _ _ hj2]; omega) fun iv2 w2 => ?_
      have s := s.del (f := enc) 5 rfl _ (del_erase (P ++ y :: S) emp hj2)
      rw [del_erase (P ++ y :: S) emp hj2, hpe] at w2; rw [hpe] at s; refine r_nil ?_; refine r_fld ?_
      (refine St.r_store0 s 4 rfl (by simp) (Own.one (by assumption)) ?_; intro h s; try simp only [List.set_cons_zero, List.set_cons_succ] at s)
      refine r_nil ?_; refine r_fld ?_; refine St.r_load0 s 4 rfl rfl ?_; refine r_nil ?_; refine St.r_load0 s 6 rfl rfl ?_; refine r_add1 (by omega) ?_
      generalize hKK : (A.map GT.id).map pp ++ pp l.id :: pp r.id :: (B.map GT.id).map pp = KK at *
      have hK1 : KK.eraseIdx (j + 1) = (A.map GT.id).map pp ++ pp l.id :: (B.map GT.id).map pp := by
        rw [← hKK, show (A.map GT.id).map pp ++ pp l.id :: pp r.id :: (B.map GT.id).map pp = ((A.map GT.id).map pp ++ [pp l.id]) ++ pp r.id :: (B.map GT.id).map pp by simp, eraseIdx_at (by simp [hA])]
        simp
      have hKo : ∀ x ∈ KK, one1 x = true := fun x hx => by
        rw [← hKK] at hx
        rcases List.mem_append.1 hx with h | h
        · obtain ⟨a, _, rfl⟩ := List.mem_map.1 h; rfl
        · rcases List.mem_cons.1 h with h | h
          · rw [h]; rfl
          · rcases List.mem_cons.1 h with h | h
            · rw [h]; rfl
            · obtain ⟨a, _, rfl⟩ := List.mem_map.1 h; rfl
      refine wK.slcLo fvl (i := j + 1) rfl (by omega) fun dk wdk => ?_; refine r_nil ?_; refine r_fld ?_; refine St.r_load0 s 4 rfl rfl ?_; refine r_nil ?_; refine St.r_load0 s 6 rfl rfl ?_; refine r_add2 (by omega) ?_; refine (wK.rdl s 7 rfl).slcLo fvl (i := j + 1 + 1) rfl (by omega) fun sk rsk => ?_; refine s.r_cpyF fvl 7 (L := KK) (M := KK.drop (j + 1 + 1)) rfl wdk (by simp; omega) rsk rfl (fun x hx => by intro c hc; rw [List.mem_singleton.1 hc]; exact hKo x (List.mem_of_mem_drop hx)) fun h s => ?_; refine r_nil ?_; refine r_fld ?_; refine St.r_load0 s 4 rfl rfl ?_; refine r_nil ?_; refine St.r_load0 s 6 rfl rfl ?_; refine r_nil ?_; refine r_fld ?_; refine St.r_load0 s 4 rfl rfl ?_; refine r_nil ?_; refine St.r_load0 s 6 rfl rfl ?_; refine Own.lenV (by assumption) ?_; refine r_sub1 (by omega) (by omega) ?_
      (refine Own.idx (by assumption) rfl (by first | omega | (simp; done) | (simp; omega)) ?_)
      (refine s.r_storeV 7 rfl (by first | omega | (simp; done) | (simp; omega)) rfl ?_; intro h s; try simp only [List.set_cons_zero, List.set_cons_succ] at s)
      refine r_nil ?_; refine r_fld ?_; refine St.r_load0 s 4 rfl rfl ?_; refine r_nil ?_; refine r_fld ?_; refine St.r_load0 s 4 rfl rfl ?_; refine r_nil ?_; refine St.r_load0 s 6 rfl rfl ?_; refine r_nil ?_; refine r_fld ?_; refine St.r_load0 s 4 rfl rfl ?_; refine r_nil ?_; refine St.r_load0 s 6 rfl rfl ?_; refine Own.lenV (by assumption) ?_; refine r_sub1 (by omega) (by omega) ?_
      have hj3 : j + 1 < KK.length := by omega
      refine (wK.list fvl (del_len KK (.pointer none) hj3)).slcHi fvl rfl (by rw [del_len _ _ hj3]; omega) fun kv2 wk2 => ?_
      have s := s.del (f := fv) 7 rfl _ (del_erase KK (.pointer none) hj3)
      rw [del_erase KK (.pointer none) hj3, hK1] at wk2; rw [hK1] at s; refine r_nil ?_
      (refine St.r_store0 s 6 rfl (by simp) (Own.one (by assumption)) ?_; intro h s; try simp only [List.set_cons_zero, List.set_cons_succ] at s)
      exact K _ _ _ _ _ w2 wk2 s
    cases k with
    | zero =>
      refine node_leaf_ok (a := none) (s.cl0 0 rfl rfl) ?_; refine r_not ?_; refine r_if (fun e => absurd e (by simp)) (fun _ => ?_)
      have s := St.kids0 s
      refine tail s fun iv2 isp2 kv2 ksp2 h w2 wk2 s => ?_; obtain ⟨l', hl1', gl', hl2', hl3', hl4'⟩ := mk_leaf (iso := is') (n := l.id) wl2
      have wK2 : Own 1 kv2 (((A ++ l' :: B).map GT.id).map pp).length krb kro ((((A ++ l' :: B).map GT.id).map pp).flatMap fv) ksp2 := by rw [ids_one, hl1']; exact wk2
      obtain ⟨t', ht1, gt, ht2, ht3, ht4⟩ := mk_inner (n := n) (kb := kb) (iso := is') w2 wK2 (by simp; omega) (fun c hc => by
        rcases List.mem_append.1 hc with h | h
        · exact gA c h
        · rcases List.mem_cons.1 h with h | h
          · subst h; exact gl'
          · exact gB c h)
      have hfl' : l'.pt.Fl m (m / 2) := by rw [hl2']; exact fl_leaf (by simp; omega) (by simp; omega)
      refine (fun M => H t' h M ((s.perm (E' := (r.id, 0, [.int .u64 is', .int .i64 r.pt.items.length, r.nd.iv, GT.kp r]) :: (r.nd.ib, r.nd.io, r.nd.its.flatMap enc ++ r.nd.isp) :: (t'.all enc ++ E)) ?_).drop 2)) ?_
      rotate_left
      · refine mended_one rfl ht2 (by omega) (by omega) ht1 gt hab hlm hfl' ?_ hP ⟨hlt, ?_⟩
        · rw [hl2']
          show l.nd.its ++ y :: r.nd.its = l.nd.its ++ [y] ++ r.nd.its
          simp
        · rw [hl2']
          show l.nd.its ++ y :: r.nd.its = l.nd.its ++ [y] ++ r.nd.its
          simp
      have e1 := M.2.1
      rw [ht2] at e1
      have e1 : ((PT.items (h := 1) (P ++ S, (A ++ l' :: B).map GT.pt)).length : Int) = cnt := by rw [hcn, e1]; rfl
      have e2 : (A ++ l' :: B).flatMap (GT.all enc) = A.flatMap (GT.all enc) ++ (l'.all enc ++ B.flatMap (GT.all enc)) := by rw [List.flatMap_append, List.flatMap_cons]
      have e3 : l.pt.items.length + (r.pt.items.length + 1) = (l.nd.its ++ [y] ++ r.nd.its).length := by
        show l.nd.its.length + (r.nd.its.length + 1) = _
        simp <;> omega
      rw [ht4, e1, e2, hl4', ids_one, hl1', e3]
      ((apply perm_rg; intro f; simp only [set_cons_zero, set_cons_succ, eraseIdx_cons_zero, eraseIdx_cons_succ, cons_append, nil_append, map_append, map_cons, map_nil, List.sum_append, List.sum_cons, List.sum_nil, map_flatMap, Nat.add_zero, Nat.zero_add]; ac_rfl))
    | succ k =>
      obtain ⟨dl, lk⟩ := l; obtain ⟨dr, rk⟩ := r; refine node_leaf_ok (a := some ⟨dl.kb, 0, none⟩) (s.cl0 0 rfl rfl) ?_; refine r_not ?_; refine r_if (fun _ => ?_) (fun e => absurd e (by simp))
      have s := St.kids8 s
      have s : St h0 Z ((dl.n, 0, [_, _, _, ptr dl.kb 0]) :: _ :: (dr.n, 0, [_, _, _, ptr dr.kb 0]) :: _ :: _ :: _ :: _ :: _ :: (dl.kb, 0, [dl.kv]) :: (dl.krb, dl.kro, ((lk.map GT.id).map pp).flatMap fv ++ dl.ksp) :: (dr.kb, 0, [dr.kv]) :: (dr.krb, dr.kro, ((rk.map GT.id).map pp).flatMap fv ++ dr.ksp) ::
        (lk.flatMap (GT.all enc) ++ (rk.flatMap (GT.all enc) ++ (A.flatMap (GT.all enc) ++ (B.flatMap (GT.all enc) ++ E))))) h := s
      have wLK : Own 1 dl.kv ((lk.map GT.id).map pp).length dl.krb dl.kro (((lk.map GT.id).map pp).flatMap fv) dl.ksp := gl.ownK
      have wRK : Own 1 dr.kv ((rk.map GT.id).map pp).length dr.krb dr.kro (((rk.map GT.id).map pp).flatMap fv) dr.ksp := gr.ownK
      have hlk : lk.length = dl.its.length + 1 := gl.wf.2.2.1
      have hrk : rk.length = dr.its.length + 1 := gr.wf.2.2.1
      have hdl : dl.its.length ≤ m := ll.2
      have hdr : dr.its.length ≤ m := lr.2
      have hrkL : ((rk.map GT.id).map pp).length = dr.its.length + 1 := by rw [List.length_map, List.length_map]; exact hrk
      have hlkL : ((lk.map GT.id).map pp).length = dl.its.length + 1 := by rw [List.length_map, List.length_map]; exact hlk
      refine r_nil ?_; refine r_fld ?_; refine St.r_load0 s 0 rfl rfl ?_; refine r_nil ?_; refine r_fld ?_; refine St.r_load0 s 0 rfl rfl ?_; refine r_nil ?_; refine St.r_load0 s 8 rfl rfl ?_; refine r_nil ?_; refine r_fld ?_; refine St.r_load0 s 2 rfl rfl ?_; refine r_nil ?_; refine St.r_load0 s 10 rfl rfl ?_; refine s.r_appL (f := fv) (L := (lk.map GT.id).map pp) (M := (rk.map GT.id).map pp) 9 rfl wLK rfl (wRK.rdl s 11 rfl) (fun x hx => by obtain ⟨a, _, rfl⟩ := List.mem_map.1 hx; simp [one1]) (by omega) (by omega) fun lkv1 lkb1 lko1 lks1 h s wLK1 => ?_; refine And.intro (by exact St.r_still0 s 0 rfl rfl) ?_; refine r_nil ?_
      (refine St.r_store0 s 8 rfl (by simp) (Own.one (by assumption)) ?_; intro h s; try simp only [List.set_cons_zero, List.set_cons_succ] at s)
      refine tail s fun iv2 isp2 kv2 ksp2 h w2 wk2 s => ?_
      have eL : ((lk ++ rk).map GT.id).map pp = (lk.map GT.id).map pp ++ (rk.map GT.id).map pp := by simp
      rw [← eL] at s wLK1
      obtain ⟨l', hl1', gl', hl2', hl3', hl4'⟩ := mk_inner (iso := is') (n := dl.n) (kb := dl.kb) (ts := lk ++ rk) wl2 wLK1 (by show _ = (dl.its ++ [y] ++ dr.its).length + 1; simp; omega) (fun q hq => by
        rcases List.mem_append.1 hq with h | h
        · exact gl.kid h
        · exact gr.kid h)
      have wK2 : Own 1 kv2 (((A ++ l' :: B).map GT.id).map pp).length krb kro ((((A ++ l' :: B).map GT.id).map pp).flatMap fv) ksp2 := by rw [ids_one, hl1']; exact wk2
      obtain ⟨t', ht1, gt, ht2, ht3, ht4⟩ := mk_inner (n := n) (kb := kb) (iso := is') w2 wK2 (by simp; omega) (fun c hc => by
        rcases List.mem_append.1 hc with h | h
        · exact gA c h
        · rcases List.mem_cons.1 h with h | h
          · subst h; exact gl'
          · exact gB c h)
      have fkl : ∀ q ∈ lk, PT.Fl m (m / 2) q.pt := fun q hq => fl0.2.2.2 _ (List.mem_map.2 ⟨q, hq, rfl⟩)
      have fkr : ∀ q ∈ rk, PT.Fl m (m / 2) q.pt := fun q hq => fr0.2.2.2 _ (List.mem_map.2 ⟨q, hq, rfl⟩)
      have hlt2 : dl.its.length + dr.its.length < m := hlt
      have hlr2 : (dl.its.length + 1 = m / 2 ∧ m / 2 ≤ dr.its.length) ∨ (m / 2 ≤ dl.its.length ∧ dr.its.length + 1 = m / 2) := hlr
      have hfl' : l'.pt.Fl m (m / 2) := by
        rw [hl2']; refine fl_inner (by show m / 2 ≤ (dl.its ++ [y] ++ dr.its).length; simp; omega) (by show (dl.its ++ [y] ++ dr.its).length ≤ m; simp; omega) (by show _ = (dl.its ++ [y] ++ dr.its).length + 1; simp; omega) fun q hq => ?_; obtain ⟨x, hx, rfl⟩ := List.mem_map.1 hq
        rcases List.mem_append.1 hx with h | h
        · exact fkl x h
        · exact fkr x h
      have hlI : l'.pt.items = (GT.pt (h := k + 1) (dl, lk)).items ++ y :: (GT.pt (h := k + 1) (dr, rk)).items := by
        rw [hl2']
        show inter (dl.its ++ [y] ++ dr.its) (((lk ++ rk).map GT.pt).map PT.items) = inter dl.its ((lk.map GT.pt).map PT.items) ++ y :: inter dr.its ((rk.map GT.pt).map PT.items)
        rw [List.map_append, List.map_append, List.append_assoc]; exact inter_join _ _ _ _ _ (by simp; omega)
      refine (fun M => H t' h M ((s.perm (E' := (dr.n, 0, [.int .u64 is', .int .i64 (GT.pt (h := k + 1) (dr, rk)).items.length, dr.iv, ptr dr.kb 0]) :: (dr.ib, dr.io, dr.its.flatMap enc ++ dr.isp) :: (dr.kb, 0, [dr.kv]) :: (dr.krb, dr.kro, ((rk.map GT.id).map pp).flatMap fv ++ dr.ksp) :: (t'.all enc ++ E)) ?_).drop 4)) ?_
      rotate_left
      · refine mended_one rfl ht2 (by omega) (by omega) ht1 gt hab hlm hfl' (by rw [hlI]) hP ⟨hlt, ?_⟩
        rw [hl2']
        show (dl.its ++ y :: dr.its, lk.map GT.pt ++ rk.map GT.pt) = (dl.its ++ [y] ++ dr.its, (lk ++ rk).map GT.pt)
        rw [List.map_append]; simp
      have e1 := M.2.1
      rw [ht2] at e1
      have e1 : ((PT.items (h := k + 2) (P ++ S, (A ++ l' :: B).map GT.pt)).length : Int) = cnt := by rw [hcn, e1]; rfl
      have e2 : (A ++ l' :: B).flatMap (GT.all enc) = A.flatMap (GT.all enc) ++ (l'.all enc ++ B.flatMap (GT.all enc)) := by rw [List.flatMap_append, List.flatMap_cons]
      have e3 : (PT.items (h := k + 1) ((GT.nd (h := k + 1) (dl, lk)).its ++ [y] ++ (GT.nd (h := k + 1) (dr, rk)).its, (lk ++ rk).map GT.pt)).length = (GT.pt (h := k + 1) (dl, lk)).items.length + ((GT.pt (h := k + 1) (dr, rk)).items.length + 1) := by
        have := congrArg List.length hlI
        rw [hl2', List.length_append, List.length_cons] at this; exact this
      have e5 : (lk ++ rk).flatMap (GT.all enc) = lk.flatMap (GT.all enc) ++ rk.flatMap (GT.all enc) := List.flatMap_append
      rw [ht4, e1, e2, hl4', ids_one, hl1', e3, e5]
      ((apply perm_rg; intro f; simp only [set_cons_zero, set_cons_succ, eraseIdx_cons_zero, eraseIdx_cons_succ, cons_append, nil_append, map_append, map_cons, map_nil, List.sum_append, List.sum_cons, List.sum_nil, map_flatMap, Nat.add_zero, Nat.zero_add]; ac_rfl))
  · have hge : m ≤ l.nd.its.length + r.nd.its.length := by have := of_decide_eq_false hge; omega
    refine r_nil ?_; refine r_fld ?_; refine St.r_load0 s 0 rfl rfl ?_; refine Own.lenV (by assumption) ?_; refine r_nil ?_; refine r_fld ?_; refine St.r_load0 s 2 rfl rfl ?_; refine Own.lenV (by assumption) ?_; refine r_cmpI ?_; refine r_if (fun hgt => ?_) (fun hle => ?_)
    · have hgt : r.nd.its.length < l.nd.its.length := by have := of_decide_eq_true hgt; omega
      refine r_nil ?_; refine r_fld ?_; refine St.r_load0 s 2 rfl rfl ?_; refine r_nil ?_; refine r_fld ?_; refine s.r_lzE hT4 3 (enc emp) rfl (by simp) rfl ?_; refine St.r_mkSl (sz := 2) (cs := enc emp) s (by ((simp only [fillV, fill1, Value.cells, zeros_succ, zeros_zero, size_toArray, length_cons, length_nil, length_append, take_succ_cons, take_zero, take_nil, drop_succ_cons, drop_zero, drop_nil, cons_append, nil_append, append_nil, Nat.reduceAdd, Nat.reduceMul, Nat.reduceLeDiff, Nat.reduceEqDiff, and_self, and_true, true_and, if_true, Nat.le_refl, Nat.zero_add, Nat.add_zero, Nat.zero_mul, reduceIte, if_false] <;> rfl))) rfl fun q h s w1 => ?_; refine And.intro (by exact St.r_still0 s 3 rfl rfl) ?_; refine s.r_appL (M := [emp]) 4 rfl wr rfl (by have := w1.rdl s 0 rfl; simpa using this) (fun _ _ => enc1 _) (by simp; omega) (by simp; omega) fun riv1 rib1 rio1 risp1 h s wr1 => ?_
      have s := s.tail rfl
      refine r_nil ?_; refine r_fld ?_
      (refine St.r_store0 s 2 rfl (by simp) (Own.one (by assumption)) ?_; intro h s; try simp only [List.set_cons_zero, List.set_cons_succ] at s)
      refine r_nil ?_; refine r_fld ?_; refine St.r_load0 s 2 rfl rfl ?_; refine wr1.slcLo encl (i := 1) rfl (by simp) fun dd wd => ?_; refine r_nil ?_; refine r_fld ?_; refine St.r_load0 s 2 rfl rfl ?_; refine s.r_cpyF encl 3 (L := r.nd.its ++ [emp]) (M := (r.nd.its ++ [emp]).drop 0) rfl wd (by simp; omega) (wr1.rdl s 3 rfl).z0 rfl (fun y _ => enc1 y) fun h s => ?_
      have hl0 : 1 ≤ l.nd.its.length := by omega
      obtain ⟨L, z, hL⟩ := last_of hl0
      have hzl : l.nd.its[l.nd.its.length - 1]? = some z := by rw [hL]; simp
      have hLl : l.nd.its.length = L.length + 1 := by rw [hL]; simp
      refine r_nil ?_; refine r_fld ?_; refine St.r_load0 s 2 rfl rfl ?_; refine r_nil ?_; refine r_fld ?_; refine St.r_load0 s 4 rfl rfl ?_
      (refine Own.idx (by assumption) rfl (by first | omega | (simp; done) | (simp; omega)) ?_)
      refine s.r_loadF encl 5 rfl (by assumption) ?_
      (refine Own.idx (by assumption) rfl (by first | omega | (simp; done) | (simp; omega)) ?_)
      (refine s.r_storeF encl 3 rfl (by first | omega | (simp; done) | (simp; omega)) (enc1 _) ?_; intro h s; try simp only [List.set_cons_zero, List.set_cons_succ] at s)
      refine r_nil ?_; refine r_fld ?_; refine St.r_load0 s 2 rfl rfl ?_; refine r_add1 (by omega) ?_; refine r_nil ?_; refine r_fld ?_
      (refine St.r_store0 s 2 rfl (by simp) rfl ?_; intro h s; try simp only [List.set_cons_zero, List.set_cons_succ] at s)
      refine r_nil ?_; refine r_fld ?_; refine St.r_load0 s 4 rfl rfl ?_; refine r_nil ?_; refine r_fld ?_; refine St.r_load0 s 0 rfl rfl ?_; refine r_nil ?_; refine r_fld ?_; refine St.r_load0 s 0 rfl rfl ?_; refine Own.lenV (by assumption) ?_; refine r_sub1 (by omega) (by omega) ?_
      (refine Own.idx (by assumption) rfl (by first | omega | (simp; done) | (simp; omega)) ?_)
      refine s.r_loadF encl 1 rfl (by assumption) ?_
      (refine Own.idx (by assumption) rfl (by first | omega | (simp; done) | (simp; omega)) ?_)
      (refine s.r_storeF encl 5 rfl (by first | omega | (simp; done) | (simp; omega)) (enc1 _) ?_; intro h s; try simp only [List.set_cons_zero, List.set_cons_succ] at s)
      refine r_nil ?_; refine r_fld ?_; refine St.r_load0 s 0 rfl rfl ?_; refine r_nil ?_; refine r_fld ?_; refine St.r_load0 s 0 rfl rfl ?_; refine Own.lenV (by assumption) ?_; refine r_sub1 (by omega) (by omega) ?_; refine r_nil ?_; refine r_fld ?_; refine s.r_lzE hT4 3 (enc emp) rfl (by simp) rfl ?_
      (refine Own.idx (by assumption) rfl (by first | omega | (simp; done) | (simp; omega)) ?_)
      (refine s.r_storeF encl 1 rfl (by first | omega | (simp; done) | (simp; omega)) (enc1 _) ?_; intro h s; try simp only [List.set_cons_zero, List.set_cons_succ] at s)
      refine r_nil ?_; refine r_fld ?_; refine St.r_load0 s 0 rfl rfl ?_; refine r_nil ?_; refine r_fld ?_; refine St.r_load0 s 0 rfl rfl ?_; refine Own.lenV (by assumption) ?_; refine r_sub1 (by omega) (by omega) ?_; rw [ins_steps r.nd.its emp y (Nat.zero_le _), ins0] at s
      have wr2 : Own 2 riv1 (y :: r.nd.its).length rib1 rio1 ((y :: r.nd.its).flatMap enc) risp1 := wr1.list encl (by simp)
      rw [setAt hP] at s; refine (wl.list encl (pop_len (e := emp))).slcHi encl rfl (by rw [pop_len]; omega) fun liv2 wl2 => ?_
      have s := s.del (f := enc) 1 rfl _ (pop_steps (e := emp) hL)
      rw [pop_steps (e := emp) hL] at wl2; refine r_nil ?_; refine r_fld ?_
      (refine St.r_store0 s 0 rfl (by simp) (Own.one (by assumption)) ?_; intro h s; try simp only [List.set_cons_zero, List.set_cons_succ] at s)
      refine r_nil ?_; refine r_fld ?_; refine St.r_load0 s 0 rfl rfl ?_; refine r_sub1 (by omega) (by omega) ?_; refine r_nil ?_; refine r_fld ?_
      (refine St.r_store0 s 0 rfl (by simp) rfl ?_; intro h s; try simp only [List.set_cons_zero, List.set_cons_succ] at s)
      have w2 : Own 2 iv (P ++ z :: S).length ib io ((P ++ z :: S).flatMap enc) isp := w.list encl (by simp)
      cases k with
      | zero =>
        refine node_leaf_ok (a := none) (s.cl0 0 rfl rfl) ?_; refine r_not ?_; refine r_if (fun e => absurd e (by simp)) (fun _ => ?_)
        have s := St.kids0 s
        obtain ⟨l', hl1', gl', hl2', hl3', hl4'⟩ := mk_leaf (iso := is') (n := l.id) wl2; obtain ⟨r', hr1', gr', hr2', hr3', hr4'⟩ := mk_leaf (iso := is') (n := r.id) wr2
        have wK2 : Own 1 kv (((A ++ l' :: r' :: B).map GT.id).map pp).length krb kro ((((A ++ l' :: r' :: B).map GT.id).map pp).flatMap fv) ksp := by rw [ids_pp, hl1', hr1']; exact wK
        obtain ⟨t', ht1, gt, ht2, ht3, ht4⟩ := mk_inner (n := n) (kb := kb) (iso := is') w2 wK2 (by simp; omega) (fun c hc => by
          rcases List.mem_append.1 hc with h | h
          · exact gA c h
          · rcases List.mem_cons.1 h with h | h
            · subst h; exact gl'
            · rcases List.mem_cons.1 h with h | h
              · subst h; exact gr'
              · exact gB c h)
        have hfl' : l'.pt.Fl m (m / 2) := by rw [hl2']; exact fl_leaf (by omega) (by omega)
        have hfr' : r'.pt.Fl m (m / 2) := by rw [hr2']; exact fl_leaf (by simp; omega) (by simp; omega)
        refine (fun M => H t' h M (s.perm ?_)) ?_
        rotate_left
        · refine mended_two rfl ht2 (by omega) (by omega) ht1 gt hab hlm hfl' hfr' ?_ hP ⟨by omega, .inl ⟨hgt, ?_⟩⟩
          · rw [hl2', hr2']
            show l.nd.its ++ y :: r.nd.its = L ++ z :: (y :: r.nd.its)
            rw [hL]; simp
          · rw [hl2', hr2']
            show (l.nd.its.dropLast, l.nd.its.getLast?.getD y, y :: r.nd.its) = (L, z, y :: r.nd.its)
            rw [hL]; simp
        have e1 := M.2.1
        rw [ht2] at e1
        have e1 : ((PT.items (h := 1) (P ++ z :: S, (A ++ l' :: r' :: B).map GT.pt)).length : Int) = cnt := by rw [hcn, e1]; rfl
        have e2 : (A ++ l' :: r' :: B).flatMap (GT.all enc) = A.flatMap (GT.all enc) ++ (l'.all enc ++ (r'.all enc ++ B.flatMap (GT.all enc))) := by rw [List.flatMap_append, List.flatMap_cons, List.flatMap_cons]
        have e3 : l.pt.items.length = l.nd.its.length := rfl
        have e4 : r.pt.items.length = r.nd.its.length := rfl
        rw [ht4, e1, e2, hl4', hr4', ids_pp, hl1', hr1', e3, e4, hLl, List.length_cons, Nat.add_sub_cancel]
        ((apply perm_rg; intro f; simp only [set_cons_zero, set_cons_succ, eraseIdx_cons_zero, eraseIdx_cons_succ, cons_append, nil_append, map_append, map_cons, map_nil, List.sum_append, List.sum_cons, List.sum_nil, map_flatMap, Nat.add_zero, Nat.zero_add]; ac_rfl))
      | succ k =>
        obtain ⟨dl, lk⟩ := l; obtain ⟨dr, rk⟩ := r; refine node_leaf_ok (a := some ⟨dl.kb, 0, none⟩) (s.cl0 0 rfl rfl) ?_; refine r_not ?_; refine r_if (fun _ => ?_) (fun e => absurd e (by simp))
        have s := St.kids8 s
        have s : St h0 Z ((dl.n, 0, [_, _, _, ptr dl.kb 0]) :: _ :: (dr.n, 0, [_, _, _, ptr dr.kb 0]) :: _ :: _ :: _ :: _ :: _ :: (dl.kb, 0, [dl.kv]) :: (dl.krb, dl.kro, ((lk.map GT.id).map pp).flatMap fv ++ dl.ksp) :: (dr.kb, 0, [dr.kv]) :: (dr.krb, dr.kro, ((rk.map GT.id).map pp).flatMap fv ++ dr.ksp) ::
          (lk.flatMap (GT.all enc) ++ (rk.flatMap (GT.all enc) ++ (A.flatMap (GT.all enc) ++ (B.flatMap (GT.all enc) ++ E))))) h := s
        have wLK : Own 1 dl.kv ((lk.map GT.id).map pp).length dl.krb dl.kro (((lk.map GT.id).map pp).flatMap fv) dl.ksp := gl.ownK
        have wRK : Own 1 dr.kv ((rk.map GT.id).map pp).length dr.krb dr.kro (((rk.map GT.id).map pp).flatMap fv) dr.ksp := gr.ownK
        have hlk : lk.length = dl.its.length + 1 := gl.wf.2.2.1
        have hrk : rk.length = dr.its.length + 1 := gr.wf.2.2.1
        have hdl : dl.its.length ≤ m := ll.2
        have hdr : dr.its.length ≤ m := lr.2
        have hLl : dl.its.length = L.length + 1 := hLl
        obtain ⟨lk', c, ec⟩ := last_of (show 1 ≤ lk.length by omega)
        have hrkL : ((rk.map GT.id).map pp).length = dr.its.length + 1 := by rw [List.length_map, List.length_map]; exact hrk
        have hlkL : ((lk.map GT.id).map pp).length = dl.its.length + 1 := by rw [List.length_map, List.length_map]; exact hlk
        have hlkE : (lk.map GT.id).map pp = (lk'.map GT.id).map pp ++ [ptr c.id 0] := by rw [ec]; simp
        have hlast : ((lk.map GT.id).map pp)[((lk.map GT.id).map pp).length - 1]? = some (ptr c.id 0) := by rw [hlkE]; simp
        refine r_nil ?_; refine r_fld ?_; refine St.r_load0 s 2 rfl rfl ?_; refine r_nil ?_; refine r_fld ?_; refine St.r_load0 s 2 rfl rfl ?_; refine r_nil ?_; refine St.r_load0 s 10 rfl rfl ?_; refine St.r_mkSl (sz := 1) (cs := [.pointer none]) s (by ((simp only [fillV, fill1, Value.cells, zeros_succ, zeros_zero, size_toArray, length_cons, length_nil, length_append, take_succ_cons, take_zero, take_nil, drop_succ_cons, drop_zero, drop_nil, cons_append, nil_append, append_nil, Nat.reduceAdd, Nat.reduceMul, Nat.reduceLeDiff, Nat.reduceEqDiff, and_self, and_true, true_and, if_true, Nat.le_refl, Nat.zero_add, Nat.add_zero, Nat.zero_mul, reduceIte, if_false] <;> rfl))) rfl fun q h s w1 => ?_; refine And.intro (by exact St.r_still0 s 3 rfl rfl) ?_; refine And.intro (by exact St.r_still0 s 3 rfl rfl) ?_; refine And.intro (by exact St.r_still0 s 11 rfl rfl) ?_; refine s.r_appL (f := fv) (L := (rk.map GT.id).map pp) (M := [.pointer none]) 12 rfl wRK rfl (w1.rdl s 0 rfl) (fun _ h => by simp [one1, List.mem_singleton.1 h]) (by simp; omega) (by simp; omega) fun rkv1 rkb1 rko1 rks1 h s wRK1 => ?_
        have s := s.tail rfl
        refine And.intro (by exact St.r_still0 s 2 rfl rfl) ?_; refine r_nil ?_
        (refine St.r_store0 s 10 rfl (by simp) (Own.one (by assumption)) ?_; intro h s; try simp only [List.set_cons_zero, List.set_cons_succ] at s)
        refine r_nil ?_; refine r_fld ?_; refine St.r_load0 s 2 rfl rfl ?_; refine r_nil ?_; refine St.r_load0 s 10 rfl rfl ?_; refine wRK1.slcLo fvl (i := 1) rfl (by simp) fun dd wd2 => ?_; refine r_nil ?_; refine r_fld ?_; refine St.r_load0 s 2 rfl rfl ?_; refine r_nil ?_; refine St.r_load0 s 10 rfl rfl ?_
        refine s.r_cpyF fvl 11 (L := (rk.map GT.id).map pp ++ [Value.pointer none]) (M := ((rk.map GT.id).map pp ++ [Value.pointer none]).drop 0) rfl wd2 (by simp; omega) (wRK1.rdl s 11 rfl).z0 rfl (fun y hy => by
          rw [List.drop_zero] at hy
          rcases List.mem_append.1 hy with hy | hy
          · obtain ⟨a, _, rfl⟩ := List.mem_map.1 hy; simp [one1]
          · rw [List.mem_singleton.1 hy]; simp [one1]) fun h s => ?_
        refine r_nil ?_; refine r_fld ?_; refine St.r_load0 s 2 rfl rfl ?_; refine r_nil ?_; refine St.r_load0 s 10 rfl rfl ?_; refine r_nil ?_; refine r_fld ?_; refine St.r_load0 s 0 rfl rfl ?_; refine r_nil ?_; refine St.r_load0 s 8 rfl rfl ?_; refine r_nil ?_; refine r_fld ?_; refine St.r_load0 s 0 rfl rfl ?_; refine r_nil ?_; refine St.r_load0 s 8 rfl rfl ?_; refine Own.lenV (by assumption) ?_; refine r_sub1 (by omega) (by omega) ?_
        (refine Own.idx (by assumption) rfl (by first | omega | (simp; done) | (simp; omega)) ?_)
        refine s.r_loadV 9 rfl (by assumption) ?_
        (refine Own.idx (by assumption) rfl (by first | omega | (simp; done) | (simp; omega)) ?_)
        (refine s.r_storeV 11 rfl (by first | omega | (simp; done) | (simp; omega)) rfl ?_; intro h s; try simp only [List.set_cons_zero, List.set_cons_succ] at s)
        refine r_nil ?_; refine r_fld ?_; refine St.r_load0 s 0 rfl rfl ?_; refine r_nil ?_; refine St.r_load0 s 8 rfl rfl ?_; refine r_nil ?_; refine r_fld ?_; refine St.r_load0 s 0 rfl rfl ?_; refine r_nil ?_; refine St.r_load0 s 8 rfl rfl ?_; refine Own.lenV (by assumption) ?_; refine r_sub1 (by omega) (by omega) ?_
        (refine Own.idx (by assumption) rfl (by first | omega | (simp; done) | (simp; omega)) ?_)
        (refine s.r_storeV 9 rfl (by first | omega | (simp; done) | (simp; omega)) rfl ?_; intro h s; try simp only [List.set_cons_zero, List.set_cons_succ] at s)
        refine r_nil ?_; refine r_fld ?_; refine St.r_load0 s 0 rfl rfl ?_; refine r_nil ?_; refine r_fld ?_; refine St.r_load0 s 0 rfl rfl ?_; refine r_nil ?_; refine St.r_load0 s 8 rfl rfl ?_; refine r_nil ?_; refine r_fld ?_; refine St.r_load0 s 0 rfl rfl ?_; refine r_nil ?_; refine St.r_load0 s 8 rfl rfl ?_; refine Own.lenV (by assumption) ?_; refine r_sub1 (by omega) (by omega) ?_; rw [ins_steps ((rk.map GT.id).map pp) (.pointer none) (ptr c.id 0) (Nat.zero_le _), ins0] at s
        have wRK2 : Own 1 rkv1 (ptr c.id 0 :: (rk.map GT.id).map pp).length rkb1 rko1 ((ptr c.id 0 :: (rk.map GT.id).map pp).flatMap fv) rks1 := wRK1.list fvl (by simp)
        clear wRK1; refine (wLK.list fvl (pop_len (e := .pointer none))).slcHi fvl rfl (by rw [pop_len]; omega) fun lkv2 wLK2 => ?_
        have s := s.del (f := fv) 9 rfl _ (pop_steps (e := .pointer none) hlkE)
        rw [pop_steps (e := .pointer none) hlkE] at wLK2; obtain ⟨a1, a2, a3, hcm⟩ := GT.topA (t := c)
        have hcl : c ∈ lk := by rw [ec]; simp
        have gc : Gd is' c := gl.kid hcl
        have hcm' : (c.id, 0, [a1, .int .i64 c.nd.cnt, a2, a3]) ∈ lk.flatMap (GT.all enc) := List.mem_flatMap.2 ⟨c, hcl, hcm⟩
        rw [gc.cntEq] at hcm'
        have hL' : dl.its = L ++ [z] := hL
        have hlk'l : lk'.length = L.length + 1 := by rw [ec] at hlk; simp at hlk; omega
        have hlI : (GT.pt (h := k + 1) (dl, lk)).items = inter L ((lk'.map GT.pt).map PT.items) ++ z :: c.pt.items := by
          show inter dl.its ((lk.map GT.pt).map PT.items) = _
          rw [ec, hL', List.map_append, List.map_append]; exact inter_snoc _ _ _ _ (by simp; omega)
        have hlL := congrArg List.length hlI
        rw [List.length_append, List.length_cons] at hlL
        have hc0 : (ptr c.id 0 :: (rk.map GT.id).map pp)[0]? = some (ptr c.id 0) := rfl
        refine r_nil ?_
        (refine St.r_store0 s 8 rfl (by simp) (Own.one (by assumption)) ?_; intro h s; try simp only [List.set_cons_zero, List.set_cons_succ] at s)
        refine r_nil ?_; refine r_fld ?_; refine St.r_load0 s 0 rfl rfl ?_; refine r_nil ?_; refine r_fld ?_; refine St.r_load0 s 2 rfl rfl ?_; refine r_nil ?_; refine St.r_load0 s 10 rfl rfl ?_
        (refine Own.idx (by assumption) rfl (by first | omega | (simp; done) | (simp; omega)) ?_)
        refine s.r_loadI 11 0 rfl rfl rfl ?_; refine r_nil ?_; refine r_fld ?_; refine s.r_loadD 12 (List.mem_append.2 (.inl hcm')) rfl ?_; refine r_subN (by omega) (by omega) ?_; refine r_nil ?_; refine r_fld ?_
        (refine St.r_store0 s 0 rfl (by simp) rfl ?_; intro h s; try simp only [List.set_cons_zero, List.set_cons_succ] at s)
        refine r_nil ?_; refine r_fld ?_; refine St.r_load0 s 2 rfl rfl ?_; refine r_nil ?_; refine r_fld ?_; refine St.r_load0 s 2 rfl rfl ?_; refine r_nil ?_; refine St.r_load0 s 10 rfl rfl ?_
        (refine Own.idx (by assumption) rfl (by first | omega | (simp; done) | (simp; omega)) ?_)
        refine s.r_loadI 11 0 rfl rfl rfl ?_; refine r_nil ?_; refine r_fld ?_; refine s.r_loadD 12 (List.mem_append.2 (.inl hcm')) rfl ?_; refine r_addN (by omega) ?_; refine r_nil ?_; refine r_fld ?_
        (refine St.r_store0 s 2 rfl (by simp) rfl ?_; intro h s; try simp only [List.set_cons_zero, List.set_cons_succ] at s)
        obtain ⟨l', hl1', gl', hl2', hl3', hl4'⟩ := mk_inner (iso := is') (n := dl.n) (kb := dl.kb) (ts := lk') wl2 wLK2 hlk'l (fun q hq => gl.kid (by rw [ec]; exact List.mem_append.2 (.inl hq)))
        obtain ⟨r', hr1', gr', hr2', hr3', hr4'⟩ := mk_inner (iso := is') (n := dr.n) (kb := dr.kb) (ts := c :: rk) wr2 wRK2 (by show _ = (y :: dr.its).length + 1; simp; omega) (fun q hq => by
          rcases List.mem_cons.1 hq with h | h
          · rw [h]; exact gc
          · exact gr.kid h)
        have wK2 : Own 1 kv (((A ++ l' :: r' :: B).map GT.id).map pp).length krb kro ((((A ++ l' :: r' :: B).map GT.id).map pp).flatMap fv) ksp := by rw [ids_pp, hl1', hr1']; exact wK
        obtain ⟨t', ht1, gt, ht2, ht3, ht4⟩ := mk_inner (n := n) (kb := kb) (iso := is') w2 wK2 (by simp; omega) (fun c hc => by
          rcases List.mem_append.1 hc with h | h
          · exact gA c h
          · rcases List.mem_cons.1 h with h | h
            · subst h; exact gl'
            · rcases List.mem_cons.1 h with h | h
              · subst h; exact gr'
              · exact gB c h)
        have fkl : ∀ q ∈ lk, PT.Fl m (m / 2) q.pt := fun q hq => fl0.2.2.2 _ (List.mem_map.2 ⟨q, hq, rfl⟩)
        have fkr : ∀ q ∈ rk, PT.Fl m (m / 2) q.pt := fun q hq => fr0.2.2.2 _ (List.mem_map.2 ⟨q, hq, rfl⟩)
        have hgt2 : dr.its.length < dl.its.length := hgt
        have hlr2 : (dl.its.length + 1 = m / 2 ∧ m / 2 ≤ dr.its.length) ∨ (m / 2 ≤ dl.its.length ∧ dr.its.length + 1 = m / 2) := hlr
        have hge2 : m ≤ dl.its.length + dr.its.length := hge
        have hfl' : l'.pt.Fl m (m / 2) := by
          rw [hl2']; refine fl_inner (by omega) (by omega) (by simp; omega) fun q hq => ?_; obtain ⟨x, hx, rfl⟩ := List.mem_map.1 hq; exact fkl x (by rw [ec]; exact List.mem_append.2 (.inl hx))
        have hfr' : r'.pt.Fl m (m / 2) := by
          rw [hr2']; refine fl_inner (by show m / 2 ≤ (y :: dr.its).length; simp; omega) (by show (y :: dr.its).length ≤ m; simp; omega) (by show _ = (y :: dr.its).length + 1; simp; omega) fun q hq => ?_; obtain ⟨x, hx, rfl⟩ := List.mem_map.1 hq
          rcases List.mem_cons.1 hx with h | h
          · rw [h]; exact fkl c hcl
          · exact fkr x h
        have hl'I : l'.pt.items = inter L ((lk'.map GT.pt).map PT.items) := by rw [hl2']; rfl
        have hr'I : r'.pt.items = c.pt.items ++ y :: (GT.pt (h := k + 1) (dr, rk)).items := by rw [hr2']; rfl
        refine (fun M => H t' h M (s.perm ?_)) ?_
        rotate_left
        · refine mended_two rfl ht2 (by omega) (by omega) ht1 gt hab hlm hfl' hfr' (by rw [hlI, hl'I, hr'I]; simp) hP ⟨by show ¬ dl.its.length + dr.its.length < m; omega, .inl ⟨hgt, ?_⟩⟩
          rw [hl2', hr2']
          show ((dl.its.dropLast, (lk.map GT.pt).dropLast), dl.its.getLast?.getD y, (y :: dr.its, (lk.map GT.pt).getLast?.toList ++ rk.map GT.pt)) = ((L, lk'.map GT.pt), z, (y :: dr.its, (c :: rk).map GT.pt))
          have hL' : dl.its = L ++ [z] := hL
          rw [hL', ec]; simp
        have e1 := M.2.1
        rw [ht2] at e1
        have e1 : ((PT.items (h := k + 2) (P ++ z :: S, (A ++ l' :: r' :: B).map GT.pt)).length : Int) = cnt := by rw [hcn, e1]; rfl
        have e2 : (A ++ l' :: r' :: B).flatMap (GT.all enc) = A.flatMap (GT.all enc) ++ (l'.all enc ++ (r'.all enc ++ B.flatMap (GT.all enc))) := by rw [List.flatMap_append, List.flatMap_cons, List.flatMap_cons]
        have e3 : (PT.items (h := k + 1) (y :: (GT.nd (h := k + 1) (dr, rk)).its, (c :: rk).map GT.pt)).length = (GT.pt (h := k + 1) (dr, rk)).items.length + 1 + c.pt.items.length := by
          have := congrArg List.length hr'I
          rw [hr2'] at this; rw [List.length_append, List.length_cons] at this; exact this.trans (by omega)
        have e4 : (PT.items (h := k + 1) (L, lk'.map GT.pt)).length = (GT.pt (h := k + 1) (dl, lk)).items.length - 1 - c.pt.items.length := by
          show (inter L ((lk'.map GT.pt).map PT.items)).length = _
          omega
        have e5 : lk.flatMap (GT.all enc) = lk'.flatMap (GT.all enc) ++ c.all enc := by rw [ec, List.flatMap_append, List.flatMap_singleton]
        rw [ht4, e1, e2, hl4', hr4', ids_pp, hl1', hr1', e3, e4]
        have e6 : (c :: rk).flatMap (GT.all enc) = c.all enc ++ rk.flatMap (GT.all enc) := List.flatMap_cons
        have e7 : (((c :: rk).map GT.id).map pp) = ptr c.id 0 :: (rk.map GT.id).map pp := rfl
        rw [e5, e6, e7]
        ((apply perm_rg; intro f; simp only [set_cons_zero, set_cons_succ, eraseIdx_cons_zero, eraseIdx_cons_succ, cons_append, nil_append, map_append, map_cons, map_nil, List.sum_append, List.sum_cons, List.sum_nil, map_flatMap, Nat.add_zero, Nat.zero_add]; ac_rfl))
    · have hle : l.nd.its.length ≤ r.nd.its.length := by have := of_decide_eq_false hle; omega
      refine r_nil ?_; refine r_fld ?_; refine St.r_load0 s 0 rfl rfl ?_; refine r_nil ?_; refine r_fld ?_; refine St.r_load0 s 4 rfl rfl ?_
      (refine Own.idx (by assumption) rfl (by first | omega | (simp; done) | (simp; omega)) ?_)
      refine s.r_loadF encl 5 rfl (by assumption) ?_; refine St.r_mkSl (sz := 2) (cs := enc y) s (by ((simp only [fillV, fill1, Value.cells, zeros_succ, zeros_zero, size_toArray, length_cons, length_nil, length_append, take_succ_cons, take_zero, take_nil, drop_succ_cons, drop_zero, drop_nil, cons_append, nil_append, append_nil, Nat.reduceAdd, Nat.reduceMul, Nat.reduceLeDiff, Nat.reduceEqDiff, and_self, and_true, true_and, if_true, Nat.le_refl, Nat.zero_add, Nat.add_zero, Nat.zero_mul, reduceIte, if_false] <;> rfl))) rfl fun q h s w1 => ?_; refine And.intro (by exact St.r_still0 s 1 rfl rfl) ?_; refine s.r_appL (M := [y]) 2 rfl wl rfl (by have := w1.rdl s 0 rfl; simpa using this) (fun _ _ => enc1 _) (by simp; omega) (by simp; omega) fun liv1 lib1 lio1 lisp1 h s wl1 => ?_
      have s := s.tail rfl
      refine r_nil ?_; refine r_fld ?_
      (refine St.r_store0 s 0 rfl (by simp) (Own.one (by assumption)) ?_; intro h s; try simp only [List.set_cons_zero, List.set_cons_succ] at s)
      refine r_nil ?_; refine r_fld ?_; refine St.r_load0 s 0 rfl rfl ?_; refine r_add1 (by omega) ?_; refine r_nil ?_; refine r_fld ?_
      (refine St.r_store0 s 0 rfl (by simp) rfl ?_; intro h s; try simp only [List.set_cons_zero, List.set_cons_succ] at s)
      refine r_nil ?_; refine r_fld ?_; refine St.r_load0 s 4 rfl rfl ?_; refine r_nil ?_; refine r_fld ?_; refine St.r_load0 s 2 rfl rfl ?_
      (refine Own.idx (by assumption) rfl (by first | omega | (simp; done) | (simp; omega)) ?_)
      (refine s.r_loadF encl 3 rfl (List.getElem?_eq_getElem (by first | omega | (simp; done) | (simp; omega))) ?_)
      (refine Own.idx (by assumption) rfl (by first | omega | (simp; done) | (simp; omega)) ?_)
      (refine s.r_storeF encl 5 rfl (by first | omega | (simp; done) | (simp; omega)) (enc1 _) ?_; intro h s; try simp only [List.set_cons_zero, List.set_cons_succ] at s)
      refine r_nil ?_; refine r_fld ?_; refine St.r_load0 s 2 rfl rfl ?_; refine r_nil ?_; refine r_fld ?_; refine St.r_load0 s 2 rfl rfl ?_; refine (wr.rdl s 3 rfl).slcLo encl (i := 1) rfl (by omega) fun src rs => ?_; refine s.r_cpyF encl 3 (L := r.nd.its) (M := r.nd.its.drop 1) rfl wr.z0 (by simp) rs rfl (fun y _ => enc1 y) fun h s => ?_; refine r_nil ?_; refine r_fld ?_; refine St.r_load0 s 2 rfl rfl ?_; refine r_nil ?_; refine r_fld ?_; refine St.r_load0 s 2 rfl rfl ?_; refine Own.lenV (by assumption) ?_; refine r_sub1 (by omega) (by omega) ?_; refine r_nil ?_; refine r_fld ?_; refine s.r_lzE hT4 3 (enc emp) rfl (by simp) rfl ?_
      (refine Own.idx (by assumption) rfl (by first | omega | (simp; done) | (simp; omega)) ?_)
      (refine s.r_storeF encl 3 rfl (by first | omega | (simp; done) | (simp; omega)) (enc1 _) ?_; intro h s; try simp only [List.set_cons_zero, List.set_cons_succ] at s)
      refine r_nil ?_; refine r_fld ?_; refine St.r_load0 s 2 rfl rfl ?_; refine r_nil ?_; refine r_fld ?_; refine St.r_load0 s 2 rfl rfl ?_; refine Own.lenV (by assumption) ?_; refine r_sub1 (by omega) (by omega) ?_
      have hr0 : 0 < r.nd.its.length := by omega
      refine (wr.list encl (del_len r.nd.its emp hr0)).slcHi encl rfl (by rw [del_len _ _ hr0]; omega) fun riv2 wr2 => ?_
      have s := s.del (f := enc) 3 rfl _ (del_erase r.nd.its emp hr0)
      rw [del_erase r.nd.its emp hr0] at wr2; refine r_nil ?_; refine r_fld ?_
      (refine St.r_store0 s 2 rfl (by simp) (Own.one (by assumption)) ?_; intro h s; try simp only [List.set_cons_zero, List.set_cons_succ] at s)
      refine r_nil ?_; refine r_fld ?_; refine St.r_load0 s 2 rfl rfl ?_; refine r_sub1 (by omega) (by omega) ?_; refine r_nil ?_; refine r_fld ?_
      (refine St.r_store0 s 2 rfl (by simp) rfl ?_; intro h s; try simp only [List.set_cons_zero, List.set_cons_succ] at s)
      obtain ⟨z, R, hR⟩ := head_of (show 1 ≤ r.nd.its.length by omega)
      have hz : r.nd.its[0]'(by omega) = z := by simp [hR]
      have hR0 : r.nd.its.eraseIdx 0 = R := by rw [hR]; rfl
      have hRl : r.nd.its.length = R.length + 1 := by rw [hR]; rfl
      rw [hz, setAt hP] at s; rw [hR0] at s wr2
      have w2 : Own 2 iv (P ++ z :: S).length ib io ((P ++ z :: S).flatMap enc) isp := w.list encl (by simp)
      cases k with
      | zero =>
        refine node_leaf_ok (a := none) (s.cl0 0 rfl rfl) ?_; refine r_not ?_; refine r_if (fun e => absurd e (by simp)) (fun _ => ?_)
        have s := St.kids0 s
        obtain ⟨l', hl1', gl', hl2', hl3', hl4'⟩ := mk_leaf (iso := is') (n := l.id) wl1; obtain ⟨r', hr1', gr', hr2', hr3', hr4'⟩ := mk_leaf (iso := is') (n := r.id) wr2
        have wK2 : Own 1 kv (((A ++ l' :: r' :: B).map GT.id).map pp).length krb kro ((((A ++ l' :: r' :: B).map GT.id).map pp).flatMap fv) ksp := by rw [ids_pp, hl1', hr1']; exact wK
        obtain ⟨t', ht1, gt, ht2, ht3, ht4⟩ := mk_inner (n := n) (kb := kb) (iso := is') w2 wK2 (by simp; omega) (fun c hc => by
          rcases List.mem_append.1 hc with h | h
          · exact gA c h
          · rcases List.mem_cons.1 h with h | h
            · subst h; exact gl'
            · rcases List.mem_cons.1 h with h | h
              · subst h; exact gr'
              · exact gB c h)
        have hfl' : l'.pt.Fl m (m / 2) := by rw [hl2']; exact fl_leaf (by simp; omega) (by simp; omega)
        have hfr' : r'.pt.Fl m (m / 2) := by rw [hr2']; exact fl_leaf (by omega) (by omega)
        have hx : l.pt.items ++ y :: r.pt.items = l'.pt.items ++ z :: r'.pt.items := by
          rw [hl2', hr2']
          show l.nd.its ++ y :: r.nd.its = (l.nd.its ++ [y]) ++ z :: R
          rw [hR]; simp
        have M := mended_two (t := ((⟨own, n, is', cnt, P ++ y :: S, iv, ib, io, isp, kb, kv, krb, kro, ksp⟩ : Nd It), A ++ l :: r :: B)) (iso := is') rfl ht2 (by omega) (by omega) ht1 gt hab hlm hfl' hfr' hx hP ⟨by omega, .inr ⟨by omega, by
          rw [hl2', hr2']
          show (l.nd.its ++ [y], r.nd.its.head?.getD y, r.nd.its.tail) = (l.nd.its ++ [y], z, R)
          rw [hR]; rfl⟩⟩
        refine H t' h M (s.perm ?_)
        have e1 : ((PT.items (h := 1) (P ++ z :: S, (A ++ l' :: r' :: B).map GT.pt)).length : Int) = cnt := by have := M.2.1; rw [ht2] at this; rw [hcn, this]; rfl
        have e2 : (A ++ l' :: r' :: B).flatMap (GT.all enc) = A.flatMap (GT.all enc) ++ (l'.all enc ++ (r'.all enc ++ B.flatMap (GT.all enc))) := by rw [List.flatMap_append, List.flatMap_cons, List.flatMap_cons]
        have e3 : l.pt.items.length = l.nd.its.length := rfl
        have e4 : r.pt.items.length = r.nd.its.length := rfl
        rw [ht4, e1, e2, hl4', hr4', ids_pp, hl1', hr1', e3, e4, hRl, List.length_append, List.length_singleton, Nat.add_sub_cancel]
        ((apply perm_rg; intro f; simp only [set_cons_zero, set_cons_succ, eraseIdx_cons_zero, eraseIdx_cons_succ, cons_append, nil_append, map_append, map_cons, map_nil, List.sum_append, List.sum_cons, List.sum_nil, map_flatMap, Nat.add_zero, Nat.zero_add]; ac_rfl))
      | succ k =>
        obtain ⟨dl, lk⟩ := l; obtain ⟨dr, rk⟩ := r; refine node_leaf_ok (a := some ⟨dl.kb, 0, none⟩) (s.cl0 0 rfl rfl) ?_; refine r_not ?_; refine r_if (fun _ => ?_) (fun e => absurd e (by simp))
        have s := St.kids8 s
        have s : St h0 Z ((dl.n, 0, [_, _, _, ptr dl.kb 0]) :: _ :: (dr.n, 0, [_, _, _, ptr dr.kb 0]) :: _ :: _ :: _ :: _ :: _ :: (dl.kb, 0, [dl.kv]) :: (dl.krb, dl.kro, ((lk.map GT.id).map pp).flatMap fv ++ dl.ksp) :: (dr.kb, 0, [dr.kv]) :: (dr.krb, dr.kro, ((rk.map GT.id).map pp).flatMap fv ++ dr.ksp) ::
          (lk.flatMap (GT.all enc) ++ (rk.flatMap (GT.all enc) ++ (A.flatMap (GT.all enc) ++ (B.flatMap (GT.all enc) ++ E))))) h := s
        have wLK : Own 1 dl.kv ((lk.map GT.id).map pp).length dl.krb dl.kro (((lk.map GT.id).map pp).flatMap fv) dl.ksp := gl.ownK
        have wRK : Own 1 dr.kv ((rk.map GT.id).map pp).length dr.krb dr.kro (((rk.map GT.id).map pp).flatMap fv) dr.ksp := gr.ownK
        have hlk : lk.length = dl.its.length + 1 := gl.wf.2.2.1
        have hrk : rk.length = dr.its.length + 1 := gr.wf.2.2.1
        have hdl : dl.its.length ≤ m := ll.2
        have hdr : dr.its.length ≤ m := lr.2
        have hRl : dr.its.length = R.length + 1 := hRl
        obtain ⟨c, rk', ec⟩ := head_of (show 1 ≤ rk.length by omega)
        have hrkL : ((rk.map GT.id).map pp).length = dr.its.length + 1 := by rw [List.length_map, List.length_map]; exact hrk
        have hlkL : ((lk.map GT.id).map pp).length = dl.its.length + 1 := by rw [List.length_map, List.length_map]; exact hlk
        have hrk0 : 0 < ((rk.map GT.id).map pp).length := by simp; omega
        have hc0 : ((rk.map GT.id).map pp)[0]? = some (ptr c.id 0) := by rw [ec]; rfl
        refine r_nil ?_; refine r_fld ?_; refine St.r_load0 s 0 rfl rfl ?_; refine r_nil ?_; refine r_fld ?_; refine St.r_load0 s 0 rfl rfl ?_; refine r_nil ?_; refine St.r_load0 s 8 rfl rfl ?_; refine r_nil ?_; refine r_fld ?_; refine St.r_load0 s 2 rfl rfl ?_; refine r_nil ?_; refine St.r_load0 s 10 rfl rfl ?_
        (refine Own.idx (by assumption) rfl (by first | omega | (simp; done) | (simp; omega)) ?_)
        refine s.r_loadV 11 rfl (by assumption) ?_; refine St.r_mkSl (sz := 1) (cs := [ptr c.id 0]) s (by ((simp only [fillV, fill1, Value.cells, zeros_succ, zeros_zero, size_toArray, length_cons, length_nil, length_append, take_succ_cons, take_zero, take_nil, drop_succ_cons, drop_zero, drop_nil, cons_append, nil_append, append_nil, Nat.reduceAdd, Nat.reduceMul, Nat.reduceLeDiff, Nat.reduceEqDiff, and_self, and_true, true_and, if_true, Nat.le_refl, Nat.zero_add, Nat.add_zero, Nat.zero_mul, reduceIte, if_false] <;> rfl))) rfl fun q h s w1 => ?_; refine And.intro (by exact St.r_still0 s 1 rfl rfl) ?_; refine And.intro (by exact St.r_still0 s 1 rfl rfl) ?_; refine And.intro (by exact St.r_still0 s 9 rfl rfl) ?_; refine s.r_appL (f := fv) (L := (lk.map GT.id).map pp) (M := [pp c.id]) 10 rfl wLK rfl (w1.rdl s 0 rfl) (fun _ h => by simp [one1, List.mem_singleton.1 h]) (by simp; omega) (by simp; omega) fun lkv1 lkb1 lko1 lks1 h s wLK1 => ?_
        have s := s.tail rfl
        refine And.intro (by exact St.r_still0 s 0 rfl rfl) ?_; refine r_nil ?_
        (refine St.r_store0 s 8 rfl (by simp) (Own.one (by assumption)) ?_; intro h s; try simp only [List.set_cons_zero, List.set_cons_succ] at s)
        refine r_nil ?_; refine r_fld ?_; refine St.r_load0 s 2 rfl rfl ?_; refine r_nil ?_; refine St.r_load0 s 10 rfl rfl ?_; refine r_nil ?_; refine r_fld ?_; refine St.r_load0 s 2 rfl rfl ?_; refine r_nil ?_; refine St.r_load0 s 10 rfl rfl ?_; refine (wRK.rdl s 11 rfl).slcLo fvl (i := 1) rfl (by simp; omega) fun src rs => ?_; refine s.r_cpyF fvl 11 (L := (rk.map GT.id).map pp) (M := ((rk.map GT.id).map pp).drop 1) rfl wRK.z0 (by simp) rs rfl (fun y hy => by obtain ⟨a, _, rfl⟩ := List.mem_map.1 (List.mem_of_mem_drop hy); simp [one1]) fun h s => ?_; refine r_nil ?_; refine r_fld ?_; refine St.r_load0 s 2 rfl rfl ?_; refine r_nil ?_; refine St.r_load0 s 10 rfl rfl ?_; refine r_nil ?_; refine r_fld ?_; refine St.r_load0 s 2 rfl rfl ?_; refine r_nil ?_; refine St.r_load0 s 10 rfl rfl ?_; refine Own.lenV (by assumption) ?_; refine r_sub1 (by omega) (by omega) ?_
        (refine Own.idx (by assumption) rfl (by first | omega | (simp; done) | (simp; omega)) ?_)
        (refine s.r_storeV 11 rfl (by first | omega | (simp; done) | (simp; omega)) rfl ?_; intro h s; try simp only [List.set_cons_zero, List.set_cons_succ] at s)
        refine r_nil ?_; refine r_fld ?_; refine St.r_load0 s 2 rfl rfl ?_; refine r_nil ?_; refine r_fld ?_; refine St.r_load0 s 2 rfl rfl ?_; refine r_nil ?_; refine St.r_load0 s 10 rfl rfl ?_; refine r_nil ?_; refine r_fld ?_; refine St.r_load0 s 2 rfl rfl ?_; refine r_nil ?_; refine St.r_load0 s 10 rfl rfl ?_; refine Own.lenV (by assumption) ?_; refine r_sub1 (by omega) (by omega) ?_; refine (wRK.list fvl (del_len _ (.pointer none) hrk0)).slcHi fvl rfl (by rw [del_len _ _ hrk0]; omega) fun rkv2 wRK2 => ?_
        have s := s.del (f := fv) 11 rfl _ (del_erase _ (.pointer none) hrk0)
        rw [del_erase _ (.pointer none) hrk0] at wRK2
        have hrk2 : ((rk.map GT.id).map pp).eraseIdx 0 = (rk'.map GT.id).map pp := by rw [ec]; rfl
        rw [hrk2] at s wRK2
        have hL1 : ((lk.map GT.id).map pp ++ [pp c.id]).length = dl.its.length + 2 := by rw [List.length_append, hlkL]; rfl
        have hlast : ((lk.map GT.id).map pp ++ [pp c.id])[((lk.map GT.id).map pp ++ [pp c.id]).length - 1]? = some (ptr c.id 0) := by simp
        obtain ⟨a1, a2, a3, hcm⟩ := GT.topA (t := c)
        have hcr : c ∈ rk := by rw [ec]; exact List.mem_cons_self ..
        have gc : Gd is' c := gr.kid hcr
        have hcm' : (c.id, 0, [a1, .int .i64 c.nd.cnt, a2, a3]) ∈ rk.flatMap (GT.all enc) := List.mem_flatMap.2 ⟨c, hcr, hcm⟩
        rw [gc.cntEq] at hcm'
        have hR' : dr.its = z :: R := hR
        have hrI : (GT.pt (h := k + 1) (dr, rk)).items = c.pt.items ++ z :: inter R ((rk'.map GT.pt).map PT.items) := by
          show inter dr.its ((rk.map GT.pt).map PT.items) = _
          rw [ec, hR']; rfl
        have hrL := congrArg List.length hrI
        rw [List.length_append, List.length_cons] at hrL; refine r_nil ?_
        (refine St.r_store0 s 10 rfl (by simp) (Own.one (by assumption)) ?_; intro h s; try simp only [List.set_cons_zero, List.set_cons_succ] at s)
        refine r_nil ?_; refine r_fld ?_; refine St.r_load0 s 0 rfl rfl ?_; refine r_nil ?_; refine r_fld ?_; refine St.r_load0 s 0 rfl rfl ?_; refine r_nil ?_; refine St.r_load0 s 8 rfl rfl ?_; refine r_nil ?_; refine r_fld ?_; refine St.r_load0 s 0 rfl rfl ?_; refine r_nil ?_; refine St.r_load0 s 8 rfl rfl ?_; refine Own.lenV (by assumption) ?_; refine r_sub1 (by omega) (by omega) ?_
        (refine Own.idx (by assumption) rfl (by first | omega | (simp; done) | (simp; omega)) ?_)
        refine s.r_loadV 9 rfl (by assumption) ?_; refine r_nil ?_; refine r_fld ?_; refine s.r_loadD 12 (List.mem_append.2 (.inr (List.mem_append.2 (.inl hcm')))) rfl ?_; refine r_addN (by omega) ?_; refine r_nil ?_; refine r_fld ?_
        (refine St.r_store0 s 0 rfl (by simp) rfl ?_; intro h s; try simp only [List.set_cons_zero, List.set_cons_succ] at s)
        refine r_nil ?_; refine r_fld ?_; refine St.r_load0 s 2 rfl rfl ?_; refine r_nil ?_; refine r_fld ?_; refine St.r_load0 s 0 rfl rfl ?_; refine r_nil ?_; refine St.r_load0 s 8 rfl rfl ?_; refine r_nil ?_; refine r_fld ?_; refine St.r_load0 s 0 rfl rfl ?_; refine r_nil ?_; refine St.r_load0 s 8 rfl rfl ?_; refine Own.lenV (by assumption) ?_; refine r_sub1 (by omega) (by omega) ?_
        (refine Own.idx (by assumption) rfl (by first | omega | (simp; done) | (simp; omega)) ?_)
        refine s.r_loadV 9 rfl (by assumption) ?_; refine r_nil ?_; refine r_fld ?_; refine s.r_loadD 12 (List.mem_append.2 (.inr (List.mem_append.2 (.inl hcm')))) rfl ?_; refine r_subN (by omega) (by omega) ?_; refine r_nil ?_; refine r_fld ?_
        (refine St.r_store0 s 2 rfl (by simp) rfl ?_; intro h s; try simp only [List.set_cons_zero, List.set_cons_succ] at s)
        have eL : ((lk ++ [c]).map GT.id).map pp = (lk.map GT.id).map pp ++ [pp c.id] := by simp
        rw [← eL] at s wLK1
        obtain ⟨l', hl1', gl', hl2', hl3', hl4'⟩ := mk_inner (iso := is') (n := dl.n) (kb := dl.kb) (ts := lk ++ [c]) wl1 wLK1 (by show _ = (dl.its ++ [y]).length + 1; simp; omega) (fun q hq => by
          rcases List.mem_append.1 hq with h | h
          · exact gl.kid h
          · rw [List.mem_singleton.1 h]; exact gc)
        obtain ⟨r', hr1', gr', hr2', hr3', hr4'⟩ := mk_inner (iso := is') (n := dr.n) (kb := dr.kb) (ts := rk') wr2 wRK2 (by rw [ec] at hrk; simp at hrk; omega) (fun q hq => gr.kid (by rw [ec]; exact List.mem_cons_of_mem _ hq))
        have wK2 : Own 1 kv (((A ++ l' :: r' :: B).map GT.id).map pp).length krb kro ((((A ++ l' :: r' :: B).map GT.id).map pp).flatMap fv) ksp := by rw [ids_pp, hl1', hr1']; exact wK
        obtain ⟨t', ht1, gt, ht2, ht3, ht4⟩ := mk_inner (n := n) (kb := kb) (iso := is') w2 wK2 (by simp; omega) (fun c hc => by
          rcases List.mem_append.1 hc with h | h
          · exact gA c h
          · rcases List.mem_cons.1 h with h | h
            · subst h; exact gl'
            · rcases List.mem_cons.1 h with h | h
              · subst h; exact gr'
              · exact gB c h)
        have fkl : ∀ q ∈ lk, PT.Fl m (m / 2) q.pt := fun q hq => fl0.2.2.2 _ (List.mem_map.2 ⟨q, hq, rfl⟩)
        have fkr : ∀ q ∈ rk, PT.Fl m (m / 2) q.pt := fun q hq => fr0.2.2.2 _ (List.mem_map.2 ⟨q, hq, rfl⟩)
        have hle2 : dl.its.length ≤ dr.its.length := hle
        have hlr2 : (dl.its.length + 1 = m / 2 ∧ m / 2 ≤ dr.its.length) ∨ (m / 2 ≤ dl.its.length ∧ dr.its.length + 1 = m / 2) := hlr
        have hge2 : m ≤ dl.its.length + dr.its.length := hge
        have hfl' : l'.pt.Fl m (m / 2) := by
          rw [hl2']; refine fl_inner (by show m / 2 ≤ (dl.its ++ [y]).length; simp; omega) (by show (dl.its ++ [y]).length ≤ m; simp; omega) (by show _ = (dl.its ++ [y]).length + 1; simp; omega) fun q hq => ?_; obtain ⟨x, hx, rfl⟩ := List.mem_map.1 hq
          rcases List.mem_append.1 hx with h | h
          · exact fkl x h
          · rw [List.mem_singleton.1 h]; exact fkr c hcr
        have hfr' : r'.pt.Fl m (m / 2) := by
          rw [hr2']; refine fl_inner (by omega) (by omega) (by rw [ec] at hrk; simp at hrk; simp; omega) fun q hq => ?_; obtain ⟨x, hx, rfl⟩ := List.mem_map.1 hq; exact fkr x (by rw [ec]; exact List.mem_cons_of_mem _ hx)
        have hlI : l'.pt.items = (GT.pt (h := k + 1) (dl, lk)).items ++ y :: c.pt.items := by
          rw [hl2']
          show inter (dl.its ++ [y]) (((lk ++ [c]).map GT.pt).map PT.items) = inter dl.its ((lk.map GT.pt).map PT.items) ++ _
          rw [List.map_append, List.map_append]; exact inter_snoc _ _ _ _ (by simp; omega)
        have hr'I : r'.pt.items = inter R ((rk'.map GT.pt).map PT.items) := by rw [hr2']; rfl
        refine (fun M => H t' h M (s.perm ?_)) ?_
        rotate_left
        · refine mended_two rfl ht2 (by omega) (by omega) ht1 gt hab hlm hfl' hfr' (by rw [hrI, hlI, hr'I]; simp) hP ⟨by show ¬ dl.its.length + dr.its.length < m; omega, .inr ⟨by show ¬ dr.its.length < dl.its.length; omega, ?_⟩⟩
          rw [hl2', hr2']
          show ((dl.its ++ [y], lk.map GT.pt ++ (rk.map GT.pt).head?.toList), dr.its.head?.getD y, (dr.its.tail, (rk.map GT.pt).tail)) = ((dl.its ++ [y], (lk ++ [c]).map GT.pt), z, (R, rk'.map GT.pt))
          have hR' : dr.its = z :: R := hR
          rw [hR', ec]; simp
        have e1 := M.2.1
        rw [ht2] at e1
        have e1 : ((PT.items (h := k + 2) (P ++ z :: S, (A ++ l' :: r' :: B).map GT.pt)).length : Int) = cnt := by rw [hcn, e1]; rfl
        have e2 : (A ++ l' :: r' :: B).flatMap (GT.all enc) = A.flatMap (GT.all enc) ++ (l'.all enc ++ (r'.all enc ++ B.flatMap (GT.all enc))) := by rw [List.flatMap_append, List.flatMap_cons, List.flatMap_cons]
        have e3 : (PT.items (h := k + 1) ((GT.nd (h := k + 1) (dl, lk)).its ++ [y], (lk ++ [c]).map GT.pt)).length = (GT.pt (h := k + 1) (dl, lk)).items.length + 1 + c.pt.items.length := by
          have := congrArg List.length hlI
          rw [hl2'] at this; rw [List.length_append, List.length_cons] at this; exact this.trans (by omega)
        have e4 : (PT.items (h := k + 1) (R, rk'.map GT.pt)).length = (GT.pt (h := k + 1) (dr, rk)).items.length - 1 - c.pt.items.length := by
          show (inter R ((rk'.map GT.pt).map PT.items)).length = _
          omega
        have e5 : rk.flatMap (GT.all enc) = c.all enc ++ rk'.flatMap (GT.all enc) := by rw [ec, List.flatMap_cons]
        have e6 : (lk ++ [c]).flatMap (GT.all enc) = lk.flatMap (GT.all enc) ++ c.all enc := by rw [List.flatMap_append, List.flatMap_singleton]
        rw [ht4, e1, e2, hl4', hr4', ids_pp, hl1', hr1', e6, e3, e4]; rw [e5]
        ((apply perm_rg; intro f; simp only [set_cons_zero, set_cons_succ, eraseIdx_cons_zero, eraseIdx_cons_succ, cons_append, nil_append, map_append, map_cons, map_nil, List.sum_append, List.sum_cons, List.sum_nil, map_flatMap, Nat.add_zero, Nat.zero_add]; ac_rfl))
end Go.Proofs.Ytljecmjdmdjldaa.Gi
end
section
namespace Go.Proofs.Ytljecmjdmdjldaa.Gi
open Go.Hp Go.Proofs.Ytljecmjdmdjldaa
set_option maxHeartbeats 4000000
variable {h0 h : Heap} {Z E : List Rg} {Q : Value → Heap → Prop} {lt : It → It → Bool} {lf : Value}
attribute [local irreducible] load1 loadN store1 storeN fld nilck lenV idx arith cmpI notV extr mkSl app cpy slc ifV
theorem fl_any {m lo lo' : Nat} : ∀ {k : Nat} {t : PT It k}, t.Fl m lo → lo' ≤ t.its.length → t.Fl m lo'
  | 0, _, f, h => ⟨h, f.2⟩
  | _ + 1, _, f, h => ⟨h, f.2⟩
theorem fx_set {m lo i k : Nat} {its : List It} {ks : List (PT It k)} {c : PT It k} (f : PT.Fl m lo (h := k + 1) (its, ks)) (fc : c.Fl m (m / 2 - 1)) (its' : List It) (hl : its'.length = its.length) : PT.Fx m lo i ((its', ks.set i c) : PT It (k + 1)) := by
  obtain ⟨f1, f2, f3, f4⟩ := f; refine ⟨by show lo ≤ its'.length; rw [hl]; exact f1, by show its'.length ≤ m; rw [hl]; exact f2, by show (ks.set i c).length = its'.length + 1; rw [hl, List.length_set]; exact f3, fun j q hq => ?_⟩
  have hq : (ks.set i c)[j]? = some q := hq
  rw [List.getElem?_set] at hq
  by_cases e : i = j
  · subst e
    rw [if_pos rfl] at hq ⊢
    split at hq
    · cases hq; exact fc
    · cases hq
  · rw [if_neg e] at hq
    rw [if_neg (fun h => e h.symm)]; exact f4 q (List.mem_of_getElem? hq)
theorem topI : ∀ {k : Nat} {t : GT It k}, ∃ a1 a2 a3, (t.id, 0, [a1, a2, t.nd.iv, a3]) ∈ t.all enc
  | 0, d => ⟨_, _, _, List.mem_cons_self ..⟩
  | _ + 1, t => ⟨_, _, _, List.mem_append.2 (.inl (List.mem_cons_self ..))⟩
theorem rebalance_ok {tb m i lo : Nat} {iso mn : Int} {ctr : Option Addr} (hT0 : (tb, 0, hd0 iso ctr) ∈ Z) (hT4 : (tb, 4, hd4 lf mn m) ∈ Z) (hm3 : 3 ≤ m) (hm1 : m ≤ 1024) (ho : m % 2 = 1) {k : Nat} (t : GT It (k + 1))
    (fx : t.pt.Fx m lo i) (h1 : 1 ≤ t.pt.1.length) (hi : i ≤ t.pt.1.length) (hdef : ∀ c, t.pt.2[i]? = some c → c.its.length + 1 = m / 2)
    (hsz : t.pt.items.length ≤ 4611686018427387903) (g : Gd iso t) (s : St h0 Z (t.all enc ++ E) h)
    (H : ∀ (t' : GT It (k + 1)) h', Mended iso m (if i = t.pt.1.length then i - 1 else i) t t' → St h0 Z (t'.all enc ++ E) h' → Q (.tuple #[]) h') : BTreeG_I_nodeRebalance.call #[ptr tb 0, ptr t.id 0, .int .i64 i] h Q := by
  obtain ⟨f1, f2, f3, f4⟩ := fx
  have hall : ∀ c ∈ t.pt.2, PT.Fl m (m / 2 - 1) c := fun c hc => by
    obtain ⟨j, hj⟩ := List.getElem?_of_mem hc
    have := f4 j c hj
    split at this
    · exact this
    · exact this.mono (by omega)
  refine BTreeG_I_nodeRebalance.body _ _ _ _ _ ?_; unfold BTreeG_I_nodeRebalance.sh
  have main : ∀ j, j < t.pt.1.length → (j = i ∨ j + 1 = i) → j = (if i = t.pt.1.length then i - 1 else i) → BTreeG_I_nodeRebalance.j1 (ptr tb 0) (ptr t.id 0) (.int .i64 j) h Q := fun j hj hij hje => by
    rw [← hje] at H; refine rebalance_j hT0 hT4 hm3 hm1 ho t f2 hj hall (fun c c' hc hc' => ?_) (fun q c hc n1 n2 => ?_) hsz g s H
    · rcases hij with e | e
      · subst e
        refine .inl ⟨hdef c hc, ?_⟩
        have := f4 (j + 1) c' hc'
        rw [if_neg (by omega)] at this; exact this
      · refine .inr ⟨?_, hdef c' (e ▸ hc')⟩
        have := f4 j c hc
        rw [if_neg (by omega)] at this; exact this
    · have := f4 q c hc
      rw [if_neg (by omega)] at this; exact this
  have w : Own 2 t.nd.iv t.nd.its.length t.nd.ib t.nd.io (t.nd.its.flatMap enc) t.nd.isp := g.own
  have hil : t.pt.1.length = t.nd.its.length := rfl
  have s2 := s
  rw [all_eq] at s2
  have s := s2
  have s : St h0 Z ((t.id, 0, [.int .u64 t.nd.iso, .int .i64 t.nd.cnt, t.nd.iv, GT.kp t]) :: (t.nd.ib, t.nd.io, t.nd.its.flatMap enc ++ t.nd.isp) :: (GT.rest t ++ E)) h := s
  refine r_nil ?_; refine r_fld ?_; refine St.r_load0 s 0 rfl rfl ?_; refine Own.lenV (by assumption) ?_; refine r_cmpI ?_; refine r_if (fun he => ?_) (fun hn => ?_)
  · have he : i = t.nd.its.length := by simp at he; omega
    refine r_sub1 (by omega) (by omega) ?_; refine main (i - 1) (by omega) (.inr (by omega)) (by rw [if_pos (by omega)])
  · have hn : i ≠ t.nd.its.length := by simp at hn; omega
    exact main i (by omega) (.inl rfl) (by rw [if_neg (by omega)])
theorem del_after {tb m i lo n ib io kb krb kro t8 t14 pb po : Nat} {iso mn : Int} {ctr : Option Addr} {its : List It} {iv kv : Value} {isp ksp : List Value} {y z8 : It} (hT0 : (tb, 0, hd0 iso ctr) ∈ Z) (hT4 : (tb, 4, hd4 lf mn m) ∈ Z) (hmn : mn = ((m / 2 : Nat) : Int)) (hm3 : 3 ≤ m) (hm1 : m ≤ 1024) (ho : m % 2 = 1) {k : Nat} {ts : List (GT It k)}
    (w : Own 2 iv its.length ib io (its.flatMap enc) isp) (wK : Own 1 kv ((ts.map GT.id).map pp).length krb kro (((ts.map GT.id).map pp).flatMap fv) ksp) (gk : ∀ c ∈ ts, Gd iso c)
    (fx : PT.Fx m lo i ((its, ts.map GT.pt) : PT It (k + 1))) (h1 : 1 ≤ its.length) (hi : i ≤ its.length) (hsz : (PT.items (h := k + 1) (its, ts.map GT.pt)).length ≤ 4611686018427387903)
    (s : St h0 Z ((t14, 0, enc y) :: (t8, 0, enc z8) :: (pb, po, [ptr n 0]) :: (n, 0, [.int .u64 iso, .int .i64 (((PT.items (h := k + 1) (its, ts.map GT.pt)).length + 1 : Nat) : Int), iv, ptr kb 0]) :: (ib, io, its.flatMap enc ++ isp) :: (kb, 0, [kv]) :: (krb, kro, ((ts.map GT.id).map pp).flatMap fv ++ ksp) :: (ts.flatMap (GT.all enc) ++ E)) h)
    (H : ∀ (t' : GT It (k + 1)) h', t'.id = n → t'.pt.items = PT.items (h := k + 1) (its, ts.map GT.pt) → t'.pt.Fl m (its.length - 1) → Gd iso t' → t'.pt = PT.fix m ((its, ts.map GT.pt) : PT It (k + 1)) i → St h0 Z ((pb, po, [ptr n 0]) :: (t'.all enc ++ E)) h' → Q (.tuple #[av y, .bool true]) h') :
    BTreeG_I_delete.j4 (ptr tb 0) (ptr t8 0) (ptr n 0) (.int .i64 i) (ptr t14 0) h Q := by
  have hkl : ts.length = its.length + 1 := by have := fx.2.2.1; simpa using this
  have hlm : its.length ≤ m := fx.2.1
  have hKl : ((ts.map GT.id).map pp).length = ts.length := by rw [List.length_map, List.length_map]
  obtain ⟨c, hc⟩ : ∃ c, ts[i]? = some c := ⟨ts[i]'(by omega), List.getElem?_eq_getElem (by omega)⟩
  have hcm := List.mem_of_getElem? hc
  have gc := gk c hcm
  have hck : ((ts.map GT.id).map pp)[i]? = some (ptr c.id 0) := by rw [List.getElem?_map, List.getElem?_map, hc]; rfl
  have hcp : (ts.map GT.pt)[i]? = some c.pt := by rw [List.getElem?_map, hc]; rfl
  have fc : PT.Fl m (m / 2 - 1) c.pt := by have := fx.2.2.2 i c.pt hcp; rw [if_pos rfl] at this; exact this
  have hcl : c.nd.its.length ≤ m := (fl_its fc).2
  have hcl1 : m / 2 - 1 ≤ c.nd.its.length := (fl_its fc).1
  obtain ⟨a1, a2, a3, hct⟩ := topI (t := c)
  have wc := gc.own
  have hct' : (c.id, 0, [a1, a2, c.nd.iv, a3]) ∈ ts.flatMap (GT.all enc) := List.mem_flatMap.2 ⟨c, hcm, hct⟩
  obtain ⟨t0, ht1, gt, ht2, ht3, ht4⟩ := mk_inner (n := n) (kb := kb) (iso := iso) w wK hkl gk; subst hmn; unfold BTreeG_I_delete.j4; refine r_nil ?_; refine r_fld ?_; refine St.r_load0 s 3 rfl rfl ?_; refine r_sub1 (by omega) (by omega) ?_; refine r_nil ?_; refine r_fld ?_
  (refine St.r_store0 s 3 rfl (by simp) rfl ?_; intro h s; try simp only [List.set_cons_zero, List.set_cons_succ] at s)
  refine r_nil ?_; refine r_fld ?_; refine St.r_load0 s 3 rfl rfl ?_; refine r_nil ?_; refine St.r_load0 s 5 rfl rfl ?_
  (refine Own.idx (by assumption) rfl (by first | omega | (simp; done) | (simp; omega)) ?_)
  refine s.r_loadV 6 rfl (by assumption) ?_; refine r_nil ?_; refine r_fld ?_; refine s.r_loadD 7 (List.mem_append.2 (.inl hct')) rfl ?_; refine Own.lenV (by assumption) ?_; refine r_nil ?_; refine r_fld ?_; refine s.r_lz hT4 6 rfl rfl ?_; refine r_cmpI ?_; refine r_if (fun hlt => ?_) (fun hge => ?_)
  · have hlt : c.nd.its.length < m / 2 := by have := of_decide_eq_true hlt; omega
    have s0 : St h0 Z (t0.all enc ++ ((t14, 0, enc y) :: (t8, 0, enc z8) :: (pb, po, [ptr n 0]) :: E)) h := s.perm (by rw [ht4]; simp only [Nat.add_sub_cancel]; ((apply perm_rg; intro f; simp only [set_cons_zero, set_cons_succ, eraseIdx_cons_zero, eraseIdx_cons_succ, cons_append, nil_append, map_append, map_cons, map_nil, List.sum_append, List.sum_cons, List.sum_nil, map_flatMap, Nat.add_zero, Nat.zero_add]; ac_rfl)))
    rw [← ht1]; refine rebalance_ok hT0 hT4 hm3 hm1 ho t0 (by rw [ht2]; exact fx) (by rw [ht2]; exact h1) (by rw [ht2]; exact hi) (fun q hq => ?_) (by rw [ht2]; exact hsz) gt s0 fun t' h M s => ?_
    · rw [ht2] at hq
      have : q = c.pt := Option.some.inj (hq.symm.trans hcp)
      rw [this, GT.pt_its]; omega
    · obtain ⟨M1, M2, M3, M4, M5⟩ := M
      have s : St h0 Z ((t14, 0, enc y) :: (t8, 0, enc z8) :: (pb, po, [ptr n 0]) :: (t'.all enc ++ E)) h := s.perm (by ((apply perm_rg; intro f; simp only [set_cons_zero, set_cons_succ, eraseIdx_cons_zero, eraseIdx_cons_succ, cons_append, nil_append, map_append, map_cons, map_nil, List.sum_append, List.sum_cons, List.sum_nil, map_flatMap, Nat.add_zero, Nat.zero_add]; ac_rfl)))
      unfold BTreeG_I_delete.j5; refine St.r_loadN0 s 0 rfl (by simp) ?_
      (refine St.r_storeN0 s 1 rfl rfl (by simp) (enc1 _) ?_; intro h s; try simp only [List.set_cons_zero, List.set_cons_succ] at s)
      refine St.r_loadN0 s 1 rfl (by simp) ?_; rw [ht2] at M2 M3 M5; refine H t' h (M1.trans ht1) M2 M3 M4 (M5.trans ?_) (s.drop 2)
      exact (PT.fix_lt (t := ((its, ts.map GT.pt) : PT It (k + 1))) hcp (by rw [GT.pt_its]; exact hlt)).symm
  · have hge : m / 2 ≤ c.nd.its.length := by have := of_decide_eq_false hge; omega
    unfold BTreeG_I_delete.j5; refine St.r_loadN0 s 0 rfl (by simp) ?_
    (refine St.r_storeN0 s 1 rfl rfl (by simp) (enc1 _) ?_; intro h s; try simp only [List.set_cons_zero, List.set_cons_succ] at s)
    refine St.r_loadN0 s 1 rfl (by simp) ?_
    refine H t0 h ht1 (by rw [ht2]) ?_ gt (by
      rw [ht2]; exact (PT.fix_ge (t := ((its, ts.map GT.pt) : PT It (k + 1))) hcp (by rw [GT.pt_its]; omega)).symm) ((s.perm (E' := (t14, 0, enc y) :: (t8, 0, enc y) :: ((pb, po, [ptr n 0]) :: (t0.all enc ++ E))) ?_).drop 2)
    · rw [ht2]
      refine fl_inner (by omega) hlm (by rw [List.length_map]; exact hkl) fun q hq => ?_; obtain ⟨j, hj⟩ := List.getElem?_of_mem hq
      have := fx.2.2.2 j q hj
      split at this
      · rename_i e; subst e
        have : q = c.pt := Option.some.inj (hj.symm.trans hcp)
        rw [this]; exact fl_any fc (by rw [GT.pt_its]; exact hge)
      · exact this
    · rw [ht4]; simp only [Nat.add_sub_cancel]; ((apply perm_rg; intro f; simp only [set_cons_zero, set_cons_succ, eraseIdx_cons_zero, eraseIdx_cons_succ, cons_append, nil_append, map_append, map_cons, map_nil, List.sum_append, List.sum_cons, List.sum_nil, map_flatMap, Nat.add_zero, Nat.zero_add]; ac_rfl))
end Go.Proofs.Ytljecmjdmdjldaa.Gi
end
section
namespace Go.Proofs.Ytljecmjdmdjldaa.Gi
open Go.Hp Go.Proofs.Ytljecmjdmdjldaa
set_option maxHeartbeats 4000000
variable {h0 h : Heap} {Z E : List Rg} {Q : Value → Heap → Prop} {lt : It → It → Bool} {lf : Value}
attribute [local irreducible] load1 loadN store1 storeN fld nilck lenV idx arith cmpI notV extr mkSl app cpy slc ifV
def Taken (lt : It → It → Bool) (mx : Bool) (x : It) (l l' : List It) (y : It) (ok : Bool) : Prop :=
  if mx then ok = true ∧ l = l' ++ [y] else match lget lt l x with
    | none => ok = false ∧ y = emp ∧ l' = l
    | some z => ok = true ∧ y = z ∧ l' = ldel lt l x
def Exact (lt : It → It → Bool) (m : Nat) (mx : Bool) (x : It) {k : Nat} (t t' : PT It k) (y : It) (ok : Bool) : Prop := (t', if ok then some y else none) = t.del lt m mx x
def DelOk (lt : It → It → Bool) (h0 : Heap) (Z : List Rg) (tb m : Nat) (iso : Int) (k : Nat) : Prop := ∀ (t : GT It k) {h : Heap} {E : List Rg} {Q : Value → Heap → Prop} {pb po lo hb dp : Nat} {hv : Value} {hc : List Value} (mx : Bool) (x : It), Hn hv hb hc → dp + k ≤ 4611686018427387903 → t.pt.Fl m lo → Asc lt t.pt.items → t.pt.items.length ≤ 4611686018427387903 → Gd iso t → 1 ≤ t.nd.its.length →
  St h0 Z ((pb, po, [ptr t.id 0]) :: (hb, 0, hc) :: (t.all enc ++ E)) h →
  (∀ (t' : GT It k) hc' h' y ok, t'.id = t.id → Gd iso t' → t'.pt.Fl m (t.nd.its.length - if ok then 1 else 0) → Taken lt mx x t.pt.items t'.pt.items y ok → Exact lt m mx x t.pt t'.pt y ok → Hn hv hb hc' → St h0 Z ((pb, po, [ptr t.id 0]) :: (hb, 0, hc') :: (t'.all enc ++ E)) h' → Q (.tuple #[av y, .bool ok]) h') →
  BTreeG_I_delete.call #[ptr tb 0, ptr pb po, .bool mx, av x, hv, .int .i64 dp] h Q
theorem del_leaf (o : Swo lt) (hO : OrdC Z lf lt) {tb m : Nat} {iso mn : Int} {ctr : Option Addr} (hT0 : (tb, 0, hd0 iso ctr) ∈ Z) (hT4 : (tb, 4, hd4 lf mn m) ∈ Z) (hm1 : m ≤ 1024) : DelOk lt h0 Z tb m iso 0 := by
  intro (d : Nd It) h E Q pb po lo hb dp hv hc mx x hh hdk fl ha hsz g h1 s H; obtain ⟨own, n, is', cnt, its, iv, ib, io, isp, kb, kv', krb, kro, ksp⟩ := d
  have w : Own 2 iv its.length ib io (its.flatMap enc) isp := g.wf.1
  have hiso : is' = iso := g.iso
  have hcn : cnt = its.length := g.cn
  subst hiso; subst hcn
  have hl : its.length ≤ m := fl.2
  have h1 : 1 ≤ its.length := h1
  have ha : Asc lt its := ha
  have hi : ∀ {E h}, St h0 Z E h → cl h tb 0 = some (.int .u64 is') := fun s => by have := s.getZ hT0 (j := 0) (by simp); simpa using this
  have s : St h0 Z ((pb, po, [ptr n 0]) :: (hb, 0, hc) :: (n, 0, [.int .u64 is', .int .i64 its.length, iv, .pointer none]) :: (ib, io, its.flatMap enc ++ isp) :: E) h := s
  show BTreeG_I_delete.call #[ptr tb 0, ptr pb po, .bool mx, av x, hv, .int .i64 dp] h Q
  refine BTreeG_I_delete.body _ _ _ _ _ _ _ _ ?_; unfold BTreeG_I_delete.sh; refine St.r_box (cs := enc x) s fun t9 h s => ?_; refine s.r_alloc fun t12 h s => ?_; refine isoLoad_ok (n := n) (iso := is') (hi s) (by have := s.get (k := 2) (j := 0) rfl (by simp); simpa using this) (fun _ => s.cl0 4 rfl rfl) ?_
  have s : St h0 Z ((t12, 0, enc emp) :: (pb, po, [ptr n 0]) :: (n, 0, [.int .u64 is', .int .i64 its.length, iv, .pointer none]) :: (ib, io, its.flatMap enc ++ isp) :: (hb, 0, hc) :: (t9, 0, enc x) :: E) h := s.perm (by ((apply perm_rg; intro f; simp only [set_cons_zero, set_cons_succ, eraseIdx_cons_zero, eraseIdx_cons_succ, cons_append, nil_append, map_append, map_cons, map_nil, List.sum_append, List.sum_cons, List.sum_nil, map_flatMap, Nat.add_zero, Nat.zero_add]; ac_rfl)))
  have fin : ∀ (i : Nat) (hi : i < its.length) (hc : List Value) (h : Heap), Hn hv hb hc → St h0 Z ((t12, 0, enc emp) :: (pb, po, [ptr n 0]) :: (n, 0, [.int .u64 is', .int .i64 its.length, iv, .pointer none]) :: (ib, io, its.flatMap enc ++ isp) :: (hb, 0, hc) :: (t9, 0, enc x) :: E) h →
      Taken lt mx x its (its.eraseIdx i) its[i] true → Exact lt m mx x (k := 0) its (its.eraseIdx i) its[i] true → BTreeG_I_delete.j1 (ptr tb 0) (.bool mx) hv (.int .i64 dp) (ptr t9 0) (ptr t12 0) (ptr n 0) (.int .i64 i) (.bool true) h Q := by
    intro i hi hc h hh s hT hX; unfold BTreeG_I_delete.j1; refine node_leaf_ok (a := none) (s.cl0 2 rfl rfl) ?_; refine r_if (fun _ => ?_) (fun e => absurd e (by simp))
    refine r_if (fun _ => ?_) (fun e => absurd e (by simp))
    refine r_nil ?_; refine r_fld ?_; refine St.r_load0 s 2 rfl rfl ?_
    (refine Own.idx (by assumption) rfl (by first | omega | (simp; done) | (simp; omega)) ?_)
    (refine s.r_loadF encl 3 rfl (List.getElem?_eq_getElem (by first | omega | (simp; done) | (simp; omega))) ?_)
    refine s.r_alloc fun t17 h s => ?_
    (refine St.r_storeN0 s 0 rfl rfl (by simp) (enc1 _) ?_; intro h s; try simp only [List.set_cons_zero, List.set_cons_succ] at s)
    refine r_nil ?_; refine r_fld ?_; refine St.r_load0 s 3 rfl rfl ?_; refine w.slcLo encl (i := i) rfl (by omega) fun dd wd => ?_; refine r_nil ?_; refine r_fld ?_; refine St.r_load0 s 3 rfl rfl ?_; refine r_add1 (by omega) ?_; refine (w.rdl s 4 rfl).slcLo encl (i := i + 1) rfl (by omega) fun src rs => ?_; refine s.r_cpyF encl 4 (L := its) (M := its.drop (i + 1)) rfl wd (by simp; omega) rs rfl (fun y _ => enc1 y) fun h s => ?_; refine r_nil ?_; refine r_fld ?_; refine St.r_load0 s 3 rfl rfl ?_; refine r_nil ?_; refine r_fld ?_; refine St.r_load0 s 3 rfl rfl ?_; refine Own.lenV (by assumption) ?_; refine r_sub1 (by omega) (by omega) ?_; refine r_nil ?_; refine r_fld ?_; refine s.r_lzE hT4 3 (enc emp) rfl (by simp) rfl ?_
    (refine Own.idx (by assumption) rfl (by first | omega | (simp; done) | (simp; omega)) ?_)
    (refine s.r_storeF encl 4 rfl (by first | omega | (simp; done) | (simp; omega)) (enc1 _) ?_; intro h s; try simp only [List.set_cons_zero, List.set_cons_succ] at s)
    refine r_nil ?_; refine r_fld ?_; refine St.r_load0 s 3 rfl rfl ?_; refine r_nil ?_; refine r_fld ?_; refine St.r_load0 s 3 rfl rfl ?_; refine Own.lenV (by assumption) ?_; refine r_sub1 (by omega) (by omega) ?_; refine (w.list encl (del_len its emp hi)).slcHi encl rfl (by rw [del_len _ _ hi]; omega) fun iv2 w2 => ?_
    have s := s.del (f := enc) 4 rfl _ (del_erase its emp hi)
    rw [del_erase its emp hi] at w2; refine r_nil ?_; refine r_fld ?_
    (refine St.r_store0 s 3 rfl (by simp) (Own.one (by assumption)) ?_; intro h s; try simp only [List.set_cons_zero, List.set_cons_succ] at s)
    refine r_nil ?_; refine r_fld ?_; refine St.r_load0 s 3 rfl rfl ?_; refine r_sub1 (by omega) (by omega) ?_; refine r_nil ?_; refine r_fld ?_
    (refine St.r_store0 s 3 rfl (by simp) rfl ?_; intro h s; try simp only [List.set_cons_zero, List.set_cons_succ] at s)
    refine St.r_loadN0 s 0 rfl (by simp) ?_
    (refine St.r_storeN0 s 1 rfl rfl (by simp) (enc1 _) ?_; intro h s; try simp only [List.set_cons_zero, List.set_cons_succ] at s)
    refine St.r_loadN0 s 1 rfl (by simp) ?_
    have hel : (its.eraseIdx i).length = its.length - 1 := by rw [List.length_eraseIdx, if_pos hi]
    obtain ⟨t', ht1, gt, ht2, ht3, ht4⟩ := mk_leaf (iso := is') (n := n) w2; refine H t' hc h its[i] true ht1 gt ?_ ?_ ?_ hh ((s.perm (E' := (t17, 0, enc its[i]) :: (t12, 0, enc its[i]) :: (t9, 0, enc x) :: ((pb, po, [ptr n 0]) :: (hb, 0, hc) :: (t'.all enc ++ E))) ?_).drop 3)
    · rw [ht2]; exact fl_leaf (Nat.le_of_eq hel.symm) (by omega)
    · rw [ht2]; exact hT
    · rw [ht2]; exact hX
    · rw [ht4]
      rw [hel]
      ((apply perm_rg; intro f; simp only [set_cons_zero, set_cons_succ, eraseIdx_cons_zero, eraseIdx_cons_succ, cons_append, nil_append, map_append, map_cons, map_nil, List.sum_append, List.sum_cons, List.sum_nil, map_flatMap, Nat.add_zero, Nat.zero_add]; ac_rfl))
  refine r_if (fun hmx => ?_) (fun hmx => ?_)
  · subst hmx
    refine r_nil ?_; refine r_fld ?_; refine St.r_load0 s 2 rfl rfl ?_; refine Own.lenV (by assumption) ?_; refine r_sub1 (by omega) (by omega) ?_
    have hlast : its.eraseIdx (its.length - 1) = its.dropLast ∧ its[its.length - 1]'(by omega) = its.getLast (List.length_pos_iff.1 (by omega)) := by
      obtain ⟨R, z, e⟩ := last_of h1; subst e
      have := eraseIdx_at (P := R) (S := []) (y := z) rfl
      simp only [List.length_append, List.length_singleton, Nat.add_sub_cancel, this]
      simp
    refine fin (its.length - 1) (by omega) hc h hh s ?_ ?_
    · show _ ∧ _
      refine ⟨rfl, ?_⟩
      rw [hlast.1, hlast.2, List.dropLast_concat_getLast]
    · show (its.eraseIdx (its.length - 1), some _) = ((its.dropLast : List It), its.getLast?)
      rw [hlast.1, hlast.2, List.getLast?_eq_some_getLast]
  · subst hmx
    refine St.r_loadN0 s 5 rfl (by simp) ?_; refine find_ok o hO hh (by omega) (s.front 4 rfl) (s.clz hT4 2 rfl rfl) (c0 := .int .u64 is') (c1 := .int .i64 its.length) (iv := iv) (a := none) (List.mem_append_left _ (by simp)) (w.rdl s 3 rfl) ha (by omega) h1 fun hc h hh s => ?_
    have s : St h0 Z ((t12, 0, enc emp) :: (pb, po, [ptr n 0]) :: (n, 0, [.int .u64 is', .int .i64 its.length, iv, .pointer none]) :: (ib, io, its.flatMap enc ++ isp) :: (hb, 0, hc) :: (t9, 0, enc x) :: E) h := s.perm (by ((apply perm_rg; intro f; simp only [set_cons_zero, set_cons_succ, eraseIdx_cons_zero, eraseIdx_cons_succ, cons_append, nil_append, map_append, map_cons, map_nil, List.sum_append, List.sum_cons, List.sum_nil, map_flatMap, Nat.add_zero, Nat.zero_add]; ac_rfl)))
    refine r_ext rfl ?_; refine r_ext rfl ?_
    cases hg : lget lt its x with
    | some z =>
      obtain ⟨hp, hz, h3, h4⟩ := lget_some hg
      have e1 : ldel lt its x = its.eraseIdx (pos lt its x) := by rw [ldel_some hg, List.eraseIdx_eq_take_drop_succ]
      refine fin (pos lt its x) hp hc h hh s ?_ ?_
      · show (match lget lt its x with | none => _ | some z => _ : Prop)
        rw [hg]; exact ⟨rfl, hz, e1.symm⟩
      · show (its.eraseIdx (pos lt its x), some its[pos lt its x]) = (ldel lt its x, lget lt its x)
        rw [e1, hg, hz]
    | none =>
      unfold BTreeG_I_delete.j1; refine node_leaf_ok (a := none) (s.cl0 2 rfl rfl) ?_; refine r_if (fun _ => ?_) (fun e => absurd e (by simp))
      refine r_if (fun e => absurd e (by simp)) (fun _ => ?_)
      unfold BTreeG_I_delete.j6; refine r_nil ?_; refine r_fld ?_; refine s.r_lzE hT4 3 (enc emp) rfl (by simp) rfl ?_
      (refine St.r_storeN0 s 0 rfl rfl (by simp) (enc1 _) ?_; intro h s; try simp only [List.set_cons_zero, List.set_cons_succ] at s)
      refine St.r_loadN0 s 0 rfl (by simp) ?_; refine H _ hc h emp false rfl g (fl_any fl (Nat.le_refl its.length)) ?_ ?_ hh ((s.perm (E' := (t12, 0, enc emp) :: (t9, 0, enc x) :: (pb, po, [ptr n 0]) :: (hb, 0, hc) :: (n, 0, [.int .u64 is', .int .i64 its.length, iv, .pointer none]) :: (ib, io, its.flatMap enc ++ isp) :: E) (by ((apply perm_rg; intro f; simp only [set_cons_zero, set_cons_succ, eraseIdx_cons_zero, eraseIdx_cons_succ, cons_append, nil_append, map_append, map_cons, map_nil, List.sum_append, List.sum_cons, List.sum_nil, map_flatMap, Nat.add_zero, Nat.zero_add]; ac_rfl)))).drop 2)
      · show (match lget lt its x with | none => _ | some z => _ : Prop)
        rw [hg]; exact ⟨rfl, rfl, rfl⟩
      · show (its, none) = (ldel lt its x, lget lt its x)
        rw [hg, ldel_none hg]
theorem delOk_succ (o : Swo lt) (hO : OrdC Z lf lt) {tb m : Nat} {iso mn : Int} {ctr : Option Addr} (hT0 : (tb, 0, hd0 iso ctr) ∈ Z) (hT4 : (tb, 4, hd4 lf mn m) ∈ Z) (hmn : mn = ((m / 2 : Nat) : Int)) (hm3 : 3 ≤ m) (hm1 : m ≤ 1024) (ho : m % 2 = 1) {k : Nat} (ih : DelOk lt h0 Z tb m iso k) : DelOk lt h0 Z tb m iso (k + 1) := by
  intro t h E Q pb po lo hb dp hv hc0 mx x hh hdk fl ha hsz g h1 s H; obtain ⟨d, ts⟩ := t; obtain ⟨own, n, is', cnt, its, iv, ib, io, isp, kb, kv', krb, kro, ksp⟩ := d
  have w : Own 2 iv its.length ib io (its.flatMap enc) isp := g.own
  have wK : Own 1 kv' ((ts.map GT.id).map pp).length krb kro (((ts.map GT.id).map pp).flatMap fv) ksp := g.ownK
  have hiso : is' = iso := g.iso
  have hcn : cnt = (PT.items (h := k + 1) (its, ts.map GT.pt)).length := g.cn.1
  subst hiso
  have hl : its.length ≤ m := fl.2.1
  have h1 : 1 ≤ its.length := h1
  have hkl : ts.length = its.length + 1 := g.wf.2.2.1
  have hKl : ((ts.map GT.id).map pp).length = ts.length := by rw [List.length_map, List.length_map]
  have fl : PT.Fl m lo (h := k + 1) (its, ts.map GT.pt) := fl
  have ha : Asc lt (PT.items (h := k + 1) (its, ts.map GT.pt)) := ha
  have ha1 : Asc lt its := asc_of_sub ha (PT.its_sub1 ((its, ts.map GT.pt) : PT It (k + 1)))
  have hsz : (PT.items (h := k + 1) (its, ts.map GT.pt)).length ≤ 4611686018427387903 := hsz
  have hi : ∀ {E h}, St h0 Z E h → cl h tb 0 = some (.int .u64 is') := fun s => by have := s.getZ hT0 (j := 0) (by simp); simpa using this
  have s : St h0 Z ((pb, po, [ptr n 0]) :: (hb, 0, hc0) :: (((n, 0, [.int .u64 is', .int .i64 cnt, iv, ptr kb 0]) :: (ib, io, its.flatMap enc ++ isp) :: (kb, 0, [kv']) :: (krb, kro, ((ts.map GT.id).map pp).flatMap fv ++ ksp) :: ts.flatMap (GT.all enc)) ++ E)) h := by
    have e := all_eq (k := k + 1) ((⟨own, n, is', cnt, its, iv, ib, io, isp, kb, kv', krb, kro, ksp⟩ : Nd It), ts)
    rw [e] at s; exact s
  subst hcn
  have s : St h0 Z ((pb, po, [ptr n 0]) :: (hb, 0, hc0) :: (n, 0, [.int .u64 is', .int .i64 (PT.items (h := k + 1) (its, ts.map GT.pt)).length, iv, ptr kb 0]) :: (ib, io, its.flatMap enc ++ isp) :: (kb, 0, [kv']) :: (krb, kro, ((ts.map GT.id).map pp).flatMap fv ++ ksp) :: (ts.flatMap (GT.all enc) ++ E)) h := s
  have hkid : ∀ {i : Nat} {c : GT It k}, ts[i]? = some c → PT.Fl m (m / 2) c.pt ∧ Gd is' c ∧ 1 ≤ c.nd.its.length ∧ c.pt.items.length ≤ 4611686018427387903 ∧ Asc lt c.pt.items := fun {i c} hc => by
    have hcm := List.mem_of_getElem? hc
    have fc : PT.Fl m (m / 2) c.pt := fl.2.2.2 _ (List.mem_map.2 ⟨c, hcm, rfl⟩)
    refine ⟨fc, g.kid hcm, by have := (fl_its fc).1; omega, ?_, ?_⟩
    rotate_left
    · have hil := (List.getElem?_eq_some_iff.1 hc).1
      obtain ⟨q, hq, _, e⟩ := PT.around fl (i := i) (by show i ≤ its.length; omega)
      have hq : (ts.map GT.pt)[i]? = some q := hq
      rw [List.getElem?_map, hc] at hq
      have := Option.some.inj hq
      subst this
      have ha2 := ha
      rw [e] at ha2; exact (asc_app (asc_app ha2).2.1).1
    have e1 : (inter its ((ts.map GT.pt).map PT.items)).length = _ := inter_length _ _
    have e2 : (inter its ((ts.map GT.pt).map PT.items)).length ≤ 4611686018427387903 := hsz
    have e3 : c.pt.items.length ≤ (((ts.map GT.pt).map PT.items).map List.length).sum := mem_le_sum (by
      rw [List.map_map, List.map_map]; exact List.mem_map.2 ⟨c, hcm, rfl⟩)
    omega
  show BTreeG_I_delete.call #[ptr tb 0, ptr pb po, .bool mx, av x, hv, .int .i64 dp] h Q
  refine BTreeG_I_delete.body _ _ _ _ _ _ _ _ ?_; unfold BTreeG_I_delete.sh; refine St.r_box (cs := enc x) s fun t9 h s => ?_; refine s.r_alloc fun t12 h s => ?_; refine isoLoad_ok (n := n) (iso := is') (hi s) (by have := s.get (k := 2) (j := 0) rfl (by simp); simpa using this) (fun _ => s.cl0 4 rfl rfl) ?_
  -- behind the call below the kid
  have fin : ∀ {i : Nat} {c c' : GT It k} {y : It} {ok : Bool} {its' : List It} {t14 : Nat} {hc1 : List Value} {h : Heap}, ts[i]? = some c → c'.id = c.id → Gd is' c' → c'.pt.Fl m (c.nd.its.length - if ok then 1 else 0) → its'.length = its.length → Hn hv hb hc1 →
      Taken lt mx x (PT.items (h := k + 1) (its, ts.map GT.pt)) (PT.items (h := k + 1) (its', (ts.map GT.pt).set i c'.pt)) y ok →
      Exact lt m mx x (k := k + 1) (its, ts.map GT.pt) (if ok then PT.fix m ((its', (ts.map GT.pt).set i c'.pt) : PT It (k + 1)) i else (its', (ts.map GT.pt).set i c'.pt)) y ok →
      St h0 Z ((t14, 0, enc y) :: (t12, 0, enc emp) :: (pb, po, [ptr n 0]) :: (n, 0, [.int .u64 is', .int .i64 (PT.items (h := k + 1) (its, ts.map GT.pt)).length, iv, ptr kb 0]) :: (ib, io, its'.flatMap enc ++ isp) :: (kb, 0, [kv']) :: (krb, kro, (((ts.set i c').map GT.id).map pp).flatMap fv ++ ksp) :: ((ts.set i c').flatMap (GT.all enc) ++ ((hb, 0, hc1) :: (t9, 0, enc x) :: E))) h →
      BTreeG_I_delete.j3 (ptr tb 0) (ptr t12 0) (ptr n 0) (.int .i64 i) (ptr t14 0) (.bool ok) h Q := by
    intro i c c' y ok its' t14 hc1' h hc hid gc' fc' hil hh hT hX s; obtain ⟨fc, gc, hc1, _, _⟩ := hkid hc
    have hils : i < ts.length := (List.getElem?_eq_some_iff.1 hc).1
    have w' : Own 2 iv its'.length ib io (its'.flatMap enc) isp := w.list encl hil
    have wK' : Own 1 kv' (((ts.set i c').map GT.id).map pp).length krb kro ((((ts.set i c').map GT.id).map pp).flatMap fv) ksp := by rw [set_ids hc hid]; exact wK
    have gk' : ∀ q ∈ ts.set i c', Gd is' q := fun q hq => by
      rcases List.mem_or_eq_of_mem_set hq with e | e
      · exact g.kid e
      · rw [e]; exact gc'
    have ept : (ts.set i c').map GT.pt = (ts.map GT.pt).set i c'.pt := List.map_set ..
    rw [← ept] at hT hX
    have hcl := (fl_its fc).1
    unfold BTreeG_I_delete.j3; refine r_not ?_; refine r_if (fun hn => ?_) (fun hn => ?_)
    · have hn : ok = false := by simpa using hn
      subst hn; refine r_nil ?_; refine r_fld ?_; refine s.r_lzE hT4 3 (enc emp) rfl (by simp) rfl ?_
      (refine St.r_storeN0 s 1 rfl rfl (by simp) (enc1 _) ?_; intro h s; try simp only [List.set_cons_zero, List.set_cons_succ] at s)
      refine St.r_loadN0 s 1 rfl (by simp) ?_
      cases mx with
      | true => exact absurd hT.1 (by decide)
      | false =>
        have hT0' : (match lget lt (PT.items (h := k + 1) (its, ts.map GT.pt)) x with | none => _ | some z => _ : Prop) := hT
        cases hg : lget lt (PT.items (h := k + 1) (its, ts.map GT.pt)) x with
        | some z => rw [hg] at hT0'; exact absurd hT0'.1 (by decide)
        | none =>
          rw [hg] at hT0'; obtain ⟨t', ht1, gt, ht2, ht3, ht4⟩ := mk_inner (n := n) (kb := kb) (iso := is') w' wK' (by rw [List.length_set]; omega) gk'
          have e4 : (PT.items (h := k + 1) (its', (ts.set i c').map GT.pt)).length = (PT.items (h := k + 1) (its, ts.map GT.pt)).length := congrArg List.length hT0'.2.2
          refine H t' hc1' h emp false ht1 gt ?_ (by rw [ht2]; show (match lget lt (PT.items (h := k + 1) (its, ts.map GT.pt)) x with | none => _ | some z => _ : Prop); rw [hg]; exact ⟨rfl, rfl, hT0'.2.2⟩) (by rw [ht2]; exact hX) hh
            ((s.perm (E' := (t14, 0, enc y) :: (t12, 0, enc emp) :: (t9, 0, enc x) :: ((pb, po, [ptr n 0]) :: (hb, 0, hc1') :: (t'.all enc ++ E))) (by rw [ht4, e4]; ((apply perm_rg; intro f; simp only [set_cons_zero, set_cons_succ, eraseIdx_cons_zero, eraseIdx_cons_succ, cons_append, nil_append, map_append, map_cons, map_nil, List.sum_append, List.sum_cons, List.sum_nil, map_flatMap, Nat.add_zero, Nat.zero_add]; ac_rfl)))).drop 3)
          rw [ht2]; refine fl_inner (by rw [hil]; exact Nat.le_refl _) (by omega) (by rw [List.length_map, List.length_set]; omega) fun q hq => ?_; rw [ept] at hq
          rcases List.mem_or_eq_of_mem_set hq with e | e
          · exact fl.2.2.2 q e
          · rw [e]; exact fc'.mono (by simp; omega)
    · have hn : ok = true := by simpa using hn
      subst hn
      have hcnt : (PT.items (h := k + 1) (its, ts.map GT.pt)).length = (PT.items (h := k + 1) (its', (ts.set i c').map GT.pt)).length + 1 := by
        cases mx with
        | true => have := congrArg List.length hT.2; rw [List.length_append] at this; exact this
        | false =>
          have hT0' : (match lget lt (PT.items (h := k + 1) (its, ts.map GT.pt)) x with | none => _ | some z => _ : Prop) := hT
          have hd := ldel_len (lt := lt) (PT.items (h := k + 1) (its, ts.map GT.pt)) x
          cases hg : lget lt (PT.items (h := k + 1) (its, ts.map GT.pt)) x with
          | none => rw [hg] at hT0'; exact absurd hT0'.1 (by decide)
          | some z =>
            rw [hg] at hT0' hd; rw [hT0'.2.2]
            simpa using hd.symm
      rw [hcnt] at s; refine del_after (i := i) hT0 hT4 hmn hm3 hm1 ho w' wK' gk' (lo := lo) (by rw [ept]; exact fx_set fl (fc'.mono (by simp; omega)) its' hil) (by omega) (by omega) (by omega) s fun t' h' e1 e2 e3 g' e5 s => ?_; refine H t' hc1' h' y true e1 g' (by rw [hil] at e3; exact e3) ?_ ?_ hh ((s.perm (E' := (t9, 0, enc x) :: ((pb, po, [ptr n 0]) :: (hb, 0, hc1') :: (t'.all enc ++ E))) (by ((apply perm_rg; intro f; simp only [set_cons_zero, set_cons_succ, eraseIdx_cons_zero, eraseIdx_cons_succ, cons_append, nil_append, map_append, map_cons, map_nil, List.sum_append, List.sum_cons, List.sum_nil, map_flatMap, Nat.add_zero, Nat.zero_add]; ac_rfl)))).drop 1)
      · rw [e2]; exact hT
      · rw [e5]; exact hX
  have s : St h0 Z ((t12, 0, enc emp) :: (pb, po, [ptr n 0]) :: (n, 0, [.int .u64 is', .int .i64 (PT.items (h := k + 1) (its, ts.map GT.pt)).length, iv, ptr kb 0]) :: (ib, io, its.flatMap enc ++ isp) :: (kb, 0, [kv']) :: (krb, kro, ((ts.map GT.id).map pp).flatMap fv ++ ksp) :: (ts.flatMap (GT.all enc) ++ ((hb, 0, hc0) :: (t9, 0, enc x) :: E))) h := s.perm (by ((apply perm_rg; intro f; simp only [set_cons_zero, set_cons_succ, eraseIdx_cons_zero, eraseIdx_cons_succ, cons_append, nil_append, map_append, map_cons, map_nil, List.sum_append, List.sum_cons, List.sum_nil, map_flatMap, Nat.add_zero, Nat.zero_add]; ac_rfl)))
  -- a call that takes out the last item below a kid: without a hint
  have last : ∀ {i : Nat} {c : GT It k} {R : List Rg} {h : Heap} {Q : Value → Heap → Prop}, ts[i]? = some c → St h0 Z (R ++ ((krb, kro, ((ts.map GT.id).map pp).flatMap fv ++ ksp) :: (ts.flatMap (GT.all enc) ++ ((hb, 0, hc0) :: (t9, 0, enc x) :: E)))) h →
      (∀ (c' : GT It k) h' y, c'.id = c.id → Gd is' c' → c'.pt.Fl m (c.nd.its.length - 1) → c.pt.items = c'.pt.items ++ [y] → (c'.pt, some y) = c.pt.del lt m true emp → St h0 Z (R ++ ((krb, kro, (((ts.set i c').map GT.id).map pp).flatMap fv ++ ksp) :: ((ts.set i c').flatMap (GT.all enc) ++ ((hb, 0, hc0) :: (t9, 0, enc x) :: E)))) h' → Q (.tuple #[av y, .bool true]) h') →
      BTreeG_I_delete.call #[ptr tb 0, ptr krb (kro + i * 1), .bool true, av emp, .pointer none, .int .i64 0] h Q := fun {i} {c} {R} {h} {Q} hc s K => by
    obtain ⟨fc, gc, hc1, hcsz, hac⟩ := hkid hc; rw [← fpv] at s; obtain ⟨E', sk, back⟩ := lend_kidH (r := (0, 0, [])) (A := R) (E := (hb, 0, hc0) :: (t9, 0, enc x) :: E) (krb := krb) (kro := kro) (ksp := ksp) (kb := kb) (kv := kv') hc (s.empty 0 0); refine ih c (dp := 0) true emp Hn.none (by omega) fc hac hcsz gc hc1 sk fun c' hc' h' y ok hid gc' fc' hT hX hh s => ?_
    have s := back c' _ h' hid s
    rw [fpv] at s; obtain ⟨rfl, hT2⟩ : ok = true ∧ c.pt.items = c'.pt.items ++ [y] := hT; exact K c' h' y hid gc' fc' hT2 hX (s.tail rfl)
  refine r_if (fun hmx => ?_) (fun hmx => ?_)
  · subst hmx
    refine r_nil ?_; refine r_fld ?_; refine St.r_load0 s 2 rfl rfl ?_; refine Own.lenV (by assumption) ?_; refine r_sub1 (by omega) (by omega) ?_; unfold BTreeG_I_delete.j1; refine node_leaf_ok (a := some ⟨kb, 0, none⟩) (s.cl0 2 rfl rfl) ?_; refine r_if (fun e => absurd e (by simp)) (fun _ => ?_)
    unfold BTreeG_I_delete.j2; refine s.r_alloc fun t14 h s => ?_; refine r_if (fun _ => ?_) (fun e => absurd e (by simp))
    refine r_if (fun _ => ?_) (fun e => absurd e (by simp))
    refine r_add (z := ((its.length : Nat) : Int)) (by rw [i64w (by omega) (by omega)]; omega) ?_; obtain ⟨cp, hcp, _, hdel⟩ := PT.del_last fl; obtain ⟨c, hc⟩ : ∃ c, ts[its.length]? = some c := ⟨ts[its.length]'(by omega), List.getElem?_eq_getElem (by omega)⟩
    have : cp = c.pt := by
      have hcp : (ts.map GT.pt)[its.length]? = some cp := hcp
      rw [List.getElem?_map, hc] at hcp; exact (Option.some.inj hcp).symm
    subst this; refine r_nil ?_; refine r_fld ?_; refine St.r_load0 s 3 rfl rfl ?_; refine r_nil ?_; refine St.r_load0 s 5 rfl rfl ?_
    (refine Own.idx (by assumption) rfl (by first | omega | (simp; done) | (simp; omega)) ?_)
    refine r_nil ?_; refine r_fld ?_; refine s.r_lzE hT4 3 (enc emp) rfl (by simp) rfl ?_; refine last (R := (t14, 0, enc emp) :: (t12, 0, enc emp) :: (pb, po, [ptr n 0]) :: (n, 0, [.int .u64 is', .int .i64 (PT.items (h := k + 1) (its, ts.map GT.pt)).length, iv, ptr kb 0]) :: (ib, io, its.flatMap enc ++ isp) :: (kb, 0, [kv']) :: []) hc s fun c' h' y hid gc' fc' hT2 hX s => ?_
    have s : St h0 Z ((t14, 0, enc emp) :: (t12, 0, enc emp) :: (pb, po, [ptr n 0]) :: (n, 0, [.int .u64 is', .int .i64 (PT.items (h := k + 1) (its, ts.map GT.pt)).length, iv, ptr kb 0]) :: (ib, io, its.flatMap enc ++ isp) :: (kb, 0, [kv']) :: (krb, kro, (((ts.set its.length c').map GT.id).map pp).flatMap fv ++ ksp) :: ((ts.set its.length c').flatMap (GT.all enc) ++ ((hb, 0, hc0) :: (t9, 0, enc x) :: E))) h' := s
    refine r_ext rfl ?_; refine r_ext rfl ?_
    (refine St.r_storeN0 s 0 rfl rfl (by simp) (enc1 _) ?_; intro h s; try simp only [List.set_cons_zero, List.set_cons_succ] at s)
    refine fin (ok := true) hc hid gc' fc' rfl hh ⟨rfl, ?_⟩ ?_ s
    · exact hdel c'.pt y hT2
    · unfold Exact
      rw [PT.del_true (t := ((its, ts.map GT.pt) : PT It (k + 1))) (x' := emp) hcp, ← hX]
      rfl
  · subst hmx
    refine St.r_loadN0 (s.perm (E' := (t9, 0, enc x) :: (t12, 0, enc emp) :: (pb, po, [ptr n 0]) :: (n, 0, [.int .u64 is', .int .i64 (PT.items (h := k + 1) (its, ts.map GT.pt)).length, iv, ptr kb 0]) :: (ib, io, its.flatMap enc ++ isp) :: (kb, 0, [kv']) :: (krb, kro, ((ts.map GT.id).map pp).flatMap fv ++ ksp) :: (ts.flatMap (GT.all enc) ++ ((hb, 0, hc0) :: E))) (by ((apply perm_rg; intro f; simp only [set_cons_zero, set_cons_succ, eraseIdx_cons_zero, eraseIdx_cons_succ, cons_append, nil_append, map_append, map_cons, map_nil, List.sum_append, List.sum_cons, List.sum_nil, map_flatMap, Nat.add_zero, Nat.zero_add]; ac_rfl)))) 0 rfl (by simp) ?_
    have s : St h0 Z ((hb, 0, hc0) :: (n, 0, [.int .u64 is', .int .i64 (PT.items (h := k + 1) (its, ts.map GT.pt)).length, iv, ptr kb 0]) :: (ib, io, its.flatMap enc ++ isp) :: (kb, 0, [kv']) :: (t12, 0, enc emp) :: (pb, po, [ptr n 0]) :: (krb, kro, ((ts.map GT.id).map pp).flatMap fv ++ ksp) :: (ts.flatMap (GT.all enc) ++ ((t9, 0, enc x) :: E))) h := s.perm (by ((apply perm_rg; intro f; simp only [set_cons_zero, set_cons_succ, eraseIdx_cons_zero, eraseIdx_cons_succ, cons_append, nil_append, map_append, map_cons, map_nil, List.sum_append, List.sum_cons, List.sum_nil, map_flatMap, Nat.add_zero, Nat.zero_add]; ac_rfl)))
    refine find_ok o hO hh (by omega) s (s.clz hT4 2 rfl rfl) (c0 := .int .u64 is') (c1 := .int .i64 (PT.items (h := k + 1) (its, ts.map GT.pt)).length) (iv := iv) (a := some ⟨kb, 0, none⟩) (List.mem_append_left _ (by simp)) (w.rdl s 2 rfl) ha1 (by omega) h1 fun hc1 h hh s => ?_; clear last
    have s : St h0 Z ((t12, 0, enc emp) :: (pb, po, [ptr n 0]) :: (n, 0, [.int .u64 is', .int .i64 (PT.items (h := k + 1) (its, ts.map GT.pt)).length, iv, ptr kb 0]) :: (ib, io, its.flatMap enc ++ isp) :: (kb, 0, [kv']) :: (krb, kro, ((ts.map GT.id).map pp).flatMap fv ++ ksp) :: (ts.flatMap (GT.all enc) ++ ((hb, 0, hc1) :: (t9, 0, enc x) :: E))) h := s.perm (by ((apply perm_rg; intro f; simp only [set_cons_zero, set_cons_succ, eraseIdx_cons_zero, eraseIdx_cons_succ, cons_append, nil_append, map_append, map_cons, map_nil, List.sum_append, List.sum_cons, List.sum_nil, map_flatMap, Nat.add_zero, Nat.zero_add]; ac_rfl)))
    have last : ∀ {i : Nat} {c : GT It k} {R : List Rg} {h : Heap} {Q : Value → Heap → Prop}, ts[i]? = some c → St h0 Z (R ++ ((krb, kro, ((ts.map GT.id).map pp).flatMap fv ++ ksp) :: (ts.flatMap (GT.all enc) ++ ((hb, 0, hc1) :: (t9, 0, enc x) :: E)))) h →
        (∀ (c' : GT It k) h' y, c'.id = c.id → Gd is' c' → c'.pt.Fl m (c.nd.its.length - 1) → c.pt.items = c'.pt.items ++ [y] → (c'.pt, some y) = c.pt.del lt m true emp → St h0 Z (R ++ ((krb, kro, (((ts.set i c').map GT.id).map pp).flatMap fv ++ ksp) :: ((ts.set i c').flatMap (GT.all enc) ++ ((hb, 0, hc1) :: (t9, 0, enc x) :: E)))) h' → Q (.tuple #[av y, .bool true]) h') →
        BTreeG_I_delete.call #[ptr tb 0, ptr krb (kro + i * 1), .bool true, av emp, .pointer none, .int .i64 0] h Q := fun {i} {c} {R} {h} {Q} hc s K => by
      obtain ⟨fc, gc, hc2, hcsz, hac⟩ := hkid hc; rw [← fpv] at s; obtain ⟨E', sk, back⟩ := lend_kidH (r := (0, 0, [])) (A := R) (E := (hb, 0, hc1) :: (t9, 0, enc x) :: E) (krb := krb) (kro := kro) (ksp := ksp) (kb := kb) (kv := kv') hc (s.empty 0 0); refine ih c (dp := 0) true emp Hn.none (by omega) fc hac hcsz gc hc2 sk fun c' hc' h' y ok hid gc' fc' hT hX hh s => ?_
      have s := back c' _ h' hid s
      rw [fpv] at s; obtain ⟨rfl, hT2⟩ : ok = true ∧ c.pt.items = c'.pt.items ++ [y] := hT; exact K c' h' y hid gc' fc' hT2 hX (s.tail rfl)
    refine r_ext rfl ?_; refine r_ext rfl ?_; unfold BTreeG_I_delete.j1; refine node_leaf_ok (a := some ⟨kb, 0, none⟩) (s.cl0 2 rfl rfl) ?_; refine r_if (fun e => absurd e (by simp)) (fun _ => ?_)
    unfold BTreeG_I_delete.j2; refine s.r_alloc fun t14 h s => ?_
    have hple := pos_le (lt := lt) its x
    have s : St h0 Z ((t14, 0, enc emp) :: (t12, 0, enc emp) :: (pb, po, [ptr n 0]) :: (n, 0, [.int .u64 is', .int .i64 (PT.items (h := k + 1) (its, ts.map GT.pt)).length, iv, ptr kb 0]) :: (ib, io, its.flatMap enc ++ isp) :: (kb, 0, [kv']) :: (krb, kro, ((ts.map GT.id).map pp).flatMap fv ++ ksp) :: (ts.flatMap (GT.all enc) ++ ((hb, 0, hc1) :: (t9, 0, enc x) :: E))) h := s
    obtain ⟨c, hc⟩ : ∃ c, ts[pos lt its x]? = some c := ⟨ts[pos lt its x]'(by omega), List.getElem?_eq_getElem (by omega)⟩
    have hcp : (ts.map GT.pt)[pos lt its x]? = some c.pt := by rw [List.getElem?_map, hc]; rfl
    obtain ⟨fc, gc, hc2, hcsz, hac⟩ := hkid hc
    cases hg : lget lt its x with
    | some z =>
      obtain ⟨hp, hz, h3, h4⟩ := lget_some hg; obtain ⟨cp, hcp2, _, _, hgt, hdel⟩ := PT.del_own o fl ha hg
      have hgt : lget lt (PT.items (h := k + 1) (its, ts.map GT.pt)) x = some z := hgt
      have : cp = c.pt := Option.some.inj (hcp2.symm.trans hcp)
      subst this
      have hpz : its[pos lt its x]? = some z := by rw [List.getElem?_eq_getElem hp, hz]
      have hT2 : ∀ (c' : GT It k) y, c.pt.items = c'.pt.items ++ [y] → Taken lt false x (PT.items (h := k + 1) (its, ts.map GT.pt)) (PT.items (h := k + 1) (its.set (pos lt its x) y, (ts.map GT.pt).set (pos lt its x) c'.pt)) z true := fun c' y e => by
        show (match lget lt (PT.items (h := k + 1) (its, ts.map GT.pt)) x with | none => _ | some z => _ : Prop)
        rw [hgt]; exact ⟨rfl, rfl, hdel c'.pt y e⟩
      have hX2 : ∀ (c' : GT It k) y, (c'.pt, some y) = c.pt.del lt m true emp → Exact lt m false x (k := k + 1) (its, ts.map GT.pt) (PT.fix m ((its.set (pos lt its x) y, (ts.map GT.pt).set (pos lt its x) c'.pt) : PT It (k + 1)) (pos lt its x)) z true := fun c' y e => by
        unfold Exact; rw [PT.del_own' (t := ((its, ts.map GT.pt) : PT It (k + 1))) (x' := emp) hg hcp, ← e]
        rfl
      refine r_if (fun _ => ?_) (fun e => absurd e (by simp))
      refine r_if (fun e => absurd e (by simp)) (fun _ => ?_)
      refine r_nil ?_; refine r_fld ?_; refine St.r_load0 s 3 rfl rfl ?_
      (refine Own.idx (by assumption) rfl (by first | omega | (simp; done) | (simp; omega)) ?_)
      refine s.r_loadF encl 4 rfl (by assumption) ?_
      (refine St.r_storeN0 s 0 rfl rfl (by simp) (enc1 _) ?_; intro h s; try simp only [List.set_cons_zero, List.set_cons_succ] at s)
      refine r_nil ?_; refine r_fld ?_; refine St.r_load0 s 3 rfl rfl ?_; refine r_nil ?_; refine St.r_load0 s 5 rfl rfl ?_
      (refine Own.idx (by assumption) rfl (by first | omega | (simp; done) | (simp; omega)) ?_)
      refine r_nil ?_; refine r_fld ?_; refine s.r_lzE hT4 3 (enc emp) rfl (by simp) rfl ?_
      constructor
      · refine last (R := (t14, 0, enc z) :: (t12, 0, enc emp) :: (pb, po, [ptr n 0]) :: (n, 0, [.int .u64 is', .int .i64 (PT.items (h := k + 1) (its, ts.map GT.pt)).length, iv, ptr kb 0]) :: (ib, io, its.flatMap enc ++ isp) :: (kb, 0, [kv']) :: []) hc s fun c' h' y hid gc' fc' hT3 hX s => ?_
        have s : St h0 Z ((t14, 0, enc z) :: (t12, 0, enc emp) :: (pb, po, [ptr n 0]) :: (n, 0, [.int .u64 is', .int .i64 (PT.items (h := k + 1) (its, ts.map GT.pt)).length, iv, ptr kb 0]) :: (ib, io, its.flatMap enc ++ isp) :: (kb, 0, [kv']) :: (krb, kro, (((ts.set (pos lt its x) c').map GT.id).map pp).flatMap fv ++ ksp) :: ((ts.set (pos lt its x) c').flatMap (GT.all enc) ++ ((hb, 0, hc1) :: (t9, 0, enc x) :: E))) h' := s
        refine r_ext rfl ?_; refine r_ext rfl ?_; refine s.r_alloc fun t16 h s => ?_
        (refine St.r_storeN0 s 0 rfl rfl (by simp) (enc1 _) ?_; intro h s; try simp only [List.set_cons_zero, List.set_cons_succ] at s)
        refine r_nil ?_; refine r_fld ?_; refine St.r_load0 s 4 rfl rfl ?_; refine St.r_loadN0 s 0 rfl (by simp) ?_
        (refine Own.idx (by assumption) rfl (by first | omega | (simp; done) | (simp; omega)) ?_)
        (refine s.r_storeF encl 5 rfl (by first | omega | (simp; done) | (simp; omega)) (enc1 _) ?_; intro h s; try simp only [List.set_cons_zero, List.set_cons_succ] at s)
        exact fin (ok := true) hc hid gc' fc' (List.length_set ..) hh (hT2 c' y hT3) (hX2 c' y hX) (s.drop 1)
      · refine s.r_alloc fun t16 h s => ?_
        refine ⟨by exact St.r_still0 s 4 rfl rfl, by exact St.r_still0 s 6 rfl rfl, ⟨_, _, rfl, rfl, s.rdZ hT4 (j := 3) (n := 2) (by simp)⟩, ?_⟩
        refine last (R := (t16, 0, enc emp) :: (t14, 0, enc z) :: (t12, 0, enc emp) :: (pb, po, [ptr n 0]) :: (n, 0, [.int .u64 is', .int .i64 (PT.items (h := k + 1) (its, ts.map GT.pt)).length, iv, ptr kb 0]) :: (ib, io, its.flatMap enc ++ isp) :: (kb, 0, [kv']) :: []) hc s fun c' h' y hid gc' fc' hT3 hX s => ?_
        have s : St h0 Z ((t16, 0, enc emp) :: (t14, 0, enc z) :: (t12, 0, enc emp) :: (pb, po, [ptr n 0]) :: (n, 0, [.int .u64 is', .int .i64 (PT.items (h := k + 1) (its, ts.map GT.pt)).length, iv, ptr kb 0]) :: (ib, io, its.flatMap enc ++ isp) :: (kb, 0, [kv']) :: (krb, kro, (((ts.set (pos lt its x) c').map GT.id).map pp).flatMap fv ++ ksp) :: ((ts.set (pos lt its x) c').flatMap (GT.all enc) ++ ((hb, 0, hc1) :: (t9, 0, enc x) :: E))) h' := s
        refine r_ext rfl ?_; refine r_ext rfl ?_
        (refine St.r_storeN0 s 0 rfl rfl (by simp) (enc1 _) ?_; intro h s; try simp only [List.set_cons_zero, List.set_cons_succ] at s)
        refine r_nil ?_; refine r_fld ?_; refine St.r_load0 s 4 rfl rfl ?_; refine St.r_loadN0 s 0 rfl (by simp) ?_
        (refine Own.idx (by assumption) rfl (by first | omega | (simp; done) | (simp; omega)) ?_)
        (refine s.r_storeF encl 5 rfl (by first | omega | (simp; done) | (simp; omega)) (enc1 _) ?_; intro h s; try simp only [List.set_cons_zero, List.set_cons_succ] at s)
        exact fin (ok := true) hc hid gc' fc' (List.length_set ..) hh (hT2 c' y hT3) (hX2 c' y hX) (s.drop 1)
    | none =>
      obtain ⟨cp, hcp2, _, _, hgt, hdel⟩ := PT.del_kid o fl ha hg
      have hgt : lget lt (PT.items (h := k + 1) (its, ts.map GT.pt)) x = lget lt cp.items x := hgt
      have : cp = c.pt := Option.some.inj (hcp2.symm.trans hcp)
      subst this; refine r_if (fun e => absurd e (by simp)) (fun _ => ?_)
      refine r_nil ?_; refine r_fld ?_; refine St.r_load0 s 3 rfl rfl ?_; refine r_nil ?_; refine St.r_load0 s 5 rfl rfl ?_; refine wK.idx (n := pos lt its x) rfl (by omega) ?_; refine St.r_loadN0 (s.perm (E' := (t9, 0, enc x) :: (t14, 0, enc emp) :: (t12, 0, enc emp) :: (pb, po, [ptr n 0]) :: (n, 0, [.int .u64 is', .int .i64 (PT.items (h := k + 1) (its, ts.map GT.pt)).length, iv, ptr kb 0]) :: (ib, io, its.flatMap enc ++ isp) :: (kb, 0, [kv']) :: (krb, kro, ((ts.map GT.id).map pp).flatMap fv ++ ksp) :: (ts.flatMap (GT.all enc) ++ ((hb, 0, hc1) :: E))) (by ((apply perm_rg; intro f; simp only [set_cons_zero, set_cons_succ, eraseIdx_cons_zero, eraseIdx_cons_succ, cons_append, nil_append, map_append, map_cons, map_nil, List.sum_append, List.sum_cons, List.sum_nil, map_flatMap, Nat.add_zero, Nat.zero_add]; ac_rfl)))) 0 rfl (by simp) ?_; refine r_add1 (by omega) ?_; rw [← fpv] at s; obtain ⟨E', sk, back⟩ := lend_kidH (r := (hb, 0, hc1)) (A := (t14, 0, enc emp) :: (t12, 0, enc emp) :: (pb, po, [ptr n 0]) :: (n, 0, [.int .u64 is', .int .i64 (PT.items (h := k + 1) (its, ts.map GT.pt)).length, iv, ptr kb 0]) :: (ib, io, its.flatMap enc ++ isp) :: (kb, 0, [kv']) :: []) (E := (t9, 0, enc x) :: E) (krb := krb) (kro := kro) (ksp := ksp) (kb := kb) (kv := kv') hc (s.perm (by ((apply perm_rg; intro f; simp only [set_cons_zero, set_cons_succ, eraseIdx_cons_zero, eraseIdx_cons_succ, cons_append, nil_append, map_append, map_cons, map_nil, List.sum_append, List.sum_cons, List.sum_nil, map_flatMap, Nat.add_zero, Nat.zero_add]; ac_rfl)))); refine ih c (dp := dp + 1) false x hh (by omega) fc hac hcsz gc hc2 sk fun c' hc3 h' y ok hid gc' fc' hT hX hh s => ?_
      have s := back c' _ h' hid s
      have s : St h0 Z ((t14, 0, enc emp) :: (t12, 0, enc emp) :: (pb, po, [ptr n 0]) :: (n, 0, [.int .u64 is', .int .i64 (PT.items (h := k + 1) (its, ts.map GT.pt)).length, iv, ptr kb 0]) :: (ib, io, its.flatMap enc ++ isp) :: (kb, 0, [kv']) :: (krb, kro, ((ts.set (pos lt its x) c').map GT.id).flatMap fp ++ ksp) :: ((ts.set (pos lt its x) c').flatMap (GT.all enc) ++ ((hb, 0, hc3) :: (t9, 0, enc x) :: E))) h' := s.perm (by ((apply perm_rg; intro f; simp only [set_cons_zero, set_cons_succ, eraseIdx_cons_zero, eraseIdx_cons_succ, cons_append, nil_append, map_append, map_cons, map_nil, List.sum_append, List.sum_cons, List.sum_nil, map_flatMap, Nat.add_zero, Nat.zero_add]; ac_rfl)))
      rw [fpv] at s; refine r_ext rfl ?_; refine r_ext rfl ?_
      (refine St.r_storeN0 s 0 rfl rfl (by simp) (enc1 _) ?_; intro h s; try simp only [List.set_cons_zero, List.set_cons_succ] at s)
      have hX : (c'.pt, if ok then some y else none) = c.pt.del lt m false x := hX
      refine fin (ok := ok) hc hid gc' fc' rfl hh ?_ ?_ s
      · have hT : (match lget lt c.pt.items x with | none => _ | some z => _ : Prop) := hT
        show (match lget lt (PT.items (h := k + 1) (its, ts.map GT.pt)) x with | none => _ | some z => _ : Prop)
        rw [hgt]
        cases hg2 : lget lt c.pt.items x with
        | none =>
          rw [hg2] at hT; refine ⟨hT.1, hT.2.1, ?_⟩
          exact (hdel c'.pt (by rw [hT.2.2, ldel_none hg2])).trans (ldel_none (hgt.trans hg2))
        | some z =>
          rw [hg2] at hT; exact ⟨hT.1, hT.2.1, hdel c'.pt hT.2.2⟩
      · unfold Exact
        rw [PT.del_kid' (t := ((its, ts.map GT.pt) : PT It (k + 1))) hg hcp, ← hX]
        cases ok with
        | true => rfl
        | false =>
          have e1 : c'.pt = c.pt := by
            have e2 := PT.del_none (lt := lt) (m := m) (x := x) (t := c.pt) (by rw [← hX]; rfl)
            rw [← hX] at e2; exact e2
          show ((its, (ts.map GT.pt).set (pos lt its x) c'.pt), none) = ((its, ts.map GT.pt), none)
          rw [e1]
          congr 2
          obtain ⟨hl3, he3⟩ := List.getElem?_eq_some_iff.1 hcp; rw [← he3, List.set_getElem_self]
theorem delOk_all (o : Swo lt) (hO : OrdC Z lf lt) {tb m : Nat} {iso mn : Int} {ctr : Option Addr} (hT0 : (tb, 0, hd0 iso ctr) ∈ Z) (hT4 : (tb, 4, hd4 lf mn m) ∈ Z) (hmn : mn = ((m / 2 : Nat) : Int)) (hm3 : 3 ≤ m) (hm1 : m ≤ 1024) (ho : m % 2 = 1) : ∀ k, DelOk lt h0 Z tb m iso k
  | 0 => del_leaf o hO hT0 hT4 hm1
  | k + 1 => delOk_succ o hO hT0 hT4 hmn hm3 hm1 ho (delOk_all o hO hT0 hT4 hmn hm3 hm1 ho k)
end Go.Proofs.Ytljecmjdmdjldaa.Gi
end
section
namespace Go.Proofs.Ytljecmjdmdjldaa.Gi
open Go.Hp Go.Proofs.Ytljecmjdmdjldaa
set_option maxHeartbeats 4000000
variable {h0 h : Heap} {Z E : List Rg} {Q : Value → Heap → Prop} {lt : It → It → Bool} {lf : Value}
attribute [local irreducible] load1 loadN store1 storeN fld nilck lenV idx arith cmpI notV extr mkSl app cpy slc ifV
theorem rt_of {iso : Int} {m k : Nat} {t : GT It (k + 1)} (f : t.pt.Fl m 0) (h0 : t.nd.its.length = 0) : ∃ c, t.2 = [c] ∧ t.pt.items = c.pt.items := by
  obtain ⟨d, ts⟩ := t
  have hl : ts.length = d.its.length + 1 := by have := f.2.2.1; simpa [GT.pt] using this
  have h0 : d.its.length = 0 := h0
  have hts : ts.length = 1 := by omega
  obtain ⟨c, e⟩ : ∃ c, ts = [c] := by
    cases ts with
    | nil => simp at hts
    | cons c r => cases r with
      | nil => exact ⟨c, rfl⟩
      | cons _ _ => simp at hts
  subst e; refine ⟨c, rfl, ?_⟩
  have h0 : d.its.length = 0 := h0
  show inter d.its ([c.pt.items]) = c.pt.items
  rw [List.length_eq_zero_iff.1 h0]
  simp [inter]
def rH : Rt → Nat
  | none => 0
  | some t => t.1 + 1
theorem inner_items {m lo k : Nat} {x : PT It (k + 1)} (hm : 3 ≤ m) (f : x.Fl m lo) : x.items ≠ [] := by
  intro e
  have hl : x.2.length = x.1.length + 1 := f.2.2.1
  obtain ⟨c, r, hc⟩ : ∃ c r, x.2 = c :: r := head_of (by omega)
  have hf := f.2.2.2 c (by rw [hc]; simp)
  have h1 := hf.le.1
  have h2 := (PT.its_sub c).length_le
  have h3 : (inter x.1 (x.2.map PT.items)).length = 0 := by
    have : inter x.1 (x.2.map PT.items) = [] := e
    rw [this]; rfl
  rw [inter_length, hc] at h3
  simp only [List.map_cons, List.sum_cons] at h3
  omega
theorem lock_ok {tb : Nat} {b : Bool} (H : Q (.bool false) h) : BTreeG_I_lock.call #[ptr tb 0, .bool b] h Q := by
  refine BTreeG_I_lock.body _ _ _ _ ?_; unfold BTreeG_I_lock.sh; exact H
theorem deleteHint_ok (o : Swo lt) {A : List Rg} (hO : OrdA A lf lt) {tb m hb : Nat} {iso : Int} {ctr : Option Addr} {g : Rt} {x : It} {hv : Value} {hc : List Value} (M : TreeOk lt m iso g) (hsz : (rPt g).items.length ≤ 4611686018427387903) (hh : Hn hv hb hc)
    (s : St h0 Z ((tb, 0, hdr iso ctr (rA g) (rPt g).items.length lf ((m / 2 : Nat) : Int) m) :: (hb, 0, hc) :: (rAll g ++ (A ++ E))) h)
    (H : ∀ (g' : Rt) hc' h', (rPt g').items = ldel lt (rPt g).items x → rPt g' = MT.del lt m (rPt g) x → TreeOk lt m iso g' → (rH g' = rH g ∨ rH g' + 1 = rH g) → Hn hv hb hc' → St h0 Z ((tb, 0, hdr iso ctr (rA g') (rPt g').items.length lf ((m / 2 : Nat) : Int) m) :: (hb, 0, hc') :: (rAll g' ++ (A ++ E))) h' → Q (.tuple #[old (lget lt (rPt g).items x), .bool (lget lt (rPt g).items x).isSome]) h') :
    BTreeG_I_deleteHint.call #[ptr tb 0, av x, hv] h Q := by
  have key : ∀ g' : Rt, (rPt g').items = ldel lt (rPt g).items x → rGd iso g' → (rPt g').Fl m → TreeOk lt m iso g' := fun g' e gd f => ⟨gd, f, by rw [e]; exact asc_of_sub M.asc (ldel_sub _ _), M.m3, M.m1, M.odd⟩
  refine BTreeG_I_deleteHint.body _ _ _ _ _ ?_; unfold BTreeG_I_deleteHint.sh
  cases g with
  | none =>
    have s : St h0 Z ((tb, 0, hdr iso ctr none 0 lf ((m / 2 : Nat) : Int) m) :: (hb, 0, hc) :: (A ++ E)) h := s
    refine St.r_box (cs := enc x) s fun t4 h s => ?_; refine s.r_alloc fun t6 h s => ?_; refine r_nil ?_; refine r_fld ?_; refine St.r_load0 s 2 rfl rfl ?_; refine r_eqNilP ?_; refine r_if (fun _ => ?_) (fun e => absurd e (by simp))
    refine r_nil ?_; refine r_fld ?_; refine St.r_loadN0 s 2 rfl (by simp) ?_; refine St.r_storeN0 s 0 rfl rfl (by simp) (enc1 emp) ?_; intro h s
    refine St.r_loadN0 s 0 rfl (by simp) ?_; exact H none hc h rfl rfl (key none rfl trivial trivial) (.inl rfl) hh (s.drop 2)
  | some t =>
    obtain ⟨k, t⟩ := t
    have hkl := PT.height_le M.m3 (show t.pt.Fl m 1 from M.fl) (Nat.le_refl _)
    have hsz : t.pt.items.length ≤ 4611686018427387903 := hsz
    have s := hdr_cut s
    obtain ⟨s1, back⟩ := St.borrow (A := [(tb, 0, hd0 iso ctr), (tb, 4, hd4 lf ((m / 2 : Nat) : Int) m)] ++ A) (E := (tb, 2, [ptr t.id 0]) :: (tb, 3, [.int .i64 t.pt.items.length]) :: (hb, 0, hc) :: (t.all enc ++ E)) (s.perm (by
      show (([(tb, 0, hd0 iso ctr), (tb, 4, hd4 lf ((m / 2 : Nat) : Int) m)] ++ A) ++ ((tb, 2, [ptr t.id 0]) :: (tb, 3, [.int .i64 t.pt.items.length]) :: (hb, 0, hc) :: (t.all enc ++ E))).Perm ((tb, 0, hd0 iso ctr) :: (tb, 4, hd4 lf ((m / 2 : Nat) : Int) m) :: (tb, 2, [ptr t.id 0]) :: (tb, 3, [.int .i64 t.pt.items.length]) :: (hb, 0, hc) :: (t.all enc ++ (A ++ E)))
      ((apply perm_rg; intro f; simp only [set_cons_zero, set_cons_succ, eraseIdx_cons_zero, eraseIdx_cons_succ, cons_append, nil_append, map_append, map_cons, map_nil, List.sum_append, List.sum_cons, List.sum_nil, map_flatMap, Nat.add_zero, Nat.zero_add]; ac_rfl))))
    generalize hZ : ([(tb, 0, hd0 iso ctr), (tb, 4, hd4 lf ((m / 2 : Nat) : Int) m)] ++ A) ++ Z = Z1 at s1 back
    have hT0 : (tb, 0, hd0 iso ctr) ∈ Z1 := by rw [← hZ]; exact List.mem_cons_self ..
    have hT4 : (tb, 4, hd4 lf ((m / 2 : Nat) : Int) m) ∈ Z1 := by rw [← hZ]; exact List.mem_cons_of_mem _ (List.mem_cons_self ..)
    have hO1 : OrdC Z1 lf lt := hO Z1 fun r hr => by rw [← hZ]; exact List.mem_append_left _ (List.mem_append_right _ hr)
    have glue : ∀ (g2 : Rt) (c : Int) (hc' : List Value) (h : Heap), St h0 Z1 ((tb, 2, [.pointer (rA g2)]) :: (tb, 3, [.int .i64 c]) :: (hb, 0, hc') :: (rAll g2 ++ E)) h → St h0 Z ((tb, 0, hdr iso ctr (rA g2) c lf ((m / 2 : Nat) : Int) m) :: (hb, 0, hc') :: (rAll g2 ++ (A ++ E))) h := fun g2 c hc' h s => by
      refine hdr_glue ((back _ h s).perm ?_)
      show ((tb, 0, hd0 iso ctr) :: (tb, 4, hd4 lf ((m / 2 : Nat) : Int) m) :: (tb, 2, [.pointer (rA g2)]) :: (tb, 3, [.int .i64 c]) :: (hb, 0, hc') :: (rAll g2 ++ (A ++ E))).Perm (([(tb, 0, hd0 iso ctr), (tb, 4, hd4 lf ((m / 2 : Nat) : Int) m)] ++ A) ++ ((tb, 2, [.pointer (rA g2)]) :: (tb, 3, [.int .i64 c]) :: (hb, 0, hc') :: (rAll g2 ++ E)))
      ((apply perm_rg; intro f; simp only [set_cons_zero, set_cons_succ, eraseIdx_cons_zero, eraseIdx_cons_succ, cons_append, nil_append, map_append, map_cons, map_nil, List.sum_append, List.sum_cons, List.sum_nil, map_flatMap, Nat.add_zero, Nat.zero_add]; ac_rfl))
    have H : ∀ (g' : Rt) hc' h', (rPt g').items = ldel lt t.pt.items x → rPt g' = MT.del lt m (some ⟨k, t.pt⟩) x → TreeOk lt m iso g' → (rH g' = k + 1 ∨ rH g' + 1 = k + 1) → Hn hv hb hc' → St h0 Z ((tb, 0, hdr iso ctr (rA g') (rPt g').items.length lf ((m / 2 : Nat) : Int) m) :: (hb, 0, hc') :: (rAll g' ++ (A ++ E))) h' → Q (.tuple #[old (lget lt t.pt.items x), .bool (lget lt t.pt.items x).isSome]) h' := H
    have key : ∀ g' : Rt, (rPt g').items = ldel lt t.pt.items x → rGd iso g' → (rPt g').Fl m → TreeOk lt m iso g' := key
    have hdl := ldel_len (lt := lt) t.pt.items x
    have h1 : 1 ≤ t.nd.its.length := (fl_its M.fl).1
    clear s; refine St.r_box (cs := enc x) s1 fun t4 h s => ?_; refine s.r_alloc fun t6 h s => ?_; refine r_nil ?_; refine r_fld ?_; refine s.r_load1 2 (o := 2) (j := 0) rfl rfl ?_; refine r_eqNilP ?_; refine r_if (fun e => absurd e (by simp)) (fun _ => ?_)
    -- behind the call
    have after : ∀ {t' : GT It k} {hc' : List Value} {h' : Heap} {y : It} {ok : Bool} {t8 : Nat}, t'.id = t.id → Gd iso t' → t'.pt.Fl m (t.nd.its.length - if ok then 1 else 0) → Taken lt false x t.pt.items t'.pt.items y ok → Exact lt m false x t.pt t'.pt y ok → Hn hv hb hc' →
        St h0 Z1 ((t8, 0, enc y) :: (t6, 0, enc emp) :: (tb, 2, [ptr t.id 0]) :: (tb, 3, [.int .i64 t.pt.items.length]) :: (hb, 0, hc') :: (t'.all enc ++ E)) h' →
        (notV (.bool ok) fun t30 => ifV t30 (nilck (ptr tb 0) fun t32 => fld 7 t32 fun t33 => loadN 2 t33 h' fun t34 => storeN 2 (ptr t6 0) t34 h' fun h => loadN 2 (ptr t6 0) h fun r6 => Q (.tuple #[r6, (.bool false)]) h) (BTreeG_I_deleteHint.j2 (ptr tb 0) (ptr t6 0) (ptr t8 0) h' Q)) := by
      intro t' hc' h y ok t8 e1 g' f' hT hX hh s
      have hT : (match lget lt t.pt.items x with | none => _ | some z => _ : Prop) := hT
      have hX : (t'.pt, if ok then some y else none) = t.pt.del lt m false x := hX
      refine r_not ?_
      cases hg : lget lt t.pt.items x with
      | none =>
        rw [hg] at hT H; obtain ⟨rfl, rfl, e3⟩ := hT; refine r_if (fun _ => ?_) (fun e => absurd e (by simp))
        refine r_nil ?_; refine r_fld ?_; refine s.r_lzE hT4 3 (enc emp) rfl (by simp) rfl ?_; refine St.r_storeN0 s 1 rfl rfl (by simp) (enc1 emp) ?_; intro h s
        refine St.r_loadN0 s 1 rfl (by simp) ?_
        have e4 : t'.pt.items = ldel lt t.pt.items x := by rw [ldel_none hg]; exact e3
        refine H (some ⟨k, t'⟩) hc' h e4 ?_ (key (some ⟨k, t'⟩) e4 g' (f'.mono (by simp; omega))) (.inl rfl) hh ?_
        · unfold MT.del
          simp only [← hX]
          have e2 := PT.del_none (lt := lt) (m := m) (x := x) (t := t.pt) (by rw [← hX]; rfl)
          rw [← hX] at e2
          show some (⟨k, t'.pt⟩ : (j : Nat) × PT It j) = some ⟨k, t.pt⟩
          rw [show t'.pt = t.pt from e2]
        · have := glue (some ⟨k, t'⟩) t.pt.items.length hc' h (by
            show St h0 Z1 ((tb, 2, [ptr t'.id 0]) :: (tb, 3, [.int .i64 t.pt.items.length]) :: (hb, 0, hc') :: (t'.all enc ++ E)) h
            rw [e1]; exact s.drop 2)
          show St h0 Z ((tb, 0, hdr iso ctr (some ⟨t'.id, 0, none⟩) t'.pt.items.length lf ((m / 2 : Nat) : Int) m) :: (hb, 0, hc') :: (t'.all enc ++ (A ++ E))) h
          rw [e3]; exact this
      | some z =>
        rw [hg] at hT H hdl; obtain ⟨rfl, rfl, e3⟩ := hT; refine r_if (fun e => absurd e (by simp)) (fun _ => ?_)
        have hmt : MT.del lt m (some ⟨k, t.pt⟩) x = MT.root ⟨k, t'.pt⟩ := by
          unfold MT.del
          simp only [← hX]
          rfl
        have fin : ∀ (g2 : Rt) h, (rPt g2).items = ldel lt t.pt.items x → (rPt g2 = MT.root ⟨k, t'.pt⟩ ∨ ((rPt g2).items = [] ∧ MT.root ⟨k, t'.pt⟩ = none)) → rGd iso g2 → ((rPt g2).items ≠ [] → (rPt g2).Fl m) → ((rPt g2).items ≠ [] → rPt g2 = MT.root ⟨k, t'.pt⟩) → (rH g2 = k + 1 ∨ rH g2 + 1 = k + 1) → ((rPt g2).items = [] → k = 0 ∧ MT.root ⟨k, t'.pt⟩ = none) →
            St h0 Z1 ((t8, 0, enc y) :: (t6, 0, enc emp) :: (tb, 2, [.pointer (rA g2)]) :: (tb, 3, [.int .i64 t.pt.items.length]) :: (hb, 0, hc') :: (rAll g2 ++ E)) h → BTreeG_I_deleteHint.j3 (ptr tb 0) (ptr t6 0) (ptr t8 0) h Q := by
          intro g2 h e4 _ gd2 f2 r2 hH hE s
          have hl1 : t.pt.items.length = (rPt g2).items.length + 1 := by rw [e4]; simpa using hdl.symm
          unfold BTreeG_I_deleteHint.j3; refine r_nil ?_; refine r_fld ?_; refine s.r_loadI 3 0 rfl rfl rfl ?_; refine r_sub1 (by omega) (by omega) ?_; refine r_nil ?_; refine r_fld ?_
          (refine s.r_storeI 3 0 rfl rfl (by simp) rfl ?_; intro h s; try simp only [List.set_cons_zero, List.set_cons_succ] at s)
          refine r_nil ?_; refine r_fld ?_; refine s.r_loadI 3 0 rfl rfl rfl ?_; refine r_cmpI ?_; refine r_if (fun hz => ?_) (fun hz => ?_)
          · have hz : (rPt g2).items.length = 0 := by simp at hz; omega
            have hzn := List.length_eq_zero_iff.1 hz
            have e5 : ldel lt t.pt.items x = [] := by rw [← e4]; exact hzn
            refine r_nil ?_; refine r_fld ?_
            (refine s.r_storeI 2 0 rfl rfl (by simp) rfl ?_; intro h s; try simp only [List.set_cons_zero, List.set_cons_succ] at s)
            unfold BTreeG_I_deleteHint.j4; refine St.r_loadN0 s 0 rfl (by simp) ?_
            (refine St.r_storeN0 s 1 rfl rfl (by simp) (enc1 _) ?_; intro h s; try simp only [List.set_cons_zero, List.set_cons_succ] at s)
            refine St.r_loadN0 s 1 rfl (by simp) ?_; refine H none hc' h (by rw [e5]; rfl) (by rw [hmt, (hE hzn).2]; rfl) (key none (by rw [e5]; rfl) trivial trivial) (.inr (by have := (hE hzn).1; show 0 + 1 = k + 1; omega)) hh ?_; rw [show t.pt.items.length - 1 = 0 by omega] at s
            have s2 : St h0 Z1 ((tb, 2, [.pointer none]) :: (tb, 3, [.int .i64 ((0 : Nat) : Int)]) :: (hb, 0, hc') :: E) h := (s.drop 2).sub (List.Sublist.cons_cons _ (List.Sublist.cons_cons _ (List.Sublist.cons_cons _ (List.sublist_append_right _ _))))
            exact glue none _ hc' h s2
          · have hz : (rPt g2).items.length ≠ 0 := by intro e; simp at hz; omega
            have hne : (rPt g2).items ≠ [] := fun e => hz (by rw [e]; rfl)
            unfold BTreeG_I_deleteHint.j4; refine St.r_loadN0 s 0 rfl (by simp) ?_
            (refine St.r_storeN0 s 1 rfl rfl (by simp) (enc1 _) ?_; intro h s; try simp only [List.set_cons_zero, List.set_cons_succ] at s)
            refine St.r_loadN0 s 1 rfl (by simp) ?_; refine H g2 hc' h e4 (by rw [hmt]; exact r2 hne) (key g2 e4 gd2 (f2 hne)) hH hh ?_
            have s2 : St h0 Z1 ((tb, 2, [.pointer (rA g2)]) :: (tb, 3, [.int .i64 ((t.pt.items.length - 1 : Nat) : Int)]) :: (hb, 0, hc') :: (rAll g2 ++ E)) h := s.drop 2
            have s := glue g2 _ hc' h s2
            rw [hl1, Nat.add_sub_cancel] at s; exact s
        unfold BTreeG_I_deleteHint.j2
        have wt := g'.own
        rw [all_eq t', e1] at s
        have s : St h0 Z1 ((t8, 0, enc y) :: (t6, 0, enc emp) :: (tb, 2, [ptr t.id 0]) :: (tb, 3, [.int .i64 t.pt.items.length]) :: (hb, 0, hc') :: (t.id, 0, [.int .u64 t'.nd.iso, .int .i64 t'.nd.cnt, t'.nd.iv, GT.kp t']) :: (t'.nd.ib, t'.nd.io, t'.nd.its.flatMap enc ++ t'.nd.isp) :: (GT.rest t' ++ E)) h := s
        have base : (t'.nd.its.length ≠ 0 → MT.root ⟨k, t'.pt⟩ = some ⟨k, t'.pt⟩) → (t'.nd.its.length ≠ 0 ∨ (t'.pt.items = [] ∧ MT.root ⟨k, t'.pt⟩ = none)) → BTreeG_I_deleteHint.j3 (ptr tb 0) (ptr t6 0) (ptr t8 0) h Q := fun hroot hb => by
          have hit := (PT.its_sub t'.pt).length_le
          have hne : t'.nd.its.length ≠ 0 → t'.pt.items ≠ [] := fun h2 e => by
            rw [e, GT.pt_its] at hit; simp at hit; rw [hit] at h2; simp at h2
          refine fin (some ⟨k, t'⟩) h e3 (hb.imp (fun h2 => (hroot h2).symm) (fun h2 => h2)) g' (fun hn => ?_) (fun hn => ?_) (.inl rfl) (fun he => ?_) ?_
          · rcases hb with hb | hb
            · exact (fl_any (lo' := 1) f' (by rw [GT.pt_its]; omega) : t'.pt.Fl m 1)
            · exact absurd hb.1 hn
          · rcases hb with hb | hb
            · exact (hroot hb).symm
            · exact absurd hb.1 hn
          · have he : t'.pt.items = [] := he
            rcases hb with hb | hb
            · exact absurd he (hne hb)
            · refine ⟨?_, hb.2⟩
              cases k with
              | zero => rfl
              | succ k => exact absurd he (inner_items M.m3 f')
          · show St h0 Z1 ((t8, 0, enc y) :: (t6, 0, enc emp) :: (tb, 2, [ptr t'.id 0]) :: (tb, 3, [.int .i64 t.pt.items.length]) :: (_, 0, hc') :: (t'.all enc ++ E)) h
            rw [all_eq t', e1]; exact s
        refine r_nil ?_; refine r_fld ?_; refine s.r_loadI 2 0 rfl rfl rfl ?_; refine r_nil ?_; refine r_fld ?_; refine St.r_load0 s 5 rfl rfl ?_; refine Own.lenV (by assumption) ?_; refine r_cmpI ?_; refine r_br (fun hz => ?_) (fun hz => ?_)
        · have hz : t'.nd.its.length = 0 := by have := eq_of_beq hz; omega
          refine r_nil ?_; refine r_fld ?_; refine s.r_loadI 2 0 rfl rfl rfl ?_
          cases k with
          | zero =>
            refine node_leaf_ok (a := none) (s.cl0 5 rfl rfl) ?_; refine r_not ?_; refine r_if (fun e => absurd e (by simp)) (fun _ => ?_)
            have hz2 : t'.pt = ([] : List It) := List.length_eq_zero_iff.1 hz
            exact base (fun h2 => absurd hz h2) (.inr ⟨by rw [hz2]; rfl, by rw [hz2]; rfl⟩)
          | succ k =>
            refine node_leaf_ok (a := some ⟨t'.1.kb, 0, none⟩) (s.cl0 5 rfl rfl) ?_; refine r_not ?_; refine r_if (fun _ => ?_) (fun e => absurd e (by simp))
            obtain ⟨c, ec, eit⟩ := rt_of (iso := iso) (f'.mono (Nat.zero_le _)) hz
            have wK := g'.ownK
            have hrt : MT.root ⟨k + 1, t'.pt⟩ = some ⟨k, c.pt⟩ := by
              have h2 : t'.pt = (([], [c.pt]) : List It × List (PT It k)) := by
                show (t'.1.its, t'.2.map GT.pt) = _
                rw [ec, List.length_eq_zero_iff.1 (show t'.1.its.length = 0 from hz)]; rfl
              rw [h2]; rfl
            have s : St h0 Z1 ((t8, 0, enc y) :: (t6, 0, enc emp) :: (tb, 2, [ptr t.id 0]) :: (tb, 3, [.int .i64 t.pt.items.length]) :: (hb, 0, hc') :: (t.id, 0, [.int .u64 t'.nd.iso, .int .i64 t'.nd.cnt, t'.nd.iv, ptr t'.1.kb 0]) :: (t'.nd.ib, t'.nd.io, t'.nd.its.flatMap enc ++ t'.nd.isp) ::
              (t'.1.kb, 0, [t'.1.kv]) :: (t'.1.krb, t'.1.kro, ((t'.2.map GT.id).map pp).flatMap fv ++ t'.1.ksp) :: (t'.2.flatMap (GT.all enc) ++ E)) h := s
            have hc0 : ((t'.2.map GT.id).map pp)[0]? = some (ptr c.id 0) := by rw [ec]; rfl
            have hkl0 : 0 < ((t'.2.map GT.id).map pp).length := by rw [ec]; simp
            refine r_nil ?_; refine r_fld ?_; refine s.r_loadI 2 0 rfl rfl rfl ?_; refine r_nil ?_; refine r_fld ?_; refine St.r_load0 s 5 rfl rfl ?_; refine r_nil ?_; refine St.r_load0 s 7 rfl rfl ?_
            (refine Own.idx (by assumption) rfl (by first | omega | (simp; done) | (simp; omega)) ?_)
            refine s.r_loadV 8 rfl (by assumption) ?_; refine r_nil ?_; refine r_fld ?_
            (refine s.r_storeI 2 0 rfl rfl (by simp) rfl ?_; intro h s; try simp only [List.set_cons_zero, List.set_cons_succ] at s)
            have hcf := f'.2.2.2 c.pt (List.mem_map.2 ⟨c, by rw [ec]; simp, rfl⟩)
            have m3 := M.m3
            refine fin (some ⟨k, c⟩) h (by rw [← e3, eit]; rfl) (.inl hrt.symm) (g'.kid (by rw [ec]; simp)) (fun _ => ?_) (fun _ => hrt.symm) (.inr rfl) (fun he => ?_) ((s.perm (E' := (t.id, 0, [.int .u64 t'.nd.iso, .int .i64 t'.nd.cnt, t'.nd.iv, ptr t'.1.kb 0]) :: (t'.nd.ib, t'.nd.io, t'.nd.its.flatMap enc ++ t'.nd.isp) :: (t'.1.kb, 0, [t'.1.kv]) :: (t'.1.krb, t'.1.kro, ((t'.2.map GT.id).map pp).flatMap fv ++ t'.1.ksp) :: ((t8, 0, enc y) :: (t6, 0, enc emp) :: (tb, 2, [ptr c.id 0]) :: (tb, 3, [.int .i64 t.pt.items.length]) :: (hb, 0, hc') :: (c.all enc ++ E))) ?_).drop 4)
            · exact hcf.mono (by omega)
            · have h8 := hcf.le.1
              have h9 := (PT.its_sub c.pt).length_le
              have he : c.pt.items = [] := he
              rw [he] at h9
              simp at h9
              rw [h9] at h8
              simp at h8
              omega
            · have e6 : t'.2.flatMap (GT.all enc) = c.all enc := by rw [ec]; simp
              rw [e6]
              ((apply perm_rg; intro f; simp only [set_cons_zero, set_cons_succ, eraseIdx_cons_zero, eraseIdx_cons_succ, cons_append, nil_append, map_append, map_cons, map_nil, List.sum_append, List.sum_cons, List.sum_nil, map_flatMap, Nat.add_zero, Nat.zero_add]; ac_rfl))
        · have hz : t'.nd.its.length ≠ 0 := by intro e; simp [e] at hz
          refine base (fun _ => ?_) (.inl hz)
          cases k with
          | zero =>
            have h2 : ∃ a r, t'.pt = (a :: r : List It) := head_of (by show 1 ≤ t'.nd.its.length; omega)
            obtain ⟨a, r, h2⟩ := h2; rw [h2]; rfl
          | succ k =>
            obtain ⟨a, r, h2⟩ := head_of (l := t'.1.its) (by show 1 ≤ t'.nd.its.length; omega)
            have h3 : t'.pt = ((a :: r, t'.2.map GT.pt) : List It × List (PT It k)) := by show (t'.1.its, _) = _; rw [h2]
            rw [h3]; rfl
    unfold BTreeG_I_deleteHint.j1; refine r_nil ?_; refine r_fld ?_; refine St.r_loadN0 s 1 rfl (by simp) ?_
    constructor
    · refine delOk_all o hO1 hT0 hT4 rfl M.m3 M.m1 M.odd k t (dp := 0) (pb := tb) (po := 2) (E := (t6, 0, enc emp) :: (t4, 0, enc x) :: (tb, 3, [.int .i64 t.pt.items.length]) :: E) false x hh (by omega) M.fl M.asc hsz M.gd h1 (s.perm (by ((apply perm_rg; intro f; simp only [set_cons_zero, set_cons_succ, eraseIdx_cons_zero, eraseIdx_cons_succ, cons_append, nil_append, map_append, map_cons, map_nil, List.sum_append, List.sum_cons, List.sum_nil, map_flatMap, Nat.add_zero, Nat.zero_add]; ac_rfl)))) fun t' hc' h' y ok e1 g' f' hT hX hh s => ?_
      refine r_ext rfl ?_; refine r_ext rfl ?_; refine s.r_alloc fun t8 h s => ?_; refine St.r_storeN0 s 0 rfl rfl (by simp) (enc1 y) ?_; intro h s
      have s : St h0 Z1 ((t8, 0, enc y) :: (t6, 0, enc emp) :: (tb, 2, [ptr t.id 0]) :: (tb, 3, [.int .i64 t.pt.items.length]) :: (hb, 0, hc') :: (t'.all enc ++ ((t4, 0, enc x) :: E))) h := s.perm (by ((apply perm_rg; intro f; simp only [set_cons_zero, set_cons_succ, eraseIdx_cons_zero, eraseIdx_cons_succ, cons_append, nil_append, map_append, map_cons, map_nil, List.sum_append, List.sum_cons, List.sum_nil, map_flatMap, Nat.add_zero, Nat.zero_add]; ac_rfl)))
      have s : St h0 Z1 ((t8, 0, enc y) :: (t6, 0, enc emp) :: (tb, 2, [ptr t.id 0]) :: (tb, 3, [.int .i64 t.pt.items.length]) :: (hb, 0, hc') :: (t'.all enc ++ E)) h := St.drop (E := (t4, 0, enc x) :: (t8, 0, enc y) :: (t6, 0, enc emp) :: (tb, 2, [ptr t.id 0]) :: (tb, 3, [.int .i64 t.pt.items.length]) :: (hb, 0, hc') :: (t'.all enc ++ E)) (s.perm (by ((apply perm_rg; intro f; simp only [set_cons_zero, set_cons_succ, eraseIdx_cons_zero, eraseIdx_cons_succ, cons_append, nil_append, map_append, map_cons, map_nil, List.sum_append, List.sum_cons, List.sum_nil, map_flatMap, Nat.add_zero, Nat.zero_add]; ac_rfl)))) 1
      exact after e1 g' f' hT hX hh s
    · refine s.r_alloc fun t8 h s => ?_
      refine ⟨St.r_stillN0 s 2 (j := 0) (n := 2) rfl (by simp) rfl, ?_⟩
      refine delOk_all o hO1 hT0 hT4 rfl M.m3 M.m1 M.odd k t (dp := 0) (pb := tb) (po := 2) (E := (t8, 0, enc emp) :: (t6, 0, enc emp) :: (t4, 0, enc x) :: (tb, 3, [.int .i64 t.pt.items.length]) :: E) false x hh (by omega) M.fl M.asc hsz M.gd h1 (s.perm (by ((apply perm_rg; intro f; simp only [set_cons_zero, set_cons_succ, eraseIdx_cons_zero, eraseIdx_cons_succ, cons_append, nil_append, map_append, map_cons, map_nil, List.sum_append, List.sum_cons, List.sum_nil, map_flatMap, Nat.add_zero, Nat.zero_add]; ac_rfl)))) fun t' hc' h' y ok e1 g' f' hT hX hh s => ?_
      have s : St h0 Z1 ((t8, 0, enc emp) :: (t6, 0, enc emp) :: (tb, 2, [ptr t.id 0]) :: (tb, 3, [.int .i64 t.pt.items.length]) :: (hb, 0, hc') :: (t'.all enc ++ E)) h' := St.drop (E := (t4, 0, enc x) :: (t8, 0, enc emp) :: (t6, 0, enc emp) :: (tb, 2, [ptr t.id 0]) :: (tb, 3, [.int .i64 t.pt.items.length]) :: (hb, 0, hc') :: (t'.all enc ++ E)) (s.perm (by ((apply perm_rg; intro f; simp only [set_cons_zero, set_cons_succ, eraseIdx_cons_zero, eraseIdx_cons_succ, cons_append, nil_append, map_append, map_cons, map_nil, List.sum_append, List.sum_cons, List.sum_nil, map_flatMap, Nat.add_zero, Nat.zero_add]; ac_rfl)))) 1
      refine r_ext rfl ?_; refine r_ext rfl ?_; refine St.r_storeN0 s 0 rfl rfl (by simp) (enc1 y) ?_; intro h s
      exact after e1 g' f' hT hX hh s
end Go.Proofs.Ytljecmjdmdjldaa.Gi
end
section
namespace Go.Proofs.Ytljecmjdmdjldaa.Gi
open Go.Hp Go.Proofs.Ytljecmjdmdjldaa
variable {h0 h : Heap} {Z E : List Rg} {Q : Value → Heap → Prop} {lt : It → It → Bool} {lf : Value}
def ArgT (h : Heap) : {k : Nat} → PT It k → Value → Value → Prop
  | 0, its, vi, vk => Rdl 2 h vi (its : List It).length ((its : List It).flatMap enc) ∧ ∃ a cap, vk = .slice a 0 cap
  | k + 1, t, vi, vk => Rdl 2 h vi t.1.length (t.1.flatMap enc) ∧ t.2 ≠ [] ∧ ∃ cs : List (Value × Value × Int), cs.length = t.2.length ∧ Rdl 3 h vk cs.length (cs.flatMap encN) ∧
      ∀ j (h1 : j < t.2.length) (h2 : j < cs.length), ArgT h t.2[j] cs[j].1 cs[j].2.1
theorem ArgT.fr {h h' : Heap} (f : Fr (fun _ _ => False) h h') : ∀ {k : Nat} {x : PT It k} {vi vk : Value}, ArgT h x vi vk → ArgT h' x vi vk
  | 0, _, _, _, ⟨h1, h2⟩ => ⟨h1.fr f (fun _ _ e => e), h2⟩
  | k + 1, _, _, _, ⟨h1, h2, cs, h3, h4, h5⟩ => ⟨h1.fr f (fun _ _ e => e), h2, cs, h3, h4.fr f (fun _ _ e => e), fun j j1 j2 => ArgT.fr f (h5 j j1 j2)⟩
theorem ArgT.one {h : Heap} : ∀ {k : Nat} {x : PT It k} {vi vk : Value}, ArgT h x vi vk → one1 vi = true ∧ one1 vk = true
  | 0, _, _, _, ⟨h1, _, _, h2⟩ => ⟨h1.one, by rw [h2]; rfl⟩
  | k + 1, _, _, _, ⟨h1, h2, cs, h3, h4, h5⟩ => ⟨h1.one, h4.one⟩
theorem ArgT.its {h : Heap} : ∀ {k : Nat} {x : PT It k} {vi vk : Value}, ArgT h x vi vk → Rdl 2 h vi x.its.length (x.its.flatMap enc)
  | 0, _, _, _, r => r.1
  | _ + 1, _, _, _, r => r.1
theorem one3 {a b c : Value} (h1 : one1 a = true) (h2 : one1 b = true) (h3 : one1 c = true) : ∀ y ∈ [a, b, c], one1 y = true := by
  intro y hy
  simp only [List.mem_cons, List.not_mem_nil, or_false] at hy
  rcases hy with rfl | rfl | rfl <;> assumption
theorem DoorLeaf_ok {tb : Nat} {iso : Int} {v : Value} (hi : cl h tb 0 = some (.int .u64 iso)) (hv : one1 v = true) (H : ∀ n h', St h [] [(n, 0, [.int .u64 iso, .int .i64 0, v, .pointer none])] h' → Q (.agg #[ptr n 0]) h') : BTreeG_I_DoorLeaf.call #[ptr tb 0, v] h Q := by
  refine BTreeG_I_DoorLeaf.body _ _ _ _ ?_; unfold BTreeG_I_DoorLeaf.sh
  have s := St.start h
  refine s.r_alloc fun t4 h s => ?_; refine newNode_leaf (s.base hi) fun n h s1 => ?_
  have s := s.join s1
  refine r_nil ?_; refine r_fld ?_; refine St.r_store0 s 0 rfl (by simp) hv ?_; intro h s
  ((apply r_build; ((simp only [fillV, fill1, Value.cells, zeros_succ, zeros_zero, size_toArray, length_cons, length_nil, length_append, take_succ_cons, take_zero, take_nil, drop_succ_cons, drop_zero, drop_nil, cons_append, nil_append, append_nil, Nat.reduceAdd, Nat.reduceMul, Nat.reduceLeDiff, Nat.reduceEqDiff, and_self, and_true, true_and, if_true, Nat.le_refl, Nat.zero_add, Nat.add_zero, Nat.zero_mul, reduceIte, if_false] <;> rfl))))
  refine St.r_storeN0 s 1 (ys := [ptr n 0]) rfl rfl (by simp) (by simp [one1]) ?_; intro h s
  refine St.r_loadN0 s 1 rfl (by simp) ?_; exact H n h (s.sub (List.Sublist.cons_cons _ (List.nil_sublist _)))
theorem DoorInner_ok {tb : Nat} {iso : Int} {v : Value} (hi : cl h tb 0 = some (.int .u64 iso)) (hv : one1 v = true) (H : ∀ n kb h', St h [] [(n, 0, [.int .u64 iso, .int .i64 0, v, ptr kb 0]), (kb, 0, [.slice none 0 0])] h' → Q (.agg #[ptr n 0]) h') : BTreeG_I_DoorInner.call #[ptr tb 0, v] h Q := by
  refine BTreeG_I_DoorInner.body _ _ _ _ ?_; unfold BTreeG_I_DoorInner.sh
  have s := St.start h
  refine s.r_alloc fun t4 h s => ?_; refine newNode_inner (s.base hi) fun n kb h s1 => ?_
  have s := s.join s1
  refine r_nil ?_; refine r_fld ?_; refine St.r_store0 s 0 rfl (by simp) hv ?_; intro h s
  ((apply r_build; ((simp only [fillV, fill1, Value.cells, zeros_succ, zeros_zero, size_toArray, length_cons, length_nil, length_append, take_succ_cons, take_zero, take_nil, drop_succ_cons, drop_zero, drop_nil, cons_append, nil_append, append_nil, Nat.reduceAdd, Nat.reduceMul, Nat.reduceLeDiff, Nat.reduceEqDiff, and_self, and_true, true_and, if_true, Nat.le_refl, Nat.zero_add, Nat.add_zero, Nat.zero_mul, reduceIte, if_false] <;> rfl))))
  refine St.r_storeN0 s 2 (ys := [ptr n 0]) rfl rfl (by simp) (by simp [one1]) ?_; intro h s
  refine St.r_loadN0 s 2 rfl (by simp) ?_; exact H n kb h (s.sub (List.Sublist.cons_cons _ (List.Sublist.cons_cons _ (List.nil_sublist _))))
theorem DoorAppend_ok {n kb b o len m : Nat} {c1 c2 iv kv : Value} {xs sp : List Value} (s : St h0 Z ((n, 0, [c1, c2, iv, ptr kb 0]) :: (kb, 0, [kv]) :: (b, o, xs ++ sp) :: E) h) (w : Own 1 kv len b o xs sp) (hl : len ≤ 2147483647)
    (H : ∀ kv' b' o' sp' h', St h0 Z ((n, 0, [c1, c2, iv, ptr kb 0]) :: (kb, 0, [kv']) :: (b', o', (xs ++ [ptr m 0]) ++ sp') :: E) h' → Own 1 kv' (len + 1) b' o' (xs ++ [ptr m 0]) sp' → Q (.tuple #[]) h') :
    DoorNode_I_DoorAppend.call #[.agg #[ptr n 0], .agg #[ptr m 0]] h Q := by
  refine DoorNode_I_DoorAppend.body _ _ _ _ ?_; unfold DoorNode_I_DoorAppend.sh; refine St.r_box (cs := [ptr n 0]) s fun t h s => ?_; refine St.r_box (cs := [ptr m 0]) s fun t2 h s => ?_; refine r_fld ?_; refine St.r_load0 s 1 rfl rfl ?_; refine r_nil ?_; refine r_fld ?_; refine St.r_load0 s 2 rfl rfl ?_; refine r_fld ?_; refine St.r_load0 s 1 rfl rfl ?_; refine r_nil ?_; refine r_fld ?_; refine St.r_load0 s 2 rfl rfl ?_; refine r_nil ?_; refine St.r_load0 s 3 rfl rfl ?_; refine r_fld ?_; refine St.r_load0 s 0 rfl rfl ?_; refine St.r_mkSl (sz := 1) (cs := [ptr m 0]) s (by ((simp only [fillV, fill1, Value.cells, zeros_succ, zeros_zero, size_toArray, length_cons, length_nil, length_append, take_succ_cons, take_zero, take_nil, drop_succ_cons, drop_zero, drop_nil, cons_append, nil_append, append_nil, Nat.reduceAdd, Nat.reduceMul, Nat.reduceLeDiff, Nat.reduceEqDiff, and_self, and_true, true_and, if_true, Nat.le_refl, Nat.zero_add, Nat.add_zero, Nat.zero_mul, reduceIte, if_false] <;> rfl))) rfl fun q h s w1 => ?_; refine And.intro (by exact St.r_still0 s 2 rfl rfl) ?_; refine And.intro (by exact St.r_still0 s 3 rfl rfl) ?_; refine And.intro (by exact St.r_still0 s 2 rfl rfl) ?_; refine And.intro (by exact St.r_still0 s 3 rfl rfl) ?_; refine And.intro (by exact St.r_still0 s 4 rfl rfl) ?_; refine St.r_app s 5 (sz := 1) (n := 1) (new := [ptr m 0]) rfl w rfl (w1.rdl s 0 rfl) (by simp [one1]) (by omega) (by omega) fun v' b' o' sp' h s w' => ?_; refine And.intro (by exact St.r_still0 s 2 rfl rfl) ?_; refine And.intro (by exact St.r_still0 s 3 rfl rfl) ?_; refine r_nil ?_; refine St.r_store0 s 4 rfl (by simp) w'.one ?_; intro h s
  exact H v' b' o' sp' h (s.drop 3) w'
theorem DoorUpdateCount_leaf {n b o len : Nat} {c1 c2 iv : Value} {xs sp : List Value} (s : St h0 Z ((n, 0, [c1, c2, iv, .pointer none]) :: E) h) (w : Own 2 iv len b o xs sp)
    (H : ∀ h', St h0 Z ((n, 0, [c1, .int .i64 len, iv, .pointer none]) :: E) h' → Q (.tuple #[]) h') : DoorNode_I_DoorUpdateCount.call #[.agg #[ptr n 0]] h Q := by
  refine DoorNode_I_DoorUpdateCount.body _ _ _ ?_; unfold DoorNode_I_DoorUpdateCount.sh; refine St.r_box (cs := [ptr n 0]) s fun t h s => ?_; refine r_fld ?_; refine St.r_load0 s 0 rfl rfl ?_; refine updateCount_leaf (s.front 1 rfl) w fun h s => ?_; exact H h ((s.front 1 rfl).drop 1)
theorem items_new {vi : Value} {its : List It} {K : Value → Heap → Prop} (s : St h0 Z E h) (hr : Rdl 2 h vi its.length (its.flatMap enc)) (hl : its.length ≤ 2147483647)
    (H : ∀ iv ib io isp h', St h0 Z ((ib, io, its.flatMap enc ++ isp) :: E) h' → Own 2 iv its.length ib io (its.flatMap enc) isp → K iv h') : app 27 2 16 [.int .i64 0, .int .i64 0] (.slice none 0 0) vi h K := by
  refine (s.empty 0 0).r_appL (f := enc) (L := []) (M := its) 0 rfl (Own.nil 2 0 0) rfl hr (fun _ _ => enc1 _) (by simp; omega) (by simp; omega) fun v' b' o' sp' h s w' => ?_; exact H v' b' o' sp' h s w'
theorem planted_ok : ∀ {k : Nat} (x : PT It k) {h : Heap} {tb : Nat} {iso : Int} {vi vk vc : Value} {Q : Value → Heap → Prop}, cl h tb 0 = some (.int .u64 iso) → ArgT h x vi vk → x.Sh 2147483647 → x.items.length ≤ 4611686018427387903 → one1 vc = true →
    (∀ (t : GT It k) h', t.pt = x → Gd iso t → St h [] (t.all enc) h' → Q (.agg #[ptr t.id 0]) h') → i_planted.call #[ptr tb 0, .agg #[vi, vk, vc]] h Q
  | 0, its, h, tb, iso, vi, vk, vc, Q, hi, ⟨hr, ⟨a, cap, hvk⟩⟩, hsh, hsz, hvc, H => by
    subst hvk; refine i_planted.body _ _ _ _ ?_; unfold i_planted.sh
    have s := St.start h
    refine St.r_box (cs := [vi, .slice a 0 cap, vc]) s fun t3 h s => ?_; refine s.r_alloc fun t4 h s => ?_; refine r_fld ?_; refine St.r_load0 s 1 rfl rfl ?_; refine items_new s (hr.st s) hsh fun iv ib io isp h s w => ?_; refine r_fld ?_; refine St.r_load0 s 2 rfl rfl ?_; refine r_len ?_; refine r_cmpI ?_; refine r_if (fun _ => ?_) (fun e => absurd e (by decide))
    refine DoorLeaf_ok (s.base hi) w.one fun n h s1 => ?_
    have s := s.join s1
    refine s.r_alloc fun t6 h s => ?_; refine St.r_storeN0 s 0 (ys := [ptr n 0]) rfl rfl (by simp) (by simp [one1]) ?_; intro h s
    refine St.r_loadN0 s 0 rfl (by simp) ?_; refine DoorUpdateCount_leaf (s.front 1 rfl) w fun h s => ?_; refine St.r_loadN0 s 1 rfl (by simp) ?_; refine St.r_storeN0 s 3 (ys := [ptr n 0]) rfl rfl (by simp) (by simp [one1]) ?_; intro h s
    refine St.r_loadN0 s 3 rfl (by simp) ?_; refine H (⟨true, n, iso, (its : List It).length, its, iv, ib, io, isp, 0, .slice none 0 0, 0, 0, []⟩ : Nd It) h rfl (Gd.leaf w rfl rfl rfl) ?_; exact (s.perm (E' := (t6, 0, [ptr n 0]) :: (t3, 0, [vi, .slice a 0 cap, vc]) :: (t4, 0, [ptr n 0]) :: (n, 0, [.int .u64 iso, .int .i64 (its : List It).length, iv, .pointer none]) :: (ib, io, (its : List It).flatMap enc ++ isp) :: []) (by ((apply perm_rg; intro f; simp only [set_cons_zero, set_cons_succ, eraseIdx_cons_zero, eraseIdx_cons_succ, cons_append, nil_append, map_append, map_cons, map_nil, List.sum_append, List.sum_cons, List.sum_nil, map_flatMap, Nat.add_zero, Nat.zero_add]; ac_rfl)))).drop 3
  | k + 1, x, h, tb, iso, vi, vk, vc, Q, hi, ⟨hr, hne, cs, hcl, hrk, hks⟩, hsh, hsz, hvc, H => by
    have hkl : x.2.length ≠ 0 := fun e => hne (List.length_eq_zero_iff.1 e)
    refine i_planted.body _ _ _ _ ?_; unfold i_planted.sh
    have s := St.start h
    refine St.r_box (cs := [vi, vk, vc]) s fun t3 h s => ?_; refine s.r_alloc fun t4 h s => ?_; refine r_fld ?_; refine St.r_load0 s 1 rfl rfl ?_; refine items_new s (hr.st s) hsh.1 fun iv ib io isp h s w => ?_; refine r_fld ?_; refine St.r_load0 s 2 rfl rfl ?_; refine (hrk.st s).lenV ?_; refine r_cmpI ?_; refine r_if (fun e => absurd (show (cs.length : Int) = 0 by simpa using e) (by omega)) (fun _ => ?_)
    unfold i_planted.j1; refine DoorInner_ok (s.base hi) w.one fun n kb h s1 => ?_
    have s := s.join s1
    refine s.r_alloc fun t7 h s => ?_; refine St.r_storeN0 s 0 (ys := [ptr n 0]) rfl rfl (by simp) (by simp [one1]) ?_; intro h s
    have s : St _ [] ((t7, 0, [ptr n 0]) :: (t3, 0, [vi, vk, vc]) :: (t4, 0, [.pointer none]) :: (n, 0, [.int .u64 iso, .int .i64 0, iv, ptr kb 0]) :: (ib, io, x.1.flatMap enc ++ isp) :: (kb, 0, [.slice none 0 0]) :: []) h := s.perm (by ((apply perm_rg; intro f; simp only [set_cons_zero, set_cons_succ, eraseIdx_cons_zero, eraseIdx_cons_succ, cons_append, nil_append, map_append, map_cons, map_nil, List.sum_append, List.sum_cons, List.sum_nil, map_flatMap, Nat.add_zero, Nat.zero_add]; ac_rfl)))
    refine r_fld ?_; refine St.r_load0 s 1 rfl rfl ?_; refine (hrk.st s).lenV ?_
    refine loop_intro (fun t h' => ∃ j : Nat, t = [.int .i64 j] ∧ j ≤ x.2.length ∧ ∃ (ts : List (GT It k)) (kv : Value) (rb ro : Nat) (ksp : List Value), ts.map GT.pt = x.2.take j ∧ (∀ t, t ∈ ts → Gd iso t) ∧ Own 1 kv j rb ro ((ts.map GT.id).flatMap fp) ksp ∧
        St _ [] ((t7, 0, [ptr n 0]) :: (t3, 0, [vi, vk, vc]) :: (t4, 0, [.pointer none]) :: (n, 0, [.int .u64 iso, .int .i64 0, iv, ptr kb 0]) :: (ib, io, x.1.flatMap enc ++ isp) :: (kb, 0, [kv]) :: (rb, ro, (ts.map GT.id).flatMap fp ++ ksp) :: ts.flatMap (GT.all enc)) h')
      (fun t _ => x.2.length - (Hp.iv (t.getD 0 undef)).toNat) ⟨0, rfl, by omega, [], .slice none 0 0, 0, 0, [], rfl, (fun t ht => absurd ht List.not_mem_nil), Own.nil 1 0 0, (s.empty 0 0).perm (by ((apply perm_rg; intro f; simp only [set_cons_zero, set_cons_succ, eraseIdx_cons_zero, eraseIdx_cons_succ, cons_append, nil_append, map_append, map_cons, map_nil, List.sum_append, List.sum_cons, List.sum_nil, map_flatMap, Nat.add_zero, Nat.zero_add]; ac_rfl)))⟩ ?_
    rintro t h ⟨j, rfl, hj, ts, kv, rb, ro, ksp, hts, hw, wkk, s⟩
    have htl : ts.length = j := by have := congrArg List.length hts; simp at this; omega
    unfold i_planted.l3.b; refine r_cmpI ?_; refine r_if (fun hlt => ?_) (fun hge => ?_)
    · have hlt : j < x.2.length := by simp at hlt; omega
      unfold i_planted.j4; refine (hrk.st s).at (n := j) (f := encN) rfl (fun _ => rfl) rfl rfl (by omega) fun b o hb => ?_; refine hb.loadN rfl ?_; refine s.r_alloc fun t9 h s => ?_
      have hak := hks j hlt (by omega)
      refine St.r_storeN0 s 0 (ys := [cs[j].1, cs[j].2.1, .int .i64 cs[j].2.2]) rfl rfl (by simp) (one3 hak.one.1 hak.one.2 rfl) ?_; intro h s
      refine St.r_loadN0 s 1 rfl (by simp) ?_; refine St.r_loadN0 s 0 rfl (by simp) ?_; refine planted_ok x.2[j] (s.base hi) (hak.fr s.fr) (hsh.2.2 _ (List.getElem_mem hlt)) ?_ rfl fun t h ht1 gt s1 => ?_
      · have h1 : x.items.length = x.1.length + ((x.2.map PT.items).map List.length).sum := inter_length _ _
        have h2 : (x.2[j].items).length ≤ ((x.2.map PT.items).map List.length).sum := mem_le_sum (by
          rw [List.map_map]; exact List.mem_map.2 ⟨x.2[j], List.getElem_mem hlt, rfl⟩)
        omega
      have s := (s.join s1).perm List.perm_append_comm
      refine ⟨St.r_stillN0 s 1 (j := 0) rfl (by simp) rfl, ?_⟩
      have s : St _ [] ((t9, 0, [cs[j].1, cs[j].2.1, .int .i64 cs[j].2.2]) :: (t7, 0, [ptr n 0]) :: (t3, 0, [vi, vk, vc]) :: (t4, 0, [.pointer none]) :: (n, 0, [.int .u64 iso, .int .i64 0, iv, ptr kb 0]) :: (ib, io, x.1.flatMap enc ++ isp) :: (kb, 0, [kv]) :: (rb, ro, (ts.map GT.id).flatMap fp ++ ksp) :: (ts.flatMap (GT.all enc) ++ t.all enc)) h := s
      refine DoorAppend_ok (m := t.id) (n := n) (kb := kb) (c1 := .int .u64 iso) (c2 := .int .i64 0) (iv := iv) (E := (t9, 0, [cs[j].1, cs[j].2.1, .int .i64 cs[j].2.2]) :: (t7, 0, [ptr n 0]) :: (t3, 0, [vi, vk, vc]) :: (t4, 0, [.pointer none]) :: (ib, io, x.1.flatMap enc ++ isp) :: (ts.flatMap (GT.all enc) ++ t.all enc)) (s.perm (by ((apply perm_rg; intro f; simp only [set_cons_zero, set_cons_succ, eraseIdx_cons_zero, eraseIdx_cons_succ, cons_append, nil_append, map_append, map_cons, map_nil, List.sum_append, List.sum_cons, List.sum_nil, map_flatMap, Nat.add_zero, Nat.zero_add]; ac_rfl)))) wkk (by have := hsh.1; have := hsh.2.1; omega) fun kv' b' o' sp' h s w' => ?_; unfold i_planted.j5; refine r_add (z := ((j + 1 : Nat) : Int)) (by have := hsh.1; have := hsh.2.1; rw [i64w (by omega) (by omega)]; omega) ?_
      have eids : (ts.map GT.id).flatMap fp ++ [ptr t.id 0] = ((ts ++ [t]).map GT.id).flatMap fp := by rw [List.map_append, List.flatMap_append]; simp
      rw [eids] at s w'; refine ⟨⟨j + 1, rfl, hlt, ts ++ [t], kv', b', o', sp', ?_, fun t' ht' => ?_, w', ?_⟩, by simp; omega⟩
      · rw [List.map_append, hts, List.take_succ_eq_append_getElem hlt, List.map_cons, ht1]; rfl
      · rcases List.mem_append.1 ht' with e | e
        · exact hw t' e
        · rw [List.mem_singleton.1 e]; exact gt
      · refine (s.perm (E' := (t9, 0, [cs[j].1, cs[j].2.1, .int .i64 cs[j].2.2]) :: _) ?_).drop 1
        rw [List.flatMap_append (xs := ts), List.flatMap_singleton]
        ((apply perm_rg; intro f; simp only [set_cons_zero, set_cons_succ, eraseIdx_cons_zero, eraseIdx_cons_succ, cons_append, nil_append, map_append, map_cons, map_nil, List.sum_append, List.sum_cons, List.sum_nil, map_flatMap, Nat.add_zero, Nat.zero_add]; ac_rfl))
    · have hge : j = x.2.length := by simp at hge; omega
      subst hge; rw [List.take_length] at hts; unfold i_planted.j2; refine St.r_loadN0 s 0 rfl (by simp) ?_
      have hit : x.items.length = x.1.length + (ts.map fun t => t.pt.items.length).sum := by
        have h1 : x.items.length = x.1.length + ((x.2.map PT.items).map List.length).sum := inter_length _ _
        rw [h1, ← hts, List.map_map, List.map_map]; rfl
      refine DoorNode_I_DoorUpdateCount.body _ _ _ ?_; unfold DoorNode_I_DoorUpdateCount.sh; refine St.r_box (cs := [ptr n 0]) s fun t1 h s => ?_; refine r_fld ?_; refine St.r_load0 s 0 rfl rfl ?_
      refine updateCount_kids (ts := ts) (n := n) (kb := kb) (c1 := .int .u64 iso) (c2 := .int .i64 0) (iv := iv) (rb := rb) (ro := ro) (ksp := ksp) (kv := kv) (E := (t1, 0, [ptr n 0]) :: (t7, 0, [ptr n 0]) :: (t3, 0, [vi, vk, vc]) :: (t4, 0, [.pointer none]) :: (ib, io, x.1.flatMap enc ++ isp) :: ts.flatMap (GT.all enc)) (s.perm (by ((apply perm_rg; intro f; simp only [set_cons_zero, set_cons_succ, eraseIdx_cons_zero, eraseIdx_cons_succ, cons_append, nil_append, map_append, map_cons, map_nil, List.sum_append, List.sum_cons, List.sum_nil, map_flatMap, Nat.add_zero, Nat.zero_add]; ac_rfl)))) w (by rw [List.length_map, htl]; exact wkk) (fun t ht => (hw t ht).cn)
        (fun t ht r hr => by
          refine List.mem_cons_of_mem _ (List.mem_cons_of_mem _ (List.mem_cons_of_mem _ (List.mem_cons_of_mem _ (List.mem_cons_of_mem _ ?_))))
          exact List.mem_flatMap.2 ⟨t, ht, hr⟩) (by have := hsh.1; have := hsh.2.1; omega) (by omega) fun h s => ?_
      rw [← hit] at s; refine St.r_loadN0 s 4 rfl (by simp) ?_; refine St.r_storeN0 s 6 (ys := [ptr n 0]) rfl rfl (by simp) (by simp [one1]) ?_; intro h s
      refine St.r_loadN0 s 6 rfl (by simp) ?_
      have hpt : GT.pt (h := k + 1) ((⟨true, n, iso, (x.items.length : Nat), x.1, iv, ib, io, isp, kb, kv, rb, ro, ksp⟩ : Nd It), ts) = x := by
        show (x.1, ts.map GT.pt) = x
        rw [hts]; rfl
      refine H ((⟨true, n, iso, (x.items.length : Nat), x.1, iv, ib, io, isp, kb, kv, rb, ro, ksp⟩ : Nd It), ts) h hpt (Gd.inner w rfl rfl (by rw [htl]; exact wkk) (by rw [htl]; exact hsh.2.1) hw (by rw [hpt])) ?_
      have s : St _ [] ((t1, 0, [ptr n 0]) :: (t7, 0, [ptr n 0]) :: (t3, 0, [vi, vk, vc]) :: (t4, 0, [ptr n 0]) :: (n, 0, [.int .u64 iso, .int .i64 x.items.length, iv, ptr kb 0]) :: (ib, io, x.1.flatMap enc ++ isp) :: (kb, 0, [kv]) :: (rb, ro, (ts.map GT.id).flatMap fp ++ ksp) :: ts.flatMap (GT.all enc)) h := s.perm (by ((apply perm_rg; intro f; simp only [set_cons_zero, set_cons_succ, eraseIdx_cons_zero, eraseIdx_cons_succ, cons_append, nil_append, map_append, map_cons, map_nil, List.sum_append, List.sum_cons, List.sum_nil, map_flatMap, Nat.add_zero, Nat.zero_add]; ac_rfl)))
      rw [← mfp] at s; exact s.drop 4
theorem DoorPlant_ok {tb n : Nat} {iso cnt c0 mn mx : Int} {ctr root : Option Addr} {a1 a2 a3 : Value} (s : St h0 Z ((tb, 0, hdr iso ctr root c0 lf mn mx) :: E) h) (hn : (n, 0, [a1, .int .i64 cnt, a2, a3]) ∈ E ++ Z)
    (H : ∀ h', St h0 Z ((tb, 0, hdr iso ctr (some ⟨n, 0, none⟩) cnt lf mn mx) :: E) h' → Q (.tuple #[]) h') : BTreeG_I_DoorPlant.call #[ptr tb 0, .agg #[ptr n 0]] h Q := by
  refine BTreeG_I_DoorPlant.body _ _ _ _ ?_; unfold BTreeG_I_DoorPlant.sh; refine St.r_box (cs := [ptr n 0]) s fun t h s => ?_; refine r_fld ?_; refine St.r_load0 s 0 rfl rfl ?_; refine r_fld ?_; refine St.r_load0 s 0 rfl rfl ?_; refine r_nil ?_; refine r_fld ?_; refine s.r_loadM (xs := [a1, .int .i64 cnt, a2, a3]) (List.mem_cons_of_mem _ (List.mem_cons_of_mem _ hn)) rfl ?_; refine r_nil ?_; refine r_fld ?_; refine St.r_store0 s 1 rfl (by simp) rfl ?_; intro h s
  try simp only [List.set_cons_zero, List.set_cons_succ] at s
  refine r_nil ?_; refine r_fld ?_; refine St.r_store0 s 1 rfl (by simp) rfl ?_; intro h s
  try simp only [List.set_cons_zero, List.set_cons_succ] at s
  exact H h (s.drop 1)
theorem options_ok {ov : Value} {d : Int} {nl : Bool} (h1 : one1 ov = true) (H : ∀ E' h', St h [] E' h' → Q (.agg #[.int .i64 d, .bool nl]) h') : i_options.call #[.agg #[ov, .int .i64 d, .bool nl]] h Q := by
  refine i_options.body _ _ _ ?_; unfold i_options.sh
  have s := St.start h
  refine St.r_box (cs := [ov, .int .i64 d, .bool nl]) s fun t1 h s => ?_; refine s.r_alloc fun t2 h s => ?_; refine r_fld ?_; refine St.r_load0 s 1 rfl rfl ?_; refine r_fld ?_; refine St.r_load0 s 1 rfl rfl ?_
  ((apply r_build; ((simp only [fillV, fill1, Value.cells, zeros_succ, zeros_zero, size_toArray, length_cons, length_nil, length_append, take_succ_cons, take_zero, take_nil, drop_succ_cons, drop_zero, drop_nil, cons_append, nil_append, append_nil, Nat.reduceAdd, Nat.reduceMul, Nat.reduceLeDiff, Nat.reduceEqDiff, and_self, and_true, true_and, if_true, Nat.le_refl, Nat.zero_add, Nat.add_zero, Nat.zero_mul, reduceIte, if_false] <;> rfl))))
  (refine St.r_storeN0 s 0 rfl rfl (by simp) (by simp [one1]) ?_; intro h s; try simp only [List.set_cons_zero, List.set_cons_succ] at s)
  refine St.r_loadN0 s 0 rfl (by simp) ?_; exact H _ _ s
structure Tr (b : Heap) (Z : List Rg) (ow : List Int) (d : Nat) (tb : Nat) (g : Rt) (A E : List Rg) (lf : Value) (cb : Nat) (h : Heap) : Prop where
  ord : OrdA A lf (ltO ow)
  ok : TreeOk (ltO ow) (dmax d) 1 g
  st : St b Z ((tb, 0, hdr 1 (some ⟨cb, 0, none⟩) (rA g) (rPt g).items.length lf (dmin d : Nat) (dmax d : Nat)) :: (rAll g ++ (A ++ E))) h
theorem grow_nil {ow : List Int} {ov : Value} {d : Nat} {nl : Bool} (ho : OwAt h ow ov) (hd : d = 0 ∨ 2 ≤ d) (hd2 : d ≤ 512)
    (H : ∀ tb lf cb A E' h', Tr h [] ow d tb none A E' lf cb h' → Q (ptr tb 0) h') : i_grow.call #[.agg #[ov, .int .i64 d, .bool nl], .slice none 0 0] h Q := by
  obtain ⟨m3, m1, mo, _, _⟩ := dmax_ok hd hd2; refine i_grow.body _ _ _ _ ?_; unfold i_grow.sh
  have s := St.start h
  refine St.r_box (cs := [ov, .int .i64 d, .bool nl]) s fun t2 h1 s => ?_; refine r_fld ?_; refine St.r_load0 s 0 rfl rfl ?_; refine St.r_loadN0 s 0 rfl (by simp) ?_; refine before_ok (ho.st s).rd ho.le fun lf A E1 h1 hA s1 => ?_
  have s := (s.join s1).perm List.perm_append_comm
  refine ⟨St.r_stillN0 s 0 (j := 0) rfl (by simp) rfl, ?_⟩
  refine options_ok ho.one fun E2 h1 s2 => ?_
  have s := (s.join s2).perm List.perm_append_comm
  refine New_ok s hd hd2 ((hA A fun _ h => h).one) fun tb cb h1 s => ?_; refine r_len ?_; refine loop_ghost (fun q st h' => q = 0 ∧ st = [.int .i64 0] ∧ h' = h1) (n0 := 0) ⟨rfl, rfl, rfl⟩ ?_
  rintro q st _ ⟨rfl, rfl, rfl⟩ K HK
  unfold i_grow.l2.b; refine r_cmpI ?_; refine r_if (fun e => absurd e (by decide)) (fun _ => ?_)
  unfold i_grow.j1; refine H tb lf cb A ((cb, 0, [.int .u64 1]) :: (t2, 0, [ov, .int .i64 d, .bool nl]) :: (E1 ++ E2)) _ ⟨hA, TreeOk.none m3 m1 mo, ?_⟩
  exact s.perm (by simp only [rAll]; ((apply perm_rg; intro f; simp only [set_cons_zero, set_cons_succ, eraseIdx_cons_zero, eraseIdx_cons_succ, cons_append, nil_append, map_append, map_cons, map_nil, List.sum_append, List.sum_cons, List.sum_nil, map_flatMap, Nat.add_zero, Nat.zero_add]; ac_rfl)))
end Go.Proofs.Ytljecmjdmdjldaa.Gi
end
section
namespace Go.Proofs.Ytljecmjdmdjldaa.Gi
open Go.Hp Go.Proofs.Ytljecmjdmdjldaa
variable {h0 h : Heap} {Z E : List Rg} {Q : Value → Heap → Prop} {lt : It → It → Bool} {lf : Value}
theorem s_Fits_ok {d : Int} (H : Q (.bool (decide (d = 0 ∨ (2 ≤ d ∧ d ≤ 128)))) h) : s_Fits.call #[.int .i64 d] h Q := by
  refine s_Fits.body _ _ _ ?_; unfold s_Fits.sh; refine r_cmpI ?_; refine r_br (fun e => ?_) (fun e => ?_)
  · have e : d ≠ 0 := by simpa using e
    refine r_cmpI ?_; refine r_br (fun e2 => ?_) (fun e2 => ?_)
    · have e2 : 2 ≤ d := by simpa using e2
      refine r_cmpI ?_
      simpa [e, e2] using H
    · have e2 : ¬ 2 ≤ d := by simpa using e2
      simpa [e, e2] using H
  · have e : d = 0 := by simpa using e
    simpa [e] using H
theorem l_fits_ok {ov : Value} {d : Int} {nl : Bool} (h1 : one1 ov = true) (H : ∀ E' h', St h [] E' h' → Q (.bool (decide (d = 0 ∨ (2 ≤ d ∧ d ≤ 128)))) h') : l_fits.call #[.agg #[ov, .int .i64 d, .bool nl]] h Q := by
  refine l_fits.body _ _ _ ?_; unfold l_fits.sh
  have s := St.start h
  refine St.r_box (cs := [ov, .int .i64 d, .bool nl]) s fun t1 h1 s => ?_; refine r_fld ?_; refine St.r_load0 s 0 rfl rfl ?_; refine s_Fits_ok ?_; exact H _ _ s
theorem l_zzFits1_ok {ow : List Int} {ov : Value} {d : Int} {nl : Bool} (hr : Rdl 1 h ov ow.length (ow.flatMap fi)) (H : ∀ E' h', St h [] E' h' → Q (.bool (decide (ow.length ≤ 2147483647))) h') : l_zzFits1.call #[.agg #[ov, .int .i64 d, .bool nl]] h Q := by
  refine l_zzFits1.body _ _ _ ?_; unfold l_zzFits1.sh
  have s := St.start h
  refine St.r_box (cs := [ov, .int .i64 d, .bool nl]) s fun t1 h1 s => ?_; refine r_fld ?_; refine St.r_load0 s 0 rfl rfl ?_; refine (hr.st s).lenV ?_; refine r_cmpI ?_; refine r_if (fun e => ?_) (fun e => ?_)
  · have e : ¬ ow.length ≤ 2147483647 := by have := of_decide_eq_true e; omega
    have := H _ _ s
    simpa [e] using this
  · have e : ow.length ≤ 2147483647 := by have := of_decide_eq_false e; omega
    have := H _ _ s
    unfold l_zzFits1.j1
    simpa [e] using this
end Go.Proofs.Ytljecmjdmdjldaa.Gi
end
section
namespace Go.Proofs.Ytljecmjdmdjldaa.Gi
open Go.Hp Go.Proofs.Ytljecmjdmdjldaa
variable {h0 h : Heap} {Z E : List Rg} {Q : Value → Heap → Prop} {lt : It → It → Bool} {lf : Value}
theorem allZ_leaf {d : Nd It} (hz : ∀ r ∈ GT.all enc (h := 0) d, r ∈ Z) : (d.n, 0, [.int .u64 d.iso, .int .i64 d.cnt, d.iv, .pointer none]) ∈ Z ∧ (d.ib, d.io, d.its.flatMap enc ++ d.isp) ∈ Z := by
  have hz : ∀ r ∈ d.leaf enc, r ∈ Z := hz
  exact ⟨hz _ (List.mem_cons_self ..), hz _ (List.mem_cons_of_mem _ (List.mem_cons_self ..))⟩
theorem allZ_inner {k : Nat} {d : Nd It} {ts : List (GT It k)} (hz : ∀ r ∈ GT.all enc (h := k + 1) (d, ts), r ∈ Z) :
    (d.n, 0, [.int .u64 d.iso, .int .i64 d.cnt, d.iv, ptr d.kb 0]) ∈ Z ∧ (d.ib, d.io, d.its.flatMap enc ++ d.isp) ∈ Z ∧ (d.kb, 0, [d.kv]) ∈ Z ∧ (d.krb, d.kro, (ts.map GT.id).flatMap fp ++ d.ksp) ∈ Z ∧ ∀ c ∈ ts, ∀ r ∈ c.all enc, r ∈ Z := by
  have hz : ∀ r ∈ d.inner enc (ts.map GT.id) ++ ts.flatMap (GT.all enc), r ∈ Z := hz
  have h1 : ∀ r ∈ d.inner enc (ts.map GT.id), r ∈ Z := fun r hr => hz r (List.mem_append.2 (.inl hr))
  refine ⟨h1 _ (List.mem_cons_self ..), h1 _ (List.mem_cons_of_mem _ (List.mem_cons_self ..)), h1 _ (List.mem_cons_of_mem _ (List.mem_cons_of_mem _ (List.mem_cons_self ..))), ?_, fun c hc r hr => hz r (List.mem_append.2 (.inr (List.mem_flatMap.2 ⟨c, hc, hr⟩)))⟩
  have := h1 _ (List.mem_cons_of_mem _ (List.mem_cons_of_mem _ (List.mem_cons_of_mem _ (List.mem_cons_self ..))))
  rw [mfp] at this; exact this
theorem kidcell {k : Nat} {ts : List (GT It k)} {krb kro i : Nat} {ksp : List Value} {c : GT It k} (hk : (krb, kro, (ts.map GT.id).flatMap fp ++ ksp) ∈ Z) (hc : ts[i]? = some c) (s : St h0 Z E h) : cl h krb (kro + i * 1) = some (ptr c.id 0) := by
  have hi : i < (ts.map GT.id).length := by rw [List.length_map]; exact (List.getElem?_eq_some_iff.1 hc).1
  refine s.clz hk (i * 1) rfl ?_; rw [List.getElem?_append_left (by rw [flat_len fpl]; omega)]
  have := flat_get (f := fp) fpl (ts.map GT.id) i hi 0 (by decide)
  rw [Nat.add_zero] at this; rw [this]
  have e : (ts.map GT.id)[i] = c.id := by
    have : (ts.map GT.id)[i]? = some c.id := by rw [List.getElem?_map, hc]; rfl
    exact (List.getElem?_eq_some_iff.1 this).2
  rw [e]; rfl
def Iso (Z : List Rg) (tb : Nat) (iso : Int) : Prop := ∃ xs, (tb, 0, xs) ∈ Z ∧ xs[0]? = some (.int .u64 iso)
theorem Iso.at {tb : Nat} {iso : Int} (i : Iso Z tb iso) (s : St h0 Z E h) : cl h tb 0 = some (.int .u64 iso) := by
  obtain ⟨xs, h1, h2⟩ := i; exact s.clz h1 0 rfl h2
theorem nodeItems_ok {m tb : Nat} {iso : Int} (hm : m ≤ 1024) (hi : Iso Z tb iso) : ∀ {k : Nat} (t : GT It k) {lo : Nat} (g : Gd iso t) (fl : t.pt.Fl m lo) (hz : ∀ r ∈ t.all enc, r ∈ Z) {L : List It} {v : Value} {b o pb po : Nat} {sp : List Value} {E : List Rg} {h : Heap} {Q : Value → Heap → Prop},
    L.length + t.pt.items.length ≤ 4294967295 → cl h pb po = some (ptr t.id 0) → Own 2 v L.length b o (L.flatMap enc) sp → St h0 Z ((b, o, L.flatMap enc ++ sp) :: E) h →
    (∀ v' b' o' sp' h', Own 2 v' (L ++ t.pt.items).length b' o' ((L ++ t.pt.items).flatMap enc) sp' → St h0 Z ((b', o', (L ++ t.pt.items).flatMap enc ++ sp') :: E) h' → Q v' h') → BTreeG_I_nodeItems.call #[ptr tb 0, ptr pb po, v, .bool false] h Q
  | 0, (d : Nd It), lo, g, fl, hz, L, v, b, o, pb, po, sp, E, h, Q, hN, hp, wv, s, H => by
    obtain ⟨own, n, is', cnt, its, iv, ib, io, isp, kb, kv', krb, kro, ksp⟩ := d; obtain ⟨z1, z2⟩ := allZ_leaf hz
    have w : Own 2 iv its.length ib io (its.flatMap enc) isp := g.wf.1
    have hl : its.length ≤ m := fl.2
    have hN : L.length + its.length ≤ 4294967295 := hN
    have H : ∀ v' b' o' sp' h', Own 2 v' (L ++ its).length b' o' ((L ++ its).flatMap enc) sp' → St h0 Z ((b', o', (L ++ its).flatMap enc ++ sp') :: E) h' → Q v' h' := H
    refine BTreeG_I_nodeItems.body _ _ _ _ _ _ ?_; unfold BTreeG_I_nodeItems.sh; refine isoLoad_ok (n := n) (hi.at s) hp (fun e => by cases e) ?_; refine node_leaf_ok (a := none) (s.clz z1 3 rfl rfl) ?_; refine r_if (fun _ => ?_) (fun e => absurd e (by simp))
    refine r_nil ?_; refine r_fld ?_; refine s.r_lz0 z1 (j := 2) rfl ?_; refine s.r_appL (f := enc) (L := L) (M := its) 0 rfl wv rfl (w.rdlO (s.z _ z2)) (fun _ _ => enc1 _) (by omega) (by omega) fun v' b' o' sp' h s w' => ?_; exact H v' b' o' sp' h w' s
  | k + 1, t, lo, g, fl, hz, L, v, b, o, pb, po, sp, E, h, Q, hN, hp, wv, s, H => by
    obtain ⟨d, ts⟩ := t; obtain ⟨own, n, is', cnt, its, iv, ib, io, isp, kb, kv', krb, kro, ksp⟩ := d; obtain ⟨z1, z2, z3, z4, z5⟩ := allZ_inner hz
    have w : Own 2 iv its.length ib io (its.flatMap enc) isp := g.wf.1.1
    have wK : Own 1 kv' ts.length krb kro ((ts.map GT.id).map fun m => ptr m 0) ksp := g.wf.2.1
    have hkl : ts.length = its.length + 1 := g.wf.2.2.1
    have hl : its.length ≤ m := fl.2.1
    have hpl : ∀ i, ((ts.take i).map fun t => t.pt.items) = (((ts.map GT.pt).take i).map PT.items) := fun i => by rw [← List.map_take, List.map_map]; rfl
    have hsplit : ∀ i (hi : i ≤ its.length) c, ts[i]? = some c → PT.items (h := k + 1) (its, ts.map GT.pt) = lz (its.take i) ((ts.take i).map fun t => t.pt.items) ++ (c.pt.items ++ rz (its.drop i) (((ts.map GT.pt).drop (i + 1)).map PT.items)) := by
      intro i hi c hc; obtain ⟨c', hc', _, e⟩ := PT.around (t := ((its, ts.map GT.pt) : PT It (k + 1))) fl hi
      have hc' : (ts.map GT.pt)[i]? = some c' := hc'
      rw [List.getElem?_map, hc] at hc'
      have : c' = c.pt := (Option.some.inj hc').symm
      subst this; rw [hpl]; exact e
    have hN : L.length + (PT.items (h := k + 1) (its, ts.map GT.pt)).length ≤ 4294967295 := hN
    have H : ∀ v' b' o' sp' h', Own 2 v' (L ++ PT.items (h := k + 1) (its, ts.map GT.pt)).length b' o' ((L ++ PT.items (h := k + 1) (its, ts.map GT.pt)).flatMap enc) sp' → St h0 Z ((b', o', (L ++ PT.items (h := k + 1) (its, ts.map GT.pt)).flatMap enc ++ sp') :: E) h' → Q v' h' := H
    refine BTreeG_I_nodeItems.body _ _ _ _ _ _ ?_; unfold BTreeG_I_nodeItems.sh; refine isoLoad_ok (n := n) (hi.at s) hp (fun e => by cases e) ?_; refine node_leaf_ok (a := some ⟨kb, 0, Option.none⟩) (s.clz z1 3 rfl rfl) ?_; refine r_if (fun e => absurd e (by simp)) (fun _ => ?_)
    unfold BTreeG_I_nodeItems.j1
    refine loop_ghost (fun q st h => ∃ j v b o sp, q = its.length - j ∧ j ≤ its.length ∧ st = [v, .int .i64 (j : Nat)] ∧ Own 2 v (L ++ lz (its.take j) ((ts.take j).map fun t => t.pt.items)).length b o ((L ++ lz (its.take j) ((ts.take j).map fun t => t.pt.items)).flatMap enc) sp ∧ St h0 Z ((b, o, (L ++ lz (its.take j) ((ts.take j).map fun t => t.pt.items)).flatMap enc ++ sp) :: E) h)
      (n0 := its.length) ⟨0, v, b, o, sp, rfl, Nat.zero_le _, rfl, by simpa [lz] using wv, by simpa [lz] using s⟩ ?_
    clear s
    rintro q st h ⟨j, v, b, o, sp, rfl, hj, rfl, wv, s⟩ K HK
    obtain ⟨c, hc⟩ : ∃ c, ts[j]? = some c := ⟨ts[j]'(by omega), List.getElem?_eq_getElem (by omega)⟩
    have hcm := List.mem_of_getElem? hc
    have hfc : PT.Fl m (m / 2) c.pt := fl.2.2.2 _ (List.mem_map.2 ⟨c, hcm, rfl⟩)
    have hs := hsplit j hj c hc
    have hsl := congrArg List.length hs
    simp only [List.length_append] at hsl
    unfold BTreeG_I_nodeItems.l3.b; refine r_nil ?_; refine r_fld ?_; refine s.r_lz0 z1 (j := 2) rfl ?_; refine w.lenV ?_; refine r_cmpI ?_; refine r_if (fun hlt => ?_) (fun hge => ?_)
    · have hlt : j < its.length := by simpa using hlt
      have hx : its[j]? = some its[j] := List.getElem?_eq_getElem hlt
      have et : its.take (j + 1) = its.take j ++ [its[j]] := List.take_succ_eq_append_getElem hlt
      have ek : ts.take (j + 1) = ts.take j ++ [c] := by rw [List.take_add_one, hc]; rfl
      have ez : lz (its.take (j + 1)) ((ts.take (j + 1)).map fun t => t.pt.items) = lz (its.take j) ((ts.take j).map fun t => t.pt.items) ++ (c.pt.items ++ [its[j]]) := by
        rw [et, ek, List.map_append, List.map_cons, List.map_nil, lz_snoc _ _ _ _ (by simp; omega)]
      obtain ⟨rest, hrest⟩ : ∃ rest, rz (its.drop j) (((ts.map GT.pt).drop (j + 1)).map PT.items) = its[j] :: rest := by
        have e1 : its.drop j = its[j] :: its.drop (j + 1) := List.drop_eq_getElem_cons hlt
        have e2 : (ts.map GT.pt).drop (j + 1) = (ts.map GT.pt)[j + 1]'(by simp; omega) :: (ts.map GT.pt).drop (j + 1 + 1) := List.drop_eq_getElem_cons (by simp; omega)
        rw [e1, e2, List.map_cons, rz_cons]; exact ⟨_, rfl⟩
      rw [hrest, List.length_cons] at hsl; unfold BTreeG_I_nodeItems.j4; refine r_nil ?_; refine r_fld ?_; refine s.r_lz0 z1 (j := 3) rfl ?_; refine r_nil ?_; refine s.r_lz0 z3 (j := 0) rfl ?_; refine wK.idx (n := j) rfl (by omega) ?_; refine nodeItems_ok hm hi c (g.kid hcm) hfc (z5 c hcm) (by rw [List.length_append]; omega) (kidcell z4 hc s) wv s fun v2 b2 o2 sp2 h s2 s => ?_; refine r_nil ?_; refine r_fld ?_; refine s.r_lz0 z1 (j := 2) rfl ?_; refine w.idx (n := j) rfl hlt ?_; refine s.r_loadFZ encl z2 hx ?_; refine St.r_mkSl (sz := 2) (cs := enc its[j]) s (by ((simp only [fillV, fill1, Value.cells, zeros_succ, zeros_zero, size_toArray, length_cons, length_nil, length_append, take_succ_cons, take_zero, take_nil, drop_succ_cons, drop_zero, drop_nil, cons_append, nil_append, append_nil, Nat.reduceAdd, Nat.reduceMul, Nat.reduceLeDiff, Nat.reduceEqDiff, and_self, and_true, true_and, if_true, Nat.le_refl, Nat.zero_add, Nat.add_zero, Nat.zero_mul, reduceIte, if_false] <;> rfl))) rfl fun q h s w1 => ?_; refine St.r_app s 1 (sz := 2) (n := 1) (new := enc its[j]) rfl s2 rfl (w1.rdl s 0 rfl) (enc1 _) (by simp only [List.length_append]; omega) (by simp only [List.length_append]; omega) fun v' b' o' sp' h s w' => ?_; rw [snoc_enc] at s w'
      have e9 : (L ++ lz (its.take j) ((ts.take j).map fun t => t.pt.items) ++ c.pt.items) ++ [its[j]] = L ++ lz (its.take (j + 1)) ((ts.take (j + 1)).map fun t => t.pt.items) := by
        rw [ez]; simp
      have w' : Own 2 v' ((L ++ lz (its.take j) ((ts.take j).map fun t => t.pt.items) ++ c.pt.items) ++ [its[j]]).length b' o' (((L ++ lz (its.take j) ((ts.take j).map fun t => t.pt.items) ++ c.pt.items) ++ [its[j]]).flatMap enc) sp' := by rw [List.length_append]; exact w'
      rw [e9] at s w'; unfold BTreeG_I_nodeItems.j5; refine r_add (z := ((j + 1 : Nat) : Int)) (by rw [i64w (by omega) (by omega)]; omega) ?_; exact HK (its.length - (j + 1)) _ _ (by omega) ⟨j + 1, v', b', o', sp', rfl, hlt, rfl, w', s.drop 1⟩
    · have hge : j = its.length := by simp at hge; omega
      subst hge
      have hr0 : rz (its.drop its.length) (((ts.map GT.pt).drop (its.length + 1)).map PT.items) = [] := by rw [List.drop_length]; rfl
      rw [hr0, List.append_nil] at hs; unfold BTreeG_I_nodeItems.j2; refine r_nil ?_; refine r_fld ?_; refine s.r_lz0 z1 (j := 3) rfl ?_; refine r_nil ?_; refine s.r_lz0 z3 (j := 0) rfl ?_; refine r_nil ?_; refine r_fld ?_; refine s.r_lz0 z1 (j := 3) rfl ?_; refine r_nil ?_; refine s.r_lz0 z3 (j := 0) rfl ?_; refine wK.lenV ?_; refine r_sub (z := ((its.length : Nat) : Int)) (by rw [i64w (by omega) (by omega)]; omega) ?_; refine wK.idx (n := its.length) rfl (by omega) ?_; refine nodeItems_ok hm hi c (g.kid hcm) hfc (z5 c hcm) (by rw [List.length_append]; omega) (kidcell z4 hc s) wv s fun v2 b2 o2 sp2 h s2 s => ?_
      have e9 : L ++ lz (its.take its.length) ((ts.take its.length).map fun t => t.pt.items) ++ c.pt.items = L ++ PT.items (h := k + 1) (its, ts.map GT.pt) := by rw [hs]; simp
      rw [e9] at s s2; exact H v2 b2 o2 sp2 h s2 s
theorem Items_ok {g : Rt} {tb m : Nat} {iso mn mx : Int} {ctr : Option Addr} (M : TreeOk lt m iso g) (hl : (rPt g).items.length ≤ 4294967295) (s : St h0 Z (((tb, 0, hdr iso ctr (rA g) (rPt g).items.length lf mn mx) :: rAll g) ++ E) h)
    (H : ∀ v b o sp h', Own 2 v (rPt g).items.length b o ((rPt g).items.flatMap enc) sp → St h0 Z ((b, o, (rPt g).items.flatMap enc ++ sp) :: (((tb, 0, hdr iso ctr (rA g) (rPt g).items.length lf mn mx) :: rAll g) ++ E)) h' → Q v h') :
    BTreeG_I_Items.call #[ptr tb 0] h Q := by
  refine BTreeG_I_Items.body _ _ _ ?_; unfold BTreeG_I_Items.sh; refine BTreeG_I_items.body _ _ _ _ ?_; unfold BTreeG_I_items.sh; refine lock_ok ?_; refine r_if (fun e => absurd e (by simp)) (fun _ => ?_)
  unfold BTreeG_I_items.j1; refine BTreeG_I_Len.body _ _ _ ?_; unfold BTreeG_I_Len.sh
  have s : St h0 Z ((tb, 0, hdr iso ctr (rA g) (rPt g).items.length lf mn mx) :: (rAll g ++ E)) h := s
  refine r_nil ?_; refine r_fld ?_; refine St.r_load0 s 0 rfl rfl ?_; refine s.r_mks (n := 0) (sz := 2) rfl (by omega) (by omega) (by omega) fun v b h s w => ?_; rw [zeros_zero] at s w; refine r_nil ?_; refine r_fld ?_; refine St.r_load0 s 1 rfl rfl ?_; refine r_neNilP ?_
  cases g with
  | none =>
    refine r_if (fun e => absurd e (by simp [rA])) (fun _ => ?_)
    unfold BTreeG_I_items.j2; exact H _ b 0 _ h w s
  | some t =>
    refine r_if (fun _ => ?_) (fun e => absurd e (by simp [rA]))
    refine r_nil ?_; refine r_fld ?_
    have s0 : St h0 Z (((tb, 0, hdr iso ctr (rA (some t)) (rPt (some t)).items.length lf mn mx) :: rAll (some t)) ++ ((b, 0, ([] : List It).flatMap enc ++ zeros [.int .i64 0, .int .i64 0] ((rPt (some t)).items.length - 0)) :: E)) h := s.perm (by ((apply perm_rg; intro f; simp only [set_cons_zero, set_cons_succ, eraseIdx_cons_zero, eraseIdx_cons_succ, cons_append, nil_append, map_append, map_cons, map_nil, List.sum_append, List.sum_cons, List.sum_nil, map_flatMap, Nat.add_zero, Nat.zero_add]; ac_rfl)))
    obtain ⟨s1, back⟩ := s0.borrow; refine nodeItems_ok M.m1 ⟨_, List.mem_cons_self .., rfl⟩ t.2 M.gd M.fl (fun r hr => List.mem_append.2 (.inl (List.mem_cons_of_mem _ hr))) (L := []) (by rw [List.length_nil, Nat.zero_add]; exact hl) (s1.clz (List.mem_cons_self ..) 2 rfl rfl) w s1 fun v' b' o' sp' h' w' s => ?_
    have s := back _ h' s
    unfold BTreeG_I_items.j2; exact H v' b' o' sp' h' w' (s.perm (by ((apply perm_rg; intro f; simp only [set_cons_zero, set_cons_succ, eraseIdx_cons_zero, eraseIdx_cons_succ, cons_append, nil_append, map_append, map_cons, map_nil, List.sum_append, List.sum_cons, List.sum_nil, map_flatMap, Nat.add_zero, Nat.zero_add]; ac_rfl))))
theorem Len_ok {tb : Nat} {v : Value} (hv : cl h tb 3 = some v) (H : Q v h) : BTreeG_I_Len.call #[ptr tb 0] h Q := by
  refine BTreeG_I_Len.body _ _ _ ?_; unfold BTreeG_I_Len.sh
  have s := St.start h
  refine r_nil ?_; refine r_fld ?_; refine s.r_loadB hv ?_; exact H
theorem Height_some {k : Nat} {t : GT It k} {tb : Nat} (hr : cl h tb 2 = some (ptr t.id 0)) (ht : t.At enc 2 h) (hk : k ≤ 1000000000) (H : Q (.int .i64 ((k + 1 : Nat) : Int)) h) : BTreeG_I_Height.call #[ptr tb 0] h Q := by
  refine BTreeG_I_Height.body _ _ _ ?_; unfold BTreeG_I_Height.sh; refine lock_ok ?_; refine r_if (fun e => absurd e (by simp)) (fun _ => ?_)
  unfold BTreeG_I_Height.j1
  have s := St.start h
  refine r_nil ?_; refine r_fld ?_; refine s.r_loadB hr ?_; refine r_neNilP ?_; refine r_if (fun _ => ?_) (fun e => absurd e (by simp))
  refine r_nil ?_; refine r_fld ?_; refine s.r_loadB hr ?_; refine loop_intro (fun l h' => h' = h ∧ ∃ (j : Nat) (t' : GT It j), j ≤ k ∧ t'.At enc 2 h ∧ l = [.int .i64 ((k - j : Nat) : Int), ptr t'.id 0]) (fun l _ => k - (Hp.iv (l.getD 0 undef)).toNat) ⟨rfl, k, t, Nat.le_refl _, ht, by simp⟩ ?_
  rintro l h' ⟨rfl, j, t', hj, ht', rfl⟩
  unfold BTreeG_I_Height.l3.b; refine r_add (z := ((k - j + 1 : Nat) : Int)) (by rw [i64w (by omega) (by omega)]; omega) ?_
  cases j with
  | zero =>
    refine node_leaf_ok (a := none) ht'.2 ?_; refine r_if (fun _ => ?_) (fun e => absurd e (by simp))
    exact H
  | succ j =>
    refine node_leaf_ok (a := some ⟨t'.1.kb, 0, none⟩) ht'.2.1 ?_; refine r_if (fun e => absurd e (by simp)) (fun _ => ?_)
    unfold BTreeG_I_Height.j4; refine r_nil ?_; refine r_fld ?_; refine s.r_loadB ht'.2.1 ?_; refine r_nil ?_; refine s.r_loadB ht'.2.2.1 ?_
    have hl : 0 < t'.2.length := by have := ht'.2.2.2.2.1; omega
    refine ht'.2.2.2.1.at1 rfl hl fun b o hb => ?_; refine hb.load0 rfl ?_; exact ⟨⟨rfl, j, t'.2[0], by omega, ht'.2.2.2.2.2 _ (List.getElem_mem hl), by simp; omega⟩, by simp; omega⟩
theorem Height_ok {g : Rt} {tb m : Nat} {iso mn mx : Int} {ctr : Option Addr} (M : TreeOk lt m iso g) (s : St h0 Z ((tb, 0, hdr iso ctr (rA g) (rPt g).items.length lf mn mx) :: (rAll g ++ E)) h) (hh : rH g ≤ 1000000000)
    (H : Q (.int .i64 (rH g)) h) : BTreeG_I_Height.call #[ptr tb 0] h Q := by
  cases g with
  | none =>
    refine BTreeG_I_Height.body _ _ _ ?_; unfold BTreeG_I_Height.sh; refine lock_ok ?_; refine r_if (fun e => absurd e (by simp)) (fun _ => ?_)
    unfold BTreeG_I_Height.j1; refine r_nil ?_; refine r_fld ?_; refine St.r_load0 s 0 rfl rfl ?_; refine r_neNilP ?_; refine r_if (fun e => absurd e (by simp [rA])) (fun _ => ?_)
    exact H
  | some t =>
    exact Height_some (t := t.2) (s.get (k := 0) (j := 2) rfl (by simp)) (GT.At.of M.gd.wf fun r hr => (s.e r (List.mem_cons_of_mem _ (List.mem_append_left _ hr))).1) (by have : t.1 + 1 ≤ _ := hh; omega) H
end Go.Proofs.Ytljecmjdmdjldaa.Gi
end
section
namespace Go.Proofs.Ytljecmjdmdjldaa.Gi
open Go.Hp Go.Proofs.Ytljecmjdmdjldaa
variable {h0 h : Heap} {Z E : List Rg} {Q : Value → Heap → Prop} {lt : It → It → Bool} {lf : Value}
def validN (ow : List Int) (d : Int) {k : Nat} (t : DT k) : Prop := match k, t with
  | 0, e => e.elim
  | _ + 1, t => (t.1 = [] ∧ t.2 = []) ∨ (t.lv.2 = true ∧ t.fl (if d = 0 then 32 else d) 1 = true ∧ Asc (ltO ow) t.items)
theorem s_Valid_ok {ow : List Int} {ov : Value} {k : Nat} (t : DT (k + 1)) {g : Heap} {vi vk vc v2 : Value} {d : Int} {Q : Value → Heap → Prop} (ho : OwAt g ow ov) (ha : ArgD g t vi vk) (hb : t.bulk ≤ 1073741824) (hk : k ≤ 1099511627775) (hd0 : 0 ≤ d) (hd : d ≤ 1073741824) (hvc : one1 vc = true) (hv2 : one1 v2 = true)
    (H : ∀ (b : Bool) E' h', (b = true ↔ validN ow d t) → St g [] E' h' → Q (.bool b) h') : s_Valid.call #[.agg #[ov, .int .i64 d, v2], .agg #[vi, vk, vc]] g Q := by
  have ha' := ha
  obtain ⟨hr, cs, hcl, hrk, hks⟩ := ha
  have hbulk := t.kids_le
  refine s_Valid.body _ _ _ _ ?_; unfold s_Valid.sh
  have s := St.start g
  refine St.r_box (cs := [ov, .int .i64 d, v2]) s fun b2 h s => ?_; refine St.r_box (cs := [vi, vk, vc]) s fun b3 h s => ?_; refine r_fld ?_; refine St.r_load0 s 0 rfl rfl ?_; refine (hr.st s).lenV ?_; refine r_cmpI ?_
  have main : ¬ (t.1 = [] ∧ t.2 = []) → s_Valid.j1 (ptr b2 0) (ptr b3 0) h Q := fun hne => by
    unfold s_Valid.j1; refine St.r_loadN0 s 0 rfl (by simp) ?_; refine s_Levels_ok t (ha'.fr s.fr) hb (by omega) hvc fun E1 h s1 => ?_
    have s := (s.join s1).perm List.perm_append_comm
    refine r_ext rfl ?_; refine r_ext rfl ?_; refine r_br (fun e1 => ?_) (fun e1 => H false _ _ ⟨fun e => (by cases e), fun hv => ?_⟩ s)
    · refine r_fld ?_
      refine St.r_load0 s 1 rfl rfl ?_; refine St.r_loadN0 s 0 rfl (by simp) ?_; refine s_Width.body _ _ _ ?_; unfold s_Width.sh; refine r_cmpI ?_
      have rest : ∀ (w : Int), w = (if d = 0 then 32 else d) → stillN 3 (ptr b3 0) (.agg #[vi, vk, vc]) h ∧ s_Filled.call #[.int .i64 w, .int .i64 1, .agg #[vi, vk, vc]] h fun t28 h => br t28 true (fld 0 (ptr b2 0) fun t31 =>
          load1 t31 h fun t32 => loadN 3 (ptr b3 0) h fun t33 => s_NodeItems.call #[t33] h fun t34 h => still1 t31 t32 h ∧ s_Rising.call #[t32, t34] h fun t35 h => Q t35 h) (Q (.bool false) h) := fun w hw => by
        refine ⟨St.r_stillN0 s 0 (j := 0) (n := 3) rfl (by simp) rfl, ?_⟩
        refine s_Filled_ok t (ha'.fr s.fr) hb (by rw [hw]; split <;> omega) (by rw [hw]; split <;> omega) hvc fun E2 h s2 => ?_
        have s := (s.join s2).perm List.perm_append_comm
        rw [hw]; refine r_br (fun e2 => ?_) (fun e2 => H false _ _ ⟨fun e => (by cases e), fun hv => ?_⟩ s)
        · refine r_fld ?_
          refine St.r_load0 s 1 rfl rfl ?_; refine St.r_loadN0 s 0 rfl (by simp) ?_; refine s_NodeItems_ok t (ha'.fr s.fr) hb hvc fun v E3 h s3 hv => ?_
          have hil := t.items_le
          have s := (s.join s3).perm List.perm_append_comm
          refine ⟨St.r_still0 s 1 rfl rfl, ?_⟩
          refine s_Rising_ok (ho.st s) hv (by omega) fun bb E4 h hbb s4 => ?_; refine H bb _ _ ⟨fun e => .inr ⟨e1, e2, hbb.1 e⟩, fun hv => ?_⟩ (s.join s4)
          rcases hv with hv | hv
          · exact absurd hv hne
          · exact hbb.2 hv.2.2
        · rcases hv with hv | hv
          · exact absurd hv hne
          · rw [hv.2.1] at e2; cases e2
      refine r_if (fun e => rest 32 (by have := eq_of_beq e; rw [if_pos this])) (fun e => ?_)
      unfold s_Width.j1
      exact rest d (by have : d ≠ 0 := by simpa using e
                       rw [if_neg this])
    · rcases hv with hv | hv
      · exact absurd hv hne
      · rw [hv.1] at e1; cases e1
  refine r_br (fun e => ?_) (fun e => main fun hh => ?_)
  · have e : t.1 = [] := List.length_eq_zero_iff.1 (by have := eq_of_beq e; omega)
    refine r_fld ?_; refine St.r_load0 s 0 rfl rfl ?_; refine (hrk.st s).lenV ?_; refine r_cmpI ?_; refine r_if (fun e2 => ?_) (fun e2 => main fun hh => ?_)
    · have e2 : t.2 = [] := List.length_eq_zero_iff.1 (by have := eq_of_beq e2; omega)
      exact H true _ _ ⟨fun _ => .inl ⟨e, e2⟩, fun _ => rfl⟩ s
    · rw [hh.2] at hcl
      simp at hcl
      rw [hcl] at e2
      simp at e2
  · rw [hh.1] at e
    simp at e
theorem l_valid_ok {ow : List Int} {ov : Value} {nl : Bool} {k : Nat} (t : DT (k + 1)) {g : Heap} {vi vk vc : Value} {d : Int} {Q : Value → Heap → Prop} (ho : OwAt g ow ov) (ha : ArgD g t vi vk) (hb : t.bulk ≤ 1073741824) (hk : k ≤ 1099511627775) (hvc : one1 vc = true)
    (H : ∀ (b : Bool) E' h', (b = true ↔ (d = 0 ∨ 2 ≤ d ∧ d ≤ 128) ∧ validN ow d t) → St g [] E' h' → Q (.bool b) h') : l_valid.call #[.agg #[ov, .int .i64 d, .bool nl], .agg #[vi, vk, vc]] g Q := by
  refine l_valid.body _ _ _ _ ?_; unfold l_valid.sh
  have s := St.start g
  refine St.r_box (cs := [ov, .int .i64 d, .bool nl]) s fun b2 h s => ?_; refine St.r_box (cs := [vi, vk, vc]) s fun b3 h s => ?_; refine St.r_loadN0 s 1 rfl (by simp) ?_; refine l_fits_ok ho.one fun E1 h s1 => ?_
  have s := (s.join s1).perm List.perm_append_comm
  refine r_br (fun e => ?_) (fun e => H false _ _ ⟨fun e => (by cases e), fun hv => ?_⟩ s)
  · have e : d = 0 ∨ 2 ≤ d ∧ d ≤ 128 := of_decide_eq_true e
    refine St.r_loadN0 s 1 rfl (by simp) ?_; refine St.r_loadN0 s 0 rfl (by simp) ?_; refine s_Valid_ok t (ho.st s) (ha.fr s.fr) hb hk (by omega) (by omega) hvc rfl fun b E' h hbb s2 => ?_; exact H b _ _ ⟨fun e2 => ⟨e, hbb.1 e2⟩, fun hv => hbb.2 hv.2⟩ (s.join s2)
  · have e : ¬ (d = 0 ∨ 2 ≤ d ∧ d ≤ 128) := of_decide_eq_false e
    exact absurd hv.1 e
theorem l_zzFits3_ok {m n : Nat} {vi vk vc : Value} {xs ys : List Value} (hi : Rdl 2 h vi m xs) (hk : Rdl 3 h vk n ys) (h1 : m ≤ 2147483647) (h2 : n ≤ 2147483647) (hvc : one1 vc = true) (H : ∀ E' h', St h [] E' h' → Q (.bool true) h') : l_zzFits3.call #[.agg #[vi, vk, vc]] h Q := by
  refine l_zzFits3.body _ _ _ ?_; unfold l_zzFits3.sh
  have s := St.start h
  refine St.r_box (cs := [vi, vk, vc]) s fun b h s => ?_; refine r_fld ?_; refine St.r_load0 s 0 rfl rfl ?_; refine (hi.st s).lenV ?_; refine r_cmpI ?_; refine r_if (fun e => absurd (of_decide_eq_true e) (by omega)) (fun _ => ?_)
  unfold l_zzFits3.j1; refine r_fld ?_; refine St.r_load0 s 0 rfl rfl ?_; refine (hk.st s).lenV ?_; refine r_cmpI ?_; refine r_if (fun e => absurd (of_decide_eq_true e) (by omega)) (fun _ => ?_)
  exact H _ _ s
theorem exists_list {α β : Type} {R : α → β → Prop} : ∀ (l : List α), (∀ a, a ∈ l → ∃ b, R a b) → ∃ l' : List β, l'.length = l.length ∧ ∀ i (h1 : i < l.length) (h2 : i < l'.length), R l[i] l'[i]
  | [], _ => ⟨[], rfl, fun i h1 => absurd h1 (Nat.not_lt_zero _)⟩
  | a :: r, h => by
    obtain ⟨b, hb⟩ := h a (List.mem_cons_self ..); obtain ⟨l', h1, h2⟩ := exists_list r fun x hx => h x (List.mem_cons_of_mem _ hx); refine ⟨b :: l', by simp [h1], fun i i1 i2 => ?_⟩
    cases i with
    | zero => exact hb
    | succ i => exact h2 i (by simpa using i1) (by simpa using i2)
theorem lv_pos : ∀ {k : Nat} (t : DT k), t.lv.2 = true → 1 ≤ t.lv.1
  | 0, e => e.elim
  | k + 1, t => by
    unfold DT.lv
    split
    · intro _; exact Nat.le_refl _
    · split
      · intro _; exact Nat.succ_le_succ (Nat.zero_le _)
      · intro h; cases h
structure Uni {k n : Nat} (t : DT k) (x : PT It n) : Prop where
  its : x.its = t.its
  items : x.items = t.items
  sh : ∀ m, t.bulk ≤ m → x.Sh m
  arg : ∀ h vi vk, ArgD h t vi vk → ArgT h x vi vk
  fl : ∀ d lo : Nat, 1 ≤ d → t.fl d lo = true → x.Fl (2 * d - 1) lo
theorem uni_of : ∀ {k : Nat} (t : DT k) (n : Nat), t.lv = (n + 1, true) → ∃ x : PT It n, Uni t x
  | 0, e, _, _ => e.elim
  | k + 1, t, n, h => by
    match ht : t.2 with
    | [] =>
      have hl : t.lv = (1, true) := by unfold DT.lv; rw [ht]
      rw [hl] at h
      have hn : n = 0 := by have := congrArg Prod.fst h; simp at this; omega
      subst hn; refine ⟨t.1, rfl, ?_, fun m hm => ?_, fun h vi vk ⟨hr, cs, hcl, hrk, _⟩ => ⟨hr, ?_⟩, fun d lo h1 hf => ?_⟩
      · show t.1 = inter t.1 (t.2.map DT.items); rw [ht]; rfl
      · have := t.kids_le; show t.1.length ≤ m; omega
      · rw [ht] at hcl
        have hc0 : cs.length = 0 := hcl
        obtain ⟨a, cap, e, _⟩ := hrk; rw [hc0] at e; exact ⟨a, cap, e⟩
      · have : t.fl d lo = (decide ((lo : Int) ≤ t.1.length) && decide ((t.1.length : Int) ≤ 2 * d - 1) && t.2.all fun q => DT.fl d (d - 1) q) := rfl
        rw [this] at hf
        simp only [Bool.and_eq_true, decide_eq_true_eq] at hf
        show lo ≤ t.1.length ∧ t.1.length ≤ 2 * d - 1
        omega
    | q :: qs =>
      by_cases e : qs.length = t.1.length
      · have hl : t.lv = (q.lv.1 + 1, q.lv.2 && qs.all fun x => x.lv.2 && x.lv.1 == q.lv.1) := by
          conv => lhs; unfold DT.lv
          rw [ht]; simp only [if_pos e]
        rw [hl] at h
        have hn := congrArg Prod.fst h
        have hb := congrArg Prod.snd h
        simp only at hn hb
        have hq : q.lv.2 = true := by cases hh : q.lv.2 <;> simp_all
        have hp := lv_pos q hq
        obtain ⟨n, rfl⟩ : ∃ m, n = m + 1 := ⟨n - 1, by omega⟩
        have hall : ∀ x, x ∈ t.2 → x.lv = (n + 1, true) := fun x hx => by
          rw [ht] at hx
          rcases List.mem_cons.1 hx with rfl | hx
          · exact Prod.ext (by simp only; omega) hq
          · rw [hq, Bool.true_and, List.all_eq_true] at hb
            have := hb x hx
            simp only [Bool.and_eq_true, beq_iff_eq] at this
            exact Prod.ext (by simp only; omega) this.1
        obtain ⟨xs, hxl, hxs⟩ := exists_list t.2 fun x hx => uni_of x n (hall x hx); refine ⟨(t.1, xs), rfl, ?_, fun m hm => ?_, fun h vi vk ⟨hr, cs, hcl, hrk, hks⟩ => ⟨hr, ?_, cs, ?_, hrk, fun j h1 h2 => ?_⟩, fun d lo h1 hf => ?_⟩
        · show inter t.1 (xs.map PT.items) = inter t.1 (t.2.map DT.items)
          congr 1
          refine List.ext_getElem (by simp [hxl]) fun i h1 h2 => ?_
          simp only [List.getElem_map]
          exact (hxs i (by simpa using h2) (by simpa using h1)).items
        · have hk := t.kids_le
          refine ⟨by show t.1.length ≤ m; omega, by show xs.length = t.1.length + 1; rw [hxl, ht, List.length_cons, e], fun x hx => ?_⟩
          obtain ⟨i, hi, rfl⟩ := List.getElem_of_mem (show x ∈ xs from hx)
          have := t.kid_le (List.getElem_mem (show i < t.2.length by omega))
          exact (hxs i (by omega) hi).sh m (by omega)
        · show xs ≠ []
          intro hh; rw [hh, ht] at hxl
          simp at hxl
        · show cs.length = xs.length
          rw [hxl]; exact hcl
        · have h1' : j < xs.length := h1
          exact (hxs j (by omega) h1').arg h _ _ (hks j (by omega) h2)
        · have : t.fl d lo = (decide ((lo : Int) ≤ t.1.length) && decide ((t.1.length : Int) ≤ 2 * d - 1) && t.2.all fun q => DT.fl d (d - 1) q) := rfl
          rw [this] at hf
          simp only [Bool.and_eq_true, decide_eq_true_eq, List.all_eq_true] at hf
          refine ⟨by show lo ≤ t.1.length; omega, by show t.1.length ≤ _; omega, by show xs.length = t.1.length + 1; rw [hxl, ht, List.length_cons, e], fun x hx => ?_⟩
          obtain ⟨i, hi, rfl⟩ := List.getElem_of_mem (show x ∈ xs from hx)
          have h3 := hf.2 _ (List.getElem_mem (show i < t.2.length by omega))
          have e4 : (2 * d - 1) / 2 = d - 1 := by omega
          rw [e4]; refine (hxs i (by omega) hi).fl d (d - 1) h1 ?_; rw [show ((d - 1 : Nat) : Int) = (d : Int) - 1 by omega]; exact h3
      · have hl : t.lv = (0, false) := by unfold DT.lv; rw [ht]; simp only [if_neg e]
        rw [hl] at h
        cases h
end Go.Proofs.Ytljecmjdmdjldaa.Gi
end
section
namespace Go.Proofs.Ytljecmjdmdjldaa.Gi
open Go.Hp Go.Proofs.Ytljecmjdmdjldaa
variable {h0 h : Heap} {Z E : List Rg} {Q : Value → Heap → Prop} {lt : It → It → Bool} {lf : Value}
theorem eqItem (a i : Int) (d : Nat) : EqV Try.prog (d + 2) 27 (.agg #[.int .i64 a, .int .i64 i]) (.agg #[.int .i64 a, .int .i64 i]) true := by
  refine .inr (.inr (.inr ⟨_, _, _, Try.underlying27, by kernel_rfl, rfl, rfl, ?_⟩))
  refine ⟨by decide, .int .i64 a, .int .i64 a, true, ⟨_, Try.underlying3, .inr ⟨by kernel_rfl, rfl⟩⟩, ⟨_, Try.underlying3, .inr ⟨by kernel_rfl, rfl⟩⟩, .inl ⟨_, _, a, a, Try.underlying3, rfl, rfl, by simp⟩, .inr ⟨rfl, ?_⟩⟩
  exact ⟨by decide, .int .i64 i, .int .i64 i, true, ⟨_, Try.underlying3, .inr ⟨by kernel_rfl, rfl⟩⟩, ⟨_, Try.underlying3, .inr ⟨by kernel_rfl, rfl⟩⟩, .inl ⟨_, _, i, i, Try.underlying3, rfl, rfl, by simp⟩, .inr ⟨rfl, rfl⟩⟩
theorem EqualI_ok {l : List It} {v1 v2 : Value} (h1 : Rdl 2 h v1 l.length (l.flatMap enc)) (h2 : Rdl 2 h v2 l.length (l.flatMap enc)) (hl : l.length ≤ 4611686018427387903) (H : Q (.bool true) h) : sl_Equal_implItemI.call #[v1, v2] h Q := by
  refine sl_Equal_implItemI.body _ _ _ _ ?_; unfold sl_Equal_implItemI.sh; refine h1.lenV ?_; refine h2.lenV ?_; refine r_cmpI ?_; refine r_if (fun e => absurd e (by simp)) (fun _ => ?_)
  unfold sl_Equal_implItemI.j1; refine h1.lenV ?_; refine loop_up (n := l.length) (fun j => [.int .i64 j]) (fun j h' => h' = h) rfl ?_
  rintro j _ hj rfl K HK
  unfold sl_Equal_implItemI.l3.b; refine r_cmpI ?_; refine r_if (fun hlt => ?_) (fun hge => ?_)
  · have hlt : j < l.length := by simpa using hlt
    unfold sl_Equal_implItemI.j4; refine h1.at (n := j) rfl encl rfl rfl hlt fun b o hb => ?_; refine hb.loadN rfl ?_; refine h2.at (n := j) rfl encl rfl rfl hlt fun b2 o2 hb2 => ?_; refine hb2.loadN rfl ?_; refine ⟨_, _, true, rfl, rfl, eqItem _ _ 9998, ?_⟩
    refine r_if (fun e => absurd e (by simp)) (fun _ => ?_)
    unfold sl_Equal_implItemI.j5; refine r_add1 (by omega) ?_; exact HK _ hlt rfl
  · unfold sl_Equal_implItemI.j2
    exact H
abbrev foundV (o : Option It) : Value := match o with
  | none => .agg #[.int .i64 0, .int .i64 0, .bool false]
  | some p => .agg #[.int .i64 p.1, .int .i64 p.2, .bool true]
set_option maxRecDepth 100000 in
theorem eqFound : ∀ (d : Nat) (o : Option It), EqV Try.prog (d + 3) 46 (foundV o) (foundV o) true := fun d o => by
  have key : ∀ (a b : Int) (c : Bool), EqV Try.prog (d + 3) 46 (.agg #[.int .i64 a, .int .i64 b, .bool c]) (.agg #[.int .i64 a, .int .i64 b, .bool c]) true := fun a b c => by
    refine .inr (.inr (.inr ⟨_, _, _, Try.underlying46, by kernel_rfl, rfl, rfl, ?_⟩))
    refine ⟨by decide, .agg #[.int .i64 a, .int .i64 b], .agg #[.int .i64 a, .int .i64 b], true, ⟨_, Try.underlying27, .inl ⟨by kernel_rfl, _, Try.type27, rfl⟩⟩, ⟨_, Try.underlying27, .inl ⟨by kernel_rfl, _, Try.type27, rfl⟩⟩, ?_, .inr ⟨rfl, ?_⟩⟩
    · refine .inr (.inr (.inr ⟨_, _, _, Try.underlying27, by kernel_rfl, rfl, rfl, ?_⟩))
      refine ⟨by decide, .int .i64 a, .int .i64 a, true, ⟨_, Try.underlying3, .inr ⟨by kernel_rfl, rfl⟩⟩, ⟨_, Try.underlying3, .inr ⟨by kernel_rfl, rfl⟩⟩, .inl ⟨_, _, a, a, Try.underlying3, rfl, rfl, by simp⟩, .inr ⟨rfl, ?_⟩⟩
      refine ⟨by decide, .int .i64 b, .int .i64 b, true, ⟨_, Try.underlying3, .inr ⟨by kernel_rfl, rfl⟩⟩, ⟨_, Try.underlying3, .inr ⟨by kernel_rfl, rfl⟩⟩, .inl ⟨_, _, b, b, Try.underlying3, rfl, rfl, by simp⟩, .inr ⟨rfl, rfl⟩⟩
    · refine ⟨by decide, .bool c, .bool c, true, ⟨_, Try.underlying4, .inr ⟨by kernel_rfl, rfl⟩⟩, ⟨_, Try.underlying4, .inr ⟨by kernel_rfl, rfl⟩⟩, .inr (.inl ⟨c, c, Try.underlying4, rfl, rfl, by simp⟩), .inr ⟨rfl, rfl⟩⟩
  cases o with
  | none => exact key 0 0 false
  | some p => exact key p.1 p.2 true
theorem NodeHeight_ok {k : Nat} (t : DT (k + 1)) {g : Heap} {vi vk vc : Value} (ha : ArgD g t vi vk) (hb : t.bulk ≤ 1073741824) (hk : k ≤ 1099511627775) (hvc : one1 vc = true)
    (H : ∀ E' h', St g [] E' h' → Q (.int .i64 ((if t.1 = [] then 0 else t.lv.1 : Nat) : Int)) h') : s_NodeHeight.call #[.agg #[vi, vk, vc]] g Q := by
  have hr := ha.1
  refine s_NodeHeight.body _ _ _ ?_; unfold s_NodeHeight.sh
  have s := St.start g
  refine St.r_box (cs := [vi, vk, vc]) s fun t1 h s => ?_; refine r_fld ?_; refine St.r_load0 s 0 rfl rfl ?_; refine Rdl.lenV (by assumption) ?_; refine r_cmpI ?_
  by_cases e : t.1 = []
  · rw [if_pos e] at H
    refine r_if (fun _ => H _ _ s) (fun e2 => absurd e2 (by rw [e]; simp))
  · rw [if_neg e] at H
    refine r_if (fun e2 => absurd e2 (by simpa using e)) (fun _ => ?_)
    unfold s_NodeHeight.j1; refine St.r_loadN0 s 0 rfl (by simp) ?_; refine s_Levels_ok t (ha.fr s.fr) hb (by omega) hvc fun E2 h s2 => ?_; refine r_ext rfl ?_; refine r_ext rfl ?_; exact H _ _ (s.join s2)
def mt0 : MT It → (k : Nat) × PT It k
  | none => ⟨0, ([] : List It)⟩
  | some t => t
def mh : MT It → Nat
  | none => 0
  | some t => t.1 + 1
theorem mt0_items (y : MT It) : (mt0 y).2.items = y.items := by cases y <;> rfl
theorem Sh_mono {m m' : Nat} (h : m ≤ m') : ∀ {k : Nat} {x : PT It k}, x.Sh m → x.Sh m'
  | 0, _, s => Nat.le_trans s h
  | _ + 1, _, s => ⟨Nat.le_trans s.1 h, s.2.1, fun c hc => Sh_mono h (s.2.2 c hc)⟩
theorem head_mem {iso : Int} : ∀ {k : Nat} {t : GT It k}, Gd iso t → ∃ a1 a2 a3, (t.id, 0, [a1, Value.int .i64 t.pt.items.length, a2, a3]) ∈ t.all enc
  | 0, d, g => by
    have e : (Nd.cnt d : Int) = ((Nd.its d).length : Nat) := g.cn
    refine ⟨.int .u64 (Nd.iso d), Nd.iv d, .pointer none, ?_⟩
    show (Nd.n d, 0, [_, Value.int .i64 ((Nd.its d).length : Nat), _, _]) ∈ Nd.leaf enc d
    rw [← e]; exact List.mem_cons_self ..
  | k + 1, t, g => by
    have e : t.1.cnt = (GT.pt (h := k + 1) t).items.length := g.cn.1
    refine ⟨.int .u64 t.1.iso, t.1.iv, ptr t.1.kb 0, ?_⟩
    rw [← e]; exact List.mem_append_left _ (List.mem_cons_self ..)
def Stands (ow : List Int) (ov : Value) (nl : Bool) (d : Nat) (m0 : MT It) (h : Heap) (vi vk vc : Value) : Prop := ∀ {Q : Value → Heap → Prop}, (∀ (g : Rt) tb lf cb A E' h', rPt g = m0 → Tr h [] ow d tb g A E' lf cb h' → Q (ptr tb 0) h') → i_stand.call #[.agg #[ov, .int .i64 d, .bool nl], .agg #[vi, vk, vc]] h Q
theorem stands_of {ow : List Int} {ov : Value} {nl : Bool} {d k : Nat} {t : DT (k + 1)} {g : Heap} {vi vk vc : Value} (ho : OwAt g ow ov) (ha : ArgD g t vi vk) (hb : t.bulk ≤ 268435456) (hvc : one1 vc = true) (hd : d = 0 ∨ 2 ≤ d) (hd2 : d ≤ 512) (hv : validN ow d t) :
    ∃ m0 : MT It, m0.items = t.items ∧ mh m0 = (if t.1 = [] then 0 else t.lv.1) ∧ m0.Fl (dmax d) ∧ Asc (ltO ow) m0.items ∧ ∀ h, Fr (fun _ _ => False) g h → Stands ow ov nl d m0 h vi vk vc := by
  have ha' := ha
  obtain ⟨hr, cs, hcl, hrk, hks⟩ := ha; obtain ⟨m3, m1, mo, _, mn0⟩ := dmax_ok hd hd2
  rcases hv with ⟨he1, he2⟩ | ⟨hlv, hfl, hasc⟩
  · have hnil : t.items = [] := by show inter t.1 (t.2.map DT.items) = []; rw [he1, he2]; rfl
    refine ⟨none, hnil.symm, by rw [if_pos he1]; rfl, trivial, List.Pairwise.nil, fun h f Q H => ?_⟩
    have ho := ho.fr f
    have hr := hr.fr f (fun _ _ e => e)
    have hrk := hrk.fr f (fun _ _ e => e)
    refine i_stand.body _ _ _ _ ?_; unfold i_stand.sh
    have s := St.start h
    refine St.r_box (cs := [ov, .int .i64 d, .bool nl]) s fun b2 h s => ?_; refine St.r_box (cs := [vi, vk, vc]) s fun b3 h s => ?_; refine St.r_loadN0 s 1 rfl (by simp) ?_; refine grow_nil (ho.st s) hd hd2 fun tb lf cb A E1 h T => ?_
    have s1 := T.st
    have s := (s.join s1).perm List.perm_append_comm
    refine r_fld ?_; refine St.r_load0 s 0 rfl rfl ?_; refine (hr.st s).lenV ?_; refine r_cmpI ?_; refine r_br (fun _ => ?_) (fun e => absurd e (by rw [he1]; simp))
    refine r_fld ?_; refine St.r_load0 s 0 rfl rfl ?_; refine (hrk.st s).lenV ?_; refine r_cmpI ?_; refine r_if (fun e => absurd e (by rw [hcl, he2]; simp)) (fun _ => ?_)
    unfold i_stand.j1; refine H none tb lf cb A ((b3, 0, [vi, vk, vc]) :: (b2, 0, [ov, .int .i64 d, .bool nl]) :: E1) _ rfl ⟨T.ord, T.ok, s.perm ?_⟩
    simp only [rAll]; ((apply perm_rg; intro f; simp only [set_cons_zero, set_cons_succ, eraseIdx_cons_zero, eraseIdx_cons_succ, cons_append, nil_append, map_append, map_cons, map_nil, List.sum_append, List.sum_cons, List.sum_nil, map_flatMap, Nat.add_zero, Nat.zero_add]; ac_rfl))
  · have hne0 : t.1 ≠ [] := by
      have h1 : (1 : Int) ≤ t.1.length := by
        have : t.fl (if (d : Int) = 0 then 32 else d) 1 = (decide ((1 : Int) ≤ t.1.length) && decide ((t.1.length : Int) ≤ 2 * (if (d : Int) = 0 then 32 else (d : Int)) - 1) && t.2.all fun q => q.fl (if (d : Int) = 0 then 32 else (d : Int)) ((if (d : Int) = 0 then 32 else (d : Int)) - 1)) := rfl
        rw [this] at hfl
        simp only [Bool.and_eq_true, decide_eq_true_eq] at hfl
        exact hfl.1.1
      intro hh; rw [hh] at h1
      simp at h1
    have hp := lv_pos t hlv
    obtain ⟨x, hx⟩ := uni_of t (t.lv.1 - 1) (Prod.ext (by simp only; omega) hlv)
    have hil := t.items_le
    have hF : x.Fl (dmax d) 1 := by
      by_cases e : d = 0
      · subst e
        have := hx.fl 32 1 (by omega) (by simpa using hfl)
        exact this
      · rw [if_neg (by omega)] at hfl
        have := hx.fl d 1 (by omega) hfl
        unfold dmax; rw [if_neg e]; exact this
    have hA : Asc (ltO ow) x.items := by rw [hx.items]; exact hasc
    refine ⟨some ⟨_, x⟩, hx.items, by rw [if_neg hne0]; show t.lv.1 - 1 + 1 = _; omega, hF, hA, fun h f Q H => ?_⟩
    have ho := ho.fr f
    have hr := hr.fr f (fun _ _ e => e)
    have hax := (hx.arg _ _ _ (ha'.fr f))
    refine i_stand.body _ _ _ _ ?_; unfold i_stand.sh
    have s := St.start h
    refine St.r_box (cs := [ov, .int .i64 d, .bool nl]) s fun b2 h s => ?_; refine St.r_box (cs := [vi, vk, vc]) s fun b3 h s => ?_; refine St.r_loadN0 s 1 rfl (by simp) ?_; refine grow_nil (ho.st s) hd hd2 fun tb lf cb A E1 h T => ?_
    have s1 := T.st
    have s := (s.join s1).perm List.perm_append_comm
    refine r_fld ?_; refine St.r_load0 s 0 rfl rfl ?_; refine (hr.st s).lenV ?_; refine r_cmpI ?_; refine r_br (fun e => ?_) (fun _ => ?_)
    · have : t.1.length = 0 := by have := of_decide_eq_false e; omega
      exact absurd (List.length_eq_zero_iff.1 this) hne0
    have s : St _ [] ((tb, 0, hdr 1 (some ⟨cb, 0, none⟩) none 0 lf (dmin d : Nat) (dmax d : Nat)) :: ((b3, 0, [vi, vk, vc]) :: (b2, 0, [ov, .int .i64 d, .bool nl]) :: (A ++ E1))) h := s.perm (by simp only [rAll]; ((apply perm_rg; intro f; simp only [set_cons_zero, set_cons_succ, eraseIdx_cons_zero, eraseIdx_cons_succ, cons_append, nil_append, map_append, map_cons, map_nil, List.sum_append, List.sum_cons, List.sum_nil, map_flatMap, Nat.add_zero, Nat.zero_add]; ac_rfl)))
    refine St.r_loadN0 s 1 rfl (by simp) ?_; refine planted_ok x (s.get (k := 0) (j := 0) rfl (by simp)) (hax.fr s.fr) (hx.sh _ (by omega)) (by rw [hx.items]; omega) hvc fun t' h ht1 gt s2 => ?_
    have s := (s.join s2).perm List.perm_append_comm
    obtain ⟨a1, a2, a3, hm⟩ := head_mem gt
    have s : St _ [] ((tb, 0, hdr 1 (some ⟨cb, 0, none⟩) none 0 lf (dmin d : Nat) (dmax d : Nat)) :: (((b3, 0, [vi, vk, vc]) :: (b2, 0, [ov, .int .i64 d, .bool nl]) :: (A ++ E1)) ++ t'.all enc)) h := s
    refine DoorPlant_ok s (List.mem_append_left _ (List.mem_append_right _ hm)) fun h s => ?_; unfold i_stand.j1
    have er : rPt (some ⟨_, t'⟩) = some ⟨_, x⟩ := by show some (⟨_, t'.pt⟩ : (k : Nat) × PT It k) = _; rw [ht1]
    refine H (some ⟨_, t'⟩) tb lf cb A ((b3, 0, [vi, vk, vc]) :: (b2, 0, [ov, .int .i64 d, .bool nl]) :: E1) h er ⟨T.ord, ⟨gt, by rw [er]; exact hF, by rw [er]; exact hA, m3, m1, mo⟩, s.perm ?_⟩
    simp only [rAll, rA, rPt]
    ((apply perm_rg; intro f; simp only [set_cons_zero, set_cons_succ, eraseIdx_cons_zero, eraseIdx_cons_succ, cons_append, nil_append, map_append, map_cons, map_nil, List.sum_append, List.sum_cons, List.sum_nil, map_flatMap, Nat.add_zero, Nat.zero_add]; ac_rfl))
theorem rH_mh (g : Rt) : rH g = mh (rPt g) := by cases g <;> rfl
theorem i_NItems_ok {ow : List Int} {ov : Value} {nl : Bool} {d : Nat} {m0 : MT It} {vi vk vc : Value} (hov : one1 ov = true) (h1 : one1 vi = true) (h2 : one1 vk = true) (h3 : one1 vc = true) (hs : ∀ h', Fr (fun _ _ => False) h h' → Stands ow ov nl d m0 h' vi vk vc) (hl : m0.items.length ≤ 268435456) (hh : mh m0 ≤ 1000000000)
    (H : ∀ v E' h', St h [] E' h' → Rdl 2 h' v m0.items.length (m0.items.flatMap enc) → Q (.tuple #[v, .int .i64 m0.items.length, .int .i64 (mh m0)]) h') : i_NItems.call #[.agg #[ov, .int .i64 d, .bool nl], .agg #[vi, vk, vc]] h Q := by
  refine i_NItems.body _ _ _ _ ?_; unfold i_NItems.sh
  have s := St.start h
  refine St.r_box (cs := [ov, .int .i64 d, .bool nl]) s fun b2 h s => ?_; refine St.r_box (cs := [vi, vk, vc]) s fun b3 h s => ?_; refine St.r_loadN0 s 1 rfl (by simp) ?_; refine St.r_loadN0 s 0 rfl (by simp) ?_; refine hs h s.fr fun g tb lf cb A E1 h e T => ?_; subst e
  have s1 := T.st
  have s := (s.join s1).perm List.perm_append_comm
  have s : St _ [] (((tb, 0, hdr 1 (some ⟨cb, 0, none⟩) (rA g) (rPt g).items.length lf (dmin d : Nat) (dmax d : Nat)) :: rAll g) ++ (A ++ ((b3, 0, [vi, vk, vc]) :: (b2, 0, [ov, .int .i64 d, .bool nl]) :: E1))) h := s.perm (by ((apply perm_rg; intro f; simp only [set_cons_zero, set_cons_succ, eraseIdx_cons_zero, eraseIdx_cons_succ, cons_append, nil_append, map_append, map_cons, map_nil, List.sum_append, List.sum_cons, List.sum_nil, map_flatMap, Nat.add_zero, Nat.zero_add]; ac_rfl)))
  refine Items_ok T.ok (by omega) s fun v b o sp h w s => ?_; refine Len_ok (s.get (k := 1) (j := 3) rfl (by simp)) ?_
  have s : St _ [] ((tb, 0, hdr 1 (some ⟨cb, 0, none⟩) (rA g) (rPt g).items.length lf (dmin d : Nat) (dmax d : Nat)) :: (rAll g ++ ((b, o, (rPt g).items.flatMap enc ++ sp) :: (A ++ ((b3, 0, [vi, vk, vc]) :: (b2, 0, [ov, .int .i64 d, .bool nl]) :: E1))))) h := s.perm (by ((apply perm_rg; intro f; simp only [set_cons_zero, set_cons_succ, eraseIdx_cons_zero, eraseIdx_cons_succ, cons_append, nil_append, map_append, map_cons, map_nil, List.sum_append, List.sum_cons, List.sum_nil, map_flatMap, Nat.add_zero, Nat.zero_add]; ac_rfl)))
  refine Height_ok T.ok s (by rw [rH_mh]; exact hh) ?_; rw [rH_mh]; refine H v _ h s (w.rdlO (s.ok (List.mem_append_left _ (List.mem_cons_of_mem _ (List.mem_append_right _ (List.mem_cons_self ..))))))
def exDT : DT 2 := ([(4, 1)], [([(2, 2)], []), ([(6, 3)], [])])
theorem l_exNode_ok (H : ∀ vi vk E' h', St h [] E' h' → ArgD h' exDT vi vk → Q (.agg #[vi, vk, .int .i64 0]) h') : l_exNode.call #[] h Q := by
  refine l_exNode.body _ _ ?_; unfold l_exNode.sh
  have s := St.start h
  refine s.r_alloc fun t0 h s => ?_
  ((apply r_build; ((simp only [fillV, fill1, Value.cells, zeros_succ, zeros_zero, size_toArray, length_cons, length_nil, length_append, take_succ_cons, take_zero, take_nil, drop_succ_cons, drop_zero, drop_nil, cons_append, nil_append, append_nil, Nat.reduceAdd, Nat.reduceMul, Nat.reduceLeDiff, Nat.reduceEqDiff, and_self, and_true, true_and, if_true, Nat.le_refl, Nat.zero_add, Nat.add_zero, Nat.zero_mul, reduceIte, if_false] <;> rfl))))
  refine s.r_mkSl (sz := 2) (cs := [.int .i64 4, .int .i64 1]) (by ((simp only [fillV, fill1, Value.cells, zeros_succ, zeros_zero, size_toArray, length_cons, length_nil, length_append, take_succ_cons, take_zero, take_nil, drop_succ_cons, drop_zero, drop_nil, cons_append, nil_append, append_nil, Nat.reduceAdd, Nat.reduceMul, Nat.reduceLeDiff, Nat.reduceEqDiff, and_self, and_true, true_and, if_true, Nat.le_refl, Nat.zero_add, Nat.add_zero, Nat.zero_mul, reduceIte, if_false] <;> rfl))) rfl fun t2 h s w2 => ?_
  ((apply r_build; ((simp only [fillV, fill1, Value.cells, zeros_succ, zeros_zero, size_toArray, length_cons, length_nil, length_append, take_succ_cons, take_zero, take_nil, drop_succ_cons, drop_zero, drop_nil, cons_append, nil_append, append_nil, Nat.reduceAdd, Nat.reduceMul, Nat.reduceLeDiff, Nat.reduceEqDiff, and_self, and_true, true_and, if_true, Nat.le_refl, Nat.zero_add, Nat.add_zero, Nat.zero_mul, reduceIte, if_false] <;> rfl))))
  refine s.r_mkSl (sz := 2) (cs := [.int .i64 2, .int .i64 2]) (by ((simp only [fillV, fill1, Value.cells, zeros_succ, zeros_zero, size_toArray, length_cons, length_nil, length_append, take_succ_cons, take_zero, take_nil, drop_succ_cons, drop_zero, drop_nil, cons_append, nil_append, append_nil, Nat.reduceAdd, Nat.reduceMul, Nat.reduceLeDiff, Nat.reduceEqDiff, and_self, and_true, true_and, if_true, Nat.le_refl, Nat.zero_add, Nat.add_zero, Nat.zero_mul, reduceIte, if_false] <;> rfl))) rfl fun t4 h s w4 => ?_
  ((apply r_build; ((simp only [fillV, fill1, Value.cells, zeros_succ, zeros_zero, size_toArray, length_cons, length_nil, length_append, take_succ_cons, take_zero, take_nil, drop_succ_cons, drop_zero, drop_nil, cons_append, nil_append, append_nil, Nat.reduceAdd, Nat.reduceMul, Nat.reduceLeDiff, Nat.reduceEqDiff, and_self, and_true, true_and, if_true, Nat.le_refl, Nat.zero_add, Nat.add_zero, Nat.zero_mul, reduceIte, if_false] <;> rfl))))
  ((apply r_build; ((simp only [fillV, fill1, Value.cells, zeros_succ, zeros_zero, size_toArray, length_cons, length_nil, length_append, take_succ_cons, take_zero, take_nil, drop_succ_cons, drop_zero, drop_nil, cons_append, nil_append, append_nil, Nat.reduceAdd, Nat.reduceMul, Nat.reduceLeDiff, Nat.reduceEqDiff, and_self, and_true, true_and, if_true, Nat.le_refl, Nat.zero_add, Nat.add_zero, Nat.zero_mul, reduceIte, if_false] <;> rfl))))
  refine s.r_mkSl (sz := 2) (cs := [.int .i64 6, .int .i64 3]) (by ((simp only [fillV, fill1, Value.cells, zeros_succ, zeros_zero, size_toArray, length_cons, length_nil, length_append, take_succ_cons, take_zero, take_nil, drop_succ_cons, drop_zero, drop_nil, cons_append, nil_append, append_nil, Nat.reduceAdd, Nat.reduceMul, Nat.reduceLeDiff, Nat.reduceEqDiff, and_self, and_true, true_and, if_true, Nat.le_refl, Nat.zero_add, Nat.add_zero, Nat.zero_mul, reduceIte, if_false] <;> rfl))) rfl fun t7 h s w7 => ?_
  ((apply r_build; ((simp only [fillV, fill1, Value.cells, zeros_succ, zeros_zero, size_toArray, length_cons, length_nil, length_append, take_succ_cons, take_zero, take_nil, drop_succ_cons, drop_zero, drop_nil, cons_append, nil_append, append_nil, Nat.reduceAdd, Nat.reduceMul, Nat.reduceLeDiff, Nat.reduceEqDiff, and_self, and_true, true_and, if_true, Nat.le_refl, Nat.zero_add, Nat.add_zero, Nat.zero_mul, reduceIte, if_false] <;> rfl))))
  refine s.r_mkSl (sz := 3) (cs := [.slice (some ⟨t4, 0, none⟩) 1 1, .slice none 0 0, .int .i64 0, .slice (some ⟨t7, 0, none⟩) 1 1, .slice none 0 0, .int .i64 0]) (by ((simp only [fillV, fill1, Value.cells, zeros_succ, zeros_zero, size_toArray, length_cons, length_nil, length_append, take_succ_cons, take_zero, take_nil, drop_succ_cons, drop_zero, drop_nil, cons_append, nil_append, append_nil, Nat.reduceAdd, Nat.reduceMul, Nat.reduceLeDiff, Nat.reduceEqDiff, and_self, and_true, true_and, if_true, Nat.le_refl, Nat.zero_add, Nat.add_zero, Nat.zero_mul, reduceIte, if_false] <;> rfl))) rfl fun t9 h s w9 => ?_
  ((apply r_build; ((simp only [fillV, fill1, Value.cells, zeros_succ, zeros_zero, size_toArray, length_cons, length_nil, length_append, take_succ_cons, take_zero, take_nil, drop_succ_cons, drop_zero, drop_nil, cons_append, nil_append, append_nil, Nat.reduceAdd, Nat.reduceMul, Nat.reduceLeDiff, Nat.reduceEqDiff, and_self, and_true, true_and, if_true, Nat.le_refl, Nat.zero_add, Nat.add_zero, Nat.zero_mul, reduceIte, if_false] <;> rfl))))
  refine St.r_storeN0 s 4 rfl rfl (by simp) (by simp [one1]) ?_; intro h s
  refine St.r_loadN0 s 4 rfl (by simp) ?_; refine H _ _ _ h s ⟨w2.rdl s 3 rfl, [(.slice (some ⟨t4, 0, none⟩) 1 1, .slice none 0 0, 0), (.slice (some ⟨t7, 0, none⟩) 1 1, .slice none 0 0, 0)], rfl, w9.rdl s 0 rfl, fun j h1 h2 => ?_⟩
  match j, h1, h2 with
  | 0, h1, h2 => exact ⟨w4.rdl s 2 rfl, [], rfl, Rdl.nil 3 _, fun j h => absurd h (Nat.not_lt_zero _)⟩
  | 1, h1, h2 => exact ⟨w7.rdl s 1 rfl, [], rfl, Rdl.nil 3 _, fun j h => absurd h (Nat.not_lt_zero _)⟩
end Go.Proofs.Ytljecmjdmdjldaa.Gi
end
section
namespace Go.Proofs.Ytljecmjdmdjldaa.Gi
open Go.Hp Go.Proofs.Ytljecmjdmdjldaa
variable {h0 h : Heap} {Z E : List Rg} {Q : Value → Heap → Prop} {lt : It → It → Bool} {lf : Value}
theorem exMake_ok (H : ∀ E' h', St h [] E' h' → Q (.agg #[.slice none 0 0, .int .i64 2, .bool false]) h') : l_exMake.call #[] h Q := by
  refine l_exMake.body _ _ ?_; unfold l_exMake.sh
  have s := St.start h
  refine s.r_alloc fun t0 h s => ?_
  ((apply r_build; ((simp only [fillV, fill1, Value.cells, zeros_succ, zeros_zero, size_toArray, length_cons, length_nil, length_append, take_succ_cons, take_zero, take_nil, drop_succ_cons, drop_zero, drop_nil, cons_append, nil_append, append_nil, Nat.reduceAdd, Nat.reduceMul, Nat.reduceLeDiff, Nat.reduceEqDiff, and_self, and_true, true_and, if_true, Nat.le_refl, Nat.zero_add, Nat.add_zero, Nat.zero_mul, reduceIte, if_false] <;> rfl))))
  (refine St.r_storeN0 s 0 rfl rfl (by simp) (by simp [one1]) ?_; intro h s; try simp only [List.set_cons_zero, List.set_cons_succ] at s)
  refine St.r_loadN0 s 0 rfl (by simp) ?_; exact H _ _ s
theorem exValid : validN [] 2 exDT := by
  refine .inr ⟨by decide, by decide, ?_⟩
  show Asc (ltO []) [(2, 2), (4, 1), (6, 3)]
  simp [Asc, ltO, rnk]
theorem l_aliveN_ok (H : ∀ E' h', St h [] E' h' → Q (.bool true) h') : l_aliveN.call #[] h Q := by
  refine l_aliveN.body _ _ ?_; unfold l_aliveN.sh
  have s := St.start h
  refine exMake_ok fun E1 h s1 => ?_
  have s := s.join s1
  refine l_exNode_ok fun vi vk E2 h s2 ha => ?_
  have s := s.join s2
  obtain ⟨m0, e1, e2, _, _, hst⟩ := stands_of (d := 2) (nl := false) (vc := .int .i64 0) (OwAt.nil _) ha (by decide) rfl (by decide) (by decide) exValid; refine i_NItems_ok (d := 2) rfl ha.one.1 ha.one.2 rfl hst (by rw [e1]; decide) (by rw [e2]; decide) fun v E3 h s3 hv => ?_
  have s := s.join s3
  refine r_ext rfl ?_; refine r_ext rfl ?_; refine r_ext rfl ?_; refine hv.lenV ?_; rw [e1, e2]; refine r_cmpI ?_; refine r_br (fun _ => ?_) (fun e => absurd e (by decide))
  refine r_cmpI ?_; refine r_br (fun _ => ?_) (fun e => absurd e (by decide))
  refine r_cmpI ?_; exact H _ _ s
theorem mv_stands {ow : List Int} {ov : Value} {nl : Bool} {d : Nat} {m0 : MT It} {vi vk vc : Value} {h1 h2 : Heap} {E : List Rg} (hst : ∀ h, Fr (fun _ _ => False) h1 h → Stands ow ov nl d m0 h vi vk vc) (s : St h1 [] E h2) : ∀ h, Fr (fun _ _ => False) h2 h → Stands ow ov nl d m0 h vi vk vc :=
  fun h f => hst h (s.fr.trans f (fun _ _ _ e => e))
end Go.Proofs.Ytljecmjdmdjldaa.Gi
end
section
namespace Go.Proofs.Ytljecmjdmdjldaa.Gi
open Go.Hp Go.Proofs.Ytljecmjdmdjldaa
variable {h0 h : Heap} {Z E : List Rg} {Q : Value → Heap → Prop} {lt : It → It → Bool} {lf : Value}
abbrev foundC (o : Option It) : List Value := match o with
  | some p => [.int .i64 p.1, .int .i64 p.2, .bool true]
  | none => [.int .i64 0, .int .i64 0, .bool false]
theorem foundC_len (o : Option It) : (foundC o).length = 3 := by cases o <;> rfl
theorem foundC_one (o : Option It) : ∀ y ∈ foundC o, one1 y = true := by cases o <;> simp [one1]
theorem found_ok {o : Option It} (H : ∀ E' h', St h [] E' h' → Q (.agg (foundC o).toArray) h') : i_found.call #[old o, .bool o.isSome] h Q := by
  refine i_found.body _ _ _ _ ?_; unfold i_found.sh
  have s := St.start h
  refine St.r_box (cs := enc (o.getD emp)) s fun t2 h s => ?_; refine s.r_alloc fun t4 h s => ?_; refine r_not ?_
  cases o with
  | none =>
    refine r_if (fun _ => ?_) (fun e => absurd e (by simp))
    ((apply r_build; ((simp only [fillV, fill1, Value.cells, zeros_succ, zeros_zero, size_toArray, length_cons, length_nil, length_append, take_succ_cons, take_zero, take_nil, drop_succ_cons, drop_zero, drop_nil, cons_append, nil_append, append_nil, Nat.reduceAdd, Nat.reduceMul, Nat.reduceLeDiff, Nat.reduceEqDiff, and_self, and_true, true_and, if_true, Nat.le_refl, Nat.zero_add, Nat.add_zero, Nat.zero_mul, reduceIte, if_false] <;> rfl))))
    (refine St.r_storeN0 s 0 rfl rfl (by simp) (by simp [one1]) ?_; intro h s; try simp only [List.set_cons_zero, List.set_cons_succ] at s)
    refine St.r_loadN0 s 0 rfl (by simp) ?_; exact H _ _ s
  | some p =>
    refine r_if (fun e => absurd e (by simp)) (fun _ => ?_)
    unfold i_found.j1; refine St.r_loadN0 s 1 rfl (by simp) ?_
    ((apply r_build; ((simp only [fillV, fill1, Value.cells, zeros_succ, zeros_zero, size_toArray, length_cons, length_nil, length_append, take_succ_cons, take_zero, take_nil, drop_succ_cons, drop_zero, drop_nil, cons_append, nil_append, append_nil, Nat.reduceAdd, Nat.reduceMul, Nat.reduceLeDiff, Nat.reduceEqDiff, and_self, and_true, true_and, if_true, Nat.le_refl, Nat.zero_add, Nat.add_zero, Nat.zero_mul, reduceIte, if_false] <;> rfl))))
    (refine St.r_storeN0 s 0 rfl rfl (by simp) (by simp [one1]) ?_; intro h s; try simp only [List.set_cons_zero, List.set_cons_succ] at s)
    refine St.r_loadN0 s 0 rfl (by simp) ?_; exact H _ _ s
theorem valid_from {ow : List Int} {ov : Value} {nl : Bool} {d : Int} {k : Nat} {t : DT (k + 1)} {g0 g : Heap} {E : List Rg} {vi vk vc : Value} (s : St g0 [] E g) (ho : OwAt g0 ow ov) (ha : ArgD g0 t vi vk) (hb : t.bulk ≤ 1048576) (hk : k ≤ 1048576) (hvc : one1 vc = true) {K : Value → Heap → Prop}
    (H0 : ∀ E' h', St g0 [] (E ++ E') h' → K (.bool false) h')
    (H : ∀ (d' : Nat) (m0 : MT It) E' h', d = d' → (d' = 0 ∨ 2 ≤ d') → d' ≤ 128 → m0.items = t.items → mh m0 = (if t.1 = [] then 0 else t.lv.1) → m0.Fl (dmax d') → Asc (ltO ow) m0.items → (∀ h, Fr (fun _ _ => False) g0 h → Stands ow ov nl d' m0 h vi vk vc) → St g0 [] (E ++ E') h' → K (.bool true) h') :
    l_valid.call #[.agg #[ov, .int .i64 d, .bool nl], .agg #[vi, vk, vc]] g K := by
  refine l_valid_ok t (ho.st s) (ha.fr s.fr) (by omega) (by omega) hvc fun b E' h' hbb s2 => ?_
  have s := (s.join s2).perm List.perm_append_comm
  cases b with
  | false => exact H0 _ _ s
  | true =>
    obtain ⟨hd, hv⟩ := hbb.1 rfl; obtain ⟨d', rfl⟩ : ∃ n : Nat, d = n := ⟨d.toNat, by omega⟩; obtain ⟨m0, e1, e2, e3, e4, hst⟩ := stands_of (nl := nl) ho ha (by omega) hvc (by omega) (by omega) hv; exact H d' m0 _ _ rfl (by omega) (by omega) e1 e2 e3 e4 hst s
end Go.Proofs.Ytljecmjdmdjldaa.Gi
end
section
namespace Go.Proofs.Ytljecmjdmdjldaa.Gi
open Go.Hp Go.Proofs.Ytljecmjdmdjldaa
variable {h0 h : Heap} {Z E : List Rg} {Q : Value → Heap → Prop} {lt : It → It → Bool} {lf : Value}
def ArgC (h : Heap) : {k : Nat} → PT It k → Value → Value → Prop
  | 0, its, vi, vk => Rdl 2 h vi (its : List It).length ((its : List It).flatMap enc) ∧ Rdl 3 h vk 0 []
  | k + 1, t, vi, vk => Rdl 2 h vi t.1.length (t.1.flatMap enc) ∧ ∃ cs : List (Value × Value × Int), cs.length = t.2.length ∧ Rdl 3 h vk cs.length (cs.flatMap encN) ∧
      ∀ j (h1 : j < t.2.length) (h2 : j < cs.length), ArgC h t.2[j] cs[j].1 cs[j].2.1 ∧ cs[j].2.2 = t.2[j].items.length
theorem ArgC.fr {h h' : Heap} (f : Fr (fun _ _ => False) h h') : ∀ {k : Nat} {x : PT It k} {vi vk : Value}, ArgC h x vi vk → ArgC h' x vi vk
  | 0, _, _, _, ⟨h1, h2⟩ => ⟨h1.fr f (fun _ _ e => e), h2.fr f (fun _ _ e => e)⟩
  | k + 1, _, _, _, ⟨h1, cs, h3, h4, h5⟩ => ⟨h1.fr f (fun _ _ e => e), cs, h3, h4.fr f (fun _ _ e => e), fun j j1 j2 => ⟨ArgC.fr f (h5 j j1 j2).1, (h5 j j1 j2).2⟩⟩
theorem ArgC.one {h : Heap} : ∀ {k : Nat} {x : PT It k} {vi vk : Value}, ArgC h x vi vk → one1 vi = true ∧ one1 vk = true
  | 0, _, _, _, ⟨h1, h2⟩ => ⟨h1.one, h2.one⟩
  | k + 1, _, _, _, ⟨h1, cs, h3, h4, h5⟩ => ⟨h1.one, h4.one⟩
theorem ArgC.its {h : Heap} : ∀ {k : Nat} {x : PT It k} {vi vk : Value}, ArgC h x vi vk → Rdl 2 h vi x.its.length (x.its.flatMap enc)
  | 0, _, _, _, r => r.1
  | _ + 1, _, _, _, r => r.1
def toD : {k : Nat} → PT It k → DT (k + 1)
  | 0, its => ((its : List It), [])
  | _ + 1, t => (t.1, t.2.map toD)
theorem ArgC.toD {h : Heap} : ∀ {k : Nat} {x : PT It k} {vi vk : Value}, ArgC h x vi vk → ArgD h (toD x) vi vk
  | 0, _, _, _, ⟨h1, h2⟩ => ⟨h1, [], rfl, h2, fun j j1 => absurd j1 (Nat.not_lt_zero _)⟩
  | k + 1, x, _, _, ⟨h1, cs, h3, h4, h5⟩ => ⟨h1, cs, by show cs.length = (x.2.map _).length; rw [List.length_map]; exact h3, h4, fun j j1 j2 => by
      have j1' : j < x.2.length := by have : j < (x.2.map Gi.toD).length := j1; rwa [List.length_map] at this
      have := ArgC.toD (h5 j j1' j2).1
      have e : (x.2.map Gi.toD)[j]'j1 = Gi.toD (x.2[j]'j1') := List.getElem_map ..
      show ArgD h ((x.2.map Gi.toD)[j]'j1) _ _
      rw [e]; exact this⟩
theorem DoorCount_ok {n : Nat} {v : Value} (hc : cl h n 1 = some v) (H : ∀ E' h', St h [] E' h' → Q v h') : DoorNode_I_DoorCount.call #[.agg #[ptr n 0]] h Q := by
  refine DoorNode_I_DoorCount.body _ _ _ ?_; unfold DoorNode_I_DoorCount.sh
  have s := St.start h
  refine St.r_box (cs := [ptr n 0]) s fun t1 h s => ?_; refine r_fld ?_; refine St.r_load0 s 0 rfl rfl ?_; refine r_nil ?_; refine r_fld ?_; refine s.r_loadB hc ?_; exact H _ _ s
theorem DoorIsLeaf_ok {n : Nat} {a : Option Addr} (hc : cl h n 3 = some (.pointer a)) (H : ∀ E' h', St h [] E' h' → Q (.bool a.isNone) h') : DoorNode_I_DoorIsLeaf.call #[.agg #[ptr n 0]] h Q := by
  refine DoorNode_I_DoorIsLeaf.body _ _ _ ?_; unfold DoorNode_I_DoorIsLeaf.sh
  have s := St.start h
  refine St.r_box (cs := [ptr n 0]) s fun t1 h s => ?_; refine r_fld ?_; refine St.r_load0 s 0 rfl rfl ?_; refine node_leaf_ok (s.base hc) ?_; exact H _ _ s
theorem DoorKids_ok {n kb len : Nat} {v : Value} {xs : List Value} (hc : cl h n 3 = some (ptr kb 0)) (hk : cl h kb 0 = some v) (hr : Rdl 1 h v len xs) (H : ∀ E' h', St h [] E' h' → Q (.int .i64 len) h') : DoorNode_I_DoorKids.call #[.agg #[ptr n 0]] h Q := by
  refine DoorNode_I_DoorKids.body _ _ _ ?_; unfold DoorNode_I_DoorKids.sh
  have s := St.start h
  refine St.r_box (cs := [ptr n 0]) s fun t1 h s => ?_; refine r_fld ?_; refine St.r_load0 s 0 rfl rfl ?_; refine r_nil ?_; refine r_fld ?_; refine s.r_loadB hc ?_; refine r_nil ?_; refine s.r_loadB hk ?_; refine hr.lenV ?_; exact H _ _ s
theorem DoorKid_ok {n kb i : Nat} {v : Value} {l : List Nat} (hc : cl h n 3 = some (ptr kb 0)) (hk : cl h kb 0 = some v) (hr : Rdl 1 h v l.length (l.map fun m => ptr m 0)) (hi : i < l.length) (H : ∀ E' h', St h [] E' h' → Q (.agg #[ptr l[i] 0]) h') : DoorNode_I_DoorKid.call #[.agg #[ptr n 0], .int .i64 i] h Q := by
  refine DoorNode_I_DoorKid.body _ _ _ _ ?_; unfold DoorNode_I_DoorKid.sh
  have s := St.start h
  refine St.r_box (cs := [ptr n 0]) s fun t2 h s => ?_; refine s.r_alloc fun t4 h s => ?_; refine r_fld ?_; refine St.r_load0 s 1 rfl rfl ?_; refine r_nil ?_; refine r_fld ?_; refine s.r_loadB hc ?_; refine r_nil ?_; refine s.r_loadB hk ?_; refine hr.at1 (n := i) rfl hi fun b o hb => ?_; refine (hb.st s).load0 rfl ?_
  ((apply r_build; ((simp only [fillV, fill1, Value.cells, zeros_succ, zeros_zero, size_toArray, length_cons, length_nil, length_append, take_succ_cons, take_zero, take_nil, drop_succ_cons, drop_zero, drop_nil, cons_append, nil_append, append_nil, Nat.reduceAdd, Nat.reduceMul, Nat.reduceLeDiff, Nat.reduceEqDiff, and_self, and_true, true_and, if_true, Nat.le_refl, Nat.zero_add, Nat.add_zero, Nat.zero_mul, reduceIte, if_false] <;> rfl))))
  refine St.r_storeN0 s 0 (ys := [ptr l[i] 0]) rfl rfl (by simp) (by simp [one1]) ?_; intro h s
  refine St.r_loadN0 s 0 rfl (by simp) ?_; exact H _ _ s
theorem DoorItems_ok {n : Nat} {v : Value} (hc : cl h n 2 = some v) (H : ∀ E' h', St h [] E' h' → Q v h') : DoorNode_I_DoorItems.call #[.agg #[ptr n 0]] h Q := by
  refine DoorNode_I_DoorItems.body _ _ _ ?_; unfold DoorNode_I_DoorItems.sh
  have s := St.start h
  refine St.r_box (cs := [ptr n 0]) s fun t1 h s => ?_; refine r_fld ?_; refine St.r_load0 s 0 rfl rfl ?_; refine r_nil ?_; refine r_fld ?_; refine s.r_loadB hc ?_; exact H _ _ s
theorem toD_items : ∀ {k : Nat} (x : PT It k), (toD x).items = x.items
  | 0, x => rfl
  | k + 1, x => by
    show inter x.1 ((x.2.map toD).map DT.items) = inter x.1 (x.2.map PT.items)
    rw [List.map_map]
    congr 1
    exact List.map_congr_left fun c _ => toD_items c
theorem toD_its : ∀ {k : Nat} (x : PT It k), (toD x).1 = x.its
  | 0, _ => rfl
  | _ + 1, _ => rfl
theorem toD_lv {m : Nat} : ∀ {k lo : Nat} {x : PT It k}, x.Fl m lo → (toD x).lv = (k + 1, true)
  | 0, _, x, _ => rfl
  | k + 1, lo, x, f => by
    have hl : x.2.length = x.1.length + 1 := f.2.2.1
    obtain ⟨q, r, hq⟩ : ∃ q r, x.2 = q :: r := head_of (by omega)
    have hk : ∀ c ∈ x.2, (toD c).lv = (k + 1, true) := fun c hc => toD_lv (f.2.2.2 c hc)
    have e : (toD x).2 = toD q :: r.map toD := by show x.2.map toD = _; rw [hq]; rfl
    have e1 : (toD x).1 = x.1 := rfl
    have hr : (r.map toD).length = (toD x).1.length := by rw [List.length_map, e1]; rw [hq] at hl; simp at hl; exact hl
    unfold DT.lv; rw [e]
    simp only [if_pos hr]
    have h1 := hk q (by rw [hq]; simp)
    rw [h1]
    simp only [Bool.true_and, Prod.mk.injEq, true_and, List.all_map, List.all_eq_true, Function.comp]
    intro c hc; rw [hk c (by rw [hq]; exact List.mem_cons_of_mem _ hc)]
    simp
theorem toD_fl {d : Nat} (hd : 1 ≤ d) : ∀ {k lo : Nat} {x : PT It k}, x.Fl (2 * d - 1) lo → (toD x).fl d lo = true
  | 0, lo, x, f => by
    have f : lo ≤ List.length (α := It) x ∧ List.length (α := It) x ≤ 2 * d - 1 := f
    show (decide ((lo : Int) ≤ (List.length (α := It) x : Nat)) && decide (((List.length (α := It) x : Nat) : Int) ≤ 2 * d - 1) && true) = true
    simp only [Bool.and_eq_true, decide_eq_true_eq, and_true]
    omega
  | k + 1, lo, x, f => by
    have h1 := f.1
    have h2 := f.2.1
    show (decide ((lo : Int) ≤ (x.1.length : Nat)) && decide (((x.1.length : Nat) : Int) ≤ 2 * d - 1) && (x.2.map toD).all fun q => DT.fl d (d - 1) q) = true
    simp only [Bool.and_eq_true, decide_eq_true_eq, List.all_map, List.all_eq_true, Function.comp]
    refine ⟨⟨by omega, by omega⟩, fun c hc => ?_⟩
    have h3 := f.2.2.2 c hc
    rw [show (2 * d - 1) / 2 = d - 1 by omega] at h3
    have := toD_fl hd h3
    rw [show ((d - 1 : Nat) : Int) = (d : Int) - 1 by omega] at this; exact this
theorem toD_bulk {m : Nat} (hm : 3 ≤ m) : ∀ {k lo : Nat} {x : PT It k}, x.Fl m lo → 1 ≤ lo → (toD x).bulk ≤ 2 * x.items.length
  | 0, lo, x, f, h => by
    have f : lo ≤ List.length (α := It) x := f.1
    show 1 + List.length (α := It) x + 0 ≤ 2 * List.length (α := It) x
    omega
  | k + 1, lo, x, f, h => by
    have h1 := f.1
    have hs : ∀ l : List (PT It k), (∀ c ∈ l, c ∈ x.2) → ((l.map toD).map DT.bulk).sum ≤ 2 * ((l.map PT.items).map List.length).sum := fun l => by
      induction l with
      | nil => intro _; simp
      | cons a r ih =>
        intro hl
        have i1 := ih fun c hc => hl c (List.mem_cons_of_mem _ hc)
        have i2 := toD_bulk hm (f.2.2.2 a (hl a (by simp))) (by omega)
        simp only [List.map_cons, List.sum_cons]
        omega
    have := hs x.2 fun _ h => h
    show 1 + x.1.length + ((x.2.map toD).map DT.bulk).sum ≤ 2 * (inter x.1 (x.2.map PT.items)).length
    rw [inter_length]
    omega
theorem toD_valid {ow : List Int} {d : Nat} (hd : d = 0 ∨ 2 ≤ d) {k : Nat} {x : PT It k} (f : x.Fl (dmax d) 1) (ha : Asc (ltO ow) x.items) : validN ow d (toD x) := by
  refine .inr ⟨?_, ?_, ?_⟩
  · rw [toD_lv f]
  · by_cases e : d = 0
    · subst e
      have := toD_fl (d := 32) (by omega) (x := x) f
      simpa using this
    · unfold dmax at f
      rw [if_neg e] at f; rw [if_neg (by omega)]; exact toD_fl (by omega) f
  · rw [toD_items]; exact ha
end Go.Proofs.Ytljecmjdmdjldaa.Gi
end
