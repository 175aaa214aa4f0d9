/-
  Texts of this claim, laid together: KrIu KsIu KzIu KgIu KhIu KIIu KJIu KWIu KjIu KoIu Sa.
  Conditions: as each of them tells.
-/
import Derived.Test.YtdpkpcmoabfofaaRSAlikeB4
set_option linter.unusedVariables false
set_option linter.unusedSimpArgs false
open List (set_cons_zero set_cons_succ eraseIdx_cons_zero eraseIdx_cons_succ cons_append nil_append map_append map_cons map_flatMap map_nil flatMap_cons flatMap_append flatMap_nil append_nil append_assoc length_cons length_nil length_append take_succ_cons drop_succ_cons take_zero drop_zero take_nil drop_nil size_toArray length_map)
section
namespace Go.Proofs.Ytdpkpcmoabfofaa.Iu
open Go.Hp Go.Proofs.Ytdpkpcmoabfofaa
set_option maxHeartbeats 4000000
variable {h0 h : Heap} {Z E : List Rg} {Q : Value → Heap → Prop}
attribute [local irreducible] load1 loadN store1 storeN fld nilck lenV idx arith cmpI notV extr mkSl app cpy slc ifV
theorem rebalance_j {tb m j : Nat} {iso mn : Int} {ctr : Option Addr} (hT0 : (tb, 0, hd0 iso ctr) ∈ Z) (hT4 : (tb, 4, hd4 mn m) ∈ Z) (hm3 : 3 ≤ m) (hm1 : m ≤ 1024) (ho : m % 2 = 1) {k : Nat} (t : GT It (k + 1))
    (hlm : t.pt.1.length ≤ m) (hj : j < t.pt.1.length) (hfx : ∀ c ∈ t.pt.2, PT.Fl m (m / 2 - 1) c) (hd : ∀ c c', t.pt.2[j]? = some c → t.pt.2[j + 1]? = some c' → (c.its.length + 1 = m / 2 ∧ PT.Fl m (m / 2) c') ∨ (PT.Fl m (m / 2) c ∧ c'.its.length + 1 = m / 2)) (hfy : ∀ i c, t.pt.2[i]? = some c → i ≠ j → i ≠ j + 1 → PT.Fl m (m / 2) c)
    (hsz : t.pt.items.length ≤ 4611686018427387903) (g : Gd iso t) (s : St h0 Z (t.all enc ++ E) h)
    (H : ∀ (t' : GT It (k + 1)) h', Mended iso m j t t' → St h0 Z (t'.all enc ++ E) h' → Q (.tuple #[]) h') : Map_iu_nodeRebalance.j1 (ptr tb 0) (ptr t.id 0) (.int .i64 j) h Q := by
  obtain ⟨d, ts⟩ := t; obtain ⟨own, n, is', cnt, its, iv, ib, io, isp, kb, kv, krb, kro, ksp⟩ := d
  have hj : j < its.length := hj
  have hlm : its.length ≤ m := hlm
  have w : Own 1 iv its.length ib io (its.flatMap enc) isp := g.own
  have wK : Own 1 kv ((ts.map GT.id).map pp).length krb kro (((ts.map GT.id).map pp).flatMap fv) ksp := g.ownK
  have hkl : ts.length = its.length + 1 := g.wf.2.2.1
  have hiso : is' = iso := g.iso
  have hcn : cnt = (PT.items (h := k + 1) (its, ts.map GT.pt)).length := g.cn.1
  subst hiso
  have s : St h0 Z (((n, 0, [.int .u64 is', .int .i64 cnt, iv, ptr kb 0]) :: (ib, io, its.flatMap enc ++ isp) :: (kb, 0, [kv]) :: (krb, kro, ((ts.map GT.id).map pp).flatMap fv ++ ksp) :: ts.flatMap (GT.all enc)) ++ E) h := by
    have e := all_eq (k := k + 1) ((⟨own, n, is', cnt, its, iv, ib, io, isp, kb, kv, krb, kro, ksp⟩ : Nd It), ts)
    rw [e] at s; exact s
  obtain ⟨A, l, r, B, ets, hA⟩ := two_of (ts := ts) (j := j) (by omega); obtain ⟨P, y, S, eits, hP⟩ := one_of (ts := its) (j := j) hj
  have hB : B.length = S.length := by rw [ets, eits] at hkl; simp at hkl; omega
  subst ets; subst eits
  have gl : Gd is' l := g.kid (by simp)
  have gr : Gd is' r := g.kid (by simp)
  have fl0 : l.pt.Fl m (m / 2 - 1) := hfx _ (List.mem_map.2 ⟨l, by simp, rfl⟩)
  have fr0 : r.pt.Fl m (m / 2 - 1) := hfx _ (List.mem_map.2 ⟨r, by simp, rfl⟩)
  have flr : (l.pt.its.length + 1 = m / 2 ∧ r.pt.Fl m (m / 2)) ∨ (l.pt.Fl m (m / 2) ∧ r.pt.its.length + 1 = m / 2) := by
    have h1 : ((A ++ l :: r :: B).map GT.pt)[j]? = some l.pt := by rw [List.map_append, List.map_cons]; exact getAt (by simpa using hA)
    have h2 : ((A ++ l :: r :: B).map GT.pt)[j + 1]? = some r.pt := by
      rw [show A ++ l :: r :: B = (A ++ [l]) ++ r :: B by simp, List.map_append, List.map_cons]; exact getAt (by simp [hA])
    exact hd _ _ h1 h2
  have hab : ∀ c ∈ A ++ B, PT.Fl m (m / 2) c.pt := fun c hc => by
    obtain ⟨i, hi, e⟩ := List.getElem_of_mem hc
    rcases Nat.lt_or_ge i A.length with hl | hl
    · rw [List.getElem_append_left hl] at e
      refine hfy i c.pt ?_ (by omega) (by omega)
      show ((A ++ l :: r :: B).map GT.pt)[i]? = some c.pt
      rw [List.getElem?_map, List.getElem?_append_left hl, List.getElem?_eq_getElem hl, e]; rfl
    · rw [List.getElem_append_right hl] at e
      rw [List.length_append] at hi; refine hfy (i + 2) c.pt ?_ (by omega) (by omega)
      show ((A ++ l :: r :: B).map GT.pt)[i + 2]? = some c.pt
      rw [List.getElem?_map, List.getElem?_append_right (by omega), show i + 2 - A.length = (i - A.length) + 2 by omega, List.getElem?_cons_succ, List.getElem?_cons_succ, List.getElem?_eq_getElem (by omega), e]; rfl
  have ll := fl_its fl0
  have lr := fl_its fr0
  have hlr : (l.nd.its.length + 1 = m / 2 ∧ m / 2 ≤ r.nd.its.length) ∨ (m / 2 ≤ l.nd.its.length ∧ r.nd.its.length + 1 = m / 2) := by
    rw [GT.pt_its, GT.pt_its] at flr; exact flr.imp (fun f => ⟨f.1, (fl_its f.2).1⟩) (fun f => ⟨(fl_its f.1).1, f.2⟩)
  have wl := gl.own
  have wr := gr.own
  have cl0 := gl.cntEq
  have cr0 := gr.cntEq
  have il := gl.iso
  have ir := gr.iso
  rw [ids_pp] at s wK
  have hKl : ((A.map GT.id).map pp ++ pp l.id :: pp r.id :: (B.map GT.id).map pp).length = P.length + S.length + 2 := by simp; omega
  have hil : (P ++ y :: S).length = P.length + S.length + 1 := by simp; omega
  have s : St h0 Z ((l.id, 0, [.int .u64 l.nd.iso, .int .i64 l.nd.cnt, l.nd.iv, GT.kp l]) :: (l.nd.ib, l.nd.io, l.nd.its.flatMap enc ++ l.nd.isp) :: (r.id, 0, [.int .u64 r.nd.iso, .int .i64 r.nd.cnt, r.nd.iv, GT.kp r]) :: (r.nd.ib, r.nd.io, r.nd.its.flatMap enc ++ r.nd.isp) ::
      (n, 0, [.int .u64 is', .int .i64 cnt, iv, ptr kb 0]) :: (ib, io, (P ++ y :: S).flatMap enc ++ isp) :: (kb, 0, [kv]) :: (krb, kro, ((A.map GT.id).map pp ++ pp l.id :: pp r.id :: (B.map GT.id).map pp).flatMap fv ++ ksp) :: (GT.rest l ++ (GT.rest r ++ (A.flatMap (GT.all enc) ++ (B.flatMap (GT.all enc) ++ E))))) h := by
    have e : (A ++ l :: r :: B).flatMap (GT.all enc) = A.flatMap (GT.all enc) ++ (l.all enc ++ (r.all enc ++ B.flatMap (GT.all enc))) := by rw [List.flatMap_append, List.flatMap_cons, List.flatMap_cons]
    refine s.perm ?_; rw [e, all_eq l, all_eq r]
    ((apply perm_rg; intro f; simp only [set_cons_zero, set_cons_succ, eraseIdx_cons_zero, eraseIdx_cons_succ, cons_append, nil_append, map_append, map_cons, map_nil, List.sum_append, List.sum_cons, List.sum_nil, map_flatMap, Nat.add_zero, Nat.zero_add]; ac_rfl))
  rw [il, ir, cl0, cr0] at s
  have hr1 : r.nd.its.length ≤ r.pt.items.length := by have := (PT.its_sub r.pt).length_le; rwa [GT.pt_its] at this
  have hl1 : l.nd.its.length ≤ l.pt.items.length := by have := (PT.its_sub l.pt).length_le; rwa [GT.pt_its] at this
  have hsz2 : (lz P (A.map fun c => c.pt.items)).length + l.pt.items.length + 1 + r.pt.items.length + (rz S (B.map fun c => c.pt.items)).length ≤ 4611686018427387903 := by
    have e := PT.items_two P S y (A.map GT.pt) (B.map GT.pt) l.pt r.pt (by rw [List.length_map]; omega) (by rw [List.length_map]; omega)
    have h2 : (PT.items (h := k + 1) (P ++ y :: S, (A ++ l :: r :: B).map GT.pt)).length ≤ 4611686018427387903 := hsz
    rw [List.map_append, List.map_cons, List.map_cons, e] at h2
    simp only [List.length_append, List.length_cons, List.map_map, Function.comp_def] at h2
    omega
  have gA : ∀ c ∈ A, Gd is' c := fun c hc => g.kid (by simp [hc])
  have gB : ∀ c ∈ B, Gd is' c := fun c hc => g.kid (by simp [hc])
  have hi : ∀ {E h}, St h0 Z E h → cl h tb 0 = some (.int .u64 is') := fun s => by have := s.getZ hT0 (j := 0) (by simp); simpa using this
  have kj : ((A.map GT.id).map pp ++ pp l.id :: pp r.id :: (B.map GT.id).map pp)[j]? = some (ptr l.id 0) := getAt (by simp [hA])
  have kj1 : ((A.map GT.id).map pp ++ pp l.id :: pp r.id :: (B.map GT.id).map pp)[j + 1]? = some (ptr r.id 0) := by
    have : (A.map GT.id).map pp ++ pp l.id :: pp r.id :: (B.map GT.id).map pp = ((A.map GT.id).map pp ++ [pp l.id]) ++ pp r.id :: (B.map GT.id).map pp := by simp
    rw [this]; exact getAt (by simp [hA])
  have pj : (P ++ y :: S)[j]? = some y := getAt hP
  show Map_iu_nodeRebalance.j1 (ptr tb 0) (ptr n 0) (.int .i64 j) h Q
  unfold Map_iu_nodeRebalance.j1; refine r_nil ?_; refine r_fld ?_; refine St.r_load0 s 4 rfl rfl ?_; refine r_nil ?_; refine St.r_load0 s 6 rfl rfl ?_
  (refine Own.idx (by assumption) rfl (by first | omega | (simp; done) | (simp; omega)) ?_)
  refine isoLoad_ok (hi s) (s.clV 7 rfl kj) (fun _ => s.cl0 0 rfl rfl) ?_; refine r_nil ?_; refine r_fld ?_; refine St.r_load0 s 4 rfl rfl ?_; refine r_nil ?_; refine St.r_load0 s 6 rfl rfl ?_; refine r_add1 (by omega) ?_
  (refine Own.idx (by assumption) rfl (by first | omega | (simp; done) | (simp; omega)) ?_)
  refine isoLoad_ok (hi s) (s.clV 7 rfl kj1) (fun _ => s.cl0 2 rfl rfl) ?_; refine r_nil ?_; refine r_fld ?_; refine St.r_load0 s 0 rfl rfl ?_; refine Own.lenV (by assumption) ?_; refine r_nil ?_; refine r_fld ?_; refine St.r_load0 s 2 rfl rfl ?_; refine Own.lenV (by assumption) ?_; refine r_addN (by omega) ?_; refine r_nil ?_; refine r_fld ?_; refine s.r_lz hT4 2 rfl rfl ?_; refine r_cmpI ?_; refine r_if (fun hlt => ?_) (fun hge => ?_)
  · have hlt : l.nd.its.length + r.nd.its.length < m := by have := of_decide_eq_true hlt; omega
    refine r_nil ?_; refine r_fld ?_; refine St.r_load0 s 0 rfl rfl ?_; refine r_nil ?_; refine r_fld ?_; refine St.r_load0 s 4 rfl rfl ?_
    (refine Own.idx (by assumption) rfl (by first | omega | (simp; done) | (simp; omega)) ?_)
    refine s.r_loadF encl 5 rfl (by assumption) ?_; refine St.r_mkSl (sz := 1) (cs := enc y) s (by ((simp only [fillV, fill1, Value.cells, zeros_succ, zeros_zero, size_toArray, length_cons, length_nil, length_append, take_succ_cons, take_zero, take_nil, drop_succ_cons, drop_zero, drop_nil, cons_append, nil_append, append_nil, Nat.reduceAdd, Nat.reduceMul, Nat.reduceLeDiff, Nat.reduceEqDiff, and_self, and_true, true_and, if_true, Nat.le_refl, Nat.zero_add, Nat.add_zero, Nat.zero_mul, reduceIte, if_false] <;> rfl))) rfl fun q h s w1 => ?_; refine And.intro (by exact St.r_still0 s 1 rfl rfl) ?_; refine s.r_appL (M := [y]) 2 rfl wl rfl (by have := w1.rdl s 0 rfl; simpa using this) (fun _ _ => enc1 _) (by simp; omega) (by simp; omega) fun liv1 lib1 lio1 lisp1 h s wl1 => ?_
    have s := s.tail rfl
    refine r_nil ?_; refine r_fld ?_
    (refine St.r_store0 s 0 rfl (by simp) (Own.one (by assumption)) ?_; intro h s; try simp only [List.set_cons_zero, List.set_cons_succ] at s)
    refine r_nil ?_; refine r_fld ?_; refine St.r_load0 s 0 rfl rfl ?_; refine r_nil ?_; refine r_fld ?_; refine St.r_load0 s 2 rfl rfl ?_; refine s.r_appL (M := r.nd.its) 1 rfl wl1 rfl (wr.rdl s 3 rfl) (fun _ _ => enc1 _) (by simp; omega) (by simp; omega) fun liv2 lib2 lio2 lisp2 h s wl2 => ?_; refine r_nil ?_; refine r_fld ?_
    (refine St.r_store0 s 0 rfl (by simp) (Own.one (by assumption)) ?_; intro h s; try simp only [List.set_cons_zero, List.set_cons_succ] at s)
    -- the node itself
    have tail : ∀ {X : List Rg} {kp : Value} {h : Heap}, St h0 Z ((l.id, 0, [.int .u64 is', .int .i64 l.pt.items.length, liv2, kp]) :: (lib2, lio2, (l.nd.its ++ [y] ++ r.nd.its).flatMap enc ++ lisp2) :: (r.id, 0, [.int .u64 is', .int .i64 r.pt.items.length, r.nd.iv, GT.kp r]) :: (r.nd.ib, r.nd.io, r.nd.its.flatMap enc ++ r.nd.isp) ::
        (n, 0, [.int .u64 is', .int .i64 cnt, iv, ptr kb 0]) :: (ib, io, (P ++ y :: S).flatMap enc ++ isp) :: (kb, 0, [kv]) :: (krb, kro, ((A.map GT.id).map pp ++ pp l.id :: pp r.id :: (B.map GT.id).map pp).flatMap fv ++ ksp) :: X) h →
        (∀ iv2 isp2 kv2 ksp2 h, Own 1 iv2 (P ++ S).length ib io ((P ++ S).flatMap enc) isp2 → Own 1 kv2 ((A.map GT.id).map pp ++ pp l.id :: (B.map GT.id).map pp).length krb kro (((A.map GT.id).map pp ++ pp l.id :: (B.map GT.id).map pp).flatMap fv) ksp2 →
          St h0 Z ((l.id, 0, [.int .u64 is', .int .i64 ((l.pt.items.length + (r.pt.items.length + 1) : Nat) : Int), liv2, kp]) :: (lib2, lio2, (l.nd.its ++ [y] ++ r.nd.its).flatMap enc ++ lisp2) :: (r.id, 0, [.int .u64 is', .int .i64 r.pt.items.length, r.nd.iv, GT.kp r]) :: (r.nd.ib, r.nd.io, r.nd.its.flatMap enc ++ r.nd.isp) ::
            (n, 0, [.int .u64 is', .int .i64 cnt, iv2, ptr kb 0]) :: (ib, io, (P ++ S).flatMap enc ++ isp2) :: (kb, 0, [kv2]) :: (krb, kro, ((A.map GT.id).map pp ++ pp l.id :: (B.map GT.id).map pp).flatMap fv ++ ksp2) :: X) h → Q (.tuple #[]) h) →
        Map_iu_nodeRebalance.j2 (ptr tb 0) (ptr n 0) (.int .i64 j) (ptr l.id 0) (ptr r.id 0) h Q := by
      intro X kp h s K; unfold Map_iu_nodeRebalance.j2; refine r_nil ?_; refine r_fld ?_; refine St.r_load0 s 0 rfl rfl ?_; refine r_nil ?_; refine r_fld ?_; refine St.r_load0 s 2 rfl rfl ?_; refine r_add1 (by omega) ?_; refine r_addN (by omega) ?_; refine r_nil ?_; refine r_fld ?_
      (refine St.r_store0 s 0 rfl (by simp) rfl ?_; intro h s; try simp only [List.set_cons_zero, List.set_cons_succ] at s)
      refine r_nil ?_; refine r_fld ?_; refine St.r_load0 s 4 rfl rfl ?_; refine w.slcLo encl (i := j) rfl (by omega) fun dd wd => ?_; refine r_nil ?_; refine r_fld ?_; refine St.r_load0 s 4 rfl rfl ?_; refine r_add1 (by omega) ?_; refine (w.rdl s 5 rfl).slcLo encl (i := j + 1) rfl (by omega) fun src rs => ?_; refine s.r_cpyF encl 5 (L := P ++ y :: S) (M := (P ++ y :: S).drop (j + 1)) rfl wd (by simp; omega) rs rfl (fun y _ => enc1 y) fun h s => ?_; refine r_nil ?_; refine r_fld ?_; refine St.r_load0 s 4 rfl rfl ?_; refine r_nil ?_; refine r_fld ?_; refine St.r_load0 s 4 rfl rfl ?_; refine Own.lenV (by assumption) ?_; refine r_sub1 (by omega) (by omega) ?_; refine r_nil ?_; refine r_fld ?_; refine s.r_lzE hT4 0 (enc emp) rfl (by simp) rfl ?_
      (refine Own.idx (by assumption) rfl (by first | omega | (simp; done) | (simp; omega)) ?_)
      (refine s.r_storeF encl 5 rfl (by first | omega | (simp; done) | (simp; omega)) (enc1 _) ?_; intro h s; try simp only [List.set_cons_zero, List.set_cons_succ] at s)
      refine r_nil ?_; refine r_fld ?_; refine St.r_load0 s 4 rfl rfl ?_; refine r_nil ?_; refine r_fld ?_; refine St.r_load0 s 4 rfl rfl ?_; refine Own.lenV (by assumption) ?_; refine r_sub1 (by omega) (by omega) ?_
      have hj2 : j < (P ++ y :: S).length := by omega
      have hpe : (P ++ y :: S).eraseIdx j = P ++ S := eraseIdx_at hP
      refine (w.list encl (del_len (P ++ y :: S) emp hj2)).slcHi encl rfl (by rw [del_len _ _ hj2]; omega) fun iv2 w2 => ?_
      have s := s.del (f := enc) 5 rfl _ (del_erase (P ++ y :: S) emp hj2)
      rw [del_erase (P ++ y :: S) emp hj2, hpe] at w2; rw [hpe] at s; refine r_nil ?_; refine r_fld ?_
      (refine St.r_store0 s 4 rfl (by simp) (Own.one (by assumption)) ?_; intro h s; try simp only [List.set_cons_zero, List.set_cons_succ] at s)
      refine r_nil ?_; refine r_fld ?_; refine St.r_load0 s 4 rfl rfl ?_; refine r_nil ?_; refine St.r_load0 s 6 rfl rfl ?_; refine r_add1 (by omega) ?_
      generalize hKK : (A.map GT.id).map pp ++ pp l.id :: pp r.id :: (B.map GT.id).map pp = KK at *
      have hK1 : KK.eraseIdx (j + 1) = (A.map GT.id).map pp ++ pp l.id :: (B.map GT.id).map pp := by
        rw [← hKK, show (A.map GT.id).map pp ++ pp l.id :: pp r.id :: (B.map GT.id).map pp = ((A.map GT.id).map pp ++ [pp l.id]) ++ pp r.id :: (B.map GT.id).map pp by simp, eraseIdx_at (by simp [hA])]
        simp
      have hKo : ∀ x ∈ KK, one1 x = true := fun x hx => by
        rw [← hKK] at hx
        rcases List.mem_append.1 hx with h | h
        · obtain ⟨a, _, rfl⟩ := List.mem_map.1 h; rfl
        · rcases List.mem_cons.1 h with h | h
          · rw [h]; rfl
          · rcases List.mem_cons.1 h with h | h
            · rw [h]; rfl
            · obtain ⟨a, _, rfl⟩ := List.mem_map.1 h; rfl
      refine wK.slcLo fvl (i := j + 1) rfl (by omega) fun dk wdk => ?_; refine r_nil ?_; refine r_fld ?_; refine St.r_load0 s 4 rfl rfl ?_; refine r_nil ?_; refine St.r_load0 s 6 rfl rfl ?_; refine r_add2 (by omega) ?_; refine (wK.rdl s 7 rfl).slcLo fvl (i := j + 1 + 1) rfl (by omega) fun sk rsk => ?_; refine s.r_cpyF fvl 7 (L := KK) (M := KK.drop (j + 1 + 1)) rfl wdk (by simp; omega) rsk rfl (fun x hx => by intro c hc; rw [List.mem_singleton.1 hc]; exact hKo x (List.mem_of_mem_drop hx)) fun h s => ?_; refine r_nil ?_; refine r_fld ?_; refine St.r_load0 s 4 rfl rfl ?_; refine r_nil ?_; refine St.r_load0 s 6 rfl rfl ?_; refine r_nil ?_; refine r_fld ?_; refine St.r_load0 s 4 rfl rfl ?_; refine r_nil ?_; refine St.r_load0 s 6 rfl rfl ?_; refine Own.lenV (by assumption) ?_; refine r_sub1 (by omega) (by omega) ?_
      (refine Own.idx (by assumption) rfl (by first | omega | (simp; done) | (simp; omega)) ?_)
      (refine s.r_storeV 7 rfl (by first | omega | (simp; done) | (simp; omega)) rfl ?_; intro h s; try simp only [List.set_cons_zero, List.set_cons_succ] at s)
      refine r_nil ?_; refine r_fld ?_; refine St.r_load0 s 4 rfl rfl ?_; refine r_nil ?_; refine r_fld ?_; refine St.r_load0 s 4 rfl rfl ?_; refine r_nil ?_; refine St.r_load0 s 6 rfl rfl ?_; refine r_nil ?_; refine r_fld ?_; refine St.r_load0 s 4 rfl rfl ?_; refine r_nil ?_; refine St.r_load0 s 6 rfl rfl ?_; refine Own.lenV (by assumption) ?_; refine r_sub1 (by omega) (by omega) ?_
      have hj3 : j + 1 < KK.length := by omega
      refine (wK.list fvl (del_len KK (.pointer none) hj3)).slcHi fvl rfl (by rw [del_len _ _ hj3]; omega) fun kv2 wk2 => ?_
      have s := s.del (f := fv) 7 rfl _ (del_erase KK (.pointer none) hj3)
      rw [del_erase KK (.pointer none) hj3, hK1] at wk2; rw [hK1] at s; refine r_nil ?_
      (refine St.r_store0 s 6 rfl (by simp) (Own.one (by assumption)) ?_; intro h s; try simp only [List.set_cons_zero, List.set_cons_succ] at s)
      exact K _ _ _ _ _ w2 wk2 s
    cases k with
    | zero =>
      refine leaf_ok (a := none) (s.cl0 0 rfl rfl) ?_; refine r_not ?_; refine r_if (fun e => absurd e (by simp)) (fun _ => ?_)
      have s := St.kids0 s
      refine tail s fun iv2 isp2 kv2 ksp2 h w2 wk2 s => ?_; obtain ⟨l', hl1', gl', hl2', hl3', hl4'⟩ := mk_leaf (iso := is') (n := l.id) wl2
      have wK2 : Own 1 kv2 (((A ++ l' :: B).map GT.id).map pp).length krb kro ((((A ++ l' :: B).map GT.id).map pp).flatMap fv) ksp2 := by rw [ids_one, hl1']; exact wk2
      obtain ⟨t', ht1, gt, ht2, ht3, ht4⟩ := mk_inner (n := n) (kb := kb) (iso := is') w2 wK2 (by simp; omega) (fun c hc => by
        rcases List.mem_append.1 hc with h | h
        · exact gA c h
        · rcases List.mem_cons.1 h with h | h
          · subst h; exact gl'
          · exact gB c h)
      have hfl' : l'.pt.Fl m (m / 2) := by rw [hl2']; exact fl_leaf (by simp; omega) (by simp; omega)
      refine (fun M => H t' h M ((s.perm (E' := (r.id, 0, [.int .u64 is', .int .i64 r.pt.items.length, r.nd.iv, GT.kp r]) :: (r.nd.ib, r.nd.io, r.nd.its.flatMap enc ++ r.nd.isp) :: (t'.all enc ++ E)) ?_).drop 2)) ?_
      rotate_left
      · refine mended_one rfl ht2 (by omega) (by omega) ht1 gt hab hlm hfl' ?_ hP ⟨hlt, ?_⟩
        · rw [hl2']
          show l.nd.its ++ y :: r.nd.its = l.nd.its ++ [y] ++ r.nd.its
          simp
        · rw [hl2']
          show l.nd.its ++ y :: r.nd.its = l.nd.its ++ [y] ++ r.nd.its
          simp
      have e1 := M.2.1
      rw [ht2] at e1
      have e1 : ((PT.items (h := 1) (P ++ S, (A ++ l' :: B).map GT.pt)).length : Int) = cnt := by rw [hcn, e1]; rfl
      have e2 : (A ++ l' :: B).flatMap (GT.all enc) = A.flatMap (GT.all enc) ++ (l'.all enc ++ B.flatMap (GT.all enc)) := by rw [List.flatMap_append, List.flatMap_cons]
      have e3 : l.pt.items.length + (r.pt.items.length + 1) = (l.nd.its ++ [y] ++ r.nd.its).length := by
        show l.nd.its.length + (r.nd.its.length + 1) = _
        simp <;> omega
      rw [ht4, e1, e2, hl4', ids_one, hl1', e3]
      ((apply perm_rg; intro f; simp only [set_cons_zero, set_cons_succ, eraseIdx_cons_zero, eraseIdx_cons_succ, cons_append, nil_append, map_append, map_cons, map_nil, List.sum_append, List.sum_cons, List.sum_nil, map_flatMap, Nat.add_zero, Nat.zero_add]; ac_rfl))
    | succ k =>
      obtain ⟨dl, lk⟩ := l; obtain ⟨dr, rk⟩ := r; refine leaf_ok (a := some ⟨dl.kb, 0, none⟩) (s.cl0 0 rfl rfl) ?_; refine r_not ?_; refine r_if (fun _ => ?_) (fun e => absurd e (by simp))
      have s := St.kids8 s
      have s : St h0 Z ((dl.n, 0, [_, _, _, ptr dl.kb 0]) :: _ :: (dr.n, 0, [_, _, _, ptr dr.kb 0]) :: _ :: _ :: _ :: _ :: _ :: (dl.kb, 0, [dl.kv]) :: (dl.krb, dl.kro, ((lk.map GT.id).map pp).flatMap fv ++ dl.ksp) :: (dr.kb, 0, [dr.kv]) :: (dr.krb, dr.kro, ((rk.map GT.id).map pp).flatMap fv ++ dr.ksp) ::
        (lk.flatMap (GT.all enc) ++ (rk.flatMap (GT.all enc) ++ (A.flatMap (GT.all enc) ++ (B.flatMap (GT.all enc) ++ E))))) h := s
      have wLK : Own 1 dl.kv ((lk.map GT.id).map pp).length dl.krb dl.kro (((lk.map GT.id).map pp).flatMap fv) dl.ksp := gl.ownK
      have wRK : Own 1 dr.kv ((rk.map GT.id).map pp).length dr.krb dr.kro (((rk.map GT.id).map pp).flatMap fv) dr.ksp := gr.ownK
      have hlk : lk.length = dl.its.length + 1 := gl.wf.2.2.1
      have hrk : rk.length = dr.its.length + 1 := gr.wf.2.2.1
      have hdl : dl.its.length ≤ m := ll.2
      have hdr : dr.its.length ≤ m := lr.2
      have hrkL : ((rk.map GT.id).map pp).length = dr.its.length + 1 := by rw [List.length_map, List.length_map]; exact hrk
      have hlkL : ((lk.map GT.id).map pp).length = dl.its.length + 1 := by rw [List.length_map, List.length_map]; exact hlk
      refine r_nil ?_; refine r_fld ?_; refine St.r_load0 s 0 rfl rfl ?_; refine r_nil ?_; refine r_fld ?_; refine St.r_load0 s 0 rfl rfl ?_; refine r_nil ?_; refine St.r_load0 s 8 rfl rfl ?_; refine r_nil ?_; refine r_fld ?_; refine St.r_load0 s 2 rfl rfl ?_; refine r_nil ?_; refine St.r_load0 s 10 rfl rfl ?_; refine s.r_appL (f := fv) (L := (lk.map GT.id).map pp) (M := (rk.map GT.id).map pp) 9 rfl wLK rfl (wRK.rdl s 11 rfl) (fun x hx => by obtain ⟨a, _, rfl⟩ := List.mem_map.1 hx; simp [one1]) (by omega) (by omega) fun lkv1 lkb1 lko1 lks1 h s wLK1 => ?_; refine And.intro (by exact St.r_still0 s 0 rfl rfl) ?_; refine r_nil ?_
      (refine St.r_store0 s 8 rfl (by simp) (Own.one (by assumption)) ?_; intro h s; try simp only [List.set_cons_zero, List.set_cons_succ] at s)
      refine tail s fun iv2 isp2 kv2 ksp2 h w2 wk2 s => ?_
      have eL : ((lk ++ rk).map GT.id).map pp = (lk.map GT.id).map pp ++ (rk.map GT.id).map pp := by simp
      rw [← eL] at s wLK1
      obtain ⟨l', hl1', gl', hl2', hl3', hl4'⟩ := mk_inner (iso := is') (n := dl.n) (kb := dl.kb) (ts := lk ++ rk) wl2 wLK1 (by show _ = (dl.its ++ [y] ++ dr.its).length + 1; simp; omega) (fun q hq => by
        rcases List.mem_append.1 hq with h | h
        · exact gl.kid h
        · exact gr.kid h)
      have wK2 : Own 1 kv2 (((A ++ l' :: B).map GT.id).map pp).length krb kro ((((A ++ l' :: B).map GT.id).map pp).flatMap fv) ksp2 := by rw [ids_one, hl1']; exact wk2
      obtain ⟨t', ht1, gt, ht2, ht3, ht4⟩ := mk_inner (n := n) (kb := kb) (iso := is') w2 wK2 (by simp; omega) (fun c hc => by
        rcases List.mem_append.1 hc with h | h
        · exact gA c h
        · rcases List.mem_cons.1 h with h | h
          · subst h; exact gl'
          · exact gB c h)
      have fkl : ∀ q ∈ lk, PT.Fl m (m / 2) q.pt := fun q hq => fl0.2.2.2 _ (List.mem_map.2 ⟨q, hq, rfl⟩)
      have fkr : ∀ q ∈ rk, PT.Fl m (m / 2) q.pt := fun q hq => fr0.2.2.2 _ (List.mem_map.2 ⟨q, hq, rfl⟩)
      have hlt2 : dl.its.length + dr.its.length < m := hlt
      have hlr2 : (dl.its.length + 1 = m / 2 ∧ m / 2 ≤ dr.its.length) ∨ (m / 2 ≤ dl.its.length ∧ dr.its.length + 1 = m / 2) := hlr
      have hfl' : l'.pt.Fl m (m / 2) := by
        rw [hl2']; refine fl_inner (by show m / 2 ≤ (dl.its ++ [y] ++ dr.its).length; simp; omega) (by show (dl.its ++ [y] ++ dr.its).length ≤ m; simp; omega) (by show _ = (dl.its ++ [y] ++ dr.its).length + 1; simp; omega) fun q hq => ?_; obtain ⟨x, hx, rfl⟩ := List.mem_map.1 hq
        rcases List.mem_append.1 hx with h | h
        · exact fkl x h
        · exact fkr x h
      have hlI : l'.pt.items = (GT.pt (h := k + 1) (dl, lk)).items ++ y :: (GT.pt (h := k + 1) (dr, rk)).items := by
        rw [hl2']
        show inter (dl.its ++ [y] ++ dr.its) (((lk ++ rk).map GT.pt).map PT.items) = inter dl.its ((lk.map GT.pt).map PT.items) ++ y :: inter dr.its ((rk.map GT.pt).map PT.items)
        rw [List.map_append, List.map_append, List.append_assoc]; exact inter_join _ _ _ _ _ (by simp; omega)
      refine (fun M => H t' h M ((s.perm (E' := (dr.n, 0, [.int .u64 is', .int .i64 (GT.pt (h := k + 1) (dr, rk)).items.length, dr.iv, ptr dr.kb 0]) :: (dr.ib, dr.io, dr.its.flatMap enc ++ dr.isp) :: (dr.kb, 0, [dr.kv]) :: (dr.krb, dr.kro, ((rk.map GT.id).map pp).flatMap fv ++ dr.ksp) :: (t'.all enc ++ E)) ?_).drop 4)) ?_
      rotate_left
      · refine mended_one rfl ht2 (by omega) (by omega) ht1 gt hab hlm hfl' (by rw [hlI]) hP ⟨hlt, ?_⟩
        rw [hl2']
        show (dl.its ++ y :: dr.its, lk.map GT.pt ++ rk.map GT.pt) = (dl.its ++ [y] ++ dr.its, (lk ++ rk).map GT.pt)
        rw [List.map_append]; simp
      have e1 := M.2.1
      rw [ht2] at e1
      have e1 : ((PT.items (h := k + 2) (P ++ S, (A ++ l' :: B).map GT.pt)).length : Int) = cnt := by rw [hcn, e1]; rfl
      have e2 : (A ++ l' :: B).flatMap (GT.all enc) = A.flatMap (GT.all enc) ++ (l'.all enc ++ B.flatMap (GT.all enc)) := by rw [List.flatMap_append, List.flatMap_cons]
      have e3 : (PT.items (h := k + 1) ((GT.nd (h := k + 1) (dl, lk)).its ++ [y] ++ (GT.nd (h := k + 1) (dr, rk)).its, (lk ++ rk).map GT.pt)).length = (GT.pt (h := k + 1) (dl, lk)).items.length + ((GT.pt (h := k + 1) (dr, rk)).items.length + 1) := by
        have := congrArg List.length hlI
        rw [hl2', List.length_append, List.length_cons] at this; exact this
      have e5 : (lk ++ rk).flatMap (GT.all enc) = lk.flatMap (GT.all enc) ++ rk.flatMap (GT.all enc) := List.flatMap_append
      rw [ht4, e1, e2, hl4', ids_one, hl1', e3, e5]
      ((apply perm_rg; intro f; simp only [set_cons_zero, set_cons_succ, eraseIdx_cons_zero, eraseIdx_cons_succ, cons_append, nil_append, map_append, map_cons, map_nil, List.sum_append, List.sum_cons, List.sum_nil, map_flatMap, Nat.add_zero, Nat.zero_add]; ac_rfl))
  · have hge : m ≤ l.nd.its.length + r.nd.its.length := by have := of_decide_eq_false hge; omega
    refine r_nil ?_; refine r_fld ?_; refine St.r_load0 s 0 rfl rfl ?_; refine Own.lenV (by assumption) ?_; refine r_nil ?_; refine r_fld ?_; refine St.r_load0 s 2 rfl rfl ?_; refine Own.lenV (by assumption) ?_; refine r_cmpI ?_; refine r_if (fun hgt => ?_) (fun hle => ?_)
    · have hgt : r.nd.its.length < l.nd.its.length := by have := of_decide_eq_true hgt; omega
      refine r_nil ?_; refine r_fld ?_; refine St.r_load0 s 2 rfl rfl ?_; refine r_nil ?_; refine r_fld ?_; refine s.r_lzE hT4 0 (enc emp) rfl (by simp) rfl ?_; refine St.r_mkSl (sz := 1) (cs := enc emp) s (by ((simp only [fillV, fill1, Value.cells, zeros_succ, zeros_zero, size_toArray, length_cons, length_nil, length_append, take_succ_cons, take_zero, take_nil, drop_succ_cons, drop_zero, drop_nil, cons_append, nil_append, append_nil, Nat.reduceAdd, Nat.reduceMul, Nat.reduceLeDiff, Nat.reduceEqDiff, and_self, and_true, true_and, if_true, Nat.le_refl, Nat.zero_add, Nat.add_zero, Nat.zero_mul, reduceIte, if_false] <;> rfl))) rfl fun q h s w1 => ?_; refine And.intro (by exact St.r_still0 s 3 rfl rfl) ?_; refine s.r_appL (M := [emp]) 4 rfl wr rfl (by have := w1.rdl s 0 rfl; simpa using this) (fun _ _ => enc1 _) (by simp; omega) (by simp; omega) fun riv1 rib1 rio1 risp1 h s wr1 => ?_
      have s := s.tail rfl
      refine r_nil ?_; refine r_fld ?_
      (refine St.r_store0 s 2 rfl (by simp) (Own.one (by assumption)) ?_; intro h s; try simp only [List.set_cons_zero, List.set_cons_succ] at s)
      refine r_nil ?_; refine r_fld ?_; refine St.r_load0 s 2 rfl rfl ?_; refine wr1.slcLo encl (i := 1) rfl (by simp) fun dd wd => ?_; refine r_nil ?_; refine r_fld ?_; refine St.r_load0 s 2 rfl rfl ?_; refine s.r_cpyF encl 3 (L := r.nd.its ++ [emp]) (M := (r.nd.its ++ [emp]).drop 0) rfl wd (by simp; omega) (wr1.rdl s 3 rfl).z0 rfl (fun y _ => enc1 y) fun h s => ?_
      have hl0 : 1 ≤ l.nd.its.length := by omega
      obtain ⟨L, z, hL⟩ := last_of hl0
      have hzl : l.nd.its[l.nd.its.length - 1]? = some z := by rw [hL]; simp
      have hLl : l.nd.its.length = L.length + 1 := by rw [hL]; simp
      refine r_nil ?_; refine r_fld ?_; refine St.r_load0 s 2 rfl rfl ?_; refine r_nil ?_; refine r_fld ?_; refine St.r_load0 s 4 rfl rfl ?_
      (refine Own.idx (by assumption) rfl (by first | omega | (simp; done) | (simp; omega)) ?_)
      refine s.r_loadF encl 5 rfl (by assumption) ?_
      (refine Own.idx (by assumption) rfl (by first | omega | (simp; done) | (simp; omega)) ?_)
      (refine s.r_storeF encl 3 rfl (by first | omega | (simp; done) | (simp; omega)) (enc1 _) ?_; intro h s; try simp only [List.set_cons_zero, List.set_cons_succ] at s)
      refine r_nil ?_; refine r_fld ?_; refine St.r_load0 s 2 rfl rfl ?_; refine r_add1 (by omega) ?_; refine r_nil ?_; refine r_fld ?_
      (refine St.r_store0 s 2 rfl (by simp) rfl ?_; intro h s; try simp only [List.set_cons_zero, List.set_cons_succ] at s)
      refine r_nil ?_; refine r_fld ?_; refine St.r_load0 s 4 rfl rfl ?_; refine r_nil ?_; refine r_fld ?_; refine St.r_load0 s 0 rfl rfl ?_; refine r_nil ?_; refine r_fld ?_; refine St.r_load0 s 0 rfl rfl ?_; refine Own.lenV (by assumption) ?_; refine r_sub1 (by omega) (by omega) ?_
      (refine Own.idx (by assumption) rfl (by first | omega | (simp; done) | (simp; omega)) ?_)
      refine s.r_loadF encl 1 rfl (by assumption) ?_
      (refine Own.idx (by assumption) rfl (by first | omega | (simp; done) | (simp; omega)) ?_)
      (refine s.r_storeF encl 5 rfl (by first | omega | (simp; done) | (simp; omega)) (enc1 _) ?_; intro h s; try simp only [List.set_cons_zero, List.set_cons_succ] at s)
      refine r_nil ?_; refine r_fld ?_; refine St.r_load0 s 0 rfl rfl ?_; refine r_nil ?_; refine r_fld ?_; refine St.r_load0 s 0 rfl rfl ?_; refine Own.lenV (by assumption) ?_; refine r_sub1 (by omega) (by omega) ?_; refine r_nil ?_; refine r_fld ?_; refine s.r_lzE hT4 0 (enc emp) rfl (by simp) rfl ?_
      (refine Own.idx (by assumption) rfl (by first | omega | (simp; done) | (simp; omega)) ?_)
      (refine s.r_storeF encl 1 rfl (by first | omega | (simp; done) | (simp; omega)) (enc1 _) ?_; intro h s; try simp only [List.set_cons_zero, List.set_cons_succ] at s)
      refine r_nil ?_; refine r_fld ?_; refine St.r_load0 s 0 rfl rfl ?_; refine r_nil ?_; refine r_fld ?_; refine St.r_load0 s 0 rfl rfl ?_; refine Own.lenV (by assumption) ?_; refine r_sub1 (by omega) (by omega) ?_; rw [ins_steps r.nd.its emp y (Nat.zero_le _), ins0] at s
      have wr2 : Own 1 riv1 (y :: r.nd.its).length rib1 rio1 ((y :: r.nd.its).flatMap enc) risp1 := wr1.list encl (by simp)
      rw [setAt hP] at s; refine (wl.list encl (pop_len (e := emp))).slcHi encl rfl (by rw [pop_len]; omega) fun liv2 wl2 => ?_
      have s := s.del (f := enc) 1 rfl _ (pop_steps (e := emp) hL)
      rw [pop_steps (e := emp) hL] at wl2; refine r_nil ?_; refine r_fld ?_
      (refine St.r_store0 s 0 rfl (by simp) (Own.one (by assumption)) ?_; intro h s; try simp only [List.set_cons_zero, List.set_cons_succ] at s)
      refine r_nil ?_; refine r_fld ?_; refine St.r_load0 s 0 rfl rfl ?_; refine r_sub1 (by omega) (by omega) ?_; refine r_nil ?_; refine r_fld ?_
      (refine St.r_store0 s 0 rfl (by simp) rfl ?_; intro h s; try simp only [List.set_cons_zero, List.set_cons_succ] at s)
      have w2 : Own 1 iv (P ++ z :: S).length ib io ((P ++ z :: S).flatMap enc) isp := w.list encl (by simp)
      cases k with
      | zero =>
        refine leaf_ok (a := none) (s.cl0 0 rfl rfl) ?_; refine r_not ?_; refine r_if (fun e => absurd e (by simp)) (fun _ => ?_)
        have s := St.kids0 s
        obtain ⟨l', hl1', gl', hl2', hl3', hl4'⟩ := mk_leaf (iso := is') (n := l.id) wl2; obtain ⟨r', hr1', gr', hr2', hr3', hr4'⟩ := mk_leaf (iso := is') (n := r.id) wr2
        have wK2 : Own 1 kv (((A ++ l' :: r' :: B).map GT.id).map pp).length krb kro ((((A ++ l' :: r' :: B).map GT.id).map pp).flatMap fv) ksp := by rw [ids_pp, hl1', hr1']; exact wK
        obtain ⟨t', ht1, gt, ht2, ht3, ht4⟩ := mk_inner (n := n) (kb := kb) (iso := is') w2 wK2 (by simp; omega) (fun c hc => by
          rcases List.mem_append.1 hc with h | h
          · exact gA c h
          · rcases List.mem_cons.1 h with h | h
            · subst h; exact gl'
            · rcases List.mem_cons.1 h with h | h
              · subst h; exact gr'
              · exact gB c h)
        have hfl' : l'.pt.Fl m (m / 2) := by rw [hl2']; exact fl_leaf (by omega) (by omega)
        have hfr' : r'.pt.Fl m (m / 2) := by rw [hr2']; exact fl_leaf (by simp; omega) (by simp; omega)
        refine (fun M => H t' h M (s.perm ?_)) ?_
        rotate_left
        · refine mended_two rfl ht2 (by omega) (by omega) ht1 gt hab hlm hfl' hfr' ?_ hP ⟨by omega, .inl ⟨hgt, ?_⟩⟩
          · rw [hl2', hr2']
            show l.nd.its ++ y :: r.nd.its = L ++ z :: (y :: r.nd.its)
            rw [hL]; simp
          · rw [hl2', hr2']
            show (l.nd.its.dropLast, l.nd.its.getLast?.getD y, y :: r.nd.its) = (L, z, y :: r.nd.its)
            rw [hL]; simp
        have e1 := M.2.1
        rw [ht2] at e1
        have e1 : ((PT.items (h := 1) (P ++ z :: S, (A ++ l' :: r' :: B).map GT.pt)).length : Int) = cnt := by rw [hcn, e1]; rfl
        have e2 : (A ++ l' :: r' :: B).flatMap (GT.all enc) = A.flatMap (GT.all enc) ++ (l'.all enc ++ (r'.all enc ++ B.flatMap (GT.all enc))) := by rw [List.flatMap_append, List.flatMap_cons, List.flatMap_cons]
        have e3 : l.pt.items.length = l.nd.its.length := rfl
        have e4 : r.pt.items.length = r.nd.its.length := rfl
        rw [ht4, e1, e2, hl4', hr4', ids_pp, hl1', hr1', e3, e4, hLl, List.length_cons, Nat.add_sub_cancel]
        ((apply perm_rg; intro f; simp only [set_cons_zero, set_cons_succ, eraseIdx_cons_zero, eraseIdx_cons_succ, cons_append, nil_append, map_append, map_cons, map_nil, List.sum_append, List.sum_cons, List.sum_nil, map_flatMap, Nat.add_zero, Nat.zero_add]; ac_rfl))
      | succ k =>
        obtain ⟨dl, lk⟩ := l; obtain ⟨dr, rk⟩ := r; refine leaf_ok (a := some ⟨dl.kb, 0, none⟩) (s.cl0 0 rfl rfl) ?_; refine r_not ?_; refine r_if (fun _ => ?_) (fun e => absurd e (by simp))
        have s := St.kids8 s
        have s : St h0 Z ((dl.n, 0, [_, _, _, ptr dl.kb 0]) :: _ :: (dr.n, 0, [_, _, _, ptr dr.kb 0]) :: _ :: _ :: _ :: _ :: _ :: (dl.kb, 0, [dl.kv]) :: (dl.krb, dl.kro, ((lk.map GT.id).map pp).flatMap fv ++ dl.ksp) :: (dr.kb, 0, [dr.kv]) :: (dr.krb, dr.kro, ((rk.map GT.id).map pp).flatMap fv ++ dr.ksp) ::
          (lk.flatMap (GT.all enc) ++ (rk.flatMap (GT.all enc) ++ (A.flatMap (GT.all enc) ++ (B.flatMap (GT.all enc) ++ E))))) h := s
        have wLK : Own 1 dl.kv ((lk.map GT.id).map pp).length dl.krb dl.kro (((lk.map GT.id).map pp).flatMap fv) dl.ksp := gl.ownK
        have wRK : Own 1 dr.kv ((rk.map GT.id).map pp).length dr.krb dr.kro (((rk.map GT.id).map pp).flatMap fv) dr.ksp := gr.ownK
        have hlk : lk.length = dl.its.length + 1 := gl.wf.2.2.1
        have hrk : rk.length = dr.its.length + 1 := gr.wf.2.2.1
        have hdl : dl.its.length ≤ m := ll.2
        have hdr : dr.its.length ≤ m := lr.2
        have hLl : dl.its.length = L.length + 1 := hLl
        obtain ⟨lk', c, ec⟩ := last_of (show 1 ≤ lk.length by omega)
        have hrkL : ((rk.map GT.id).map pp).length = dr.its.length + 1 := by rw [List.length_map, List.length_map]; exact hrk
        have hlkL : ((lk.map GT.id).map pp).length = dl.its.length + 1 := by rw [List.length_map, List.length_map]; exact hlk
        have hlkE : (lk.map GT.id).map pp = (lk'.map GT.id).map pp ++ [ptr c.id 0] := by rw [ec]; simp
        have hlast : ((lk.map GT.id).map pp)[((lk.map GT.id).map pp).length - 1]? = some (ptr c.id 0) := by rw [hlkE]; simp
        refine r_nil ?_; refine r_fld ?_; refine St.r_load0 s 2 rfl rfl ?_; refine r_nil ?_; refine r_fld ?_; refine St.r_load0 s 2 rfl rfl ?_; refine r_nil ?_; refine St.r_load0 s 10 rfl rfl ?_; refine St.r_mkSl (sz := 1) (cs := [.pointer none]) s (by ((simp only [fillV, fill1, Value.cells, zeros_succ, zeros_zero, size_toArray, length_cons, length_nil, length_append, take_succ_cons, take_zero, take_nil, drop_succ_cons, drop_zero, drop_nil, cons_append, nil_append, append_nil, Nat.reduceAdd, Nat.reduceMul, Nat.reduceLeDiff, Nat.reduceEqDiff, and_self, and_true, true_and, if_true, Nat.le_refl, Nat.zero_add, Nat.add_zero, Nat.zero_mul, reduceIte, if_false] <;> rfl))) rfl fun q h s w1 => ?_; refine And.intro (by exact St.r_still0 s 3 rfl rfl) ?_; refine And.intro (by exact St.r_still0 s 3 rfl rfl) ?_; refine And.intro (by exact St.r_still0 s 11 rfl rfl) ?_; refine s.r_appL (f := fv) (L := (rk.map GT.id).map pp) (M := [.pointer none]) 12 rfl wRK rfl (w1.rdl s 0 rfl) (fun _ h => by simp [one1, List.mem_singleton.1 h]) (by simp; omega) (by simp; omega) fun rkv1 rkb1 rko1 rks1 h s wRK1 => ?_
        have s := s.tail rfl
        refine And.intro (by exact St.r_still0 s 2 rfl rfl) ?_; refine r_nil ?_
        (refine St.r_store0 s 10 rfl (by simp) (Own.one (by assumption)) ?_; intro h s; try simp only [List.set_cons_zero, List.set_cons_succ] at s)
        refine r_nil ?_; refine r_fld ?_; refine St.r_load0 s 2 rfl rfl ?_; refine r_nil ?_; refine St.r_load0 s 10 rfl rfl ?_; refine wRK1.slcLo fvl (i := 1) rfl (by simp) fun dd wd2 => ?_; refine r_nil ?_; refine r_fld ?_; refine St.r_load0 s 2 rfl rfl ?_; refine r_nil ?_; refine St.r_load0 s 10 rfl rfl ?_
        refine s.r_cpyF fvl 11 (L := (rk.map GT.id).map pp ++ [Value.pointer none]) (M := ((rk.map GT.id).map pp ++ [Value.pointer none]).drop 0) rfl wd2 (by simp; omega) (wRK1.rdl s 11 rfl).z0 rfl (fun y hy => by
          rw [List.drop_zero] at hy
          rcases List.mem_append.1 hy with hy | hy
          · obtain ⟨a, _, rfl⟩ := List.mem_map.1 hy; simp [one1]
          · rw [List.mem_singleton.1 hy]; simp [one1]) fun h s => ?_
        refine r_nil ?_; refine r_fld ?_; refine St.r_load0 s 2 rfl rfl ?_; refine r_nil ?_; refine St.r_load0 s 10 rfl rfl ?_; refine r_nil ?_; refine r_fld ?_; refine St.r_load0 s 0 rfl rfl ?_; refine r_nil ?_; refine St.r_load0 s 8 rfl rfl ?_; refine r_nil ?_; refine r_fld ?_; refine St.r_load0 s 0 rfl rfl ?_; refine r_nil ?_; refine St.r_load0 s 8 rfl rfl ?_; refine Own.lenV (by assumption) ?_; refine r_sub1 (by omega) (by omega) ?_
        (refine Own.idx (by assumption) rfl (by first | omega | (simp; done) | (simp; omega)) ?_)
        refine s.r_loadV 9 rfl (by assumption) ?_
        (refine Own.idx (by assumption) rfl (by first | omega | (simp; done) | (simp; omega)) ?_)
        (refine s.r_storeV 11 rfl (by first | omega | (simp; done) | (simp; omega)) rfl ?_; intro h s; try simp only [List.set_cons_zero, List.set_cons_succ] at s)
        refine r_nil ?_; refine r_fld ?_; refine St.r_load0 s 0 rfl rfl ?_; refine r_nil ?_; refine St.r_load0 s 8 rfl rfl ?_; refine r_nil ?_; refine r_fld ?_; refine St.r_load0 s 0 rfl rfl ?_; refine r_nil ?_; refine St.r_load0 s 8 rfl rfl ?_; refine Own.lenV (by assumption) ?_; refine r_sub1 (by omega) (by omega) ?_
        (refine Own.idx (by assumption) rfl (by first | omega | (simp; done) | (simp; omega)) ?_)
        (refine s.r_storeV 9 rfl (by first | omega | (simp; done) | (simp; omega)) rfl ?_; intro h s; try simp only [List.set_cons_zero, List.set_cons_succ] at s)
        refine r_nil ?_; refine r_fld ?_; refine St.r_load0 s 0 rfl rfl ?_; refine r_nil ?_; refine r_fld ?_; refine St.r_load0 s 0 rfl rfl ?_; refine r_nil ?_; refine St.r_load0 s 8 rfl rfl ?_; refine r_nil ?_; refine r_fld ?_; refine St.r_load0 s 0 rfl rfl ?_; refine r_nil ?_; refine St.r_load0 s 8 rfl rfl ?_; refine Own.lenV (by assumption) ?_; refine r_sub1 (by omega) (by omega) ?_; rw [ins_steps ((rk.map GT.id).map pp) (.pointer none) (ptr c.id 0) (Nat.zero_le _), ins0] at s
        have wRK2 : Own 1 rkv1 (ptr c.id 0 :: (rk.map GT.id).map pp).length rkb1 rko1 ((ptr c.id 0 :: (rk.map GT.id).map pp).flatMap fv) rks1 := wRK1.list fvl (by simp)
        clear wRK1; refine (wLK.list fvl (pop_len (e := .pointer none))).slcHi fvl rfl (by rw [pop_len]; omega) fun lkv2 wLK2 => ?_
        have s := s.del (f := fv) 9 rfl _ (pop_steps (e := .pointer none) hlkE)
        rw [pop_steps (e := .pointer none) hlkE] at wLK2; obtain ⟨a1, a2, a3, hcm⟩ := GT.topA (t := c)
        have hcl : c ∈ lk := by rw [ec]; simp
        have gc : Gd is' c := gl.kid hcl
        have hcm' : (c.id, 0, [a1, .int .i64 c.nd.cnt, a2, a3]) ∈ lk.flatMap (GT.all enc) := List.mem_flatMap.2 ⟨c, hcl, hcm⟩
        rw [gc.cntEq] at hcm'
        have hL' : dl.its = L ++ [z] := hL
        have hlk'l : lk'.length = L.length + 1 := by rw [ec] at hlk; simp at hlk; omega
        have hlI : (GT.pt (h := k + 1) (dl, lk)).items = inter L ((lk'.map GT.pt).map PT.items) ++ z :: c.pt.items := by
          show inter dl.its ((lk.map GT.pt).map PT.items) = _
          rw [ec, hL', List.map_append, List.map_append]; exact inter_snoc _ _ _ _ (by simp; omega)
        have hlL := congrArg List.length hlI
        rw [List.length_append, List.length_cons] at hlL
        have hc0 : (ptr c.id 0 :: (rk.map GT.id).map pp)[0]? = some (ptr c.id 0) := rfl
        refine r_nil ?_
        (refine St.r_store0 s 8 rfl (by simp) (Own.one (by assumption)) ?_; intro h s; try simp only [List.set_cons_zero, List.set_cons_succ] at s)
        refine r_nil ?_; refine r_fld ?_; refine St.r_load0 s 0 rfl rfl ?_; refine r_nil ?_; refine r_fld ?_; refine St.r_load0 s 2 rfl rfl ?_; refine r_nil ?_; refine St.r_load0 s 10 rfl rfl ?_
        (refine Own.idx (by assumption) rfl (by first | omega | (simp; done) | (simp; omega)) ?_)
        refine s.r_loadI 11 0 rfl rfl rfl ?_; refine r_nil ?_; refine r_fld ?_; refine s.r_loadD 12 (List.mem_append.2 (.inl hcm')) rfl ?_; refine r_subN (by omega) (by omega) ?_; refine r_nil ?_; refine r_fld ?_
        (refine St.r_store0 s 0 rfl (by simp) rfl ?_; intro h s; try simp only [List.set_cons_zero, List.set_cons_succ] at s)
        refine r_nil ?_; refine r_fld ?_; refine St.r_load0 s 2 rfl rfl ?_; refine r_nil ?_; refine r_fld ?_; refine St.r_load0 s 2 rfl rfl ?_; refine r_nil ?_; refine St.r_load0 s 10 rfl rfl ?_
        (refine Own.idx (by assumption) rfl (by first | omega | (simp; done) | (simp; omega)) ?_)
        refine s.r_loadI 11 0 rfl rfl rfl ?_; refine r_nil ?_; refine r_fld ?_; refine s.r_loadD 12 (List.mem_append.2 (.inl hcm')) rfl ?_; refine r_addN (by omega) ?_; refine r_nil ?_; refine r_fld ?_
        (refine St.r_store0 s 2 rfl (by simp) rfl ?_; intro h s; try simp only [List.set_cons_zero, List.set_cons_succ] at s)
        obtain ⟨l', hl1', gl', hl2', hl3', hl4'⟩ := mk_inner (iso := is') (n := dl.n) (kb := dl.kb) (ts := lk') wl2 wLK2 hlk'l (fun q hq => gl.kid (by rw [ec]; exact List.mem_append.2 (.inl hq)))
        obtain ⟨r', hr1', gr', hr2', hr3', hr4'⟩ := mk_inner (iso := is') (n := dr.n) (kb := dr.kb) (ts := c :: rk) wr2 wRK2 (by show _ = (y :: dr.its).length + 1; simp; omega) (fun q hq => by
          rcases List.mem_cons.1 hq with h | h
          · rw [h]; exact gc
          · exact gr.kid h)
        have wK2 : Own 1 kv (((A ++ l' :: r' :: B).map GT.id).map pp).length krb kro ((((A ++ l' :: r' :: B).map GT.id).map pp).flatMap fv) ksp := by rw [ids_pp, hl1', hr1']; exact wK
        obtain ⟨t', ht1, gt, ht2, ht3, ht4⟩ := mk_inner (n := n) (kb := kb) (iso := is') w2 wK2 (by simp; omega) (fun c hc => by
          rcases List.mem_append.1 hc with h | h
          · exact gA c h
          · rcases List.mem_cons.1 h with h | h
            · subst h; exact gl'
            · rcases List.mem_cons.1 h with h | h
              · subst h; exact gr'
              · exact gB c h)
        have fkl : ∀ q ∈ lk, PT.Fl m (m / 2) q.pt := fun q hq => fl0.2.2.2 _ (List.mem_map.2 ⟨q, hq, rfl⟩)
        have fkr : ∀ q ∈ rk, PT.Fl m (m / 2) q.pt := fun q hq => fr0.2.2.2 _ (List.mem_map.2 ⟨q, hq, rfl⟩)
        have hgt2 : dr.its.length < dl.its.length := hgt
        have hlr2 : (dl.its.length + 1 = m / 2 ∧ m / 2 ≤ dr.its.length) ∨ (m / 2 ≤ dl.its.length ∧ dr.its.length + 1 = m / 2) := hlr
        have hge2 : m ≤ dl.its.length + dr.its.length := hge
        have hfl' : l'.pt.Fl m (m / 2) := by
          rw [hl2']; refine fl_inner (by omega) (by omega) (by simp; omega) fun q hq => ?_; obtain ⟨x, hx, rfl⟩ := List.mem_map.1 hq; exact fkl x (by rw [ec]; exact List.mem_append.2 (.inl hx))
        have hfr' : r'.pt.Fl m (m / 2) := by
          rw [hr2']; refine fl_inner (by show m / 2 ≤ (y :: dr.its).length; simp; omega) (by show (y :: dr.its).length ≤ m; simp; omega) (by show _ = (y :: dr.its).length + 1; simp; omega) fun q hq => ?_; obtain ⟨x, hx, rfl⟩ := List.mem_map.1 hq
          rcases List.mem_cons.1 hx with h | h
          · rw [h]; exact fkl c hcl
          · exact fkr x h
        have hl'I : l'.pt.items = inter L ((lk'.map GT.pt).map PT.items) := by rw [hl2']; rfl
        have hr'I : r'.pt.items = c.pt.items ++ y :: (GT.pt (h := k + 1) (dr, rk)).items := by rw [hr2']; rfl
        refine (fun M => H t' h M (s.perm ?_)) ?_
        rotate_left
        · refine mended_two rfl ht2 (by omega) (by omega) ht1 gt hab hlm hfl' hfr' (by rw [hlI, hl'I, hr'I]; simp) hP ⟨by show ¬ dl.its.length + dr.its.length < m; omega, .inl ⟨hgt, ?_⟩⟩
          rw [hl2', hr2']
          show ((dl.its.dropLast, (lk.map GT.pt).dropLast), dl.its.getLast?.getD y, (y :: dr.its, (lk.map GT.pt).getLast?.toList ++ rk.map GT.pt)) = ((L, lk'.map GT.pt), z, (y :: dr.its, (c :: rk).map GT.pt))
          have hL' : dl.its = L ++ [z] := hL
          rw [hL', ec]; simp
        have e1 := M.2.1
        rw [ht2] at e1
        have e1 : ((PT.items (h := k + 2) (P ++ z :: S, (A ++ l' :: r' :: B).map GT.pt)).length : Int) = cnt := by rw [hcn, e1]; rfl
        have e2 : (A ++ l' :: r' :: B).flatMap (GT.all enc) = A.flatMap (GT.all enc) ++ (l'.all enc ++ (r'.all enc ++ B.flatMap (GT.all enc))) := by rw [List.flatMap_append, List.flatMap_cons, List.flatMap_cons]
        have e3 : (PT.items (h := k + 1) (y :: (GT.nd (h := k + 1) (dr, rk)).its, (c :: rk).map GT.pt)).length = (GT.pt (h := k + 1) (dr, rk)).items.length + 1 + c.pt.items.length := by
          have := congrArg List.length hr'I
          rw [hr2'] at this; rw [List.length_append, List.length_cons] at this; exact this.trans (by omega)
        have e4 : (PT.items (h := k + 1) (L, lk'.map GT.pt)).length = (GT.pt (h := k + 1) (dl, lk)).items.length - 1 - c.pt.items.length := by
          show (inter L ((lk'.map GT.pt).map PT.items)).length = _
          omega
        have e5 : lk.flatMap (GT.all enc) = lk'.flatMap (GT.all enc) ++ c.all enc := by rw [ec, List.flatMap_append, List.flatMap_singleton]
        rw [ht4, e1, e2, hl4', hr4', ids_pp, hl1', hr1', e3, e4]
        have e6 : (c :: rk).flatMap (GT.all enc) = c.all enc ++ rk.flatMap (GT.all enc) := List.flatMap_cons
        have e7 : (((c :: rk).map GT.id).map pp) = ptr c.id 0 :: (rk.map GT.id).map pp := rfl
        rw [e5, e6, e7]
        ((apply perm_rg; intro f; simp only [set_cons_zero, set_cons_succ, eraseIdx_cons_zero, eraseIdx_cons_succ, cons_append, nil_append, map_append, map_cons, map_nil, List.sum_append, List.sum_cons, List.sum_nil, map_flatMap, Nat.add_zero, Nat.zero_add]; ac_rfl))
    · have hle : l.nd.its.length ≤ r.nd.its.length := by have := of_decide_eq_false hle; omega
      refine r_nil ?_; refine r_fld ?_; refine St.r_load0 s 0 rfl rfl ?_; refine r_nil ?_; refine r_fld ?_; refine St.r_load0 s 4 rfl rfl ?_
      (refine Own.idx (by assumption) rfl (by first | omega | (simp; done) | (simp; omega)) ?_)
      refine s.r_loadF encl 5 rfl (by assumption) ?_; refine St.r_mkSl (sz := 1) (cs := enc y) s (by ((simp only [fillV, fill1, Value.cells, zeros_succ, zeros_zero, size_toArray, length_cons, length_nil, length_append, take_succ_cons, take_zero, take_nil, drop_succ_cons, drop_zero, drop_nil, cons_append, nil_append, append_nil, Nat.reduceAdd, Nat.reduceMul, Nat.reduceLeDiff, Nat.reduceEqDiff, and_self, and_true, true_and, if_true, Nat.le_refl, Nat.zero_add, Nat.add_zero, Nat.zero_mul, reduceIte, if_false] <;> rfl))) rfl fun q h s w1 => ?_; refine And.intro (by exact St.r_still0 s 1 rfl rfl) ?_; refine s.r_appL (M := [y]) 2 rfl wl rfl (by have := w1.rdl s 0 rfl; simpa using this) (fun _ _ => enc1 _) (by simp; omega) (by simp; omega) fun liv1 lib1 lio1 lisp1 h s wl1 => ?_
      have s := s.tail rfl
      refine r_nil ?_; refine r_fld ?_
      (refine St.r_store0 s 0 rfl (by simp) (Own.one (by assumption)) ?_; intro h s; try simp only [List.set_cons_zero, List.set_cons_succ] at s)
      refine r_nil ?_; refine r_fld ?_; refine St.r_load0 s 0 rfl rfl ?_; refine r_add1 (by omega) ?_; refine r_nil ?_; refine r_fld ?_
      (refine St.r_store0 s 0 rfl (by simp) rfl ?_; intro h s; try simp only [List.set_cons_zero, List.set_cons_succ] at s)
      refine r_nil ?_; refine r_fld ?_; refine St.r_load0 s 4 rfl rfl ?_; refine r_nil ?_; refine r_fld ?_; refine St.r_load0 s 2 rfl rfl ?_
      (refine Own.idx (by assumption) rfl (by first | omega | (simp; done) | (simp; omega)) ?_)
      (refine s.r_loadF encl 3 rfl (List.getElem?_eq_getElem (by first | omega | (simp; done) | (simp; omega))) ?_)
      (refine Own.idx (by assumption) rfl (by first | omega | (simp; done) | (simp; omega)) ?_)
      (refine s.r_storeF encl 5 rfl (by first | omega | (simp; done) | (simp; omega)) (enc1 _) ?_; intro h s; try simp only [List.set_cons_zero, List.set_cons_succ] at s)
      refine r_nil ?_; refine r_fld ?_; refine St.r_load0 s 2 rfl rfl ?_; refine r_nil ?_; refine r_fld ?_; refine St.r_load0 s 2 rfl rfl ?_; refine (wr.rdl s 3 rfl).slcLo encl (i := 1) rfl (by omega) fun src rs => ?_; refine s.r_cpyF encl 3 (L := r.nd.its) (M := r.nd.its.drop 1) rfl wr.z0 (by simp) rs rfl (fun y _ => enc1 y) fun h s => ?_; refine r_nil ?_; refine r_fld ?_; refine St.r_load0 s 2 rfl rfl ?_; refine r_nil ?_; refine r_fld ?_; refine St.r_load0 s 2 rfl rfl ?_; refine Own.lenV (by assumption) ?_; refine r_sub1 (by omega) (by omega) ?_; refine r_nil ?_; refine r_fld ?_; refine s.r_lzE hT4 0 (enc emp) rfl (by simp) rfl ?_
      (refine Own.idx (by assumption) rfl (by first | omega | (simp; done) | (simp; omega)) ?_)
      (refine s.r_storeF encl 3 rfl (by first | omega | (simp; done) | (simp; omega)) (enc1 _) ?_; intro h s; try simp only [List.set_cons_zero, List.set_cons_succ] at s)
      refine r_nil ?_; refine r_fld ?_; refine St.r_load0 s 2 rfl rfl ?_; refine r_nil ?_; refine r_fld ?_; refine St.r_load0 s 2 rfl rfl ?_; refine Own.lenV (by assumption) ?_; refine r_sub1 (by omega) (by omega) ?_
      have hr0 : 0 < r.nd.its.length := by omega
      refine (wr.list encl (del_len r.nd.its emp hr0)).slcHi encl rfl (by rw [del_len _ _ hr0]; omega) fun riv2 wr2 => ?_
      have s := s.del (f := enc) 3 rfl _ (del_erase r.nd.its emp hr0)
      rw [del_erase r.nd.its emp hr0] at wr2; refine r_nil ?_; refine r_fld ?_
      (refine St.r_store0 s 2 rfl (by simp) (Own.one (by assumption)) ?_; intro h s; try simp only [List.set_cons_zero, List.set_cons_succ] at s)
      refine r_nil ?_; refine r_fld ?_; refine St.r_load0 s 2 rfl rfl ?_; refine r_sub1 (by omega) (by omega) ?_; refine r_nil ?_; refine r_fld ?_
      (refine St.r_store0 s 2 rfl (by simp) rfl ?_; intro h s; try simp only [List.set_cons_zero, List.set_cons_succ] at s)
      obtain ⟨z, R, hR⟩ := head_of (show 1 ≤ r.nd.its.length by omega)
      have hz : r.nd.its[0]'(by omega) = z := by simp [hR]
      have hR0 : r.nd.its.eraseIdx 0 = R := by rw [hR]; rfl
      have hRl : r.nd.its.length = R.length + 1 := by rw [hR]; rfl
      rw [hz, setAt hP] at s; rw [hR0] at s wr2
      have w2 : Own 1 iv (P ++ z :: S).length ib io ((P ++ z :: S).flatMap enc) isp := w.list encl (by simp)
      cases k with
      | zero =>
        refine leaf_ok (a := none) (s.cl0 0 rfl rfl) ?_; refine r_not ?_; refine r_if (fun e => absurd e (by simp)) (fun _ => ?_)
        have s := St.kids0 s
        obtain ⟨l', hl1', gl', hl2', hl3', hl4'⟩ := mk_leaf (iso := is') (n := l.id) wl1; obtain ⟨r', hr1', gr', hr2', hr3', hr4'⟩ := mk_leaf (iso := is') (n := r.id) wr2
        have wK2 : Own 1 kv (((A ++ l' :: r' :: B).map GT.id).map pp).length krb kro ((((A ++ l' :: r' :: B).map GT.id).map pp).flatMap fv) ksp := by rw [ids_pp, hl1', hr1']; exact wK
        obtain ⟨t', ht1, gt, ht2, ht3, ht4⟩ := mk_inner (n := n) (kb := kb) (iso := is') w2 wK2 (by simp; omega) (fun c hc => by
          rcases List.mem_append.1 hc with h | h
          · exact gA c h
          · rcases List.mem_cons.1 h with h | h
            · subst h; exact gl'
            · rcases List.mem_cons.1 h with h | h
              · subst h; exact gr'
              · exact gB c h)
        have hfl' : l'.pt.Fl m (m / 2) := by rw [hl2']; exact fl_leaf (by simp; omega) (by simp; omega)
        have hfr' : r'.pt.Fl m (m / 2) := by rw [hr2']; exact fl_leaf (by omega) (by omega)
        have hx : l.pt.items ++ y :: r.pt.items = l'.pt.items ++ z :: r'.pt.items := by
          rw [hl2', hr2']
          show l.nd.its ++ y :: r.nd.its = (l.nd.its ++ [y]) ++ z :: R
          rw [hR]; simp
        have M := mended_two (t := ((⟨own, n, is', cnt, P ++ y :: S, iv, ib, io, isp, kb, kv, krb, kro, ksp⟩ : Nd It), A ++ l :: r :: B)) (iso := is') rfl ht2 (by omega) (by omega) ht1 gt hab hlm hfl' hfr' hx hP ⟨by omega, .inr ⟨by omega, by
          rw [hl2', hr2']
          show (l.nd.its ++ [y], r.nd.its.head?.getD y, r.nd.its.tail) = (l.nd.its ++ [y], z, R)
          rw [hR]; rfl⟩⟩
        refine H t' h M (s.perm ?_)
        have e1 : ((PT.items (h := 1) (P ++ z :: S, (A ++ l' :: r' :: B).map GT.pt)).length : Int) = cnt := by have := M.2.1; rw [ht2] at this; rw [hcn, this]; rfl
        have e2 : (A ++ l' :: r' :: B).flatMap (GT.all enc) = A.flatMap (GT.all enc) ++ (l'.all enc ++ (r'.all enc ++ B.flatMap (GT.all enc))) := by rw [List.flatMap_append, List.flatMap_cons, List.flatMap_cons]
        have e3 : l.pt.items.length = l.nd.its.length := rfl
        have e4 : r.pt.items.length = r.nd.its.length := rfl
        rw [ht4, e1, e2, hl4', hr4', ids_pp, hl1', hr1', e3, e4, hRl, List.length_append, List.length_singleton, Nat.add_sub_cancel]
        ((apply perm_rg; intro f; simp only [set_cons_zero, set_cons_succ, eraseIdx_cons_zero, eraseIdx_cons_succ, cons_append, nil_append, map_append, map_cons, map_nil, List.sum_append, List.sum_cons, List.sum_nil, map_flatMap, Nat.add_zero, Nat.zero_add]; ac_rfl))
      | succ k =>
        obtain ⟨dl, lk⟩ := l; obtain ⟨dr, rk⟩ := r; refine leaf_ok (a := some ⟨dl.kb, 0, none⟩) (s.cl0 0 rfl rfl) ?_; refine r_not ?_; refine r_if (fun _ => ?_) (fun e => absurd e (by simp))
        have s := St.kids8 s
        have s : St h0 Z ((dl.n, 0, [_, _, _, ptr dl.kb 0]) :: _ :: (dr.n, 0, [_, _, _, ptr dr.kb 0]) :: _ :: _ :: _ :: _ :: _ :: (dl.kb, 0, [dl.kv]) :: (dl.krb, dl.kro, ((lk.map GT.id).map pp).flatMap fv ++ dl.ksp) :: (dr.kb, 0, [dr.kv]) :: (dr.krb, dr.kro, ((rk.map GT.id).map pp).flatMap fv ++ dr.ksp) ::
          (lk.flatMap (GT.all enc) ++ (rk.flatMap (GT.all enc) ++ (A.flatMap (GT.all enc) ++ (B.flatMap (GT.all enc) ++ E))))) h := s
        have wLK : Own 1 dl.kv ((lk.map GT.id).map pp).length dl.krb dl.kro (((lk.map GT.id).map pp).flatMap fv) dl.ksp := gl.ownK
        have wRK : Own 1 dr.kv ((rk.map GT.id).map pp).length dr.krb dr.kro (((rk.map GT.id).map pp).flatMap fv) dr.ksp := gr.ownK
        have hlk : lk.length = dl.its.length + 1 := gl.wf.2.2.1
        have hrk : rk.length = dr.its.length + 1 := gr.wf.2.2.1
        have hdl : dl.its.length ≤ m := ll.2
        have hdr : dr.its.length ≤ m := lr.2
        have hRl : dr.its.length = R.length + 1 := hRl
        obtain ⟨c, rk', ec⟩ := head_of (show 1 ≤ rk.length by omega)
        have hrkL : ((rk.map GT.id).map pp).length = dr.its.length + 1 := by rw [List.length_map, List.length_map]; exact hrk
        have hlkL : ((lk.map GT.id).map pp).length = dl.its.length + 1 := by rw [List.length_map, List.length_map]; exact hlk
        have hrk0 : 0 < ((rk.map GT.id).map pp).length := by simp; omega
        have hc0 : ((rk.map GT.id).map pp)[0]? = some (ptr c.id 0) := by rw [ec]; rfl
        refine r_nil ?_; refine r_fld ?_; refine St.r_load0 s 0 rfl rfl ?_; refine r_nil ?_; refine r_fld ?_; refine St.r_load0 s 0 rfl rfl ?_; refine r_nil ?_; refine St.r_load0 s 8 rfl rfl ?_; refine r_nil ?_; refine r_fld ?_; refine St.r_load0 s 2 rfl rfl ?_; refine r_nil ?_; refine St.r_load0 s 10 rfl rfl ?_
        (refine Own.idx (by assumption) rfl (by first | omega | (simp; done) | (simp; omega)) ?_)
        refine s.r_loadV 11 rfl (by assumption) ?_; refine St.r_mkSl (sz := 1) (cs := [ptr c.id 0]) s (by ((simp only [fillV, fill1, Value.cells, zeros_succ, zeros_zero, size_toArray, length_cons, length_nil, length_append, take_succ_cons, take_zero, take_nil, drop_succ_cons, drop_zero, drop_nil, cons_append, nil_append, append_nil, Nat.reduceAdd, Nat.reduceMul, Nat.reduceLeDiff, Nat.reduceEqDiff, and_self, and_true, true_and, if_true, Nat.le_refl, Nat.zero_add, Nat.add_zero, Nat.zero_mul, reduceIte, if_false] <;> rfl))) rfl fun q h s w1 => ?_; refine And.intro (by exact St.r_still0 s 1 rfl rfl) ?_; refine And.intro (by exact St.r_still0 s 1 rfl rfl) ?_; refine And.intro (by exact St.r_still0 s 9 rfl rfl) ?_; refine s.r_appL (f := fv) (L := (lk.map GT.id).map pp) (M := [pp c.id]) 10 rfl wLK rfl (w1.rdl s 0 rfl) (fun _ h => by simp [one1, List.mem_singleton.1 h]) (by simp; omega) (by simp; omega) fun lkv1 lkb1 lko1 lks1 h s wLK1 => ?_
        have s := s.tail rfl
        refine And.intro (by exact St.r_still0 s 0 rfl rfl) ?_; refine r_nil ?_
        (refine St.r_store0 s 8 rfl (by simp) (Own.one (by assumption)) ?_; intro h s; try simp only [List.set_cons_zero, List.set_cons_succ] at s)
        refine r_nil ?_; refine r_fld ?_; refine St.r_load0 s 2 rfl rfl ?_; refine r_nil ?_; refine St.r_load0 s 10 rfl rfl ?_; refine r_nil ?_; refine r_fld ?_; refine St.r_load0 s 2 rfl rfl ?_; refine r_nil ?_; refine St.r_load0 s 10 rfl rfl ?_; refine (wRK.rdl s 11 rfl).slcLo fvl (i := 1) rfl (by simp; omega) fun src rs => ?_; refine s.r_cpyF fvl 11 (L := (rk.map GT.id).map pp) (M := ((rk.map GT.id).map pp).drop 1) rfl wRK.z0 (by simp) rs rfl (fun y hy => by obtain ⟨a, _, rfl⟩ := List.mem_map.1 (List.mem_of_mem_drop hy); simp [one1]) fun h s => ?_; refine r_nil ?_; refine r_fld ?_; refine St.r_load0 s 2 rfl rfl ?_; refine r_nil ?_; refine St.r_load0 s 10 rfl rfl ?_; refine r_nil ?_; refine r_fld ?_; refine St.r_load0 s 2 rfl rfl ?_; refine r_nil ?_; refine St.r_load0 s 10 rfl rfl ?_; refine Own.lenV (by assumption) ?_; refine r_sub1 (by omega) (by omega) ?_
        (refine Own.idx (by assumption) rfl (by first | omega | (simp; done) | (simp; omega)) ?_)
        (refine s.r_storeV 11 rfl (by first | omega | (simp; done) | (simp; omega)) rfl ?_; intro h s; try simp only [List.set_cons_zero, List.set_cons_succ] at s)
        refine r_nil ?_; refine r_fld ?_; refine St.r_load0 s 2 rfl rfl ?_; refine r_nil ?_; refine r_fld ?_; refine St.r_load0 s 2 rfl rfl ?_; refine r_nil ?_; refine St.r_load0 s 10 rfl rfl ?_; refine r_nil ?_; refine r_fld ?_; refine St.r_load0 s 2 rfl rfl ?_; refine r_nil ?_; refine St.r_load0 s 10 rfl rfl ?_; refine Own.lenV (by assumption) ?_; refine r_sub1 (by omega) (by omega) ?_; refine (wRK.list fvl (del_len _ (.pointer none) hrk0)).slcHi fvl rfl (by rw [del_len _ _ hrk0]; omega) fun rkv2 wRK2 => ?_
        have s := s.del (f := fv) 11 rfl _ (del_erase _ (.pointer none) hrk0)
        rw [del_erase _ (.pointer none) hrk0] at wRK2
        have hrk2 : ((rk.map GT.id).map pp).eraseIdx 0 = (rk'.map GT.id).map pp := by rw [ec]; rfl
        rw [hrk2] at s wRK2
        have hL1 : ((lk.map GT.id).map pp ++ [pp c.id]).length = dl.its.length + 2 := by rw [List.length_append, hlkL]; rfl
        have hlast : ((lk.map GT.id).map pp ++ [pp c.id])[((lk.map GT.id).map pp ++ [pp c.id]).length - 1]? = some (ptr c.id 0) := by simp
        obtain ⟨a1, a2, a3, hcm⟩ := GT.topA (t := c)
        have hcr : c ∈ rk := by rw [ec]; exact List.mem_cons_self ..
        have gc : Gd is' c := gr.kid hcr
        have hcm' : (c.id, 0, [a1, .int .i64 c.nd.cnt, a2, a3]) ∈ rk.flatMap (GT.all enc) := List.mem_flatMap.2 ⟨c, hcr, hcm⟩
        rw [gc.cntEq] at hcm'
        have hR' : dr.its = z :: R := hR
        have hrI : (GT.pt (h := k + 1) (dr, rk)).items = c.pt.items ++ z :: inter R ((rk'.map GT.pt).map PT.items) := by
          show inter dr.its ((rk.map GT.pt).map PT.items) = _
          rw [ec, hR']; rfl
        have hrL := congrArg List.length hrI
        rw [List.length_append, List.length_cons] at hrL; refine r_nil ?_
        (refine St.r_store0 s 10 rfl (by simp) (Own.one (by assumption)) ?_; intro h s; try simp only [List.set_cons_zero, List.set_cons_succ] at s)
        refine r_nil ?_; refine r_fld ?_; refine St.r_load0 s 0 rfl rfl ?_; refine r_nil ?_; refine r_fld ?_; refine St.r_load0 s 0 rfl rfl ?_; refine r_nil ?_; refine St.r_load0 s 8 rfl rfl ?_; refine r_nil ?_; refine r_fld ?_; refine St.r_load0 s 0 rfl rfl ?_; refine r_nil ?_; refine St.r_load0 s 8 rfl rfl ?_; refine Own.lenV (by assumption) ?_; refine r_sub1 (by omega) (by omega) ?_
        (refine Own.idx (by assumption) rfl (by first | omega | (simp; done) | (simp; omega)) ?_)
        refine s.r_loadV 9 rfl (by assumption) ?_; refine r_nil ?_; refine r_fld ?_; refine s.r_loadD 12 (List.mem_append.2 (.inr (List.mem_append.2 (.inl hcm')))) rfl ?_; refine r_addN (by omega) ?_; refine r_nil ?_; refine r_fld ?_
        (refine St.r_store0 s 0 rfl (by simp) rfl ?_; intro h s; try simp only [List.set_cons_zero, List.set_cons_succ] at s)
        refine r_nil ?_; refine r_fld ?_; refine St.r_load0 s 2 rfl rfl ?_; refine r_nil ?_; refine r_fld ?_; refine St.r_load0 s 0 rfl rfl ?_; refine r_nil ?_; refine St.r_load0 s 8 rfl rfl ?_; refine r_nil ?_; refine r_fld ?_; refine St.r_load0 s 0 rfl rfl ?_; refine r_nil ?_; refine St.r_load0 s 8 rfl rfl ?_; refine Own.lenV (by assumption) ?_; refine r_sub1 (by omega) (by omega) ?_
        (refine Own.idx (by assumption) rfl (by first | omega | (simp; done) | (simp; omega)) ?_)
        refine s.r_loadV 9 rfl (by assumption) ?_; refine r_nil ?_; refine r_fld ?_; refine s.r_loadD 12 (List.mem_append.2 (.inr (List.mem_append.2 (.inl hcm')))) rfl ?_; refine r_subN (by omega) (by omega) ?_; refine r_nil ?_; refine r_fld ?_
        (refine St.r_store0 s 2 rfl (by simp) rfl ?_; intro h s; try simp only [List.set_cons_zero, List.set_cons_succ] at s)
        have eL : ((lk ++ [c]).map GT.id).map pp = (lk.map GT.id).map pp ++ [pp c.id] := by simp
        rw [← eL] at s wLK1
        obtain ⟨l', hl1', gl', hl2', hl3', hl4'⟩ := mk_inner (iso := is') (n := dl.n) (kb := dl.kb) (ts := lk ++ [c]) wl1 wLK1 (by show _ = (dl.its ++ [y]).length + 1; simp; omega) (fun q hq => by
          rcases List.mem_append.1 hq with h | h
          · exact gl.kid h
          · rw [List.mem_singleton.1 h]; exact gc)
        obtain ⟨r', hr1', gr', hr2', hr3', hr4'⟩ := mk_inner (iso := is') (n := dr.n) (kb := dr.kb) (ts := rk') wr2 wRK2 (by rw [ec] at hrk; simp at hrk; omega) (fun q hq => gr.kid (by rw [ec]; exact List.mem_cons_of_mem _ hq))
        have wK2 : Own 1 kv (((A ++ l' :: r' :: B).map GT.id).map pp).length krb kro ((((A ++ l' :: r' :: B).map GT.id).map pp).flatMap fv) ksp := by rw [ids_pp, hl1', hr1']; exact wK
        obtain ⟨t', ht1, gt, ht2, ht3, ht4⟩ := mk_inner (n := n) (kb := kb) (iso := is') w2 wK2 (by simp; omega) (fun c hc => by
          rcases List.mem_append.1 hc with h | h
          · exact gA c h
          · rcases List.mem_cons.1 h with h | h
            · subst h; exact gl'
            · rcases List.mem_cons.1 h with h | h
              · subst h; exact gr'
              · exact gB c h)
        have fkl : ∀ q ∈ lk, PT.Fl m (m / 2) q.pt := fun q hq => fl0.2.2.2 _ (List.mem_map.2 ⟨q, hq, rfl⟩)
        have fkr : ∀ q ∈ rk, PT.Fl m (m / 2) q.pt := fun q hq => fr0.2.2.2 _ (List.mem_map.2 ⟨q, hq, rfl⟩)
        have hle2 : dl.its.length ≤ dr.its.length := hle
        have hlr2 : (dl.its.length + 1 = m / 2 ∧ m / 2 ≤ dr.its.length) ∨ (m / 2 ≤ dl.its.length ∧ dr.its.length + 1 = m / 2) := hlr
        have hge2 : m ≤ dl.its.length + dr.its.length := hge
        have hfl' : l'.pt.Fl m (m / 2) := by
          rw [hl2']; refine fl_inner (by show m / 2 ≤ (dl.its ++ [y]).length; simp; omega) (by show (dl.its ++ [y]).length ≤ m; simp; omega) (by show _ = (dl.its ++ [y]).length + 1; simp; omega) fun q hq => ?_; obtain ⟨x, hx, rfl⟩ := List.mem_map.1 hq
          rcases List.mem_append.1 hx with h | h
          · exact fkl x h
          · rw [List.mem_singleton.1 h]; exact fkr c hcr
        have hfr' : r'.pt.Fl m (m / 2) := by
          rw [hr2']; refine fl_inner (by omega) (by omega) (by rw [ec] at hrk; simp at hrk; simp; omega) fun q hq => ?_; obtain ⟨x, hx, rfl⟩ := List.mem_map.1 hq; exact fkr x (by rw [ec]; exact List.mem_cons_of_mem _ hx)
        have hlI : l'.pt.items = (GT.pt (h := k + 1) (dl, lk)).items ++ y :: c.pt.items := by
          rw [hl2']
          show inter (dl.its ++ [y]) (((lk ++ [c]).map GT.pt).map PT.items) = inter dl.its ((lk.map GT.pt).map PT.items) ++ _
          rw [List.map_append, List.map_append]; exact inter_snoc _ _ _ _ (by simp; omega)
        have hr'I : r'.pt.items = inter R ((rk'.map GT.pt).map PT.items) := by rw [hr2']; rfl
        refine (fun M => H t' h M (s.perm ?_)) ?_
        rotate_left
        · refine mended_two rfl ht2 (by omega) (by omega) ht1 gt hab hlm hfl' hfr' (by rw [hrI, hlI, hr'I]; simp) hP ⟨by show ¬ dl.its.length + dr.its.length < m; omega, .inr ⟨by show ¬ dr.its.length < dl.its.length; omega, ?_⟩⟩
          rw [hl2', hr2']
          show ((dl.its ++ [y], lk.map GT.pt ++ (rk.map GT.pt).head?.toList), dr.its.head?.getD y, (dr.its.tail, (rk.map GT.pt).tail)) = ((dl.its ++ [y], (lk ++ [c]).map GT.pt), z, (R, rk'.map GT.pt))
          have hR' : dr.its = z :: R := hR
          rw [hR', ec]; simp
        have e1 := M.2.1
        rw [ht2] at e1
        have e1 : ((PT.items (h := k + 2) (P ++ z :: S, (A ++ l' :: r' :: B).map GT.pt)).length : Int) = cnt := by rw [hcn, e1]; rfl
        have e2 : (A ++ l' :: r' :: B).flatMap (GT.all enc) = A.flatMap (GT.all enc) ++ (l'.all enc ++ (r'.all enc ++ B.flatMap (GT.all enc))) := by rw [List.flatMap_append, List.flatMap_cons, List.flatMap_cons]
        have e3 : (PT.items (h := k + 1) ((GT.nd (h := k + 1) (dl, lk)).its ++ [y], (lk ++ [c]).map GT.pt)).length = (GT.pt (h := k + 1) (dl, lk)).items.length + 1 + c.pt.items.length := by
          have := congrArg List.length hlI
          rw [hl2'] at this; rw [List.length_append, List.length_cons] at this; exact this.trans (by omega)
        have e4 : (PT.items (h := k + 1) (R, rk'.map GT.pt)).length = (GT.pt (h := k + 1) (dr, rk)).items.length - 1 - c.pt.items.length := by
          show (inter R ((rk'.map GT.pt).map PT.items)).length = _
          omega
        have e5 : rk.flatMap (GT.all enc) = c.all enc ++ rk'.flatMap (GT.all enc) := by rw [ec, List.flatMap_cons]
        have e6 : (lk ++ [c]).flatMap (GT.all enc) = lk.flatMap (GT.all enc) ++ c.all enc := by rw [List.flatMap_append, List.flatMap_singleton]
        rw [ht4, e1, e2, hl4', hr4', ids_pp, hl1', hr1', e6, e3, e4]; rw [e5]
        ((apply perm_rg; intro f; simp only [set_cons_zero, set_cons_succ, eraseIdx_cons_zero, eraseIdx_cons_succ, cons_append, nil_append, map_append, map_cons, map_nil, List.sum_append, List.sum_cons, List.sum_nil, map_flatMap, Nat.add_zero, Nat.zero_add]; ac_rfl))
end Go.Proofs.Ytdpkpcmoabfofaa.Iu
end
section
namespace Go.Proofs.Ytdpkpcmoabfofaa.Iu
open Go.Hp Go.Proofs.Ytdpkpcmoabfofaa
set_option maxHeartbeats 4000000
variable {h0 h : Heap} {Z E : List Rg} {Q : Value → Heap → Prop}
attribute [local irreducible] load1 loadN store1 storeN fld nilck lenV idx arith cmpI notV extr mkSl app cpy slc ifV
theorem fl_any {m lo lo' : Nat} : ∀ {k : Nat} {t : PT It k}, t.Fl m lo → lo' ≤ t.its.length → t.Fl m lo'
  | 0, _, f, h => ⟨h, f.2⟩
  | _ + 1, _, f, h => ⟨h, f.2⟩
theorem fx_set {m lo i k : Nat} {its : List It} {ks : List (PT It k)} {c : PT It k} (f : PT.Fl m lo (h := k + 1) (its, ks)) (fc : c.Fl m (m / 2 - 1)) (its' : List It) (hl : its'.length = its.length) : PT.Fx m lo i ((its', ks.set i c) : PT It (k + 1)) := by
  obtain ⟨f1, f2, f3, f4⟩ := f; refine ⟨by show lo ≤ its'.length; rw [hl]; exact f1, by show its'.length ≤ m; rw [hl]; exact f2, by show (ks.set i c).length = its'.length + 1; rw [hl, List.length_set]; exact f3, fun j q hq => ?_⟩
  have hq : (ks.set i c)[j]? = some q := hq
  rw [List.getElem?_set] at hq
  by_cases e : i = j
  · subst e
    rw [if_pos rfl] at hq ⊢
    split at hq
    · cases hq; exact fc
    · cases hq
  · rw [if_neg e] at hq
    rw [if_neg (fun h => e h.symm)]; exact f4 q (List.mem_of_getElem? hq)
theorem topI : ∀ {k : Nat} {t : GT It k}, ∃ a1 a2 a3, (t.id, 0, [a1, a2, t.nd.iv, a3]) ∈ t.all enc
  | 0, d => ⟨_, _, _, List.mem_cons_self ..⟩
  | _ + 1, t => ⟨_, _, _, List.mem_append.2 (.inl (List.mem_cons_self ..))⟩
theorem rebalance_ok {tb m i lo : Nat} {iso mn : Int} {ctr : Option Addr} (hT0 : (tb, 0, hd0 iso ctr) ∈ Z) (hT4 : (tb, 4, hd4 mn m) ∈ Z) (hm3 : 3 ≤ m) (hm1 : m ≤ 1024) (ho : m % 2 = 1) {k : Nat} (t : GT It (k + 1))
    (fx : t.pt.Fx m lo i) (h1 : 1 ≤ t.pt.1.length) (hi : i ≤ t.pt.1.length) (hdef : ∀ c, t.pt.2[i]? = some c → c.its.length + 1 = m / 2)
    (hsz : t.pt.items.length ≤ 4611686018427387903) (g : Gd iso t) (s : St h0 Z (t.all enc ++ E) h)
    (H : ∀ (t' : GT It (k + 1)) h', Mended iso m (if i = t.pt.1.length then i - 1 else i) t t' → St h0 Z (t'.all enc ++ E) h' → Q (.tuple #[]) h') : Map_iu_nodeRebalance.call #[ptr tb 0, ptr t.id 0, .int .i64 i] h Q := by
  obtain ⟨f1, f2, f3, f4⟩ := fx
  have hall : ∀ c ∈ t.pt.2, PT.Fl m (m / 2 - 1) c := fun c hc => by
    obtain ⟨j, hj⟩ := List.getElem?_of_mem hc
    have := f4 j c hj
    split at this
    · exact this
    · exact this.mono (by omega)
  refine Map_iu_nodeRebalance.body _ _ _ _ _ ?_; unfold Map_iu_nodeRebalance.sh
  have main : ∀ j, j < t.pt.1.length → (j = i ∨ j + 1 = i) → j = (if i = t.pt.1.length then i - 1 else i) → Map_iu_nodeRebalance.j1 (ptr tb 0) (ptr t.id 0) (.int .i64 j) h Q := fun j hj hij hje => by
    rw [← hje] at H; refine rebalance_j hT0 hT4 hm3 hm1 ho t f2 hj hall (fun c c' hc hc' => ?_) (fun q c hc n1 n2 => ?_) hsz g s H
    · rcases hij with e | e
      · subst e
        refine .inl ⟨hdef c hc, ?_⟩
        have := f4 (j + 1) c' hc'
        rw [if_neg (by omega)] at this; exact this
      · refine .inr ⟨?_, hdef c' (e ▸ hc')⟩
        have := f4 j c hc
        rw [if_neg (by omega)] at this; exact this
    · have := f4 q c hc
      rw [if_neg (by omega)] at this; exact this
  have w : Own 1 t.nd.iv t.nd.its.length t.nd.ib t.nd.io (t.nd.its.flatMap enc) t.nd.isp := g.own
  have hil : t.pt.1.length = t.nd.its.length := rfl
  have s2 := s
  rw [all_eq] at s2
  have s := s2
  have s : St h0 Z ((t.id, 0, [.int .u64 t.nd.iso, .int .i64 t.nd.cnt, t.nd.iv, GT.kp t]) :: (t.nd.ib, t.nd.io, t.nd.its.flatMap enc ++ t.nd.isp) :: (GT.rest t ++ E)) h := s
  refine r_nil ?_; refine r_fld ?_; refine St.r_load0 s 0 rfl rfl ?_; refine Own.lenV (by assumption) ?_; refine r_cmpI ?_; refine r_if (fun he => ?_) (fun hn => ?_)
  · have he : i = t.nd.its.length := by simp at he; omega
    refine r_sub1 (by omega) (by omega) ?_; refine main (i - 1) (by omega) (.inr (by omega)) (by rw [if_pos (by omega)])
  · have hn : i ≠ t.nd.its.length := by simp at hn; omega
    exact main i (by omega) (.inl rfl) (by rw [if_neg (by omega)])
theorem del_after {tb m i lo n ib io kb krb kro t8 t14 pb po : Nat} {iso mn : Int} {ctr : Option Addr} {its : List It} {iv kv : Value} {isp ksp : List Value} {y z8 : It} (hT0 : (tb, 0, hd0 iso ctr) ∈ Z) (hT4 : (tb, 4, hd4 mn m) ∈ Z) (hmn : mn = ((m / 2 : Nat) : Int)) (hm3 : 3 ≤ m) (hm1 : m ≤ 1024) (ho : m % 2 = 1) {k : Nat} {ts : List (GT It k)}
    (w : Own 1 iv its.length ib io (its.flatMap enc) isp) (wK : Own 1 kv ((ts.map GT.id).map pp).length krb kro (((ts.map GT.id).map pp).flatMap fv) ksp) (gk : ∀ c ∈ ts, Gd iso c)
    (fx : PT.Fx m lo i ((its, ts.map GT.pt) : PT It (k + 1))) (h1 : 1 ≤ its.length) (hi : i ≤ its.length) (hsz : (PT.items (h := k + 1) (its, ts.map GT.pt)).length ≤ 4611686018427387903)
    (s : St h0 Z ((t14, 0, enc y) :: (t8, 0, enc z8) :: (pb, po, [ptr n 0]) :: (n, 0, [.int .u64 iso, .int .i64 (((PT.items (h := k + 1) (its, ts.map GT.pt)).length + 1 : Nat) : Int), iv, ptr kb 0]) :: (ib, io, its.flatMap enc ++ isp) :: (kb, 0, [kv]) :: (krb, kro, ((ts.map GT.id).map pp).flatMap fv ++ ksp) :: (ts.flatMap (GT.all enc) ++ E)) h)
    (H : ∀ (t' : GT It (k + 1)) h', t'.id = n → t'.pt.items = PT.items (h := k + 1) (its, ts.map GT.pt) → t'.pt.Fl m (its.length - 1) → Gd iso t' → St h0 Z ((pb, po, [ptr n 0]) :: (t'.all enc ++ E)) h' → Q (.tuple #[.agg (enc y).toArray, .bool true]) h') :
    Map_iu_delete.j4 (ptr tb 0) (ptr t8 0) (ptr n 0) (.int .i64 i) (ptr t14 0) h Q := by
  have hkl : ts.length = its.length + 1 := by have := fx.2.2.1; simpa using this
  have hlm : its.length ≤ m := fx.2.1
  have hKl : ((ts.map GT.id).map pp).length = ts.length := by rw [List.length_map, List.length_map]
  obtain ⟨c, hc⟩ : ∃ c, ts[i]? = some c := ⟨ts[i]'(by omega), List.getElem?_eq_getElem (by omega)⟩
  have hcm := List.mem_of_getElem? hc
  have gc := gk c hcm
  have hck : ((ts.map GT.id).map pp)[i]? = some (ptr c.id 0) := by rw [List.getElem?_map, List.getElem?_map, hc]; rfl
  have hcp : (ts.map GT.pt)[i]? = some c.pt := by rw [List.getElem?_map, hc]; rfl
  have fc : PT.Fl m (m / 2 - 1) c.pt := by have := fx.2.2.2 i c.pt hcp; rw [if_pos rfl] at this; exact this
  have hcl : c.nd.its.length ≤ m := (fl_its fc).2
  have hcl1 : m / 2 - 1 ≤ c.nd.its.length := (fl_its fc).1
  obtain ⟨a1, a2, a3, hct⟩ := topI (t := c)
  have wc := gc.own
  have hct' : (c.id, 0, [a1, a2, c.nd.iv, a3]) ∈ ts.flatMap (GT.all enc) := List.mem_flatMap.2 ⟨c, hcm, hct⟩
  obtain ⟨t0, ht1, gt, ht2, ht3, ht4⟩ := mk_inner (n := n) (kb := kb) (iso := iso) w wK hkl gk; subst hmn; unfold Map_iu_delete.j4; refine r_nil ?_; refine r_fld ?_; refine St.r_load0 s 3 rfl rfl ?_; refine r_sub1 (by omega) (by omega) ?_; refine r_nil ?_; refine r_fld ?_
  (refine St.r_store0 s 3 rfl (by simp) rfl ?_; intro h s; try simp only [List.set_cons_zero, List.set_cons_succ] at s)
  refine r_nil ?_; refine r_fld ?_; refine St.r_load0 s 3 rfl rfl ?_; refine r_nil ?_; refine St.r_load0 s 5 rfl rfl ?_
  (refine Own.idx (by assumption) rfl (by first | omega | (simp; done) | (simp; omega)) ?_)
  refine s.r_loadV 6 rfl (by assumption) ?_; refine r_nil ?_; refine r_fld ?_; refine s.r_loadD 7 (List.mem_append.2 (.inl hct')) rfl ?_; refine Own.lenV (by assumption) ?_; refine r_nil ?_; refine r_fld ?_; refine s.r_lz hT4 1 rfl rfl ?_; refine r_cmpI ?_; refine r_if (fun hlt => ?_) (fun hge => ?_)
  · have hlt : c.nd.its.length < m / 2 := by have := of_decide_eq_true hlt; omega
    have s0 : St h0 Z (t0.all enc ++ ((t14, 0, enc y) :: (t8, 0, enc z8) :: (pb, po, [ptr n 0]) :: E)) h := s.perm (by rw [ht4]; simp only [Nat.add_sub_cancel]; ((apply perm_rg; intro f; simp only [set_cons_zero, set_cons_succ, eraseIdx_cons_zero, eraseIdx_cons_succ, cons_append, nil_append, map_append, map_cons, map_nil, List.sum_append, List.sum_cons, List.sum_nil, map_flatMap, Nat.add_zero, Nat.zero_add]; ac_rfl)))
    rw [← ht1]; refine rebalance_ok hT0 hT4 hm3 hm1 ho t0 (by rw [ht2]; exact fx) (by rw [ht2]; exact h1) (by rw [ht2]; exact hi) (fun q hq => ?_) (by rw [ht2]; exact hsz) gt s0 fun t' h M s => ?_
    · rw [ht2] at hq
      have : q = c.pt := Option.some.inj (hq.symm.trans hcp)
      rw [this, GT.pt_its]; omega
    · obtain ⟨M1, M2, M3, M4, _⟩ := M
      have s : St h0 Z ((t14, 0, enc y) :: (t8, 0, enc z8) :: (pb, po, [ptr n 0]) :: (t'.all enc ++ E)) h := s.perm (by ((apply perm_rg; intro f; simp only [set_cons_zero, set_cons_succ, eraseIdx_cons_zero, eraseIdx_cons_succ, cons_append, nil_append, map_append, map_cons, map_nil, List.sum_append, List.sum_cons, List.sum_nil, map_flatMap, Nat.add_zero, Nat.zero_add]; ac_rfl)))
      unfold Map_iu_delete.j5; refine St.r_loadN0 s 0 rfl (by simp) ?_
      (refine St.r_storeN0 s 1 rfl rfl (by simp) (enc1 _) ?_; intro h s; try simp only [List.set_cons_zero, List.set_cons_succ] at s)
      refine St.r_loadN0 s 1 rfl (by simp) ?_; rw [ht2] at M2 M3; exact H t' h (M1.trans ht1) M2 M3 M4 (s.drop 2)
  · have hge : m / 2 ≤ c.nd.its.length := by have := of_decide_eq_false hge; omega
    unfold Map_iu_delete.j5; refine St.r_loadN0 s 0 rfl (by simp) ?_
    (refine St.r_storeN0 s 1 rfl rfl (by simp) (enc1 _) ?_; intro h s; try simp only [List.set_cons_zero, List.set_cons_succ] at s)
    refine St.r_loadN0 s 1 rfl (by simp) ?_; refine H t0 h ht1 (by rw [ht2]) ?_ gt ((s.perm (E' := (t14, 0, enc y) :: (t8, 0, enc y) :: ((pb, po, [ptr n 0]) :: (t0.all enc ++ E))) ?_).drop 2)
    · rw [ht2]
      refine fl_inner (by omega) hlm (by rw [List.length_map]; exact hkl) fun q hq => ?_; obtain ⟨j, hj⟩ := List.getElem?_of_mem hq
      have := fx.2.2.2 j q hj
      split at this
      · rename_i e; subst e
        have : q = c.pt := Option.some.inj (hj.symm.trans hcp)
        rw [this]; exact fl_any fc (by rw [GT.pt_its]; exact hge)
      · exact this
    · rw [ht4]; simp only [Nat.add_sub_cancel]; ((apply perm_rg; intro f; simp only [set_cons_zero, set_cons_succ, eraseIdx_cons_zero, eraseIdx_cons_succ, cons_append, nil_append, map_append, map_cons, map_nil, List.sum_append, List.sum_cons, List.sum_nil, map_flatMap, Nat.add_zero, Nat.zero_add]; ac_rfl))
end Go.Proofs.Ytdpkpcmoabfofaa.Iu
end
section
namespace Go.Proofs.Ytdpkpcmoabfofaa
open Go.Hp
theorem degree_zero {h : Heap} {Q : Value → Heap → Prop} (H : Q (.tuple #[.int .i64 31, .int .i64 63]) h) : degreeToMinMax.call #[.int .i64 0] h Q := by
  refine degreeToMinMax.body _ _ _ ?_; unfold degreeToMinMax.sh
  simp only [w_load1, w_loadN, w_nil, w_fld, w_idx, w_len, w_lenStr, w_cap, w_arith, w_divi, w_remi, w_cmpI, w_cmpS, w_not, w_ext, w_eqNilP, w_neNilP, w_eqB, w_pick, w_max, w_ifV, w_br, w_store1, w_storeN, w_alloc, w_box, add_mk, Nat.zero_add, Nat.add_zero, Option.some.injEq, exists_eq_left', List.getElem?_cons_zero, List.getElem?_cons_succ, List.getD_cons_zero, List.getD_cons_succ]
  refine ⟨fun _ => ?_, fun e => absurd e (by simp)⟩
  unfold degreeToMinMax.j1
  simp only [w_load1, w_loadN, w_nil, w_fld, w_idx, w_len, w_lenStr, w_cap, w_arith, w_divi, w_remi, w_cmpI, w_cmpS, w_not, w_ext, w_eqNilP, w_neNilP, w_eqB, w_pick, w_max, w_ifV, w_br, w_store1, w_storeN, w_alloc, w_box, add_mk, Nat.zero_add, Nat.add_zero, Option.some.injEq, exists_eq_left', List.getElem?_cons_zero, List.getElem?_cons_succ, List.getD_cons_zero, List.getD_cons_succ]
  exact ⟨by decide, H⟩
end Go.Proofs.Ytdpkpcmoabfofaa
end
section
namespace Go.Proofs.Ytdpkpcmoabfofaa.Iu
open Go.Hp Go.Proofs.Ytdpkpcmoabfofaa
variable {h0 h : Heap} {Z E : List Rg} {Q : Value → Heap → Prop}
structure MapOk (m : Nat) (iso : Int) (g : Rt) : Prop where
  gd : rGd iso g
  fl : (rPt g).Fl m
  asc : Asc lt (rPt g).items
  m3 : 3 ≤ m
  m1 : m ≤ 1024
  odd : m % 2 = 1
theorem MapOk.none {m : Nat} {iso : Int} (m3 : 3 ≤ m) (m1 : m ≤ 1024) (odd : m % 2 = 1) : MapOk m iso none := ⟨trivial, trivial, List.Pairwise.nil, m3, m1, odd⟩
theorem init_skip {tb : Nat} {d iso cnt mn mx : Int} {ctr root : Option Addr} (s : St h0 Z ((tb, 0, hdr iso ctr root cnt mn mx) :: E) h) (hmn : mn ≠ 0) (H : Q (.tuple #[]) h) : Map_iu_init.call #[ptr tb 0, .int .i64 d] h Q := by
  refine Map_iu_init.body _ _ _ _ ?_; unfold Map_iu_init.sh; refine r_nil ?_; refine r_fld ?_; refine St.r_load0 s 0 rfl rfl ?_; refine r_cmpI ?_; exact r_if (fun _ => H) (fun e => absurd e (by simpa using hmn))
theorem init_set {tb : Nat} {d a b iso cnt : Int} {ctr root : Option Addr} (s : St h0 Z ((tb, 0, hdr iso ctr root cnt 0 0) :: E) h) (hd : ∀ {h : Heap} {Q : Value → Heap → Prop}, Q (.tuple #[.int .i64 a, .int .i64 b]) h → degreeToMinMax.call #[.int .i64 d] h Q)
    (H : ∀ h', St h0 Z ((tb, 0, hdr iso ctr root cnt a b) :: E) h' → Q (.tuple #[]) h') : Map_iu_init.call #[ptr tb 0, .int .i64 d] h Q := by
  refine Map_iu_init.body _ _ _ _ ?_; unfold Map_iu_init.sh; refine r_nil ?_; refine r_fld ?_; refine St.r_load0 s 0 rfl rfl ?_; refine r_cmpI ?_; refine r_if (fun e => absurd e (by decide)) (fun _ => ?_)
  unfold Map_iu_init.j1; refine hd ?_; refine r_ext rfl ?_; refine r_ext rfl ?_; refine r_nil ?_; refine r_fld ?_; refine St.r_store0 s 0 rfl (by simp) rfl ?_; intro h s
  try simp only [List.set_cons_zero, List.set_cons_succ] at s
  refine r_nil ?_; refine r_fld ?_; refine St.r_store0 s 0 rfl (by simp) rfl ?_; intro h s
  try simp only [List.set_cons_zero, List.set_cons_succ] at s
  refine r_nil ?_; refine r_fld ?_; refine r_fldZE zall s 0 rfl (by simp) ?_; refine r_ld00 ?_; refine r_ext rfl ?_; refine r_ext rfl ?_; refine r_nil ?_; refine r_fld ?_; refine St.r_store0 s 0 rfl (by simp) rfl ?_; intro h s
  try simp only [List.set_cons_zero, List.set_cons_succ] at s
  refine r_nil ?_; refine r_fld ?_; refine St.r_load0 s 0 rfl rfl ?_; refine r_not ?_; refine r_if (fun _ => ?_) (fun e => absurd e (by decide))
  refine r_nil ?_; refine r_fld ?_; refine r_fldZE zall s 0 rfl (by simp) ?_; refine r_ld00 ?_; refine r_ext rfl ?_; refine r_ext rfl ?_; refine r_nil ?_; refine r_fld ?_; refine St.r_store0 s 0 rfl (by simp) rfl ?_; intro h s
  try simp only [List.set_cons_zero, List.set_cons_succ] at s
  exact H _ s
theorem Set_first {tb : Nat} {iso mn mx mn' mx' : Int} {ctr : Option Addr} {x : It} (s : St h0 Z ((tb, 0, hdr iso ctr none 0 mn mx) :: E) h)
    (hin : ∀ {E : List Rg} {h : Heap} {Q : Value → Heap → Prop}, St h0 Z ((tb, 0, hdr iso ctr none 0 mn mx) :: E) h → (∀ h', St h0 Z ((tb, 0, hdr iso ctr none 0 mn' mx') :: E) h' → Q (.tuple #[]) h') → Map_iu_init.call #[ptr tb 0, .int .i64 0] h Q)
    (H : ∀ (t : GT It 0) h', t.pt = ([x] : List It) → Gd iso t → St h0 Z ((tb, 0, hdr iso ctr (some ⟨t.id, 0, none⟩) 1 mn' mx') :: (t.all enc ++ E)) h' → Q (.tuple #[old none, .bool false]) h') :
    Map_iu_Set.call #[ptr tb 0, kv x.1, vv x.2] h Q := by
  refine Map_iu_Set.body _ _ _ _ _ ?_; unfold Map_iu_Set.sh; refine St.r_box (cs := []) s fun t5 h s => ?_
  have s := s.tail rfl
  refine s.r_alloc fun t6 h s => ?_
  have s := s.tail rfl
  refine r_ld00 ?_
  (apply r_build; (simp only [fillV, fill1, Value.cells, zeros_succ, zeros_zero, size_toArray, length_cons, length_nil, length_append, take_succ_cons, take_zero, take_nil, drop_succ_cons, drop_zero, drop_nil, cons_append, nil_append, append_nil, Nat.reduceAdd, Nat.reduceMul, Nat.reduceLeDiff, Nat.reduceEqDiff, and_self, and_true, true_and, if_true, Nat.le_refl, Nat.zero_add, Nat.add_zero, Nat.zero_mul, reduceIte, if_false] <;> rfl))
  refine s.r_alloc fun t8 h s => ?_; refine St.r_storeN0 s 0 rfl rfl (by simp) (enc1 x) ?_; intro h s
  refine r_nil ?_; refine r_fld ?_; refine St.r_load0 s 1 rfl rfl ?_; refine r_eqNilP ?_; refine r_if (fun _ => ?_) (fun e => absurd e (by simp))
  refine hin (s.front 1 rfl) fun h s => ?_; refine newNode_leaf (iso := iso) (by have := s.get (k := 0) (j := 0) rfl (by simp); simpa using this) fun n h s1 => ?_
  have s := s.join s1
  have s : St h0 Z ((n, 0, [.int .u64 iso, .int .i64 0, .slice none 0 0, .pointer none]) :: (tb, 0, hdr iso ctr none 0 mn' mx') :: (t8, 0, enc x) :: E) h := s
  refine r_nil ?_; refine r_fld ?_; refine St.r_store0 s 1 rfl (by simp) rfl ?_; intro h s
  try simp only [List.set_cons_zero, List.set_cons_succ] at s
  refine r_nil ?_; refine r_fld ?_; refine St.r_load0 s 1 rfl rfl ?_; refine St.r_loadN0 s 2 rfl (by simp) ?_
  have fin : ∀ {iv : Value} {ib io : Nat} {isp : List Value} {h : Heap}, Own 1 iv 1 ib io (enc x) isp →
      St h0 Z ((n, 0, [.int .u64 iso, .int .i64 0, iv, .pointer none]) :: (tb, 0, hdr iso ctr (some ⟨n, 0, none⟩) 0 mn' mx') :: (ib, io, enc x ++ isp) :: (t8, 0, enc x) :: E) h →
      (nilck (ptr tb 0) fun t41 => fld 2 t41 fun t42 => load1 t42 h fun t43 => nilck t43 fun t44 => fld 1 t44 fun t45 => store1 t45 (.int .i64 1) h fun h => nilck (ptr tb 0) fun t47 => fld 3 t47 fun t48 => store1 t48 (.int .i64 1) h fun h =>
        nilck (ptr tb 0) fun t50 => fld 4 t50 fun t51 =>
        fldZ Try.prog 0 t51 h fun t52 => loadN 0 t52 h fun t53 => storeN 0 (ptr t6 0) t53 h fun h => loadN 0 (ptr t6 0) h fun r6 => Q (.tuple #[r6, (.bool false)]) h) := by
    intro iv ib io isp h wi s; refine r_nil ?_; refine r_fld ?_; refine St.r_load0 s 1 rfl rfl ?_; refine r_nil ?_; refine r_fld ?_; refine St.r_store0 s 0 rfl (by simp) rfl ?_; intro h s
    try simp only [List.set_cons_zero, List.set_cons_succ] at s
    refine r_nil ?_; refine r_fld ?_; refine St.r_store0 s 1 rfl (by simp) rfl ?_; intro h s
    try simp only [List.set_cons_zero, List.set_cons_succ] at s
    refine r_nil ?_; refine r_fld ?_; refine r_fldZE zall s 1 rfl (by simp) ?_; refine r_ld00 ?_; refine r_st00 ?_; refine r_ld00 ?_
    exact H (⟨true, n, iso, 1, [x], iv, ib, io, isp, 0, .pointer none, 0, 0, []⟩ : Nd It) h rfl (Gd.leaf (by show Own 1 iv [x].length ib io ([x].flatMap enc) isp; simpa using wi) rfl rfl rfl)
      ((s.perm (E' := (t8, 0, enc x) :: (tb, 0, hdr iso ctr (some ⟨n, 0, none⟩) 1 mn' mx') :: (n, 0, [.int .u64 iso, .int .i64 1, iv, .pointer none]) :: (ib, io, [x].flatMap enc ++ isp) :: E) (by rw [List.flatMap_singleton]; ((apply perm_rg; intro f; simp only [set_cons_zero, set_cons_succ, eraseIdx_cons_zero, eraseIdx_cons_succ, cons_append, nil_append, map_append, map_cons, map_nil, List.sum_append, List.sum_cons, List.sum_nil, map_flatMap, Nat.add_zero, Nat.zero_add]; ac_rfl)))).drop 1)
  constructor
  · refine St.r_mkSl (sz := 1) (cs := []) s (by ((simp only [fillV, fill1, Value.cells, zeros_succ, zeros_zero, size_toArray, length_cons, length_nil, length_append, take_succ_cons, take_zero, take_nil, drop_succ_cons, drop_zero, drop_nil, cons_append, nil_append, append_nil, Nat.reduceAdd, Nat.reduceMul, Nat.reduceLeDiff, Nat.reduceEqDiff, and_self, and_true, true_and, if_true, Nat.le_refl, Nat.zero_add, Nat.add_zero, Nat.zero_mul, reduceIte, if_false] <;> rfl))) rfl fun q1 h s w1 => ?_
    refine ⟨by (first | exact St.r_still0 s 0 rfl rfl | exact St.r_still0 s 1 rfl rfl | exact St.r_still0 s 2 rfl rfl | exact St.r_still0 s 3 rfl rfl | exact St.r_still0 s 4 rfl rfl | exact St.r_still0 s 5 rfl rfl | exact St.r_still0 s 6 rfl rfl), St.r_stillN0 s 3 rfl (by simp) rfl, ?_⟩
    refine St.r_mkSl (sz := 1) (cs := enc x) s (by ((simp only [fillV, fill1, Value.cells, zeros_succ, zeros_zero, size_toArray, length_cons, length_nil, length_append, take_succ_cons, take_zero, take_nil, drop_succ_cons, drop_zero, drop_nil, cons_append, nil_append, append_nil, Nat.reduceAdd, Nat.reduceMul, Nat.reduceLeDiff, Nat.reduceEqDiff, and_self, and_true, true_and, if_true, Nat.le_refl, Nat.zero_add, Nat.add_zero, Nat.zero_mul, reduceIte, if_false] <;> rfl))) rfl fun q2 h s w2 => ?_; refine ⟨by (first | exact St.r_still0 s 0 rfl rfl | exact St.r_still0 s 1 rfl rfl | exact St.r_still0 s 2 rfl rfl | exact St.r_still0 s 3 rfl rfl | exact St.r_still0 s 4 rfl rfl | exact St.r_still0 s 5 rfl rfl | exact St.r_still0 s 6 rfl rfl), ?_⟩
    refine St.r_app s 1 (sz := 1) (n := 1) (new := enc x) rfl w1 rfl (w2.rdl s 0 rfl) (enc1 _) (by omega) (by omega) fun iv ib io isp h s wi => ?_; refine ⟨by (first | exact St.r_still0 s 0 rfl rfl | exact St.r_still0 s 1 rfl rfl | exact St.r_still0 s 2 rfl rfl | exact St.r_still0 s 3 rfl rfl | exact St.r_still0 s 4 rfl rfl | exact St.r_still0 s 5 rfl rfl | exact St.r_still0 s 6 rfl rfl), ?_⟩
    refine r_nil ?_; refine r_fld ?_; refine St.r_store0 s 2 rfl (by simp) wi.one ?_; intro h s
    exact fin wi ((s.perm (E' := (q2, 0, enc x ++ []) :: _) (by simp; ((apply perm_rg; intro f; simp only [set_cons_zero, set_cons_succ, eraseIdx_cons_zero, eraseIdx_cons_succ, cons_append, nil_append, map_append, map_cons, map_nil, List.sum_append, List.sum_cons, List.sum_nil, map_flatMap, Nat.add_zero, Nat.zero_add]; ac_rfl)))).drop 1)
  · refine St.r_mkSl (sz := 1) (cs := enc x) s (by ((simp only [fillV, fill1, Value.cells, zeros_succ, zeros_zero, size_toArray, length_cons, length_nil, length_append, take_succ_cons, take_zero, take_nil, drop_succ_cons, drop_zero, drop_nil, cons_append, nil_append, append_nil, Nat.reduceAdd, Nat.reduceMul, Nat.reduceLeDiff, Nat.reduceEqDiff, and_self, and_true, true_and, if_true, Nat.le_refl, Nat.zero_add, Nat.add_zero, Nat.zero_mul, reduceIte, if_false] <;> rfl))) rfl fun q2 h s w2 => ?_
    refine ⟨by (first | exact St.r_still0 s 0 rfl rfl | exact St.r_still0 s 1 rfl rfl | exact St.r_still0 s 2 rfl rfl | exact St.r_still0 s 3 rfl rfl | exact St.r_still0 s 4 rfl rfl | exact St.r_still0 s 5 rfl rfl | exact St.r_still0 s 6 rfl rfl), ?_⟩
    refine St.r_mkSl (sz := 1) (cs := []) s (by ((simp only [fillV, fill1, Value.cells, zeros_succ, zeros_zero, size_toArray, length_cons, length_nil, length_append, take_succ_cons, take_zero, take_nil, drop_succ_cons, drop_zero, drop_nil, cons_append, nil_append, append_nil, Nat.reduceAdd, Nat.reduceMul, Nat.reduceLeDiff, Nat.reduceEqDiff, and_self, and_true, true_and, if_true, Nat.le_refl, Nat.zero_add, Nat.add_zero, Nat.zero_mul, reduceIte, if_false] <;> rfl))) rfl fun q1 h s w1 => ?_; refine ⟨by (first | exact St.r_still0 s 0 rfl rfl | exact St.r_still0 s 1 rfl rfl | exact St.r_still0 s 2 rfl rfl | exact St.r_still0 s 3 rfl rfl | exact St.r_still0 s 4 rfl rfl | exact St.r_still0 s 5 rfl rfl | exact St.r_still0 s 6 rfl rfl), ?_⟩
    refine St.r_app s 0 (sz := 1) (n := 1) (new := enc x) rfl w1 rfl (w2.rdl s 1 rfl) (enc1 _) (by omega) (by omega) fun iv ib io isp h s wi => ?_; refine ⟨by (first | exact St.r_still0 s 0 rfl rfl | exact St.r_still0 s 1 rfl rfl | exact St.r_still0 s 2 rfl rfl | exact St.r_still0 s 3 rfl rfl | exact St.r_still0 s 4 rfl rfl | exact St.r_still0 s 5 rfl rfl | exact St.r_still0 s 6 rfl rfl), ?_⟩
    refine r_nil ?_; refine r_fld ?_; refine St.r_store0 s 2 rfl (by simp) wi.one ?_; intro h s
    exact fin wi ((s.perm (E' := (q2, 0, enc x ++ []) :: _) (by simp; ((apply perm_rg; intro f; simp only [set_cons_zero, set_cons_succ, eraseIdx_cons_zero, eraseIdx_cons_succ, cons_append, nil_append, map_append, map_cons, map_nil, List.sum_append, List.sum_cons, List.sum_nil, map_flatMap, Nat.add_zero, Nat.zero_add]; ac_rfl)))).drop 1)
theorem hdr_cut {tb : Nat} {iso cnt mn mx : Int} {ctr root : Option Addr} (s : St h0 Z ((tb, 0, hdr iso ctr root cnt mn mx) :: E) h) : St h0 Z ((tb, 0, hd0 iso ctr) :: (tb, 4, hd4 mn mx) :: (tb, 2, [.pointer root]) :: (tb, 3, [.int .i64 cnt]) :: E) h := by
  have s1 : St h0 Z ((tb, 0, hd0 iso ctr ++ ([.pointer root] ++ ([.int .i64 cnt] ++ hd4 mn mx))) :: E) h := s
  have s2 := s1.cut
  have s3 := (s2.front 1 rfl).cut
  have s4 := (s3.front 1 rfl).cut
  exact s4.perm (E' := (tb, 0, hd0 iso ctr) :: (tb, 4, hd4 mn mx) :: (tb, 2, [.pointer root]) :: (tb, 3, [.int .i64 cnt]) :: E) (by
    show ((tb, 0, hd0 iso ctr) :: (tb, 4, hd4 mn mx) :: (tb, 2, [.pointer root]) :: (tb, 3, [.int .i64 cnt]) :: E).Perm ((tb, 3, [.int .i64 cnt]) :: (tb, 4, hd4 mn mx) :: (tb, 2, [.pointer root]) :: (tb, 0, hd0 iso ctr) :: E)
    ((apply perm_rg; intro f; simp only [set_cons_zero, set_cons_succ, eraseIdx_cons_zero, eraseIdx_cons_succ, cons_append, nil_append, map_append, map_cons, map_nil, List.sum_append, List.sum_cons, List.sum_nil, map_flatMap, Nat.add_zero, Nat.zero_add]; ac_rfl)))
theorem hdr_glue {tb : Nat} {iso cnt mn mx : Int} {ctr root : Option Addr} (s : St h0 Z ((tb, 0, hd0 iso ctr) :: (tb, 4, hd4 mn mx) :: (tb, 2, [.pointer root]) :: (tb, 3, [.int .i64 cnt]) :: E) h) : St h0 Z ((tb, 0, hdr iso ctr root cnt mn mx) :: E) h := by
  have s1 : St h0 Z ((tb, 3, [.int .i64 cnt]) :: (tb, 3 + [Value.int .i64 cnt].length, hd4 mn mx) :: (tb, 2, [.pointer root]) :: (tb, 0, hd0 iso ctr) :: E) h := s.perm (by
    show ((tb, 3, [.int .i64 cnt]) :: (tb, 4, hd4 mn mx) :: (tb, 2, [.pointer root]) :: (tb, 0, hd0 iso ctr) :: E).Perm _
    ((apply perm_rg; intro f; simp only [set_cons_zero, set_cons_succ, eraseIdx_cons_zero, eraseIdx_cons_succ, cons_append, nil_append, map_append, map_cons, map_nil, List.sum_append, List.sum_cons, List.sum_nil, map_flatMap, Nat.add_zero, Nat.zero_add]; ac_rfl)))
  have s2 := s1.glue
  have s3 : St h0 Z ((tb, 2, [.pointer root]) :: (tb, 2 + [Value.pointer root].length, [.int .i64 cnt] ++ hd4 mn mx) :: (tb, 0, hd0 iso ctr) :: E) h := s2.perm (by
    show ((tb, 2, [.pointer root]) :: (tb, 3, [.int .i64 cnt] ++ hd4 mn mx) :: (tb, 0, hd0 iso ctr) :: E).Perm _
    exact List.Perm.swap _ _ _)
  have s4 := s3.glue
  have s5 : St h0 Z ((tb, 0, hd0 iso ctr) :: (tb, 0 + (hd0 iso ctr).length, [.pointer root] ++ ([.int .i64 cnt] ++ hd4 mn mx)) :: E) h := s4.perm (by
    show ((tb, 0, hd0 iso ctr) :: (tb, 2, [.pointer root] ++ ([.int .i64 cnt] ++ hd4 mn mx)) :: E).Perm _
    exact List.Perm.swap _ _ _)
  exact s5.glue
theorem Set_ok {tb m : Nat} {iso mn : Int} {ctr : Option Addr} {g : Rt} {x : It} (M : MapOk m iso g) (hmn : mn ≠ 0) (hsz : (rPt g).items.length ≤ 4611686018427387903) (s : St h0 Z ((tb, 0, hdr iso ctr (rA g) (rPt g).items.length mn m) :: (rAll g ++ E)) h)
    (H : ∀ (g' : Rt) h', rPt g' = (rPt g).set lt m x → MapOk m iso g' → St h0 Z ((tb, 0, hdr iso ctr (rA g') (rPt g').items.length mn m) :: (rAll g' ++ E)) h' → Q (.tuple #[old (lget lt (rPt g).items x), .bool (lget lt (rPt g).items x).isSome]) h') :
    Map_iu_Set.call #[ptr tb 0, kv x.1, vv x.2] h Q := by
  have key : ∀ g' : Rt, rPt g' = (rPt g).set lt m x → rGd iso g' → MapOk m iso g' := fun g' e gd => by
    obtain ⟨e1, e2⟩ := MT.set_items (x := x) swo M.odd M.m3 M.fl M.asc; exact ⟨gd, by rw [e]; exact e2, by rw [e, e1]; exact asc_lput swo M.asc, M.m3, M.m1, M.odd⟩
  cases g with
  | none =>
    refine Set_first (E := E) (mn' := mn) (mx' := m) s (fun s K => init_skip s hmn (K _ s)) fun t h' e gd s => ?_; refine H (some ⟨0, t⟩) h' ?_ ?_ ?_
    · show some (⟨0, t.pt⟩ : (j : Nat) × PT It j) = some ⟨0, ([x] : List It)⟩; rw [e]
    · refine key (some ⟨0, t⟩) ?_ gd
      show some (⟨0, t.pt⟩ : (j : Nat) × PT It j) = some ⟨0, ([x] : List It)⟩; rw [e]
    · show St h0 Z ((tb, 0, hdr iso ctr (some ⟨t.id, 0, none⟩) t.pt.items.length mn m) :: (t.all enc ++ E)) h'
      have : t.pt.items.length = 1 := by rw [e]; rfl
      rw [this]; exact s
  | some t =>
    obtain ⟨k, t⟩ := t
    have htb : h0.size ≤ tb := (s.e _ (List.mem_cons_self ..)).2 (by simp)
    have s := hdr_cut s
    obtain ⟨s1, back⟩ := St.borrow (A := [(tb, 0, hd0 iso ctr), (tb, 4, hd4 mn m)]) (E := (tb, 2, [ptr t.id 0]) :: (tb, 3, [.int .i64 t.pt.items.length]) :: (t.all enc ++ E)) s; refine Set_cut htb (List.mem_cons_self ..) (List.mem_cons_of_mem _ (List.mem_cons_self ..)) M.m1 M.m3 M.odd t M.fl M.asc hsz M.gd rfl s1 fun g' h' e1 e2 s2 => ?_; refine H (some g') h' e1 (key (some g') e1 e2) ?_; exact hdr_glue (back _ h' s2)
theorem Set_zero {tb : Nat} {iso : Int} {ctr : Option Addr} {x : It} (s : St h0 Z ((tb, 0, hdr iso ctr none 0 0 0) :: E) h)
    (H : ∀ (g' : Rt) h', rPt g' = MT.set lt 63 none x → MapOk 63 iso g' → St h0 Z ((tb, 0, hdr iso ctr (rA g') (rPt g').items.length 31 63) :: (rAll g' ++ E)) h' → Q (.tuple #[old none, .bool false]) h') :
    Map_iu_Set.call #[ptr tb 0, kv x.1, vv x.2] h Q := by
  refine Set_first (E := E) (mn' := 31) (mx' := 63) s (fun s K => init_set s (fun K => degree_zero K) K) fun t h' e gd s => ?_
  have e0 : rPt (some ⟨0, t⟩) = MT.set lt 63 none x := by
    show some (⟨0, t.pt⟩ : (j : Nat) × PT It j) = some ⟨0, ([x] : List It)⟩; rw [e]
  obtain ⟨e1, e2⟩ := MT.set_items (m := 63) (t := none) (x := x) swo (by decide) (by decide) trivial List.Pairwise.nil; refine H (some ⟨0, t⟩) h' e0 ⟨gd, by rw [e0]; exact e2, by rw [e0, e1]; exact asc_lput swo List.Pairwise.nil, by decide, by decide, by decide⟩ ?_
  show St h0 Z ((tb, 0, hdr iso ctr (some ⟨t.id, 0, none⟩) t.pt.items.length 31 63) :: (t.all enc ++ E)) h'
  have : t.pt.items.length = 1 := by rw [e]; rfl
  rw [this]; exact s
end Go.Proofs.Ytdpkpcmoabfofaa.Iu
end
section
namespace Go.Proofs.Ytdpkpcmoabfofaa.Iu
open Go.Hp Go.Proofs.Ytdpkpcmoabfofaa
variable {h0 h : Heap} {Z E : List Rg} {Q : Value → Heap → Prop}
theorem isoLoad_ro {tr : Value} {pb po n : Nat} (hp : cl h pb po = some (ptr n 0)) (H : Q (ptr n 0) h) : Map_iu_isoLoad.call #[tr, ptr pb po, .bool false] h Q := by
  refine Map_iu_isoLoad.body _ _ _ _ _ ?_; unfold Map_iu_isoLoad.sh; refine r_br (fun e => absurd e (by decide)) (fun _ => ?_)
  unfold Map_iu_isoLoad.j1; refine r_nil ?_; exact r_ld hp H
theorem allZ_leaf {d : Nd It} (hz : ∀ r ∈ GT.all enc (h := 0) d, r ∈ Z) : (d.n, 0, [.int .u64 d.iso, .int .i64 d.cnt, d.iv, .pointer none]) ∈ Z ∧ (d.ib, d.io, d.its.flatMap enc ++ d.isp) ∈ Z := by
  have hz : ∀ r ∈ d.leaf enc, r ∈ Z := hz
  exact ⟨hz _ (List.mem_cons_self ..), hz _ (List.mem_cons_of_mem _ (List.mem_cons_self ..))⟩
theorem allZ_inner {k : Nat} {d : Nd It} {ts : List (GT It k)} (hz : ∀ r ∈ GT.all enc (h := k + 1) (d, ts), r ∈ Z) :
    (d.n, 0, [.int .u64 d.iso, .int .i64 d.cnt, d.iv, ptr d.kb 0]) ∈ Z ∧ (d.ib, d.io, d.its.flatMap enc ++ d.isp) ∈ Z ∧ (d.kb, 0, [d.kv]) ∈ Z ∧ (d.krb, d.kro, (ts.map GT.id).flatMap fp ++ d.ksp) ∈ Z ∧ ∀ c ∈ ts, ∀ r ∈ c.all enc, r ∈ Z := by
  have hz : ∀ r ∈ d.inner enc (ts.map GT.id) ++ ts.flatMap (GT.all enc), r ∈ Z := hz
  have h1 : ∀ r ∈ d.inner enc (ts.map GT.id), r ∈ Z := fun r hr => hz r (List.mem_append.2 (.inl hr))
  refine ⟨h1 _ (List.mem_cons_self ..), h1 _ (List.mem_cons_of_mem _ (List.mem_cons_self ..)), h1 _ (List.mem_cons_of_mem _ (List.mem_cons_of_mem _ (List.mem_cons_self ..))), ?_, fun c hc r hr => hz r (List.mem_append.2 (.inr (List.mem_flatMap.2 ⟨c, hc, hr⟩)))⟩
  have := h1 _ (List.mem_cons_of_mem _ (List.mem_cons_of_mem _ (List.mem_cons_of_mem _ (List.mem_cons_self ..))))
  rw [mfp] at this; exact this
theorem kidcell {k : Nat} {ts : List (GT It k)} {krb kro i : Nat} {ksp : List Value} {c : GT It k} (hk : (krb, kro, (ts.map GT.id).flatMap fp ++ ksp) ∈ Z) (hc : ts[i]? = some c) (s : St h0 Z E h) : cl h krb (kro + i * 1) = some (ptr c.id 0) := by
  have hi : i < (ts.map GT.id).length := by rw [List.length_map]; exact (List.getElem?_eq_some_iff.1 hc).1
  refine s.clz hk (i * 1) rfl ?_; rw [List.getElem?_append_left (by rw [flat_len fpl]; omega)]
  have := flat_get (f := fp) fpl (ts.map GT.id) i hi 0 (by decide)
  rw [Nat.add_zero] at this; rw [this]
  have e : (ts.map GT.id)[i] = c.id := by
    have : (ts.map GT.id)[i]? = some c.id := by rw [List.getElem?_map, hc]; rfl
    exact (List.getElem?_eq_some_iff.1 this).2
  rw [e]; rfl
theorem nodeScan_ok {cont : List It → Bool} {f tr : Value} {J : List It → Heap → Prop} {iso : Int} {m N : Nat} (hm : m ≤ 1024) (hJ : ∀ p h, J p h → ∃ E, St h0 Z E h)
    (cb : ∀ (p : List It) (x : It) (h : Heap) (K : Value → Heap → Prop), p.length < N → J p h → (∀ h', J (p ++ [x]) h' → K (.bool (cont (p ++ [x]))) h') → callV Try.prog f #[kv x.1, vv x.2] h K) :
    ∀ {k : Nat} (t : GT It k) {lo : Nat} (g : Gd iso t) (fl : t.pt.Fl m lo) (hz : ∀ r ∈ t.all enc, r ∈ Z) (hzb : ∀ r ∈ t.all enc, r.2.2 ≠ [] → h0.size ≤ r.1) {pb po : Nat} (hp : ∀ E h, St h0 Z E h → cl h pb po = some (ptr t.id 0)) {p : List It} {h : Heap} {Q : Value → Heap → Prop}, p.length + t.pt.items.length ≤ N → J p h →
      (∀ h', J (feed cont p t.pt.items).1 h' → Q (.bool (feed cont p t.pt.items).2) h') → Map_iu_nodeScan.call #[tr, ptr pb po, f, .bool false] h Q
  | 0, (d : Nd It), lo, g, fl, hz, hzb, pb, po, hp, p, h, Q, hN, hj, H => by
    obtain ⟨own, n, is', cnt, its, iv, ib, io, isp, kb, kv', krb, kro, ksp⟩ := d; obtain ⟨z1, z2⟩ := allZ_leaf hz
    have hib : 0 < its.length → h0.size ≤ ib := fun hl => hzb (ib, io, its.flatMap enc ++ isp) (List.mem_cons_of_mem _ (List.mem_cons_self ..)) (fun e => by
      have e : its.flatMap enc ++ isp = [] := e
      have := congrArg List.length e
      rw [List.length_append, flat_len encl, List.length_nil] at this
      omega)
    have w : Own 1 iv its.length ib io (its.flatMap enc) isp := g.wf.1
    have hl : its.length ≤ m := fl.2
    have hp : ∀ E h, St h0 Z E h → cl h pb po = some (ptr n 0) := hp
    have hN : p.length + its.length ≤ N := hN
    have H : ∀ h', J (feed cont p its).1 h' → Q (.bool (feed cont p its).2) h' := H
    refine Map_iu_nodeScan.body _ _ _ _ _ _ ?_; unfold Map_iu_nodeScan.sh; obtain ⟨E, s⟩ := hJ p h hj; refine isoLoad_ro (hp E h s) ?_; refine leaf_ok (a := none) (s.clz z1 3 rfl rfl) ?_; refine r_if (fun _ => ?_) (fun e => absurd e (by simp))
    refine loop_up (n := its.length) (fun j => [.int .i64 j]) (fun j h => (feed cont p (its.take j)).2 = true ∧ J (feed cont p (its.take j)).1 h) ⟨rfl, hj⟩ ?_
    rintro j h hjl ⟨hf, hj⟩ K HK
    obtain ⟨E, s⟩ := hJ _ h hj; unfold Map_iu_nodeScan.l8.b; refine r_nil ?_; refine r_fld ?_; refine s.r_lz0 z1 (j := 2) rfl ?_; refine w.lenV ?_; refine r_cmpI ?_; refine r_if (fun hlt => ?_) (fun hge => ?_)
    · have hlt : j < its.length := by simpa using hlt
      have hx : its[j]? = some its[j] := List.getElem?_eq_getElem hlt
      unfold Map_iu_nodeScan.j9; refine r_nil ?_; refine r_fld ?_; refine s.r_lz0 z1 (j := 2) rfl ?_; refine w.idx (n := j) rfl hlt ?_; refine r_fld ?_; refine s.r_load1FZ encl (r := 0) z2 hx rfl ?_; refine r_nil ?_; refine r_fld ?_; refine s.r_lz0 z1 (j := 2) rfl ?_; refine w.idx (n := j) rfl hlt ?_
      have hpos : 0 < (its.flatMap enc ++ isp).length := by rw [List.length_append, flat_len encl]; omega
      refine r_fldZT zall s (hib (by omega)) z2 hpos ?_; refine r_ld00 ?_
      have hfl := feed_len (cont := cont) (its.take j) p
      rw [List.length_take] at hfl; refine cb _ its[j] h _ (by omega) hj fun h' hj' => ?_; refine r_not ?_
      have et : its.take (j + 1) = its.take j ++ [its[j]] := List.take_succ_eq_append_getElem hlt
      have ef : feed cont p (its.take (j + 1)) = ((feed cont p (its.take j)).1 ++ [its[j]], cont ((feed cont p (its.take j)).1 ++ [its[j]])) := by rw [et, feed_step hf, feed_one]
      refine r_if (fun hc => ?_) (fun hc => ?_)
      · have hc : cont ((feed cont p (its.take j)).1 ++ [its[j]]) = false := by simpa using hc
        have ea : feed cont p its = ((feed cont p (its.take j)).1 ++ [its[j]], false) := by
          have e0 := feed_stop (cont := cont) (p := p) (a := its.take (j + 1)) (b := its.drop (j + 1)) (by rw [ef]; exact hc)
          rw [List.take_append_drop, ef] at e0; exact e0
        have := H h' (by rw [ea]; exact hj')
        rw [ea] at this; exact this
      · have hc : cont ((feed cont p (its.take j)).1 ++ [its[j]]) = true := by simpa using hc
        unfold Map_iu_nodeScan.j10; refine r_add (z := ((j + 1 : Nat) : Int)) (by rw [i64w (by omega) (by omega)]; omega) ?_; exact HK h' hlt ⟨by rw [ef]; exact hc, by rw [ef]; exact hj'⟩
    · have hge : j = its.length := by simp at hge; omega
      subst hge; rw [List.take_length] at hf hj; unfold Map_iu_nodeScan.j7
      have := H h hj
      rw [hf] at this; exact this
  | k + 1, t, lo, g, fl, hz, hzb, pb, po, hp, p, h, Q, hN, hj, H => by
    obtain ⟨d, ts⟩ := t; obtain ⟨own, n, is', cnt, its, iv, ib, io, isp, kb, kv', krb, kro, ksp⟩ := d; obtain ⟨z1, z2, z3, z4, z5⟩ := allZ_inner hz
    have hib : 0 < its.length → h0.size ≤ ib := fun hl => hzb (ib, io, its.flatMap enc ++ isp) (List.mem_append.2 (.inl (List.mem_cons_of_mem _ (List.mem_cons_self ..)))) (fun e => by
      have e : its.flatMap enc ++ isp = [] := e
      have := congrArg List.length e
      rw [List.length_append, flat_len encl, List.length_nil] at this
      omega)
    have w : Own 1 iv its.length ib io (its.flatMap enc) isp := g.wf.1.1
    have wK : Own 1 kv' ts.length krb kro ((ts.map GT.id).map fun m => ptr m 0) ksp := g.wf.2.1
    have hkl : ts.length = its.length + 1 := g.wf.2.2.1
    have hl : its.length ≤ m := fl.2.1
    have hp : ∀ E h, St h0 Z E h → cl h pb po = some (ptr n 0) := hp
    have hpl : ∀ i, ((ts.take i).map fun t => t.pt.items) = (((ts.map GT.pt).take i).map PT.items) := fun i => by rw [← List.map_take, List.map_map]; rfl
    have hsplit : ∀ i (hi : i ≤ its.length) c, ts[i]? = some c → PT.items (h := k + 1) (its, ts.map GT.pt) = lz (its.take i) ((ts.take i).map fun t => t.pt.items) ++ (c.pt.items ++ rz (its.drop i) (((ts.map GT.pt).drop (i + 1)).map PT.items)) := by
      intro i hi c hc; obtain ⟨c', hc', _, e⟩ := PT.around (t := ((its, ts.map GT.pt) : PT It (k + 1))) fl hi
      have hc' : (ts.map GT.pt)[i]? = some c' := hc'
      rw [List.getElem?_map, hc] at hc'
      have : c' = c.pt := (Option.some.inj hc').symm
      subst this; rw [hpl]; exact e
    have hN : p.length + (PT.items (h := k + 1) (its, ts.map GT.pt)).length ≤ N := hN
    have H : ∀ h', J (feed cont p (PT.items (h := k + 1) (its, ts.map GT.pt))).1 h' → Q (.bool (feed cont p (PT.items (h := k + 1) (its, ts.map GT.pt))).2) h' := H
    refine Map_iu_nodeScan.body _ _ _ _ _ _ ?_; unfold Map_iu_nodeScan.sh; obtain ⟨E, s⟩ := hJ p h hj; refine isoLoad_ro (hp E h s) ?_; refine leaf_ok (a := some ⟨kb, 0, Option.none⟩) (s.clz z1 3 rfl rfl) ?_; refine r_if (fun e => absurd e (by simp)) (fun _ => ?_)
    unfold Map_iu_nodeScan.j1; refine loop_up (n := its.length) (fun j => [.int .i64 j]) (fun j h => (feed cont p (lz (its.take j) ((ts.take j).map fun t => t.pt.items))).2 = true ∧ J (feed cont p (lz (its.take j) ((ts.take j).map fun t => t.pt.items))).1 h) ⟨rfl, hj⟩ ?_
    rintro j h hjl ⟨hf, hj⟩ K HK
    obtain ⟨E, s⟩ := hJ _ h hj; obtain ⟨c, hc⟩ : ∃ c, ts[j]? = some c := ⟨ts[j]'(by omega), List.getElem?_eq_getElem (by omega)⟩
    have hcm := List.mem_of_getElem? hc
    have hfc : PT.Fl m (m / 2) c.pt := fl.2.2.2 _ (List.mem_map.2 ⟨c, hcm, rfl⟩)
    unfold Map_iu_nodeScan.l3.b; refine r_nil ?_; refine r_fld ?_; refine s.r_lz0 z1 (j := 2) rfl ?_; refine w.lenV ?_; refine r_cmpI ?_; refine r_if (fun hlt => ?_) (fun hge => ?_)
    · have hlt : j < its.length := by simpa using hlt
      have hx : its[j]? = some its[j] := List.getElem?_eq_getElem hlt
      have et : its.take (j + 1) = its.take j ++ [its[j]] := List.take_succ_eq_append_getElem hlt
      have ek : ts.take (j + 1) = ts.take j ++ [c] := by rw [List.take_add_one, hc]; rfl
      have ez : lz (its.take (j + 1)) ((ts.take (j + 1)).map fun t => t.pt.items) = lz (its.take j) ((ts.take j).map fun t => t.pt.items) ++ (c.pt.items ++ [its[j]]) := by
        rw [et, ek, List.map_append, List.map_cons, List.map_nil, lz_snoc _ _ _ _ (by simp; omega)]
      obtain ⟨rest, hrest⟩ : ∃ rest, rz (its.drop j) (((ts.map GT.pt).drop (j + 1)).map PT.items) = its[j] :: rest := by
        have e1 : its.drop j = its[j] :: its.drop (j + 1) := List.drop_eq_getElem_cons hlt
        have e2 : (ts.map GT.pt).drop (j + 1) = (ts.map GT.pt)[j + 1]'(by simp; omega) :: (ts.map GT.pt).drop (j + 1 + 1) := List.drop_eq_getElem_cons (by simp; omega)
        rw [e1, e2, List.map_cons, rz_cons]; exact ⟨_, rfl⟩
      have hs := hsplit j hjl c hc
      rw [hrest] at hs
      have hsl := congrArg List.length hs
      simp only [List.length_append, List.length_cons] at hsl
      have hfl := feed_len (cont := cont) (lz (its.take j) ((ts.take j).map fun t => t.pt.items)) p
      have hfl2 := feed_len (cont := cont) (lz (its.take j) ((ts.take j).map fun t => t.pt.items) ++ c.pt.items) p
      rw [List.length_append] at hfl2; unfold Map_iu_nodeScan.j4; refine r_nil ?_; refine r_fld ?_; refine s.r_lz0 z1 (j := 3) rfl ?_; refine r_nil ?_; refine s.r_lz0 z3 (j := 0) rfl ?_; refine wK.idx (n := j) rfl (by omega) ?_; refine nodeScan_ok hm hJ cb c (g.kid hcm) hfc (z5 c hcm) (fun r hr => hzb r (List.mem_append.2 (.inr (List.mem_flatMap.2 ⟨c, hcm, hr⟩)))) (fun E h s => kidcell z4 hc s) (by omega) hj fun h' hj' => ?_; refine r_not ?_; refine r_if (fun hr => ?_) (fun hr => ?_)
      · have hr : (feed cont (feed cont p (lz (its.take j) ((ts.take j).map fun t => t.pt.items))).1 c.pt.items).2 = false := by simpa using hr
        have ea : feed cont p (PT.items (h := k + 1) (its, ts.map GT.pt)) = ((feed cont (feed cont p (lz (its.take j) ((ts.take j).map fun t => t.pt.items))).1 c.pt.items).1, false) := by
          rw [hs, feed_step hf, feed_stop hr]
        have := H h' (by rw [ea]; exact hj')
        rw [ea] at this; exact this
      · have hr : (feed cont (feed cont p (lz (its.take j) ((ts.take j).map fun t => t.pt.items))).1 c.pt.items).2 = true := by simpa using hr
        have hf1 : feed cont p (lz (its.take j) ((ts.take j).map fun t => t.pt.items) ++ c.pt.items) = feed cont (feed cont p (lz (its.take j) ((ts.take j).map fun t => t.pt.items))).1 c.pt.items := feed_step hf
        rw [← hf1] at hr hj'
        have ef : feed cont p (lz (its.take (j + 1)) ((ts.take (j + 1)).map fun t => t.pt.items)) = ((feed cont p (lz (its.take j) ((ts.take j).map fun t => t.pt.items) ++ c.pt.items)).1 ++ [its[j]], cont ((feed cont p (lz (its.take j) ((ts.take j).map fun t => t.pt.items) ++ c.pt.items)).1 ++ [its[j]])) := by
          rw [ez, ← List.append_assoc, feed_step hr, feed_one]
        obtain ⟨E, s⟩ := hJ _ h' hj'; unfold Map_iu_nodeScan.j6; refine r_nil ?_; refine r_fld ?_; refine s.r_lz0 z1 (j := 2) rfl ?_; refine w.idx (n := j) rfl hlt ?_; refine r_fld ?_; refine s.r_load1FZ encl (r := 0) z2 hx rfl ?_; refine r_nil ?_; refine r_fld ?_; refine s.r_lz0 z1 (j := 2) rfl ?_; refine w.idx (n := j) rfl hlt ?_
        have hpos : 0 < (its.flatMap enc ++ isp).length := by rw [List.length_append, flat_len encl]; omega
        refine r_fldZT zall s (hib (by omega)) z2 hpos ?_; refine r_ld00 ?_; refine cb _ its[j] h' _ (by omega) hj' fun h2 hj2 => ?_; refine r_not ?_; refine r_if (fun hb => ?_) (fun hb => ?_)
        · have hb : cont ((feed cont p (lz (its.take j) ((ts.take j).map fun t => t.pt.items) ++ c.pt.items)).1 ++ [its[j]]) = false := by simpa using hb
          have ea : feed cont p (PT.items (h := k + 1) (its, ts.map GT.pt)) = ((feed cont p (lz (its.take j) ((ts.take j).map fun t => t.pt.items) ++ c.pt.items)).1 ++ [its[j]], false) := by
            rw [hs, ← List.append_assoc, feed_step hr]; simp only [feed, hb, Bool.false_eq_true, if_false]
          have := H h2 (by rw [ea]; exact hj2)
          rw [ea] at this; exact this
        · have hb : cont ((feed cont p (lz (its.take j) ((ts.take j).map fun t => t.pt.items) ++ c.pt.items)).1 ++ [its[j]]) = true := by simpa using hb
          unfold Map_iu_nodeScan.j5; refine r_add (z := ((j + 1 : Nat) : Int)) (by rw [i64w (by omega) (by omega)]; omega) ?_; exact HK h2 hlt ⟨by rw [ef]; exact hb, by rw [ef]; exact hj2⟩
    · have hge : j = its.length := by simp at hge; omega
      subst hge
      have hs := hsplit its.length hjl c hc
      have hr0 : rz (its.drop its.length) (((ts.map GT.pt).drop (its.length + 1)).map PT.items) = [] := by rw [List.drop_length]; rfl
      rw [hr0, List.append_nil] at hs
      have hsl := congrArg List.length hs
      simp only [List.length_append] at hsl
      have hfl := feed_len (cont := cont) (lz (its.take its.length) ((ts.take its.length).map fun t => t.pt.items)) p
      unfold Map_iu_nodeScan.j2; refine r_nil ?_; refine r_fld ?_; refine s.r_lz0 z1 (j := 3) rfl ?_; refine r_nil ?_; refine s.r_lz0 z3 (j := 0) rfl ?_; refine r_nil ?_; refine r_fld ?_; refine s.r_lz0 z1 (j := 3) rfl ?_; refine r_nil ?_; refine s.r_lz0 z3 (j := 0) rfl ?_; refine wK.lenV ?_; refine r_sub (z := ((its.length : Nat) : Int)) (by rw [i64w (by omega) (by omega)]; omega) ?_; refine wK.idx (n := its.length) rfl (by omega) ?_; refine nodeScan_ok hm hJ cb c (g.kid hcm) hfc (z5 c hcm) (fun r hr => hzb r (List.mem_append.2 (.inr (List.mem_flatMap.2 ⟨c, hcm, hr⟩)))) (fun E h s => kidcell z4 hc s) (by omega) hj fun h' hj' => ?_
      have ea : feed cont p (PT.items (h := k + 1) (its, ts.map GT.pt)) = feed cont (feed cont p (lz (its.take its.length) ((ts.take its.length).map fun t => t.pt.items))).1 c.pt.items := by rw [hs, feed_step hf]
      have := H h' (by rw [ea]; exact hj')
      rw [ea] at this; exact this
end Go.Proofs.Ytdpkpcmoabfofaa.Iu
end
section
namespace Go.Proofs.Ytdpkpcmoabfofaa.Iu
open Go.Hp Go.Proofs.Ytdpkpcmoabfofaa
variable {h0 h : Heap} {Z E : List Rg} {Q : Value → Heap → Prop}
variable {k m tb ti to : Nat} {iso : Int} {t : GT It k}
def itC (tb : Nat) (sk as_ ae : Bool) (sv : Value) (x : It) : List Value := [ptr tb 0, .bool false, .bool sk, .bool as_, .bool ae, sv] ++ enc x
def NdOk (iso : Int) (m : Nat) (Z : List Rg) (q : Nat) (c : GT It q) : Prop := Gd iso c ∧ c.pt.Fl m 1 ∧ ∀ r ∈ c.all enc, r ∈ Z
theorem NdOk.kid (m3 : 3 ≤ m) {q : Nat} {t : GT It (q + 1)} (N : NdOk iso m Z (q + 1) t) {c : GT It q} (hc : c ∈ t.2) : NdOk iso m Z q c := by
  obtain ⟨gd, fl, hz⟩ := N
  have f : PT.Fl m (m / 2) c.pt := fl.2.2.2 _ (List.mem_map.2 ⟨c, hc, rfl⟩)
  exact ⟨gd.kid hc, f.mono (by omega), (allZ_inner (d := t.1) (ts := t.2) hz).2.2.2.2 c hc⟩
theorem NdOk.up (m3 : 3 ≤ m) (N : NdOk iso m Z k t) {F : List (Nat × Int)} {q : Nat} {c : GT It q} {A B : List It} (u : Up t F q c A B) : NdOk iso m Z q c :=
  u.all (P := fun q c => NdOk iso m Z q c) N fun q t N c hc => N.kid m3 hc
theorem NdOk.len {q : Nat} {t : GT It (q + 1)} (N : NdOk iso m Z (q + 1) t) : t.2.length = t.1.its.length + 1 := N.1.wf.2.2.1
theorem NdOk.hl (m3 : 3 ≤ m) (N : NdOk iso m Z k t) (F : List (Nat × Int)) (q : Nat) (c : GT It (q + 1)) (A B : List It) (u : Up t F (q + 1) c A B) : c.2.length = c.1.its.length + 1 := (N.up m3 u).len
theorem NdOk.its : ∀ {q : Nat} {c : GT It q}, NdOk iso m Z q c → 1 ≤ c.nd.its.length ∧ c.nd.its.length ≤ m
  | 0, c, N => N.2.1
  | q + 1, c, N => ⟨N.2.1.1, N.2.1.2.1⟩
theorem NdOk.node : ∀ {q : Nat} {c : GT It q}, NdOk iso m Z q c → ∃ iv ib io isp a1 a2 a4, (c.id, 0, [a1, a2, iv, a4]) ∈ Z ∧ (ib, io, c.nd.its.flatMap enc ++ isp) ∈ Z ∧ Own 1 iv c.nd.its.length ib io (c.nd.its.flatMap enc) isp
  | 0, (d : Nd It), N => by
    obtain ⟨z1, z2⟩ := allZ_leaf N.2.2; exact ⟨_, _, _, _, _, _, _, z1, z2, N.1.wf.1⟩
  | q + 1, c, N => by
    obtain ⟨z1, z2, _⟩ := allZ_inner (d := c.1) (ts := c.2) N.2.2; exact ⟨_, _, _, _, _, _, _, z1, z2, N.1.wf.1.1⟩
theorem Pl.spot (m3 : 3 ≤ m) (N : NdOk iso m Z k t) {F : List (Nat × Int)} {n : Nat} {y : It} (pl : Pl t F n y) : ∃ (F' : List (Nat × Int)) (q : Nat) (c : GT It q) (i : Nat), F = F' ++ [(c.id, (i : Int))] ∧ NdOk iso m Z q c ∧ c.nd.its[i]? = some y ∧ F'.length + q = k := by
  cases pl with
  | leaf u hy => exact ⟨_, 0, _, _, rfl, N.up m3 u, hy, u.len⟩
  | inner u hy hc => exact ⟨_, _, _, _, rfl, N.up m3 u, hy, u.len⟩
theorem First_tail {F : List (Nat × Int)} {n b o : Nat} {x y : It} {sk as_ ae : Bool} {sv : Value} {sp : List Value} (m3 : 3 ≤ m) (hk : k ≤ 4294967296) (N : NdOk iso m Z k t) (pl : Pl t F n y) (w : Own 2 sv F.length b o (F.flatMap frC) sp) (s : St h0 Z ((ti, to, itC tb sk as_ ae sv x) :: (b, o, F.flatMap frC ++ sp) :: E) h)
    (H : ∀ h', St h0 Z ((ti, to, itC tb sk as_ ae sv y) :: (b, o, F.flatMap frC ++ sp) :: E) h' → Q (.bool true) h') : MapIter_iu_First.j3 (ptr ti to) h Q := by
  obtain ⟨F', q, c, i, rfl, Nc, hy, hq⟩ := Pl.spot m3 N pl; obtain ⟨iv, ib, io, isp, a1, a2, a4, z1, z2, wi⟩ := Nc.node
  have hi := (List.getElem?_eq_some_iff.1 hy).1
  have hl : (F' ++ [(c.id, (i : Int))]).length = F'.length + 1 := by rw [List.length_append]; rfl
  unfold MapIter_iu_First.j3; refine r_nil (r_fld ?_)
  refine St.r_load1 s 0 (j := 5) rfl rfl ?_; refine r_nil (r_fld ?_)
  refine St.r_load1 s 0 (j := 5) rfl rfl ?_; refine w.lenV ?_; refine r_sub1 (by omega) (by omega) ?_; refine w.idx (n := F'.length) (by omega) (by omega) ?_; refine r_nil (r_fld ?_)
  refine s.ldF0 1 rfl ?_; refine r_nil (r_fld ?_)
  refine s.r_lz0 z1 (j := 2) rfl ?_; refine r_nil (r_fld ?_)
  refine s.ldF1 1 rfl ?_; refine wi.idx (n := i) rfl hi ?_; refine s.r_loadFZ encl z2 hy ?_; refine r_nil (r_fld ?_)
  refine St.r_storeN s 0 (j := 6) rfl (encl y) (by simp [itC]) (enc1 y) ?_; intro h s
  exact H h s
theorem First_left {q : Nat} {c : GT It q} {F : List (Nat × Int)} {A B : List It} {n b o : Nat} {x : It} {sk as_ ae : Bool} {sv : Value} {sp : List Value} (m3 : 3 ≤ m) (hk : k ≤ 4294967296) (N : NdOk iso m Z k t) (u : Up t F q c A B) (hn : A.length = n) (w : Own 2 sv F.length b o (F.flatMap frC) sp) (s : St h0 Z ((ti, to, itC tb sk as_ ae sv x) :: (b, o, (F).flatMap frC ++ sp) :: E) h)
    (H : ∀ F' y b' o' sp' sv' R h', Pl t F' n y → Own 2 sv' F'.length b' o' (F'.flatMap frC) sp' → St h0 Z ((ti, to, itC tb sk as_ ae sv' y) :: (b', o', (F').flatMap frC ++ sp') :: (R ++ E)) h' → Q (.bool true) h') : loopC (fun c s h K1 => MapIter_iu_First.l4.b (c.getD 0 undef) (s.getD 0 undef) h K1 Q) [ptr ti to] [ptr c.id 0] h := by
  refine loop_ghost (fun q st h' => ∃ (c : GT It q) (F : List (Nat × Int)) (A B : List It) (sv : Value) (b o : Nat) (sp : List Value) (R : List Rg), st = [ptr c.id 0] ∧ Up t F q c A B ∧ A.length = n ∧ Own 2 sv F.length b o (F.flatMap frC) sp ∧ St h0 Z ((ti, to, itC tb sk as_ ae sv x) :: (b, o, (F).flatMap frC ++ sp) :: (R ++ E)) h') (n0 := q) ⟨c, F, A, B, sv, b, o, sp, [], rfl, u, hn, w, s⟩ ?_; clear s w hn u
  rintro q st h ⟨c, F, A, B, sv, b, o, sp, R, rfl, u, hn, w, s⟩ K HK
  have Nc := N.up m3 u
  have hFl := u.len
  unfold MapIter_iu_First.l4.b; refine r_nil (r_fld ?_)
  refine St.r_load1 s 0 (j := 5) rfl rfl ?_; refine r_build (cs := frC (c.id, (0 : Int))) (by ((simp only [fillV, fill1, Value.cells, zeros_succ, zeros_zero, size_toArray, length_cons, length_nil, length_append, take_succ_cons, take_zero, take_nil, drop_succ_cons, drop_zero, drop_nil, cons_append, nil_append, append_nil, Nat.reduceAdd, Nat.reduceMul, Nat.reduceLeDiff, Nat.reduceEqDiff, and_self, and_true, true_and, if_true, Nat.le_refl, Nat.zero_add, Nat.add_zero, Nat.zero_mul, reduceIte, if_false] <;> rfl))) ?_; refine St.r_mkSl (sz := 2) (cs := frC (c.id, (0 : Int))) s (by ((simp only [fillV, fill1, Value.cells, zeros_succ, zeros_zero, size_toArray, length_cons, length_nil, length_append, take_succ_cons, take_zero, take_nil, drop_succ_cons, drop_zero, drop_nil, cons_append, nil_append, append_nil, Nat.reduceAdd, Nat.reduceMul, Nat.reduceLeDiff, Nat.reduceEqDiff, and_self, and_true, true_and, if_true, Nat.le_refl, Nat.zero_add, Nat.add_zero, Nat.zero_mul, reduceIte, if_false] <;> rfl))) rfl fun q5 h s wq => ?_; refine s.r_appL (f := frC) (L := F) (M := [(c.id, (0 : Int))]) 2 rfl w rfl (by have := wq.rdl s 0 (by rw [List.append_nil]; rfl); simpa using this) (fun y _ => fc1 y) (by rw [List.length_singleton]; omega) (by rw [List.length_singleton]; omega) fun sv' b' o' sp' h s w' => ?_; refine r_nil (r_fld ?_)
  refine St.r_store1 s 1 (j := 5) rfl (by simp [itC]) w'.one ?_; intro h s
  have s : St h0 Z ((q5, 0, frC (c.id, (0 : Int))) :: (ti, to, itC tb sk as_ ae sv' x) :: (b', o', (F ++ [(c.id, (0 : Int))]).flatMap frC ++ sp') :: (R ++ E)) h := s
  have s : St h0 Z ((ti, to, itC tb sk as_ ae sv' x) :: (b', o', (F ++ [(c.id, (0 : Int))]).flatMap frC ++ sp') :: (((q5, 0, frC (c.id, (0 : Int))) :: R) ++ E)) h := s.perm (by ((apply perm_rg; intro f; simp only [set_cons_zero, set_cons_succ, eraseIdx_cons_zero, eraseIdx_cons_succ, cons_append, nil_append, map_append, map_cons, map_nil, List.sum_append, List.sum_cons, List.sum_nil, map_flatMap, Nat.add_zero, Nat.zero_add]; ac_rfl)))
  cases q with
  | zero =>
    obtain ⟨z1, z2⟩ := allZ_leaf Nc.2.2
    have h1 := Nc.its.1
    refine leaf_ok (a := none) (s.clz z1 3 rfl rfl) ?_; refine r_if (fun _ => ?_) (fun e => absurd e (by simp))
    have hy : c.nd.its[0]? = some (c.nd.its[0]'h1) := List.getElem?_eq_getElem _
    have pl : Pl t (F ++ [(c.id, (0 : Int))]) n (c.nd.its[0]'h1) := by
      have := Pl.leaf u hy
      rw [hn] at this; exact this
    exact First_tail m3 hk N pl w' s fun h' s' => H _ _ b' o' sp' sv' _ h' pl w' s'
  | succ q =>
    obtain ⟨z1, z2, z3, z4, z5⟩ := allZ_inner (d := c.1) (ts := c.2) Nc.2.2
    have wK : Own 1 c.1.kv c.2.length c.1.krb c.1.kro ((c.2.map GT.id).map fun m => ptr m 0) c.1.ksp := Nc.1.wf.2.1
    have hlen := Nc.len
    have hc : c.2[0]? = some (c.2[0]'(by omega)) := List.getElem?_eq_getElem _
    refine leaf_ok (a := some ⟨c.1.kb, 0, none⟩) (s.clz z1 3 rfl rfl) ?_; refine r_if (fun e => absurd e (by simp)) (fun _ => ?_)
    unfold MapIter_iu_First.j5; refine r_nil (r_fld ?_)
    refine St.r_load1 s 0 (j := 0) rfl rfl ?_; refine r_nil (r_fld ?_)
    refine s.r_lz0 z1 (j := 3) rfl ?_; refine r_nil ?_; refine s.r_lz0 z3 (j := 0) rfl ?_; refine wK.idx (n := 0) rfl (by omega) ?_; refine r_nil (r_fld ?_)
    refine St.r_load1 s 0 (j := 1) rfl rfl ?_; refine isoLoad_ro (kidcell z4 hc s) ?_; exact HK q _ _ (Nat.lt_succ_self q) ⟨_, _, _, _, sv', b', o', sp', (q5, 0, frC (c.id, (0 : Int))) :: R, rfl, Up.down u hc, by rw [GT.lef0, List.append_nil]; exact hn, w', s⟩
theorem Last_tail {F : List (Nat × Int)} {n b o : Nat} {x y : It} {sk as_ ae : Bool} {sv : Value} {sp : List Value} (m3 : 3 ≤ m) (hk : k ≤ 4294967296) (N : NdOk iso m Z k t) (pl : Pl t F n y) (w : Own 2 sv F.length b o (F.flatMap frC) sp) (s : St h0 Z ((ti, to, itC tb sk as_ ae sv x) :: (b, o, F.flatMap frC ++ sp) :: E) h)
    (H : ∀ h', St h0 Z ((ti, to, itC tb sk as_ ae sv y) :: (b, o, F.flatMap frC ++ sp) :: E) h' → Q (.bool true) h') : MapIter_iu_Last.j3 (ptr ti to) h Q := by
  obtain ⟨F', q, c, i, rfl, Nc, hy, hq⟩ := Pl.spot m3 N pl; obtain ⟨iv, ib, io, isp, a1, a2, a4, z1, z2, wi⟩ := Nc.node
  have hi := (List.getElem?_eq_some_iff.1 hy).1
  have hl : (F' ++ [(c.id, (i : Int))]).length = F'.length + 1 := by rw [List.length_append]; rfl
  unfold MapIter_iu_Last.j3; refine r_nil (r_fld ?_)
  refine St.r_load1 s 0 (j := 5) rfl rfl ?_; refine r_nil (r_fld ?_)
  refine St.r_load1 s 0 (j := 5) rfl rfl ?_; refine w.lenV ?_; refine r_sub1 (by omega) (by omega) ?_; refine w.idx (n := F'.length) (by omega) (by omega) ?_; refine r_nil (r_fld ?_)
  refine s.ldF0 1 rfl ?_; refine r_nil (r_fld ?_)
  refine s.r_lz0 z1 (j := 2) rfl ?_; refine r_nil (r_fld ?_)
  refine s.ldF1 1 rfl ?_; refine wi.idx (n := i) rfl hi ?_; refine s.r_loadFZ encl z2 hy ?_; refine r_nil (r_fld ?_)
  refine St.r_storeN s 0 (j := 6) rfl (encl y) (by simp [itC]) (enc1 y) ?_; intro h s
  exact H h s
theorem Last_right {q : Nat} {c : GT It q} {F : List (Nat × Int)} {A B : List It} {n b o : Nat} {x : It} {sk as_ ae : Bool} {sv : Value} {sp : List Value} (m3 : 3 ≤ m) (hk : k ≤ 4294967296) (hm : m ≤ 1024) (N : NdOk iso m Z k t) (u : Up t F q c A B) (hn : A.length + c.pt.items.length = n + 1) (w : Own 2 sv F.length b o (F.flatMap frC) sp) (s : St h0 Z ((ti, to, itC tb sk as_ ae sv x) :: (b, o, (F).flatMap frC ++ sp) :: E) h)
    (H : ∀ F' y b' o' sp' sv' R h', Pl t F' n y → Own 2 sv' F'.length b' o' (F'.flatMap frC) sp' → St h0 Z ((ti, to, itC tb sk as_ ae sv' y) :: (b', o', (F').flatMap frC ++ sp') :: (R ++ E)) h' → Q (.bool true) h') : loopC (fun c s h K1 => MapIter_iu_Last.l4.b (c.getD 0 undef) (s.getD 0 undef) h K1 Q) [ptr ti to] [ptr c.id 0] h := by
  refine loop_ghost (fun q st h' => ∃ (c : GT It q) (F : List (Nat × Int)) (A B : List It) (sv : Value) (b o : Nat) (sp : List Value) (R : List Rg), st = [ptr c.id 0] ∧ Up t F q c A B ∧ A.length + c.pt.items.length = n + 1 ∧ Own 2 sv F.length b o (F.flatMap frC) sp ∧ St h0 Z ((ti, to, itC tb sk as_ ae sv x) :: (b, o, (F).flatMap frC ++ sp) :: (R ++ E)) h') (n0 := q) ⟨c, F, A, B, sv, b, o, sp, [], rfl, u, hn, w, s⟩ ?_; clear s w hn u
  rintro q st h ⟨c, F, A, B, sv, b, o, sp, R, rfl, u, hn, w, s⟩ K HK
  have Nc := N.up m3 u
  have hFl := u.len
  obtain ⟨iv, ib, io, isp, a1, a2, a4, y1, y2, wi⟩ := Nc.node
  have hil := Nc.its
  unfold MapIter_iu_Last.l4.b; refine r_nil (r_fld ?_)
  refine St.r_load1 s 0 (j := 5) rfl rfl ?_; refine r_nil (r_fld ?_)
  refine s.r_lz0 y1 (j := 2) rfl ?_; refine wi.lenV ?_; refine r_build (cs := frC (c.id, (c.nd.its.length : Int))) (by ((simp only [fillV, fill1, Value.cells, zeros_succ, zeros_zero, size_toArray, length_cons, length_nil, length_append, take_succ_cons, take_zero, take_nil, drop_succ_cons, drop_zero, drop_nil, cons_append, nil_append, append_nil, Nat.reduceAdd, Nat.reduceMul, Nat.reduceLeDiff, Nat.reduceEqDiff, and_self, and_true, true_and, if_true, Nat.le_refl, Nat.zero_add, Nat.add_zero, Nat.zero_mul, reduceIte, if_false] <;> rfl))) ?_; refine St.r_mkSl (sz := 2) (cs := frC (c.id, (c.nd.its.length : Int))) s (by ((simp only [fillV, fill1, Value.cells, zeros_succ, zeros_zero, size_toArray, length_cons, length_nil, length_append, take_succ_cons, take_zero, take_nil, drop_succ_cons, drop_zero, drop_nil, cons_append, nil_append, append_nil, Nat.reduceAdd, Nat.reduceMul, Nat.reduceLeDiff, Nat.reduceEqDiff, and_self, and_true, true_and, if_true, Nat.le_refl, Nat.zero_add, Nat.add_zero, Nat.zero_mul, reduceIte, if_false] <;> rfl))) rfl fun q5 h s wq => ?_; refine ⟨St.r_still1 s 1 (j := 5) rfl rfl, ?_⟩
  refine s.r_appL (f := frC) (L := F) (M := [(c.id, (c.nd.its.length : Int))]) 2 rfl w rfl (by have := wq.rdl s 0 (by rw [List.append_nil]; rfl); simpa using this) (fun y _ => fc1 y) (by rw [List.length_singleton]; omega) (by rw [List.length_singleton]; omega) fun sv' b' o' sp' h s w' => ?_; refine r_nil (r_fld ?_)
  refine St.r_store1 s 1 (j := 5) rfl (by simp [itC]) w'.one ?_; intro h s
  have s : St h0 Z ((q5, 0, frC (c.id, (c.nd.its.length : Int))) :: (ti, to, itC tb sk as_ ae sv' x) :: (b', o', (F ++ [(c.id, (c.nd.its.length : Int))]).flatMap frC ++ sp') :: (R ++ E)) h := s
  have s : St h0 Z ((ti, to, itC tb sk as_ ae sv' x) :: (b', o', (F ++ [(c.id, (c.nd.its.length : Int))]).flatMap frC ++ sp') :: (((q5, 0, frC (c.id, (c.nd.its.length : Int))) :: R) ++ E)) h := s.perm (by ((apply perm_rg; intro f; simp only [set_cons_zero, set_cons_succ, eraseIdx_cons_zero, eraseIdx_cons_succ, cons_append, nil_append, map_append, map_cons, map_nil, List.sum_append, List.sum_cons, List.sum_nil, map_flatMap, Nat.add_zero, Nat.zero_add]; ac_rfl)))
  have hl : (F ++ [(c.id, (c.nd.its.length : Int))]).length = F.length + 1 := by rw [List.length_append]; rfl
  cases q with
  | zero =>
    obtain ⟨z1, z2⟩ := allZ_leaf Nc.2.2; refine leaf_ok (a := none) (s.clz z1 3 rfl rfl) ?_; refine r_if (fun _ => ?_) (fun e => absurd e (by simp))
    refine r_nil (r_fld ?_)
    refine St.r_load1 s 0 (j := 5) rfl rfl ?_; refine r_nil (r_fld ?_)
    refine St.r_load1 s 0 (j := 5) rfl rfl ?_; refine w'.lenV ?_; refine r_sub1 (by omega) (by omega) ?_; refine w'.idx (n := F.length) (by omega) (by omega) ?_; refine r_fld ?_; refine s.ldF1 1 rfl ?_; refine r_sub (z := ((c.nd.its.length - 1 : Nat) : Int)) (by rw [i64w (by omega) (by omega)]; omega) ?_; refine w'.idx (n := F.length) (by omega) (by omega) ?_; refine r_fld ?_; refine s.stF1 1 rfl ?_; intro h s
    have hy : c.nd.its[c.nd.its.length - 1]? = some (c.nd.its[c.nd.its.length - 1]'(by omega)) := List.getElem?_eq_getElem _
    have pl : Pl t (F ++ [(c.id, ((c.nd.its.length - 1 : Nat) : Int))]) n (c.nd.its[c.nd.its.length - 1]'(by omega)) := by
      have := Pl.leaf u hy
      have e : A.length + (c.nd.its.length - 1) = n := by
        have : A.length + c.nd.its.length = n + 1 := hn
        omega
      rw [e] at this; exact this
    have w2 : Own 2 sv' (F ++ [(c.id, ((c.nd.its.length - 1 : Nat) : Int))]).length b' o' ((F ++ [(c.id, ((c.nd.its.length - 1 : Nat) : Int))]).flatMap frC) sp' := w'.list fcl (by rw [List.length_append, List.length_append]; rfl)
    exact Last_tail m3 hk N pl w2 s fun h' s' => H _ _ b' o' sp' sv' _ h' pl w2 s'
  | succ q =>
    obtain ⟨z1, z2, z3, z4, z5⟩ := allZ_inner (d := c.1) (ts := c.2) Nc.2.2
    have wK : Own 1 c.1.kv c.2.length c.1.krb c.1.kro ((c.2.map GT.id).map fun m => ptr m 0) c.1.ksp := Nc.1.wf.2.1
    have hlen := Nc.len
    have hc : c.2[c.1.its.length]? = some (c.2[c.1.its.length]'(by omega)) := List.getElem?_eq_getElem _
    refine leaf_ok (a := some ⟨c.1.kb, 0, none⟩) (s.clz z1 3 rfl rfl) ?_; refine r_if (fun e => absurd e (by simp)) (fun _ => ?_)
    unfold MapIter_iu_Last.j5; refine r_nil (r_fld ?_)
    refine St.r_load1 s 0 (j := 0) rfl rfl ?_; refine r_nil (r_fld ?_)
    refine s.r_lz0 z1 (j := 3) rfl ?_; refine r_nil ?_; refine s.r_lz0 z3 (j := 0) rfl ?_; refine r_nil (r_fld ?_)
    refine s.r_lz0 z1 (j := 2) rfl ?_
    have wi2 : Own 1 c.1.iv c.1.its.length c.1.ib c.1.io (c.1.its.flatMap enc) c.1.isp := Nc.1.wf.1.1
    refine wi2.lenV ?_; refine wK.idx (n := c.1.its.length) rfl (by omega) ?_; refine r_nil (r_fld ?_)
    refine St.r_load1 s 0 (j := 1) rfl rfl ?_; refine isoLoad_ro (kidcell z4 hc s) ?_; refine HK q _ _ (Nat.lt_succ_self q) ⟨_, _, _, _, sv', b', o', sp', (q5, 0, frC (c.id, (c.nd.its.length : Int))) :: R, rfl, Up.down u hc, ?_, w', s⟩
    have e1 := GT.round c hlen hc
    rw [GT.rigE c (Nat.le_refl _), List.append_nil] at e1; rw [e1] at hn; rw [List.length_append]; rw [List.length_append] at hn
    omega
inductive Pos where
  | new : Pos
  | off : Pos
  | at' : Nat → Pos
def ItAt (g : Rt) (tb ti to : Nat) (ps : Pos) (A : List Rg) : Prop := ∃ (sk as_ ae : Bool) (sv : Value) (x : It) (b o : Nat) (F : List (Nat × Int)) (sp : List Value) (R : List Rg), Own 2 sv F.length b o (F.flatMap frC) sp ∧ A = (ti, to, itC tb sk as_ ae sv x) :: (b, o, (F).flatMap frC ++ sp) :: R ∧
  match ps with
  | .new => sk = false ∧ F = []
  | .off => sk = true ∧ F = []
  | .at' n => sk = true ∧ ∃ t, g = some t ∧ Pl t.2 F n x
theorem PT.tall {m : Nat} (hm : 3 ≤ m) : ∀ {k lo : Nat} {t : PT It k}, t.Fl m lo → 1 ≤ lo → k < t.items.length
  | 0, lo, t, f, hl => by have f : lo ≤ List.length (α := It) t := f.1; show 0 < List.length (α := It) t; omega
  | k + 1, lo, t, f, hl => by
    have h1 := f.1
    have h2 := f.2.2.1
    cases e : t.2 with
    | nil => rw [e] at h2; simp at h2
    | cons c r =>
      have hc := PT.tall hm (f.2.2.2 c (by rw [e]; simp)) (by omega)
      have h3 : (inter t.1 (t.2.map PT.items)).length = _ := inter_length _ _
      show k + 1 < (inter t.1 (t.2.map PT.items)).length
      rw [h3, e]
      simp only [List.map_cons, List.sum_cons]
      omega
structure Tr (Z : List Rg) (g : Rt) (tb m : Nat) : Prop where
  hd : ∃ iso ctr cnt mn mx, (tb, 0, hdr iso ctr (rA g) cnt mn mx) ∈ Z
  nd : ∃ iso, ∀ t, g = some t → NdOk iso m Z t.1 t.2
  asc : Asc lt (rPt g).items
  m3 : 3 ≤ m
  m1 : m ≤ 1024
  few : (rPt g).items.length ≤ 4294967296
theorem Tr.ne {g : Rt} (T : Tr Z g tb m) {t : (k : Nat) × GT It k} (e : g = some t) : 0 < (rPt g).items.length ∧ t.1 ≤ 4294967296 := by
  subst e; obtain ⟨iso, hn⟩ := T.nd
  have hk : t.1 < t.2.pt.items.length := PT.tall T.m3 (hn t rfl).2.1 (Nat.le_refl 1)
  have hf : t.2.pt.items.length ≤ 4294967296 := T.few
  exact ⟨by show 0 < t.2.pt.items.length; omega, by omega⟩
theorem First_ok {g : Rt} {ps : Pos} {A : List Rg} (T : Tr Z g tb m) (I : ItAt g tb ti to ps A) (s : St h0 Z (A ++ E) h)
    (H0 : (rPt g).items = [] → ∀ A' h', ItAt g tb ti to .off A' → St h0 Z (A' ++ E) h' → Q (.bool false) h')
    (H1 : 0 < (rPt g).items.length → ∀ A' h', ItAt g tb ti to (.at' 0) A' → St h0 Z (A' ++ E) h' → Q (.bool true) h') : MapIter_iu_First.call #[ptr ti to] h Q := by
  obtain ⟨sk, as_, ae, sv, x, b, o, F, sp, R, w, rfl, -⟩ := I; obtain ⟨iso, ctr, cnt, mn, mx, hT⟩ := T.hd
  have s : St h0 Z ((ti, to, itC tb sk as_ ae sv x) :: (b, o, (F).flatMap frC ++ sp) :: (R ++ E)) h := s
  refine MapIter_iu_First.body _ _ _ ?_; unfold MapIter_iu_First.sh; refine r_nil (r_fld ?_)
  refine St.r_load1 s 0 (j := 0) rfl rfl ?_; refine ⟨_, rfl, ?_⟩
  refine r_if (fun e => absurd e (by simp)) (fun _ => ?_)
  unfold MapIter_iu_First.j1; refine r_nil (r_fld ?_)
  refine St.r_store1 s 0 (j := 4) rfl (by simp [itC]) rfl ?_; intro h s
  refine r_nil (r_fld ?_)
  refine St.r_store1 s 0 (j := 3) rfl (by simp [itC]) rfl ?_; intro h s
  refine r_nil (r_fld ?_)
  refine St.r_store1 s 0 (j := 2) rfl (by simp [itC]) rfl ?_; intro h s
  refine r_nil (r_fld ?_)
  refine St.r_load1 s 0 (j := 5) rfl rfl ?_; refine w.slcHi fcl (i := 0) rfl (Nat.zero_le _) fun sv' w' => ?_; rw [List.take_zero, List.drop_zero] at w'; refine r_nil (r_fld ?_)
  refine St.r_store1 s 0 (j := 5) rfl (by simp [itC]) w'.one ?_; intro h s
  have s : St h0 Z ((ti, to, itC tb true false false sv' x) :: (b, o, ([]).flatMap frC ++ (F.flatMap frC ++ sp)) :: (R ++ E)) h := s
  refine r_nil (r_fld ?_)
  refine St.r_load1 s 0 (j := 0) rfl rfl ?_; refine r_nil (r_fld ?_)
  refine s.r_lz0 hT (j := 2) rfl ?_; refine ⟨_, rfl, ?_⟩
  cases g with
  | none =>
    refine r_if (fun _ => ?_) (fun e => absurd e (by simp [rA]))
    refine H0 rfl _ h ⟨true, false, false, sv', x, b, o, [], F.flatMap frC ++ sp, R, w', rfl, rfl, rfl⟩ ?_; exact s
  | some t =>
    obtain ⟨hne, hk⟩ := T.ne rfl; obtain ⟨iso', hn⟩ := T.nd
    have N := hn t rfl
    refine r_if (fun e => absurd e (by simp [rA])) (fun _ => ?_)
    unfold MapIter_iu_First.j2; refine r_nil (r_fld ?_)
    refine St.r_load1 s 0 (j := 0) rfl rfl ?_; refine r_nil (r_fld ?_)
    refine St.r_load1 s 0 (j := 0) rfl rfl ?_; refine r_nil (r_fld ?_)
    refine r_nil (r_fld ?_)
    refine St.r_load1 s 0 (j := 1) rfl rfl ?_; refine isoLoad_ro (n := t.2.id) (s.clz hT 2 rfl rfl) ?_; refine First_left (sk := true) (as_ := false) (ae := false) (E := R ++ E) T.m3 hk N Up.top rfl w' s fun F' y b' o' sp' sv2 R' h' pl w2 s2 => ?_
    refine H1 hne _ h' ⟨true, false, false, sv2, y, b', o', F', sp', R' ++ R, w2, rfl, rfl, t, rfl, pl⟩ (s2.perm (by
      show List.Perm ((ti, to, itC tb true false false sv2 y) :: (b', o', (F').flatMap frC ++ sp') :: ((R' ++ R) ++ E)) ((ti, to, itC tb true false false sv2 y) :: (b', o', (F').flatMap frC ++ sp') :: (R' ++ (R ++ E)))
      ((apply perm_rg; intro f; simp only [set_cons_zero, set_cons_succ, eraseIdx_cons_zero, eraseIdx_cons_succ, cons_append, nil_append, map_append, map_cons, map_nil, List.sum_append, List.sum_cons, List.sum_nil, map_flatMap, Nat.add_zero, Nat.zero_add]; ac_rfl))))
theorem Last_ok {g : Rt} {ps : Pos} {A : List Rg} (T : Tr Z g tb m) (I : ItAt g tb ti to ps A) (s : St h0 Z (A ++ E) h)
    (H0 : (rPt g).items = [] → ∀ A' h', ItAt g tb ti to .off A' → St h0 Z (A' ++ E) h' → Q (.bool false) h')
    (H1 : 0 < (rPt g).items.length → ∀ A' h', ItAt g tb ti to (.at' ((rPt g).items.length - 1)) A' → St h0 Z (A' ++ E) h' → Q (.bool true) h') : MapIter_iu_Last.call #[ptr ti to] h Q := by
  obtain ⟨sk, as_, ae, sv, x, b, o, F, sp, R, w, rfl, -⟩ := I; obtain ⟨iso, ctr, cnt, mn, mx, hT⟩ := T.hd
  have s : St h0 Z ((ti, to, itC tb sk as_ ae sv x) :: (b, o, (F).flatMap frC ++ sp) :: (R ++ E)) h := s
  refine MapIter_iu_Last.body _ _ _ ?_; unfold MapIter_iu_Last.sh; refine r_nil (r_fld ?_)
  refine St.r_load1 s 0 (j := 0) rfl rfl ?_; refine ⟨_, rfl, ?_⟩
  refine r_if (fun e => absurd e (by simp)) (fun _ => ?_)
  unfold MapIter_iu_Last.j1; refine r_nil (r_fld ?_)
  refine St.r_store1 s 0 (j := 2) rfl (by simp [itC]) rfl ?_; intro h s
  refine r_nil (r_fld ?_)
  refine St.r_load1 s 0 (j := 5) rfl rfl ?_; refine w.slcHi fcl (i := 0) rfl (Nat.zero_le _) fun sv' w' => ?_; rw [List.take_zero, List.drop_zero] at w'; refine r_nil (r_fld ?_)
  refine St.r_store1 s 0 (j := 5) rfl (by simp [itC]) w'.one ?_; intro h s
  have s : St h0 Z ((ti, to, itC tb true as_ ae sv' x) :: (b, o, ([]).flatMap frC ++ (F.flatMap frC ++ sp)) :: (R ++ E)) h := s
  refine r_nil (r_fld ?_)
  refine St.r_load1 s 0 (j := 0) rfl rfl ?_; refine r_nil (r_fld ?_)
  refine s.r_lz0 hT (j := 2) rfl ?_; refine ⟨_, rfl, ?_⟩
  cases g with
  | none =>
    refine r_if (fun _ => ?_) (fun e => absurd e (by simp [rA]))
    refine H0 rfl _ h ⟨true, as_, ae, sv', x, b, o, [], F.flatMap frC ++ sp, R, w', rfl, rfl, rfl⟩ ?_; exact s
  | some t =>
    obtain ⟨hne, hk⟩ := T.ne rfl; obtain ⟨iso', hn⟩ := T.nd
    have N := hn t rfl
    refine r_if (fun e => absurd e (by simp [rA])) (fun _ => ?_)
    unfold MapIter_iu_Last.j2; refine r_nil (r_fld ?_)
    refine St.r_load1 s 0 (j := 0) rfl rfl ?_; refine r_nil (r_fld ?_)
    refine St.r_load1 s 0 (j := 0) rfl rfl ?_; refine r_nil (r_fld ?_)
    refine r_nil (r_fld ?_)
    refine St.r_load1 s 0 (j := 1) rfl rfl ?_; refine isoLoad_ro (n := t.2.id) (s.clz hT 2 rfl rfl) ?_; refine Last_right (sk := true) (as_ := as_) (ae := ae) (E := R ++ E) T.m3 hk T.m1 N Up.top (by have : 0 < t.2.pt.items.length := hne; show 0 + t.2.pt.items.length = (t.2.pt.items.length - 1) + 1; omega) w' s fun F' y b' o' sp' sv2 R' h' pl w2 s2 => ?_
    refine H1 hne _ h' ⟨true, as_, ae, sv2, y, b', o', F', sp', R' ++ R, w2, rfl, rfl, t, rfl, pl⟩ (s2.perm (by
      show List.Perm ((ti, to, itC tb true as_ ae sv2 y) :: (b', o', (F').flatMap frC ++ sp') :: ((R' ++ R) ++ E)) ((ti, to, itC tb true as_ ae sv2 y) :: (b', o', (F').flatMap frC ++ sp') :: (R' ++ (R ++ E)))
      ((apply perm_rg; intro f; simp only [set_cons_zero, set_cons_succ, eraseIdx_cons_zero, eraseIdx_cons_succ, cons_append, nil_append, map_append, map_cons, map_nil, List.sum_append, List.sum_cons, List.sum_nil, map_flatMap, Nat.add_zero, Nat.zero_add]; ac_rfl))))
end Go.Proofs.Ytdpkpcmoabfofaa.Iu
end
section
namespace Go.Proofs.Ytdpkpcmoabfofaa.Iu
open Go.Hp Go.Proofs.Ytdpkpcmoabfofaa
variable {h0 h : Heap} {Z E : List Rg} {Q : Value → Heap → Prop}
variable {k m tb ti to : Nat} {iso : Int} {t : GT It k}
theorem Next_tail {F : List (Nat × Int)} {n b o : Nat} {x y : It} {sk as_ ae : Bool} {sv : Value} {sp : List Value} (m3 : 3 ≤ m) (hk : k ≤ 4294967296) (N : NdOk iso m Z k t) (pl : Pl t F n y) (w : Own 2 sv F.length b o (F.flatMap frC) sp) (s : St h0 Z ((ti, to, itC tb sk as_ ae sv x) :: (b, o, F.flatMap frC ++ sp) :: E) h)
    (H : ∀ h', St h0 Z ((ti, to, itC tb sk as_ ae sv y) :: (b, o, F.flatMap frC ++ sp) :: E) h' → Q (.bool true) h') : MapIter_iu_Next.j4 (ptr ti to) h Q := by
  obtain ⟨F', q, c, i, rfl, Nc, hy, hq⟩ := Pl.spot m3 N pl; obtain ⟨iv, ib, io, isp, a1, a2, a4, z1, z2, wi⟩ := Nc.node
  have hi := (List.getElem?_eq_some_iff.1 hy).1
  have hl : (F' ++ [(c.id, (i : Int))]).length = F'.length + 1 := by rw [List.length_append]; rfl
  unfold MapIter_iu_Next.j4; refine r_nil (r_fld ?_)
  refine St.r_load1 s 0 (j := 5) rfl rfl ?_; refine r_nil (r_fld ?_)
  refine St.r_load1 s 0 (j := 5) rfl rfl ?_; refine w.lenV ?_; refine r_sub1 (by omega) (by omega) ?_; refine w.idx (n := F'.length) (by omega) (by omega) ?_; refine r_nil (r_fld ?_)
  refine s.ldF0 1 rfl ?_; refine r_nil (r_fld ?_)
  refine s.r_lz0 z1 (j := 2) rfl ?_; refine r_nil (r_fld ?_)
  refine s.ldF1 1 rfl ?_; refine wi.idx (n := i) rfl hi ?_; refine s.r_loadFZ encl z2 hy ?_; refine r_nil (r_fld ?_)
  refine St.r_storeN s 0 (j := 6) rfl (encl y) (by simp [itC]) (enc1 y) ?_; intro h s
  exact H h s
theorem Next_left {q : Nat} {c : GT It q} {F : List (Nat × Int)} {A B : List It} {n b o : Nat} {x : It} {sk as_ ae : Bool} {sv : Value} {sp : List Value} (m3 : 3 ≤ m) (hk : k ≤ 4294967296) (N : NdOk iso m Z k t) (u : Up t F q c A B) (hn : A.length = n) (w : Own 2 sv F.length b o (F.flatMap frC) sp) (s : St h0 Z ((ti, to, itC tb sk as_ ae sv x) :: (b, o, (F).flatMap frC ++ sp) :: E) h)
    (H : ∀ F' y b' o' sp' sv' R h', Pl t F' n y → Own 2 sv' F'.length b' o' (F'.flatMap frC) sp' → St h0 Z ((ti, to, itC tb sk as_ ae sv' y) :: (b', o', (F').flatMap frC ++ sp') :: (R ++ E)) h' → Q (.bool true) h') : loopC (fun c s h K1 => MapIter_iu_Next.l7.b (c.getD 0 undef) (s.getD 0 undef) h K1 Q) [ptr ti to] [ptr c.id 0] h := by
  refine loop_ghost (fun q st h' => ∃ (c : GT It q) (F : List (Nat × Int)) (A B : List It) (sv : Value) (b o : Nat) (sp : List Value) (R : List Rg), st = [ptr c.id 0] ∧ Up t F q c A B ∧ A.length = n ∧ Own 2 sv F.length b o (F.flatMap frC) sp ∧ St h0 Z ((ti, to, itC tb sk as_ ae sv x) :: (b, o, (F).flatMap frC ++ sp) :: (R ++ E)) h') (n0 := q) ⟨c, F, A, B, sv, b, o, sp, [], rfl, u, hn, w, s⟩ ?_; clear s w hn u
  rintro q st h ⟨c, F, A, B, sv, b, o, sp, R, rfl, u, hn, w, s⟩ K HK
  have Nc := N.up m3 u
  have hFl := u.len
  unfold MapIter_iu_Next.l7.b; refine r_nil (r_fld ?_)
  refine St.r_load1 s 0 (j := 5) rfl rfl ?_; refine r_build (cs := frC (c.id, (0 : Int))) (by ((simp only [fillV, fill1, Value.cells, zeros_succ, zeros_zero, size_toArray, length_cons, length_nil, length_append, take_succ_cons, take_zero, take_nil, drop_succ_cons, drop_zero, drop_nil, cons_append, nil_append, append_nil, Nat.reduceAdd, Nat.reduceMul, Nat.reduceLeDiff, Nat.reduceEqDiff, and_self, and_true, true_and, if_true, Nat.le_refl, Nat.zero_add, Nat.add_zero, Nat.zero_mul, reduceIte, if_false] <;> rfl))) ?_; refine St.r_mkSl (sz := 2) (cs := frC (c.id, (0 : Int))) s (by ((simp only [fillV, fill1, Value.cells, zeros_succ, zeros_zero, size_toArray, length_cons, length_nil, length_append, take_succ_cons, take_zero, take_nil, drop_succ_cons, drop_zero, drop_nil, cons_append, nil_append, append_nil, Nat.reduceAdd, Nat.reduceMul, Nat.reduceLeDiff, Nat.reduceEqDiff, and_self, and_true, true_and, if_true, Nat.le_refl, Nat.zero_add, Nat.add_zero, Nat.zero_mul, reduceIte, if_false] <;> rfl))) rfl fun q5 h s wq => ?_; refine s.r_appL (f := frC) (L := F) (M := [(c.id, (0 : Int))]) 2 rfl w rfl (by have := wq.rdl s 0 (by rw [List.append_nil]; rfl); simpa using this) (fun y _ => fc1 y) (by rw [List.length_singleton]; omega) (by rw [List.length_singleton]; omega) fun sv' b' o' sp' h s w' => ?_; refine r_nil (r_fld ?_)
  refine St.r_store1 s 1 (j := 5) rfl (by simp [itC]) w'.one ?_; intro h s
  have s : St h0 Z ((q5, 0, frC (c.id, (0 : Int))) :: (ti, to, itC tb sk as_ ae sv' x) :: (b', o', (F ++ [(c.id, (0 : Int))]).flatMap frC ++ sp') :: (R ++ E)) h := s
  have s : St h0 Z ((ti, to, itC tb sk as_ ae sv' x) :: (b', o', (F ++ [(c.id, (0 : Int))]).flatMap frC ++ sp') :: (((q5, 0, frC (c.id, (0 : Int))) :: R) ++ E)) h := s.perm (by ((apply perm_rg; intro f; simp only [set_cons_zero, set_cons_succ, eraseIdx_cons_zero, eraseIdx_cons_succ, cons_append, nil_append, map_append, map_cons, map_nil, List.sum_append, List.sum_cons, List.sum_nil, map_flatMap, Nat.add_zero, Nat.zero_add]; ac_rfl)))
  cases q with
  | zero =>
    obtain ⟨z1, z2⟩ := allZ_leaf Nc.2.2
    have h1 := Nc.its.1
    refine leaf_ok (a := none) (s.clz z1 3 rfl rfl) ?_; refine r_if (fun _ => ?_) (fun e => absurd e (by simp))
    have hy : c.nd.its[0]? = some (c.nd.its[0]'h1) := List.getElem?_eq_getElem _
    have pl : Pl t (F ++ [(c.id, (0 : Int))]) n (c.nd.its[0]'h1) := by
      have := Pl.leaf u hy
      rw [hn] at this; exact this
    exact Next_tail m3 hk N pl w' s fun h' s' => H _ _ b' o' sp' sv' _ h' pl w' s'
  | succ q =>
    obtain ⟨z1, z2, z3, z4, z5⟩ := allZ_inner (d := c.1) (ts := c.2) Nc.2.2
    have wK : Own 1 c.1.kv c.2.length c.1.krb c.1.kro ((c.2.map GT.id).map fun m => ptr m 0) c.1.ksp := Nc.1.wf.2.1
    have hlen := Nc.len
    have hc : c.2[0]? = some (c.2[0]'(by omega)) := List.getElem?_eq_getElem _
    refine leaf_ok (a := some ⟨c.1.kb, 0, none⟩) (s.clz z1 3 rfl rfl) ?_; refine r_if (fun e => absurd e (by simp)) (fun _ => ?_)
    unfold MapIter_iu_Next.j8; refine r_nil (r_fld ?_)
    refine St.r_load1 s 0 (j := 0) rfl rfl ?_; refine r_nil (r_fld ?_)
    refine s.r_lz0 z1 (j := 3) rfl ?_; refine r_nil ?_; refine s.r_lz0 z3 (j := 0) rfl ?_; refine wK.idx (n := 0) rfl (by omega) ?_; refine r_nil (r_fld ?_)
    refine St.r_load1 s 0 (j := 1) rfl rfl ?_; refine isoLoad_ro (kidcell z4 hc s) ?_; exact HK q _ _ (Nat.lt_succ_self q) ⟨_, _, _, _, sv', b', o', sp', (q5, 0, frC (c.id, (0 : Int))) :: R, rfl, Up.down u hc, by rw [GT.lef0, List.append_nil]; exact hn, w', s⟩
theorem Prev_tail {F : List (Nat × Int)} {n b o : Nat} {x y : It} {sk as_ ae : Bool} {sv : Value} {sp : List Value} (m3 : 3 ≤ m) (hk : k ≤ 4294967296) (N : NdOk iso m Z k t) (pl : Pl t F n y) (w : Own 2 sv F.length b o (F.flatMap frC) sp) (s : St h0 Z ((ti, to, itC tb sk as_ ae sv x) :: (b, o, F.flatMap frC ++ sp) :: E) h)
    (H : ∀ h', St h0 Z ((ti, to, itC tb sk as_ ae sv y) :: (b, o, F.flatMap frC ++ sp) :: E) h' → Q (.bool true) h') : MapIter_iu_Prev.j4 (ptr ti to) h Q := by
  obtain ⟨F', q, c, i, rfl, Nc, hy, hq⟩ := Pl.spot m3 N pl; obtain ⟨iv, ib, io, isp, a1, a2, a4, z1, z2, wi⟩ := Nc.node
  have hi := (List.getElem?_eq_some_iff.1 hy).1
  have hl : (F' ++ [(c.id, (i : Int))]).length = F'.length + 1 := by rw [List.length_append]; rfl
  unfold MapIter_iu_Prev.j4; refine r_nil (r_fld ?_)
  refine St.r_load1 s 0 (j := 5) rfl rfl ?_; refine r_nil (r_fld ?_)
  refine St.r_load1 s 0 (j := 5) rfl rfl ?_; refine w.lenV ?_; refine r_sub1 (by omega) (by omega) ?_; refine w.idx (n := F'.length) (by omega) (by omega) ?_; refine r_nil (r_fld ?_)
  refine s.ldF0 1 rfl ?_; refine r_nil (r_fld ?_)
  refine s.r_lz0 z1 (j := 2) rfl ?_; refine r_nil (r_fld ?_)
  refine s.ldF1 1 rfl ?_; refine wi.idx (n := i) rfl hi ?_; refine s.r_loadFZ encl z2 hy ?_; refine r_nil (r_fld ?_)
  refine St.r_storeN s 0 (j := 6) rfl (encl y) (by simp [itC]) (enc1 y) ?_; intro h s
  exact H h s
theorem Prev_right {q : Nat} {c : GT It q} {F : List (Nat × Int)} {A B : List It} {n b o : Nat} {x : It} {sk as_ ae : Bool} {sv : Value} {sp : List Value} (m3 : 3 ≤ m) (hk : k ≤ 4294967296) (hm : m ≤ 1024) (N : NdOk iso m Z k t) (u : Up t F q c A B) (hn : A.length + c.pt.items.length = n + 1) (w : Own 2 sv F.length b o (F.flatMap frC) sp) (s : St h0 Z ((ti, to, itC tb sk as_ ae sv x) :: (b, o, (F).flatMap frC ++ sp) :: E) h)
    (H : ∀ F' y b' o' sp' sv' R h', Pl t F' n y → Own 2 sv' F'.length b' o' (F'.flatMap frC) sp' → St h0 Z ((ti, to, itC tb sk as_ ae sv' y) :: (b', o', (F').flatMap frC ++ sp') :: (R ++ E)) h' → Q (.bool true) h') : loopC (fun c s h K1 => MapIter_iu_Prev.l7.b (c.getD 0 undef) (s.getD 0 undef) h K1 Q) [ptr ti to] [ptr c.id 0] h := by
  refine loop_ghost (fun q st h' => ∃ (c : GT It q) (F : List (Nat × Int)) (A B : List It) (sv : Value) (b o : Nat) (sp : List Value) (R : List Rg), st = [ptr c.id 0] ∧ Up t F q c A B ∧ A.length + c.pt.items.length = n + 1 ∧ Own 2 sv F.length b o (F.flatMap frC) sp ∧ St h0 Z ((ti, to, itC tb sk as_ ae sv x) :: (b, o, (F).flatMap frC ++ sp) :: (R ++ E)) h') (n0 := q) ⟨c, F, A, B, sv, b, o, sp, [], rfl, u, hn, w, s⟩ ?_; clear s w hn u
  rintro q st h ⟨c, F, A, B, sv, b, o, sp, R, rfl, u, hn, w, s⟩ K HK
  have Nc := N.up m3 u
  have hFl := u.len
  obtain ⟨iv, ib, io, isp, a1, a2, a4, y1, y2, wi⟩ := Nc.node
  have hil := Nc.its
  unfold MapIter_iu_Prev.l7.b; refine r_nil (r_fld ?_)
  refine St.r_load1 s 0 (j := 5) rfl rfl ?_; refine r_nil (r_fld ?_)
  refine s.r_lz0 y1 (j := 2) rfl ?_; refine wi.lenV ?_; refine r_build (cs := frC (c.id, (c.nd.its.length : Int))) (by ((simp only [fillV, fill1, Value.cells, zeros_succ, zeros_zero, size_toArray, length_cons, length_nil, length_append, take_succ_cons, take_zero, take_nil, drop_succ_cons, drop_zero, drop_nil, cons_append, nil_append, append_nil, Nat.reduceAdd, Nat.reduceMul, Nat.reduceLeDiff, Nat.reduceEqDiff, and_self, and_true, true_and, if_true, Nat.le_refl, Nat.zero_add, Nat.add_zero, Nat.zero_mul, reduceIte, if_false] <;> rfl))) ?_; refine St.r_mkSl (sz := 2) (cs := frC (c.id, (c.nd.its.length : Int))) s (by ((simp only [fillV, fill1, Value.cells, zeros_succ, zeros_zero, size_toArray, length_cons, length_nil, length_append, take_succ_cons, take_zero, take_nil, drop_succ_cons, drop_zero, drop_nil, cons_append, nil_append, append_nil, Nat.reduceAdd, Nat.reduceMul, Nat.reduceLeDiff, Nat.reduceEqDiff, and_self, and_true, true_and, if_true, Nat.le_refl, Nat.zero_add, Nat.add_zero, Nat.zero_mul, reduceIte, if_false] <;> rfl))) rfl fun q5 h s wq => ?_; refine ⟨St.r_still1 s 1 (j := 5) rfl rfl, ?_⟩
  refine s.r_appL (f := frC) (L := F) (M := [(c.id, (c.nd.its.length : Int))]) 2 rfl w rfl (by have := wq.rdl s 0 (by rw [List.append_nil]; rfl); simpa using this) (fun y _ => fc1 y) (by rw [List.length_singleton]; omega) (by rw [List.length_singleton]; omega) fun sv' b' o' sp' h s w' => ?_; refine r_nil (r_fld ?_)
  refine St.r_store1 s 1 (j := 5) rfl (by simp [itC]) w'.one ?_; intro h s
  have s : St h0 Z ((q5, 0, frC (c.id, (c.nd.its.length : Int))) :: (ti, to, itC tb sk as_ ae sv' x) :: (b', o', (F ++ [(c.id, (c.nd.its.length : Int))]).flatMap frC ++ sp') :: (R ++ E)) h := s
  have s : St h0 Z ((ti, to, itC tb sk as_ ae sv' x) :: (b', o', (F ++ [(c.id, (c.nd.its.length : Int))]).flatMap frC ++ sp') :: (((q5, 0, frC (c.id, (c.nd.its.length : Int))) :: R) ++ E)) h := s.perm (by ((apply perm_rg; intro f; simp only [set_cons_zero, set_cons_succ, eraseIdx_cons_zero, eraseIdx_cons_succ, cons_append, nil_append, map_append, map_cons, map_nil, List.sum_append, List.sum_cons, List.sum_nil, map_flatMap, Nat.add_zero, Nat.zero_add]; ac_rfl)))
  have hl : (F ++ [(c.id, (c.nd.its.length : Int))]).length = F.length + 1 := by rw [List.length_append]; rfl
  cases q with
  | zero =>
    obtain ⟨z1, z2⟩ := allZ_leaf Nc.2.2; refine leaf_ok (a := none) (s.clz z1 3 rfl rfl) ?_; refine r_if (fun _ => ?_) (fun e => absurd e (by simp))
    refine r_nil (r_fld ?_)
    refine St.r_load1 s 0 (j := 5) rfl rfl ?_; refine r_nil (r_fld ?_)
    refine St.r_load1 s 0 (j := 5) rfl rfl ?_; refine w'.lenV ?_; refine r_sub1 (by omega) (by omega) ?_; refine w'.idx (n := F.length) (by omega) (by omega) ?_; refine r_fld ?_; refine s.ldF1 1 rfl ?_; refine r_sub (z := ((c.nd.its.length - 1 : Nat) : Int)) (by rw [i64w (by omega) (by omega)]; omega) ?_; refine w'.idx (n := F.length) (by omega) (by omega) ?_; refine r_fld ?_; refine s.stF1 1 rfl ?_; intro h s
    have hy : c.nd.its[c.nd.its.length - 1]? = some (c.nd.its[c.nd.its.length - 1]'(by omega)) := List.getElem?_eq_getElem _
    have pl : Pl t (F ++ [(c.id, ((c.nd.its.length - 1 : Nat) : Int))]) n (c.nd.its[c.nd.its.length - 1]'(by omega)) := by
      have := Pl.leaf u hy
      have e : A.length + (c.nd.its.length - 1) = n := by
        have : A.length + c.nd.its.length = n + 1 := hn
        omega
      rw [e] at this; exact this
    have w2 : Own 2 sv' (F ++ [(c.id, ((c.nd.its.length - 1 : Nat) : Int))]).length b' o' ((F ++ [(c.id, ((c.nd.its.length - 1 : Nat) : Int))]).flatMap frC) sp' := w'.list fcl (by rw [List.length_append, List.length_append]; rfl)
    exact Prev_tail m3 hk N pl w2 s fun h' s' => H _ _ b' o' sp' sv' _ h' pl w2 s'
  | succ q =>
    obtain ⟨z1, z2, z3, z4, z5⟩ := allZ_inner (d := c.1) (ts := c.2) Nc.2.2
    have wK : Own 1 c.1.kv c.2.length c.1.krb c.1.kro ((c.2.map GT.id).map fun m => ptr m 0) c.1.ksp := Nc.1.wf.2.1
    have hlen := Nc.len
    have hc : c.2[c.1.its.length]? = some (c.2[c.1.its.length]'(by omega)) := List.getElem?_eq_getElem _
    refine leaf_ok (a := some ⟨c.1.kb, 0, none⟩) (s.clz z1 3 rfl rfl) ?_; refine r_if (fun e => absurd e (by simp)) (fun _ => ?_)
    unfold MapIter_iu_Prev.j8; refine r_nil (r_fld ?_)
    refine St.r_load1 s 0 (j := 0) rfl rfl ?_; refine r_nil (r_fld ?_)
    refine s.r_lz0 z1 (j := 3) rfl ?_; refine r_nil ?_; refine s.r_lz0 z3 (j := 0) rfl ?_; refine r_nil (r_fld ?_)
    refine s.r_lz0 z1 (j := 2) rfl ?_
    have wi2 : Own 1 c.1.iv c.1.its.length c.1.ib c.1.io (c.1.its.flatMap enc) c.1.isp := Nc.1.wf.1.1
    refine wi2.lenV ?_; refine wK.idx (n := c.1.its.length) rfl (by omega) ?_; refine r_nil (r_fld ?_)
    refine St.r_load1 s 0 (j := 1) rfl rfl ?_; refine isoLoad_ro (kidcell z4 hc s) ?_; refine HK q _ _ (Nat.lt_succ_self q) ⟨_, _, _, _, sv', b', o', sp', (q5, 0, frC (c.id, (c.nd.its.length : Int))) :: R, rfl, Up.down u hc, ?_, w', s⟩
    have e1 := GT.round c hlen hc
    rw [GT.rigE c (Nat.le_refl _), List.append_nil] at e1; rw [e1] at hn; rw [List.length_append]; rw [List.length_append] at hn
    omega
theorem Next_climb {q : Nat} {c : GT It q} {F : List (Nat × Int)} {f : Nat × Int} {A B : List It} {n b o : Nat} {x : It} {sk as_ ae : Bool} {sv : Value} {sp : List Value} (m3 : 3 ≤ m) (hm : m ≤ 1024) (hk : k ≤ 4294967296) (N : NdOk iso m Z k t) (u : Up t F q c A B) (hn : A.length + c.pt.items.length = n) (w : Own 2 sv (F ++ [f]).length b o ((F ++ [f]).flatMap frC) sp) (s : St h0 Z ((ti, to, itC tb sk as_ ae sv x) :: (b, o, (F ++ [f]).flatMap frC ++ sp) :: E) h)
    (H0 : n = t.pt.items.length → ∀ sv' sp' h', Own 2 sv' 0 b o [] sp' → St h0 Z ((ti, to, itC tb sk as_ true sv' x) :: (b, o, (([] : List (Nat × Int))).flatMap frC ++ sp') :: E) h' → Q (.bool false) h')
    (H1 : ∀ F' y sv' sp' h', Pl t F' n y → Own 2 sv' F'.length b o (F'.flatMap frC) sp' → St h0 Z ((ti, to, itC tb sk as_ ae sv' y) :: (b, o, (F').flatMap frC ++ sp') :: E) h' → Q (.bool true) h') : loopC (fun c s h K1 => MapIter_iu_Next.l5.b (c.getD 0 undef) h K1 Q) [ptr ti to] [] h := by
  refine loop_ghost (fun l st h' => ∃ (F : List (Nat × Int)) (f : Nat × Int) (q : Nat) (c : GT It q) (A B : List It) (sv : Value) (sp : List Value), l = F.length ∧ st = [] ∧ Up t F q c A B ∧ A.length + c.pt.items.length = n ∧ Own 2 sv (F ++ [f]).length b o ((F ++ [f]).flatMap frC) sp ∧ St h0 Z ((ti, to, itC tb sk as_ ae sv x) :: (b, o, (F ++ [f]).flatMap frC ++ sp) :: E) h') (n0 := F.length) ⟨F, f, q, c, A, B, sv, sp, rfl, rfl, u, hn, w, s⟩ ?_; clear s w hn u
  rintro l st h ⟨F, f, q, c, A, B, sv, sp, rfl, rfl, u, hn, w, s⟩ K HK
  have hFl := u.len
  have hl : (F ++ [f]).length = F.length + 1 := by rw [List.length_append]; rfl
  unfold MapIter_iu_Next.l5.b; refine r_nil (r_fld ?_)
  refine St.r_load1 s 0 (j := 5) rfl rfl ?_; refine r_nil (r_fld ?_)
  refine St.r_load1 s 0 (j := 5) rfl rfl ?_; refine w.lenV ?_; refine r_sub1 (by omega) (by omega) ?_; refine w.slcHi fcl (i := F.length) (by omega) (by omega) fun sv' w' => ?_; rw [List.take_left' rfl, List.drop_left' rfl] at w'; refine r_nil (r_fld ?_)
  refine St.r_store1 s 0 (j := 5) rfl (by simp [itC]) w'.one ?_; intro h s
  have s : St h0 Z ((ti, to, itC tb sk as_ ae sv' x) :: (b, o, (F).flatMap frC ++ ([f].flatMap frC ++ sp)) :: E) h := by
    have e : F.flatMap frC ++ ([f].flatMap frC ++ sp) = (F ++ [f]).flatMap frC ++ sp := by rw [List.flatMap_append, List.append_assoc]
    rw [e]; exact s
  refine r_nil (r_fld ?_)
  refine St.r_load1 s 0 (j := 5) rfl rfl ?_; refine w'.lenV ?_; refine r_cmpI ?_
  rcases u.inv with ⟨rfl, rfl, rfl⟩ | ⟨F2, A2, B2, i, t2, rfl, u2, hc, rfl, rfl⟩
  · refine r_if (fun _ => ?_) (fun e => absurd e (by simp))
    refine r_nil (r_fld ?_)
    refine St.r_store1 s 0 (j := 4) rfl (by simp [itC]) rfl ?_; intro h s
    refine H0 ?_ sv' _ h w' s
    have e := u.items (N.hl m3)
    rw [List.append_nil, List.nil_append] at e; rw [e, ← hn, List.length_nil, Nat.zero_add]
  · have hl2 : (F2 ++ [(t2.id, (i : Int))]).length = F2.length + 1 := by rw [List.length_append]; rfl
    refine r_if (fun e => absurd e (by rw [hl2]; simp; omega)) (fun _ => ?_)
    have N2 := N.up m3 u2
    have hlen := N2.len
    have hil := N2.its
    have hic := (List.getElem?_eq_some_iff.1 hc).1
    obtain ⟨iv, ib, io, isp, a1, a2, a4, z1, z2, wi⟩ := N2.node; unfold MapIter_iu_Next.j6; refine r_nil (r_fld ?_)
    refine St.r_load1 s 0 (j := 5) rfl rfl ?_; refine r_nil (r_fld ?_)
    refine St.r_load1 s 0 (j := 5) rfl rfl ?_; refine w'.lenV ?_; refine r_sub1 (by omega) (by omega) ?_; refine w'.idx (n := F2.length) (by omega) (by omega) ?_; refine r_nil (r_fld ?_)
    refine s.ldF1 1 rfl ?_; refine r_nil (r_fld ?_)
    refine s.ldF0 1 rfl ?_; refine r_nil (r_fld ?_)
    refine s.r_lz0 z1 (j := 2) rfl ?_; refine wi.lenV ?_; refine r_cmpI ?_; refine r_if (fun hi => ?_) (fun hi => ?_)
    · have hi : i < t2.1.its.length := by have : (i : Int) < (t2.nd.its.length : Nat) := of_decide_eq_true hi; exact Int.ofNat_lt.1 this
      have pl : Pl t (F2 ++ [(t2.id, (i : Int))]) n (t2.1.its[i]) := by
        have := Pl.inner u2 (List.getElem?_eq_getElem hi) hc
        have e : A2.length + (t2.lef i).length + c.pt.items.length = n := by rw [← hn, List.length_append]
        rw [e] at this; exact this
      exact Next_tail m3 hk N pl w' s fun h' s' => H1 _ _ sv' _ h' pl w' s'
    · have hi : ¬ i < t2.1.its.length := by have : ¬ (i : Int) < (t2.nd.its.length : Nat) := of_decide_eq_false hi; exact fun e => this (Int.ofNat_lt.2 e)
      refine HK F2.length _ _ (by omega) ⟨F2, (t2.id, (i : Int)), _, t2, A2, B2, sv', _, rfl, rfl, u2, ?_, w', s⟩
      have e1 := GT.round t2 hlen hc
      rw [GT.rigE t2 (by omega), List.append_nil] at e1; rw [e1, ← hn, List.length_append, List.length_append]
      omega
theorem Prev_climb {q : Nat} {c : GT It q} {F : List (Nat × Int)} {f : Nat × Int} {A B : List It} {n b o : Nat} {x : It} {sk as_ ae : Bool} {sv : Value} {sp : List Value} (m3 : 3 ≤ m) (hm : m ≤ 1024) (hk : k ≤ 4294967296) (N : NdOk iso m Z k t) (u : Up t F q c A B) (hn : A.length = n) (w : Own 2 sv (F ++ [f]).length b o ((F ++ [f]).flatMap frC) sp) (s : St h0 Z ((ti, to, itC tb sk as_ ae sv x) :: (b, o, (F ++ [f]).flatMap frC ++ sp) :: E) h)
    (H0 : n = 0 → ∀ sv' sp' h', Own 2 sv' 0 b o [] sp' → St h0 Z ((ti, to, itC tb sk true ae sv' x) :: (b, o, (([] : List (Nat × Int))).flatMap frC ++ sp') :: E) h' → Q (.bool false) h')
    (H1 : 0 < n → ∀ F' y sv' sp' h', Pl t F' (n - 1) y → Own 2 sv' F'.length b o (F'.flatMap frC) sp' → St h0 Z ((ti, to, itC tb sk as_ ae sv' y) :: (b, o, (F').flatMap frC ++ sp') :: E) h' → Q (.bool true) h') : loopC (fun c s h K1 => MapIter_iu_Prev.l5.b (c.getD 0 undef) h K1 Q) [ptr ti to] [] h := by
  refine loop_ghost (fun l st h' => ∃ (F : List (Nat × Int)) (f : Nat × Int) (q : Nat) (c : GT It q) (A B : List It) (sv : Value) (sp : List Value), l = F.length ∧ st = [] ∧ Up t F q c A B ∧ A.length = n ∧ Own 2 sv (F ++ [f]).length b o ((F ++ [f]).flatMap frC) sp ∧ St h0 Z ((ti, to, itC tb sk as_ ae sv x) :: (b, o, (F ++ [f]).flatMap frC ++ sp) :: E) h') (n0 := F.length) ⟨F, f, q, c, A, B, sv, sp, rfl, rfl, u, hn, w, s⟩ ?_; clear s w hn u
  rintro l st h ⟨F, f, q, c, A, B, sv, sp, rfl, rfl, u, hn, w, s⟩ K HK
  have hFl := u.len
  have hl : (F ++ [f]).length = F.length + 1 := by rw [List.length_append]; rfl
  unfold MapIter_iu_Prev.l5.b; refine r_nil (r_fld ?_)
  refine St.r_load1 s 0 (j := 5) rfl rfl ?_; refine r_nil (r_fld ?_)
  refine St.r_load1 s 0 (j := 5) rfl rfl ?_; refine w.lenV ?_; refine r_sub1 (by omega) (by omega) ?_; refine w.slcHi fcl (i := F.length) (by omega) (by omega) fun sv' w' => ?_; rw [List.take_left' rfl, List.drop_left' rfl] at w'; refine r_nil (r_fld ?_)
  refine St.r_store1 s 0 (j := 5) rfl (by simp [itC]) w'.one ?_; intro h s
  have s : St h0 Z ((ti, to, itC tb sk as_ ae sv' x) :: (b, o, (F).flatMap frC ++ ([f].flatMap frC ++ sp)) :: E) h := by
    have e : F.flatMap frC ++ ([f].flatMap frC ++ sp) = (F ++ [f]).flatMap frC ++ sp := by rw [List.flatMap_append, List.append_assoc]
    rw [e]; exact s
  refine r_nil (r_fld ?_)
  refine St.r_load1 s 0 (j := 5) rfl rfl ?_; refine w'.lenV ?_; refine r_cmpI ?_
  rcases u.inv with ⟨rfl, rfl, rfl⟩ | ⟨F2, A2, B2, i, t2, rfl, u2, hc, rfl, rfl⟩
  · refine r_if (fun _ => ?_) (fun e => absurd e (by simp))
    refine r_nil (r_fld ?_)
    refine St.r_store1 s 0 (j := 3) rfl (by simp [itC]) rfl ?_; intro h s
    refine H0 ?_ sv' _ h w' s
    rw [← hn]; rfl
  · have hl2 : (F2 ++ [(t2.id, (i : Int))]).length = F2.length + 1 := by rw [List.length_append]; rfl
    refine r_if (fun e => absurd e (by rw [hl2]; simp; omega)) (fun _ => ?_)
    have N2 := N.up m3 u2
    have hlen := N2.len
    have hil := N2.its
    have hic := (List.getElem?_eq_some_iff.1 hc).1
    obtain ⟨iv, ib, io, isp, a1, a2, a4, z1, z2, wi⟩ := N2.node; unfold MapIter_iu_Prev.j6; refine r_nil (r_fld ?_)
    refine St.r_load1 s 0 (j := 5) rfl rfl ?_; refine r_nil (r_fld ?_)
    refine St.r_load1 s 0 (j := 5) rfl rfl ?_; refine w'.lenV ?_; refine r_sub1 (by omega) (by omega) ?_; refine w'.idx (n := F2.length) (by omega) (by omega) ?_; refine r_nil (r_fld ?_)
    refine s.ldF1 1 rfl ?_
    have hil2 : t2.1.its.length ≤ 1024 := Nat.le_trans hil.2 hm
    refine r_sub (z := (i : Int) - 1) (i64w (by omega) (by omega)) ?_; refine r_nil (r_fld ?_)
    refine s.stF1 1 rfl ?_; intro h s
    refine r_nil (r_fld ?_)
    refine s.ldF1 (F := F2) (f := (t2.id, (i : Int) - 1)) 1 rfl ?_; refine r_cmpI ?_
    have w3 : Own 2 sv' (F2 ++ [(t2.id, (i : Int) - 1)]).length b o ((F2 ++ [(t2.id, (i : Int) - 1)]).flatMap frC) ([f].flatMap frC ++ sp) := w'.list fcl (by rw [List.length_append, List.length_append]; rfl)
    refine r_if (fun hi => ?_) (fun hi => ?_)
    · have hi : 1 ≤ i := by have : (i : Int) - 1 > -1 := of_decide_eq_true hi; omega
      have h1 : i - 1 < t2.1.its.length := by omega
      have h2 : i - 1 < t2.2.length := by omega
      have e0 : ((i - 1 : Nat) : Int) = (i : Int) - 1 := by omega
      have pl : Pl t (F2 ++ [(t2.id, (i : Int) - 1)]) (n - 1) (t2.1.its[i - 1]) := by
        have := Pl.inner u2 (List.getElem?_eq_getElem h1) (List.getElem?_eq_getElem h2)
        have el := GT.lef_succ t2 hlen (List.getElem?_eq_getElem h2) (List.getElem?_eq_getElem h1)
        rw [show i - 1 + 1 = i by omega] at el
        have e : A2.length + (t2.lef (i - 1)).length + (t2.2[i - 1]).pt.items.length = n - 1 := by
          rw [← hn, List.length_append, el, List.length_append, List.length_append, List.length_singleton]; omega
        rw [e, e0] at this; exact this
      have hpos : 0 < n := by
        have el := GT.lef_succ t2 hlen (List.getElem?_eq_getElem h2) (List.getElem?_eq_getElem h1)
        rw [show i - 1 + 1 = i by omega] at el; rw [← hn, List.length_append, el, List.length_append, List.length_append, List.length_singleton]; omega
      exact Prev_tail m3 hk N pl w3 s fun h' s' => H1 hpos _ _ sv' _ h' pl w3 s'
    · have hi : i = 0 := by have : ¬ (i : Int) - 1 > -1 := of_decide_eq_false hi; omega
      subst hi; refine HK F2.length _ _ (by omega) ⟨F2, _, _, t2, A2, B2, sv', _, rfl, rfl, u2, ?_, w3, s⟩
      rw [← hn, GT.lef0, List.append_nil]
theorem Next_leaf {d : GT It 0} {F : List (Nat × Int)} {A B : List It} {i b o : Nat} {zz : Int} {x : It} {sk as_ ae : Bool} {sv : Value} {sp : List Value} (m3 : 3 ≤ m) (hm : m ≤ 1024) (hk : k ≤ 4294967296) (N : NdOk iso m Z k t) (u : Up t F 0 d A B) (hz : zz + 1 = (i : Int)) (hi : i ≤ d.nd.its.length) (w : Own 2 sv (F ++ [(d.id, zz)]).length b o ((F ++ [(d.id, zz)]).flatMap frC) sp) (s : St h0 Z ((ti, to, itC tb sk as_ ae sv x) :: (b, o, (F ++ [(d.id, zz)]).flatMap frC ++ sp) :: E) h)
    (H0 : A.length + i = t.pt.items.length → ∀ sv' sp' h', Own 2 sv' 0 b o [] sp' → St h0 Z ((ti, to, itC tb sk as_ true sv' x) :: (b, o, (([] : List (Nat × Int))).flatMap frC ++ sp') :: E) h' → Q (.bool false) h')
    (H1 : ∀ F' y sv' sp' h', Pl t F' (A.length + i) y → Own 2 sv' F'.length b o (F'.flatMap frC) sp' → St h0 Z ((ti, to, itC tb sk as_ ae sv' y) :: (b, o, (F').flatMap frC ++ sp') :: E) h' → Q (.bool true) h') : MapIter_iu_Next.j3 (ptr ti to) h Q := by
  have hFl := u.len
  have hl : (F ++ [(d.id, zz)]).length = F.length + 1 := by rw [List.length_append]; rfl
  have N2 := N.up m3 u
  have hil := N2.its
  obtain ⟨z1, z2⟩ := allZ_leaf N2.2.2
  have wi : Own 1 (Nd.iv d) (Nd.its d).length (Nd.ib d) (Nd.io d) ((Nd.its d).flatMap enc) (Nd.isp d) := N2.1.wf.1
  unfold MapIter_iu_Next.j3; refine r_nil (r_fld ?_)
  refine St.r_load1 s 0 (j := 5) rfl rfl ?_; refine r_nil (r_fld ?_)
  refine St.r_load1 s 0 (j := 5) rfl rfl ?_; refine w.lenV ?_; refine r_sub1 (by omega) (by omega) ?_; refine w.idx (n := F.length) (by omega) (by omega) ?_; refine r_nil (r_fld ?_)
  refine s.ldF1 1 rfl ?_
  have hi2 : i ≤ 1024 := by omega
  refine r_add (z := (i : Int)) (by show IntKind.i64.wrap (zz + 1) = _; rw [hz, i64w (by omega) (by omega)]) ?_; refine r_nil (r_fld ?_)
  refine s.stF1 1 rfl ?_; intro h s
  have w3 : Own 2 sv (F ++ [(d.id, (i : Int))]).length b o ((F ++ [(d.id, (i : Int))]).flatMap frC) sp := w.list fcl (by rw [List.length_append, List.length_append]; rfl)
  refine r_nil (r_fld ?_)
  refine s.ldF0 (F := F) (f := (d.id, (i : Int))) 1 rfl ?_; refine leaf_ok (a := none) (s.clz z1 3 rfl rfl) ?_; refine r_if (fun _ => ?_) (fun e => absurd e (by simp))
  refine r_nil (r_fld ?_)
  refine s.ldF1 (F := F) (f := (d.id, (i : Int))) 1 rfl ?_; refine r_nil (r_fld ?_)
  refine s.ldF0 (F := F) (f := (d.id, (i : Int))) 1 rfl ?_; refine r_nil (r_fld ?_)
  refine s.r_lz0 z1 (j := 2) rfl ?_; refine wi.lenV ?_; refine r_cmpI ?_; refine r_if (fun e => ?_) (fun e => ?_)
  · have e : i = d.nd.its.length := by
      have e : ((i : Int) == ((d.nd.its.length : Nat) : Int)) = true := e
      exact Int.ofNat.inj (eq_of_beq e)
    refine Next_climb (n := A.length + i) m3 hm hk N u (by rw [e]; rfl) w3 s H0 H1
  · have e : i ≠ d.nd.its.length := by
      intro h; rw [h] at e
      have e : (((d.nd.its.length : Nat) : Int) == ((d.nd.its.length : Nat) : Int)) = false := e
      simp at e
    have hlt : i < d.nd.its.length := by omega
    have pl := Pl.leaf u (List.getElem?_eq_getElem hlt)
    exact Next_tail m3 hk N pl w3 s fun h' s' => H1 _ _ sv _ h' pl w3 s'
def NextR (len : Nat) (ps : Pos) (b : Bool) (ps' : Pos) : Prop := match ps with
  | .new => (len = 0 ∧ b = false ∧ ps' = .off) ∨ (0 < len ∧ b = true ∧ ps' = .at' 0)
  | .off => len = 0 → b = false ∧ ps' = .off
  | .at' n => (n + 1 < len ∧ b = true ∧ ps' = .at' (n + 1)) ∨ (len ≤ n + 1 ∧ b = false ∧ ps' = .off)
def PrevR (len : Nat) (ps : Pos) (b : Bool) (ps' : Pos) : Prop := match ps with
  | .new => b = false ∧ ps' = .new
  | .off => len = 0 → b = false ∧ ps' = .off
  | .at' n => (0 < n ∧ b = true ∧ ps' = .at' (n - 1)) ∨ (n = 0 ∧ b = false ∧ ps' = .off)
theorem Next_at {g : Rt} {n : Nat} {A : List Rg} (T : Tr Z g tb m) (I : ItAt g tb ti to (.at' n) A) (s : St h0 Z (A ++ E) h)
    (H : ∀ b ps' A' h', NextR (rPt g).items.length (.at' n) b ps' → ItAt g tb ti to ps' A' → St h0 Z (A' ++ E) h' → Q (.bool b) h') : MapIter_iu_Next.call #[ptr ti to] h Q := by
  obtain ⟨sk, as_, ae, sv, x, b, o, F, sp, R, w, rfl, hp⟩ := I
  have s : St h0 Z ((ti, to, itC tb sk as_ ae sv x) :: (b, o, (F).flatMap frC ++ sp) :: (R ++ E)) h := s
  refine MapIter_iu_Next.body _ _ _ ?_; unfold MapIter_iu_Next.sh; refine r_nil (r_fld ?_)
  refine St.r_load1 s 0 (j := 0) rfl rfl ?_; refine ⟨_, rfl, ?_⟩
  refine r_if (fun e => absurd e (by simp)) (fun _ => ?_)
  unfold MapIter_iu_Next.j1; refine r_nil (r_fld ?_)
  refine St.r_load1 s 0 (j := 2) rfl rfl ?_; refine r_not ?_; obtain ⟨rfl, t, rfl, pl⟩ := hp; obtain ⟨iso, hn⟩ := T.nd
  have N := hn t rfl
  obtain ⟨hne, hk⟩ := T.ne rfl; refine r_if (fun e => absurd e (by simp)) (fun _ => ?_)
  unfold MapIter_iu_Next.j2; refine r_nil (r_fld ?_)
  refine St.r_load1 s 0 (j := 5) rfl rfl ?_; refine w.lenV ?_; refine r_cmpI ?_
  have hF := pl.ne
  refine r_if (fun e => absurd (by simpa using e) hF) (fun _ => ?_)
  have off : ∀ {sv' : Value} {sp' : List Value} {h' : Heap} {b o : Nat}, n + 1 = t.2.pt.items.length → Own 2 sv' 0 b o [] sp' → St h0 Z ((ti, to, itC tb true as_ true sv' x) :: (b, o, (([] : List (Nat × Int))).flatMap frC ++ sp') :: (R ++ E)) h' → Q (.bool false) h' := fun {sv' sp' h' b o} e w' s' =>
    H false .off _ h' (.inr ⟨by show t.2.pt.items.length ≤ n + 1; omega, rfl, rfl⟩) ⟨true, as_, true, sv', x, b, o, [], sp', R, w', rfl, rfl, rfl⟩ s'
  have on : ∀ {F' : List (Nat × Int)} {y : It} {sv' : Value} {sp' : List Value} {h' : Heap} {b o : Nat} {R2 : List Rg}, Pl t.2 F' (n + 1) y → Own 2 sv' F'.length b o (F'.flatMap frC) sp' → St h0 Z ((ti, to, itC tb true as_ ae sv' y) :: (b, o, (F').flatMap frC ++ sp') :: (R2 ++ (R ++ E))) h' → Q (.bool true) h' := fun {F' y sv' sp' h' b o R2} pl' w' s' => by
    have hlt : n + 1 < t.2.pt.items.length := (List.getElem?_eq_some_iff.1 (pl'.at (N.hl T.m3))).1
    exact H true (.at' (n + 1)) _ h' (.inl ⟨hlt, rfl, rfl⟩) ⟨true, as_, ae, sv', y, b, o, F', sp', R2 ++ R, w', rfl, rfl, t, rfl, pl'⟩ (s'.perm (by
      show List.Perm ((ti, to, itC tb true as_ ae sv' y) :: (b, o, (F').flatMap frC ++ sp') :: ((R2 ++ R) ++ E)) ((ti, to, itC tb true as_ ae sv' y) :: (b, o, (F').flatMap frC ++ sp') :: (R2 ++ (R ++ E)))
      ((apply perm_rg; intro f; simp only [set_cons_zero, set_cons_succ, eraseIdx_cons_zero, eraseIdx_cons_succ, cons_append, nil_append, map_append, map_cons, map_nil, List.sum_append, List.sum_cons, List.sum_nil, map_flatMap, Nat.add_zero, Nat.zero_add]; ac_rfl))))
  cases pl with
  | @leaf F d A B i y u hy =>
    have hi := (List.getElem?_eq_some_iff.1 hy).1
    exact Next_leaf (i := i + 1) T.m3 T.m1 hk N u (by omega) hi w s (fun e sv' sp' h' w' s' => off (by omega) w' s') fun F' y sv' sp' h' pl' w' s' => on (R2 := []) pl' w' s'
  | @inner F q t2 A B i y c u hy hc =>
    have hi := (List.getElem?_eq_some_iff.1 hy).1
    have N2 := N.up T.m3 u
    have hlen := N2.len
    have hil := N2.its
    have hFl := u.len
    have hil2 : t2.1.its.length ≤ 1024 := Nat.le_trans hil.2 T.m1
    have hl : (F ++ [(t2.id, (i : Int))]).length = F.length + 1 := by rw [List.length_append]; rfl
    obtain ⟨z1, z2, z3, z4, z5⟩ := allZ_inner (d := t2.1) (ts := t2.2) N2.2.2
    have wK : Own 1 t2.1.kv t2.2.length t2.1.krb t2.1.kro ((t2.2.map GT.id).map fun m => ptr m 0) t2.1.ksp := N2.1.wf.2.1
    have hc2 : t2.2[i + 1]? = some (t2.2[i + 1]'(by omega)) := List.getElem?_eq_getElem _
    unfold MapIter_iu_Next.j3; refine r_nil (r_fld ?_)
    refine St.r_load1 s 0 (j := 5) rfl rfl ?_; refine r_nil (r_fld ?_)
    refine St.r_load1 s 0 (j := 5) rfl rfl ?_; refine w.lenV ?_; refine r_sub1 (by omega) (by omega) ?_; refine w.idx (n := F.length) (by omega) (by omega) ?_; refine r_nil (r_fld ?_)
    refine s.ldF1 1 rfl ?_; refine r_add1 (by omega) ?_; refine r_nil (r_fld ?_)
    refine s.stF1 1 rfl ?_; intro h s
    have w3 : Own 2 sv (F ++ [(t2.id, ((i + 1 : Nat) : Int))]).length b o ((F ++ [(t2.id, ((i + 1 : Nat) : Int))]).flatMap frC) sp := w.list fcl (by rw [List.length_append, List.length_append]; rfl)
    refine r_nil (r_fld ?_)
    refine s.ldF0 (F := F) (f := (t2.id, ((i + 1 : Nat) : Int))) 1 rfl ?_; refine leaf_ok (a := some ⟨t2.1.kb, 0, none⟩) (s.clz z1 3 rfl rfl) ?_; refine r_if (fun e => absurd e (by simp)) (fun _ => ?_)
    refine r_nil (r_fld ?_)
    refine St.r_load1 s 0 (j := 0) rfl rfl ?_; refine r_nil (r_fld ?_)
    refine s.ldF0 (F := F) (f := (t2.id, ((i + 1 : Nat) : Int))) 1 rfl ?_; refine r_nil (r_fld ?_)
    refine s.r_lz0 z1 (j := 3) rfl ?_; refine r_nil ?_; refine s.r_lz0 z3 (j := 0) rfl ?_; refine r_nil (r_fld ?_)
    refine s.ldF1 (F := F) (f := (t2.id, ((i + 1 : Nat) : Int))) 1 rfl ?_; refine wK.idx (n := i + 1) rfl (by omega) ?_; refine r_nil (r_fld ?_)
    refine St.r_load1 s 0 (j := 1) rfl rfl ?_; refine isoLoad_ro (kidcell z4 hc2 s) ?_; refine Next_left (n := A.length + (t2.lef i).length + c.pt.items.length + 1) T.m3 hk N (Up.down u hc2) ?_ w3 s fun F' y b' o' sp' sv' R' h' pl' w' s' => on pl' w' s'
    rw [List.length_append, GT.lef_succ t2 hlen hc hy, List.length_append, List.length_append, List.length_singleton]
    omega
theorem Next_ok {g : Rt} {ps : Pos} {A : List Rg} (T : Tr Z g tb m) (I : ItAt g tb ti to ps A) (s : St h0 Z (A ++ E) h)
    (H : ∀ b ps' A' h', NextR (rPt g).items.length ps b ps' → ItAt g tb ti to ps' A' → St h0 Z (A' ++ E) h' → Q (.bool b) h') : MapIter_iu_Next.call #[ptr ti to] h Q := by
  have I0 := I
  have s0' := s
  cases ps with
  | at' n => exact Next_at T I s H
  | new =>
    obtain ⟨sk, as_, ae, sv, x, b, o, F, sp, R, w, rfl, hp⟩ := I
    have s : St h0 Z ((ti, to, itC tb sk as_ ae sv x) :: (b, o, (F).flatMap frC ++ sp) :: (R ++ E)) h := s
    refine MapIter_iu_Next.body _ _ _ ?_; unfold MapIter_iu_Next.sh; refine r_nil (r_fld ?_)
    refine St.r_load1 s 0 (j := 0) rfl rfl ?_; refine ⟨_, rfl, ?_⟩
    refine r_if (fun e => absurd e (by simp)) (fun _ => ?_)
    unfold MapIter_iu_Next.j1; refine r_nil (r_fld ?_)
    refine St.r_load1 s 0 (j := 2) rfl rfl ?_; refine r_not ?_; obtain ⟨rfl, rfl⟩ := hp; refine r_if (fun _ => ?_) (fun e => absurd e (by simp))
    refine First_ok T I0 s0' (fun e A' h' I' s' => ?_) fun e A' h' I' s' => ?_
    · exact H false .off A' h' (.inl ⟨by rw [e]; rfl, rfl, rfl⟩) I' s'
    · exact H true (.at' 0) A' h' (.inr ⟨e, rfl, rfl⟩) I' s'
  | off =>
    obtain ⟨sk, as_, ae, sv, x, b, o, F, sp, R, w, rfl, hp⟩ := I
    have s : St h0 Z ((ti, to, itC tb sk as_ ae sv x) :: (b, o, (F).flatMap frC ++ sp) :: (R ++ E)) h := s
    refine MapIter_iu_Next.body _ _ _ ?_; unfold MapIter_iu_Next.sh; refine r_nil (r_fld ?_)
    refine St.r_load1 s 0 (j := 0) rfl rfl ?_; refine ⟨_, rfl, ?_⟩
    refine r_if (fun e => absurd e (by simp)) (fun _ => ?_)
    unfold MapIter_iu_Next.j1; refine r_nil (r_fld ?_)
    refine St.r_load1 s 0 (j := 2) rfl rfl ?_; refine r_not ?_; obtain ⟨rfl, rfl⟩ := hp; refine r_if (fun e => absurd e (by simp)) (fun _ => ?_)
    unfold MapIter_iu_Next.j2; refine r_nil (r_fld ?_)
    refine St.r_load1 s 0 (j := 5) rfl rfl ?_; refine w.lenV ?_; refine r_cmpI ?_; refine r_if (fun _ => ?_) (fun e => absurd e (by simp))
    refine r_nil (r_fld ?_)
    refine St.r_load1 s 0 (j := 3) rfl rfl ?_; refine r_if (fun _ => ?_) (fun _ => ?_)
    · refine First_ok T I0 s0' (fun e A' h' I' s' => ?_) fun e A' h' I' s' => ?_
      · refine r_br (fun e => absurd e (by decide)) (fun _ => ?_)
        exact H false .off A' h' (fun _ => ⟨rfl, rfl⟩) I' s'
      · refine r_br (fun _ => ?_) (fun e => absurd e (by decide))
        refine Next_at T I' s' fun b ps' A2 h2 _ I2 s2 => ?_; exact H b ps' A2 h2 (fun e0 => absurd e (by omega)) I2 s2
    · unfold MapIter_iu_Next.j9
      exact H false .off _ h (fun _ => ⟨rfl, rfl⟩) I0 s
theorem Prev_at {g : Rt} {n : Nat} {A : List Rg} (T : Tr Z g tb m) (I : ItAt g tb ti to (.at' n) A) (s : St h0 Z (A ++ E) h)
    (H : ∀ b ps' A' h', PrevR (rPt g).items.length (.at' n) b ps' → ItAt g tb ti to ps' A' → St h0 Z (A' ++ E) h' → Q (.bool b) h') : MapIter_iu_Prev.call #[ptr ti to] h Q := by
  obtain ⟨sk, as_, ae, sv, x, b, o, F, sp, R, w, rfl, hp⟩ := I
  have s : St h0 Z ((ti, to, itC tb sk as_ ae sv x) :: (b, o, (F).flatMap frC ++ sp) :: (R ++ E)) h := s
  refine MapIter_iu_Prev.body _ _ _ ?_; unfold MapIter_iu_Prev.sh; refine r_nil (r_fld ?_)
  refine St.r_load1 s 0 (j := 0) rfl rfl ?_; refine ⟨_, rfl, ?_⟩
  refine r_if (fun e => absurd e (by simp)) (fun _ => ?_)
  unfold MapIter_iu_Prev.j1; refine r_nil (r_fld ?_)
  refine St.r_load1 s 0 (j := 2) rfl rfl ?_; refine r_not ?_; obtain ⟨rfl, t, rfl, pl⟩ := hp; obtain ⟨iso, hn⟩ := T.nd
  have N := hn t rfl
  obtain ⟨hne, hk⟩ := T.ne rfl; refine r_if (fun e => absurd e (by simp)) (fun _ => ?_)
  unfold MapIter_iu_Prev.j2; refine r_nil (r_fld ?_)
  refine St.r_load1 s 0 (j := 5) rfl rfl ?_; refine w.lenV ?_; refine r_cmpI ?_
  have hF := pl.ne
  refine r_if (fun e => absurd (by simpa using e) hF) (fun _ => ?_)
  have off : ∀ {sv' : Value} {sp' : List Value} {h' : Heap} {b o : Nat}, n = 0 → Own 2 sv' 0 b o [] sp' → St h0 Z ((ti, to, itC tb true true ae sv' x) :: (b, o, (([] : List (Nat × Int))).flatMap frC ++ sp') :: (R ++ E)) h' → Q (.bool false) h' := fun {sv' sp' h' b o} e w' s' =>
    H false .off _ h' (.inr ⟨e, rfl, rfl⟩) ⟨true, true, ae, sv', x, b, o, [], sp', R, w', rfl, rfl, rfl⟩ s'
  have on : ∀ {F' : List (Nat × Int)} {y : It} {sv' : Value} {sp' : List Value} {h' : Heap} {b o : Nat} {R2 : List Rg}, 0 < n → Pl t.2 F' (n - 1) y → Own 2 sv' F'.length b o (F'.flatMap frC) sp' → St h0 Z ((ti, to, itC tb true as_ ae sv' y) :: (b, o, (F').flatMap frC ++ sp') :: (R2 ++ (R ++ E))) h' → Q (.bool true) h' := fun {F' y sv' sp' h' b o R2} hn0 pl' w' s' =>
    H true (.at' (n - 1)) _ h' (.inl ⟨hn0, rfl, rfl⟩) ⟨true, as_, ae, sv', y, b, o, F', sp', R2 ++ R, w', rfl, rfl, t, rfl, pl'⟩ (s'.perm (by
      show List.Perm ((ti, to, itC tb true as_ ae sv' y) :: (b, o, (F').flatMap frC ++ sp') :: ((R2 ++ R) ++ E)) ((ti, to, itC tb true as_ ae sv' y) :: (b, o, (F').flatMap frC ++ sp') :: (R2 ++ (R ++ E)))
      ((apply perm_rg; intro f; simp only [set_cons_zero, set_cons_succ, eraseIdx_cons_zero, eraseIdx_cons_succ, cons_append, nil_append, map_append, map_cons, map_nil, List.sum_append, List.sum_cons, List.sum_nil, map_flatMap, Nat.add_zero, Nat.zero_add]; ac_rfl))))
  unfold MapIter_iu_Prev.j3; obtain ⟨F0, q0, c0, i0, hF0, N0, hy0, hq0⟩ := Pl.spot T.m3 N pl
  cases pl with
  | @leaf F d A B i y u hy =>
    have hi := (List.getElem?_eq_some_iff.1 hy).1
    have hFl := u.len
    have hl : (F ++ [(d.id, (i : Int))]).length = F.length + 1 := by rw [List.length_append]; rfl
    have N2 := N.up T.m3 u
    have hil := N2.its
    have hil2 : d.nd.its.length ≤ 1024 := Nat.le_trans hil.2 T.m1
    obtain ⟨z1, z2⟩ := allZ_leaf N2.2.2; refine r_nil (r_fld ?_)
    refine St.r_load1 s 0 (j := 5) rfl rfl ?_; refine r_nil (r_fld ?_)
    refine St.r_load1 s 0 (j := 5) rfl rfl ?_; refine w.lenV ?_; refine r_sub1 (by omega) (by omega) ?_; refine w.idx (n := F.length) (by omega) (by omega) ?_; refine r_nil (r_fld ?_)
    refine s.ldF0 1 rfl ?_; refine leaf_ok (a := none) (s.clz z1 3 rfl rfl) ?_; refine r_if (fun _ => ?_) (fun e => absurd e (by simp))
    refine r_nil (r_fld ?_)
    refine s.ldF1 1 rfl ?_; refine r_sub (z := (i : Int) - 1) (i64w (by omega) (by omega)) ?_; refine r_nil (r_fld ?_)
    refine s.stF1 1 rfl ?_; intro h s
    refine r_nil (r_fld ?_)
    refine s.ldF1 (F := F) (f := (d.id, (i : Int) - 1)) 1 rfl ?_; refine r_cmpI ?_
    have w3 : Own 2 sv (F ++ [(d.id, (i : Int) - 1)]).length b o ((F ++ [(d.id, (i : Int) - 1)]).flatMap frC) sp := w.list fcl (by rw [List.length_append, List.length_append]; rfl)
    refine r_if (fun e => ?_) (fun e => ?_)
    · have e : i = 0 := by
        have : (i : Int) - 1 = -1 := by simpa using e
        omega
      subst e; refine Prev_climb (n := A.length + 0) T.m3 T.m1 hk N u rfl w3 s (fun e sv' sp' h' w' s' => off e w' s') fun hpos F' y sv' sp' h' pl' w' s' => ?_; exact on (R2 := []) hpos pl' w' s'
    · have e : 1 ≤ i := by
        rcases Nat.eq_zero_or_pos i with h0' | h0'
        · subst h0'
          have e : ((((0 : Nat) : Int) - 1) == -1) = false := e
          exact absurd e (by decide)
        · exact h0'
      have h1 : i - 1 < d.nd.its.length := by omega
      have e0 : ((i - 1 : Nat) : Int) = (i : Int) - 1 := by omega
      have pl := Pl.leaf u (List.getElem?_eq_getElem h1)
      rw [e0, show A.length + (i - 1) = A.length + i - 1 by omega] at pl; exact Prev_tail T.m3 hk N pl w3 s fun h' s' => on (R2 := []) (by omega) pl w3 s'
  | @inner F q t2 A B i y c u hy hc =>
    have hi := (List.getElem?_eq_some_iff.1 hy).1
    have N2 := N.up T.m3 u
    have hlen := N2.len
    have hil := N2.its
    have hFl := u.len
    have hil2 : t2.1.its.length ≤ 1024 := Nat.le_trans hil.2 T.m1
    have hl : (F ++ [(t2.id, (i : Int))]).length = F.length + 1 := by rw [List.length_append]; rfl
    obtain ⟨z1, z2, z3, z4, z5⟩ := allZ_inner (d := t2.1) (ts := t2.2) N2.2.2
    have wK : Own 1 t2.1.kv t2.2.length t2.1.krb t2.1.kro ((t2.2.map GT.id).map fun m => ptr m 0) t2.1.ksp := N2.1.wf.2.1
    have hcn : 0 < c.pt.items.length := by
      have := PT.tall T.m3 (N.up T.m3 (Up.down u hc)).2.1 (Nat.le_refl 1)
      omega
    refine r_nil (r_fld ?_)
    refine St.r_load1 s 0 (j := 5) rfl rfl ?_; refine r_nil (r_fld ?_)
    refine St.r_load1 s 0 (j := 5) rfl rfl ?_; refine w.lenV ?_; refine r_sub1 (by omega) (by omega) ?_; refine w.idx (n := F.length) (by omega) (by omega) ?_; refine r_nil (r_fld ?_)
    refine s.ldF0 1 rfl ?_; refine leaf_ok (a := some ⟨t2.1.kb, 0, none⟩) (s.clz z1 3 rfl rfl) ?_; refine r_if (fun e => absurd e (by simp)) (fun _ => ?_)
    refine r_nil (r_fld ?_)
    refine St.r_load1 s 0 (j := 0) rfl rfl ?_; refine r_nil (r_fld ?_)
    refine s.ldF0 1 rfl ?_; refine r_nil (r_fld ?_)
    refine s.r_lz0 z1 (j := 3) rfl ?_; refine r_nil ?_; refine s.r_lz0 z3 (j := 0) rfl ?_; refine r_nil (r_fld ?_)
    refine s.ldF1 1 rfl ?_; refine wK.idx (n := i) rfl (by omega) ?_; refine r_nil (r_fld ?_)
    refine St.r_load1 s 0 (j := 1) rfl rfl ?_; refine isoLoad_ro (kidcell z4 hc s) ?_; refine Prev_right (n := A.length + (t2.lef i).length + c.pt.items.length - 1) T.m3 hk T.m1 N (Up.down u hc) ?_ w s fun F' y b' o' sp' sv' R' h' pl' w' s' => on (by omega) pl' w' s'
    rw [List.length_append]
    omega
theorem Prev_ok {g : Rt} {ps : Pos} {A : List Rg} (T : Tr Z g tb m) (I : ItAt g tb ti to ps A) (s : St h0 Z (A ++ E) h)
    (H : ∀ b ps' A' h', PrevR (rPt g).items.length ps b ps' → ItAt g tb ti to ps' A' → St h0 Z (A' ++ E) h' → Q (.bool b) h') : MapIter_iu_Prev.call #[ptr ti to] h Q := by
  have I0 := I
  have s0' := s
  cases ps with
  | at' n => exact Prev_at T I s H
  | new =>
    obtain ⟨sk, as_, ae, sv, x, b, o, F, sp, R, w, rfl, hp⟩ := I
    have s : St h0 Z ((ti, to, itC tb sk as_ ae sv x) :: (b, o, (F).flatMap frC ++ sp) :: (R ++ E)) h := s
    refine MapIter_iu_Prev.body _ _ _ ?_; unfold MapIter_iu_Prev.sh; refine r_nil (r_fld ?_)
    refine St.r_load1 s 0 (j := 0) rfl rfl ?_; refine ⟨_, rfl, ?_⟩
    refine r_if (fun e => absurd e (by simp)) (fun _ => ?_)
    unfold MapIter_iu_Prev.j1; refine r_nil (r_fld ?_)
    refine St.r_load1 s 0 (j := 2) rfl rfl ?_; refine r_not ?_; obtain ⟨rfl, rfl⟩ := hp; refine r_if (fun _ => ?_) (fun e => absurd e (by simp))
    exact H false .new _ h ⟨rfl, rfl⟩ I0 s
  | off =>
    obtain ⟨sk, as_, ae, sv, x, b, o, F, sp, R, w, rfl, hp⟩ := I
    have s : St h0 Z ((ti, to, itC tb sk as_ ae sv x) :: (b, o, (F).flatMap frC ++ sp) :: (R ++ E)) h := s
    refine MapIter_iu_Prev.body _ _ _ ?_; unfold MapIter_iu_Prev.sh; refine r_nil (r_fld ?_)
    refine St.r_load1 s 0 (j := 0) rfl rfl ?_; refine ⟨_, rfl, ?_⟩
    refine r_if (fun e => absurd e (by simp)) (fun _ => ?_)
    unfold MapIter_iu_Prev.j1; refine r_nil (r_fld ?_)
    refine St.r_load1 s 0 (j := 2) rfl rfl ?_; refine r_not ?_; obtain ⟨rfl, rfl⟩ := hp; refine r_if (fun e => absurd e (by simp)) (fun _ => ?_)
    unfold MapIter_iu_Prev.j2; refine r_nil (r_fld ?_)
    refine St.r_load1 s 0 (j := 5) rfl rfl ?_; refine w.lenV ?_; refine r_cmpI ?_; refine r_if (fun _ => ?_) (fun e => absurd e (by simp))
    refine r_nil (r_fld ?_)
    refine St.r_load1 s 0 (j := 4) rfl rfl ?_; refine r_if (fun _ => ?_) (fun _ => ?_)
    · refine Last_ok T I0 s0' (fun e A' h' I' s' => ?_) fun e A' h' I' s' => ?_
      · refine r_br (fun e => absurd e (by decide)) (fun _ => ?_)
        exact H false .off A' h' (fun _ => ⟨rfl, rfl⟩) I' s'
      · refine r_br (fun _ => ?_) (fun e => absurd e (by decide))
        refine Prev_at T I' s' fun b ps' A2 h2 _ I2 s2 => ?_; exact H b ps' A2 h2 (fun e0 => absurd e (by omega)) I2 s2
    · unfold MapIter_iu_Prev.j9
      exact H false .off _ h (fun _ => ⟨rfl, rfl⟩) I0 s
end Go.Proofs.Ytdpkpcmoabfofaa.Iu
end
section
namespace Go.Proofs.Ytdpkpcmoabfofaa.Iu
open Go.Hp Go.Proofs.Ytdpkpcmoabfofaa
variable {h0 h : Heap} {Z E : List Rg} {Q : Value → Heap → Prop}
def atK (l : List It) (i : Int) : Option It := if 0 ≤ i then l[i.toNat]? else none
theorem fldZ_mem {K : Value → Prop} (s : St h0 Z E h) {b o o' off : Nat} {xs : List Value} (hk : (b, o, xs) ∈ E) (hx : 0 < xs.length) (H : K (ptr b (o' + off))) : fldZ Try.prog off (ptr b o') h K :=
  r_fldZ zall s ((s.e _ hk).2 (fun e => by have e : xs = [] := e; rw [e] at hx; exact absurd hx (Nat.lt_irrefl _))) (((s.e _ hk).1 0 hx).1.trans (List.getElem?_eq_getElem hx)) H
theorem getAt_in {k t7 : Nat} {iso : Int} {t : GT It k} {tb : Nat} {i : Nat} (s : St h0 Z E h) (gd : Gd iso t) (hall : ∀ r ∈ t.all enc, r ∈ E) (hroot : cl h tb 2 = some (ptr t.id 0)) (hat : t.At enc 1 h) (hcn : t.Cn) (hn : t.pt.items.length ≤ 4611686018427387903) (hi : i < t.pt.items.length) (H : ∀ p, t.pt.items[i]? = some p → Q (.tuple #[kv p.1, vv p.2, .bool true]) h) : Map_iu_getAt.j1 (ptr tb 0) (.int .i64 i) (.bool false) (ptr t7 0) h Q := by
  unfold Map_iu_getAt.j1; refine r_nil (r_fld ?_)
  refine isoLoad_ro (by simpa using hroot) ?_
  refine loop_ghost (fun j l h' => h' = h ∧ ∃ (t' : GT It j) (ix : Nat), Gd iso t' ∧ (∀ r ∈ t'.all enc, r ∈ E) ∧ t'.At enc 1 h ∧ t'.Cn ∧ l = [.int .i64 ix, ptr t'.id 0] ∧ ix < t'.pt.items.length ∧ t'.pt.items.length ≤ 4611686018427387903 ∧ t'.pt.items[ix]? = t.pt.items[i]?)
    (n0 := k) ⟨rfl, t, i, gd, hall, hat, hcn, rfl, hi, hn, rfl⟩ ?_
  clear hat hcn hroot hn gd hall
  rintro j l h ⟨rfl, t', ix, gd, hall, hat, hcn, rfl, hix, hn', heq⟩ K1 hK
  unfold Map_iu_getAt.l2.b
  cases j with
  | zero =>
    refine leaf_ok (a := none) hat.2 ?_; refine r_if (fun _ => ?_) (fun e => absurd e (by simp))
    have hx : ix < (Nd.its t').length := hix
    obtain ⟨z1, z2⟩ := allZ_leaf hall
    have wi := gd.wf.1
    refine r_nil (r_fld (r_ld0 hat.1.iv ?_))
    refine hat.1.its.at rfl encl rfl rfl hx fun b o hb => ?_; refine r_fld ?_; refine hb.load (j := 0) rfl ?_; refine r_nil (r_fld (r_ld0 hat.1.iv ?_))
    refine wi.idx (n := ix) rfl hx ?_; refine fldZ_mem s z2 (by rw [List.length_append, flat_len encl]; omega) ?_; refine r_ld00 ?_; refine r_st00 ?_; refine r_ld00 ?_; refine H (Nd.its t')[ix] ?_; rw [← heq]; exact List.getElem?_eq_getElem hx
  | succ j =>
    refine leaf_ok (a := some ⟨t'.1.kb, 0, none⟩) hat.2.1 ?_; refine r_if (fun e => absurd e (by simp)) (fun _ => ?_)
    obtain ⟨z1, z2, _, _, z5⟩ := allZ_inner (d := t'.1) (ts := t'.2) hall
    have wi := gd.wf.1.1
    have hit : t'.pt.items = inter t'.1.its (t'.2.map fun q => q.pt.items) := by
      show inter t'.1.its ((t'.2.map GT.pt).map PT.items) = _
      rw [List.map_map]; rfl
    have hkl : (t'.2.map fun q => q.pt.items).length = t'.1.its.length + 1 := by rw [List.length_map]; exact hat.2.2.2.2.1
    have hkl' : t'.2.length = t'.1.its.length + 1 := hat.2.2.2.2.1
    have hlen := inter_length t'.1.its (t'.2.map fun q => q.pt.items)
    rw [← hit] at hlen
    have hkn : ∀ m (hm : m < t'.2.length), t'.2[m].pt.items.length ≤ 4611686018427387903 := fun m hm => by
      have : t'.2[m].pt.items.length ≤ ((t'.2.map fun q => q.pt.items).map List.length).sum := mem_le_sum (by
        rw [List.map_map]; exact List.mem_map.2 ⟨t'.2[m], List.getElem_mem hm, rfl⟩)
      omega
    have hgk : ∀ m (hm : m < t'.2.length), (t'.2.map fun q => q.pt.items)[m]'(by rw [List.length_map]; exact hm) = t'.2[m].pt.items := fun m hm => by simp
    have down : ∀ (m ix2 : Nat) (hm : m < t'.2.length), ix2 < t'.2[m].pt.items.length → (pre t'.1.its (t'.2.map fun q => q.pt.items) m).length + ix2 = ix → Map_iu_getAt.j4 (ptr tb 0) (.int .i64 ix2) (.bool false) (ptr t7 0) (ptr t'.id 0) (.int .i64 m) h K1 Q := fun m ix2 hm h1 h2 => by
      unfold Map_iu_getAt.j4; refine r_nil (r_fld (r_ld0 hat.2.1 ?_))
      refine r_nil (r_ld hat.2.2.1 ?_)
      refine hat.2.2.2.1.at1 rfl hm fun b o hb => ?_; refine isoLoad_ro (hb 0 (by simp)) ?_; refine hK j _ _ (Nat.lt_succ_self j) ⟨rfl, t'.2[m], ix2, gd.kid (List.getElem_mem hm), z5 _ (List.getElem_mem hm), hat.2.2.2.2.2 _ (List.getElem_mem hm), hcn.2 _ (List.getElem_mem hm), rfl, h1, hkn m hm, ?_⟩
      rw [← heq, ← h2, hit, inter_kid hkl (by rw [List.length_map]; exact hm) (by rw [hgk m hm]; exact h1), hgk m hm]
    unfold Map_iu_getAt.j3; refine loop_intro (fun l h2 => h2 = h ∧ ∃ m ix2 : Nat, l = [.int .i64 ix2, .int .i64 m] ∧ m ≤ t'.1.its.length ∧ (pre t'.1.its (t'.2.map fun q => q.pt.items) m).length + ix2 = ix) (fun l _ => t'.1.its.length + 1 - (Hp.iv (l.getD 1 undef)).toNat) ⟨rfl, 0, ix, rfl, by omega, by simp [pre]⟩ ?_
    rintro l h ⟨rfl, m, ix2, rfl, hm, hpre⟩
    unfold Map_iu_getAt.l5.b; refine r_nil (r_fld (r_ld0 hat.1.iv ?_))
    refine hat.1.its.lenV ?_; refine r_cmpI ?_; refine r_if (fun e => ?_) (fun e => ?_)
    · have e : m < t'.1.its.length := by have := of_decide_eq_true e; simp at this; omega
      have hmk : m < t'.2.length := by omega
      have hkc := (hcn.2 _ (List.getElem_mem hmk)).cnt
      have hkat := (hat.2.2.2.2.2 _ (List.getElem_mem hmk)).nd
      have hps := congrArg List.length (pre_succ (its := t'.1.its) (ks := t'.2.map fun q => q.pt.items) e (by rw [hkl]; omega))
      rw [List.length_append, List.length_append, hgk m hmk] at hps
      simp only [List.length_cons, List.length_nil] at hps
      unfold Map_iu_getAt.j6; refine r_nil (r_fld (r_ld0 hat.2.1 ?_))
      refine r_nil (r_ld hat.2.2.1 ?_)
      refine hat.2.2.2.1.at1 rfl hmk fun b o hb => ?_; refine hb.load0 rfl ?_; refine r_nil (r_fld (r_ld0 hkat.cnt ?_))
      refine r_cmpI ?_; rw [hkc]; refine r_if (fun e2 => ?_) (fun e2 => ?_)
      · have e2 : ix2 < t'.2[m].pt.items.length := by have := of_decide_eq_true e2; simp at this; omega
        exact down m ix2 hmk e2 hpre
      · have e2 : ¬ ix2 < t'.2[m].pt.items.length := by have := of_decide_eq_false e2; simp at this; omega
        refine r_nil (r_fld (r_ld0 hat.2.1 ?_))
        refine r_nil (r_ld hat.2.2.1 ?_)
        refine hat.2.2.2.1.at1 rfl hmk fun b o hb => ?_; refine hb.load0 rfl ?_; refine r_nil (r_fld (r_ld0 hkat.cnt ?_))
        refine r_cmpI ?_; rw [hkc]; refine r_if (fun e3 => ?_) (fun e3 => ?_)
        · have e3 : ix2 = t'.2[m].pt.items.length := by have := eq_of_beq e3; omega
          refine r_nil (r_fld (r_ld0 hat.1.iv ?_))
          refine hat.1.its.at rfl encl rfl rfl e fun b o hb => ?_; refine r_fld ?_; refine hb.load (j := 0) rfl ?_; refine r_nil (r_fld (r_ld0 hat.1.iv ?_))
          refine wi.idx (n := m) rfl e ?_; refine fldZ_mem s z2 (by rw [List.length_append, flat_len encl]; omega) ?_; refine r_ld00 ?_; refine r_st00 ?_; refine r_ld00 ?_; refine H t'.1.its[m] ?_
          have := inter_item hkl e
          rw [hgk m hmk, ← e3, hpre, ← hit, heq] at this; rw [this, List.getElem?_eq_getElem e]
        · have e3 : ¬ ix2 = t'.2[m].pt.items.length := by intro h; rw [h] at e3; simp at e3
          unfold Map_iu_getAt.j8; refine r_nil (r_fld (r_ld0 hat.2.1 ?_))
          refine r_nil (r_ld hat.2.2.1 ?_)
          refine hat.2.2.2.1.at1 rfl hmk fun b o hb => ?_; refine hb.load0 rfl ?_; refine r_nil (r_fld (r_ld0 hkat.cnt ?_))
          rw [hkc]
          have := hkn m hmk
          refine r_add (z := ((t'.2[m].pt.items.length + 1 : Nat) : Int)) (by rw [i64w (by omega) (by omega)]; omega) ?_; refine r_sub (z := ((ix2 - (t'.2[m].pt.items.length + 1) : Nat) : Int)) (by rw [i64w (by omega) (by omega)]; omega) ?_; unfold Map_iu_getAt.j7; refine r_add (z := ((m + 1 : Nat) : Int)) (by rw [i64w (by omega) (by omega)]; omega) ?_; exact ⟨⟨rfl, m + 1, _, rfl, e, by rw [hps]; omega⟩, by simp; omega⟩
    · have e : m = t'.1.its.length := by have := of_decide_eq_false e; simp at this; omega
      subst e
      have hmk : t'.1.its.length < t'.2.length := by omega
      refine down _ ix2 hmk ?_ hpre
      have hl := congrArg List.length (inter_pre hkl)
      rw [← hit, List.length_append, hgk _ hmk] at hl
      omega
theorem atK_out {l : List It} {i : Int} (h : i < 0 ∨ (l.length : Int) ≤ i) : atK l i = none := by
  unfold atK
  split
  · exact List.getElem?_eq_none (by omega)
  · rfl
theorem GetAt_ok {g : Rt} {tb m : Nat} {iso mn mx i : Int} {ctr : Option Addr} (M : MapOk m iso g) (hsz : (rPt g).items.length ≤ 4611686018427387903) (s : St h0 Z ((tb, 0, hdr iso ctr (rA g) (rPt g).items.length mn mx) :: (rAll g ++ E)) h)
    (H : ∀ h', St h0 Z ((tb, 0, hdr iso ctr (rA g) (rPt g).items.length mn mx) :: (rAll g ++ E)) h' → Q (.tuple #[kv ((atK (rPt g).items i).getD emp).1, vv ((atK (rPt g).items i).getD emp).2, .bool (atK (rPt g).items i).isSome]) h') : Map_iu_GetAt.call #[ptr tb 0, .int .i64 i] h Q := by
  refine Map_iu_GetAt.body _ _ _ _ ?_; unfold Map_iu_GetAt.sh; refine s.r_alloc fun t5 h s => ?_
  have s := s.drop 1
  refine Map_iu_getAt.body _ _ _ _ _ ?_; unfold Map_iu_getAt.sh; refine s.r_alloc fun t7 h s => ?_
  have s := s.drop 1
  have H := H h s
  have fin : (i < 0 ∨ ((rPt g).items.length : Int) ≤ i) → nilck (ptr tb 0) fun t29 => fld 4 t29 fun t30 => fld 0 t30 fun t31 => load1 t31 h fun t32 => nilck (ptr tb 0) fun t34 => fld 4 t34 fun t35 => fldZ Try.prog 0 t35 h fun t36 => loadN 0 t36 h fun t37 => storeN 0 (ptr t7 0) t37 h fun h => loadN 0 (ptr t7 0) h fun r => extr 0 (.tuple #[t32, r, (.bool false)]) fun t10 => extr 1 (.tuple #[t32, r, (.bool false)]) fun t11 => extr 2 (.tuple #[t32, r, (.bool false)]) fun t12 => storeN 0 (ptr t5 0) t11 h fun h => loadN 0 (ptr t5 0) h fun r5 => Q (.tuple #[t10, r5, t12]) h := fun hout => by
    rw [atK_out hout] at H; refine r_nil ?_; refine r_fld ?_; refine r_fld ?_; refine St.r_load0 s 0 rfl rfl ?_; refine r_nil ?_; refine r_fld ?_; refine r_fldZE zall s 0 rfl (by simp) ?_; refine r_ld00 ?_; refine r_st00 ?_; refine r_ld00 ?_; refine r_ext rfl ?_; refine r_ext rfl ?_; refine r_ext rfl ?_; refine r_st00 ?_; refine r_ld00 ?_; exact H
  refine r_nil ?_; refine r_fld ?_; refine St.r_load0 s 0 rfl rfl ?_; refine r_eqNilP ?_; refine r_br (fun hn => ?_) (fun hn => ?_)
  · refine r_cmpI ?_
    refine r_br (fun e => ?_) (fun e => fin (.inl (by simpa using e)))
    have e : ¬ i < 0 := by simpa using e
    refine r_nil ?_; refine r_fld ?_; refine St.r_load0 s 0 rfl rfl ?_; refine r_cmpI ?_; refine r_if (fun e2 => fin (.inr (by simpa using e2))) (fun e2 => ?_)
    have e2 : ¬ ((rPt g).items.length : Int) ≤ i := by simpa using e2
    obtain ⟨n, rfl⟩ : ∃ n : Nat, i = n := ⟨i.toNat, by omega⟩
    have hin : n < (rPt g).items.length := by omega
    cases g with
    | none => exact absurd hin (Nat.not_lt_zero _)
    | some t =>
      obtain ⟨k, t⟩ := t
      have hat : t.At enc 1 h := GT.At.of M.gd.wf fun r hr => (s.e r (List.mem_cons_of_mem _ (List.mem_append.2 (.inl hr)))).1
      have hroot : cl h tb 2 = some (ptr t.id 0) := (by have := s.get (k := 0) (j := 2) rfl (by simp); simpa using this : cl h tb 2 = some (Value.pointer (rA (some ⟨k, t⟩))))
      refine getAt_in s M.gd (fun r hr => List.mem_cons_of_mem _ (List.mem_append.2 (.inl hr))) hroot hat M.gd.cn hsz hin fun p hp => ?_
      have e3 : atK (rPt (some ⟨k, t⟩)).items n = some p := by unfold atK; rw [if_pos (by omega)]; exact hp
      rw [e3] at H; refine r_ext rfl ?_; refine r_ext rfl ?_; refine r_ext rfl ?_; refine r_st00 ?_; refine r_ld00 ?_; exact H
  · refine fin ?_
    cases g with
    | none =>
      have : (rPt (none : Rt)).items.length = 0 := rfl
      rw [this]; omega
    | some t => exact absurd hn (by simp [rA])
end Go.Proofs.Ytdpkpcmoabfofaa.Iu
end
section
namespace Go.Proofs.Ytdpkpcmoabfofaa.Iu
open Go.Hp Go.Proofs.Ytdpkpcmoabfofaa
variable {h0 h : Heap} {Z E : List Rg} {Q : Value → Heap → Prop}
theorem nodeKeys_ok {m : Nat} {iso : Int} (hm : m ≤ 1024) : ∀ {k : Nat} (t : GT It k) {lo : Nat} (g : Gd iso t) (fl : t.pt.Fl m lo) (hz : ∀ r ∈ t.all enc, r ∈ Z) {L : List KT} {v : Value} {b o : Nat} {sp : List Value} {E : List Rg} {h : Heap} {Q : Value → Heap → Prop},
    L.length + t.pt.items.length ≤ 4294967295 → Own 1 v L.length b o (L.flatMap fk) sp → St h0 Z ((b, o, L.flatMap fk ++ sp) :: E) h →
    (∀ v' b' o' sp' h', Own 1 v' (L ++ t.pt.items.map (·.1)).length b' o' ((L ++ t.pt.items.map (·.1)).flatMap fk) sp' → St h0 Z ((b', o', (L ++ t.pt.items.map (·.1)).flatMap fk ++ sp') :: E) h' → Q v' h') → mapNode_iu_keys.call #[ptr t.id 0, v] h Q
  | 0, (d : Nd It), lo, g, fl, hz, L, v, b, o, sp, E, h, Q, hN, wv, s, H => by
    obtain ⟨own, n, is', cnt, its, iv, ib, io, isp, kb, kv', krb, kro, ksp⟩ := d; obtain ⟨z1, z2⟩ := allZ_leaf hz
    have w : Own 1 iv its.length ib io (its.flatMap enc) isp := g.wf.1
    have hl : its.length ≤ m := fl.2
    have hN : L.length + its.length ≤ 4294967295 := hN
    have H : ∀ v' b' o' sp' h', Own 1 v' (L ++ its.map (·.1)).length b' o' ((L ++ its.map (·.1)).flatMap fk) sp' → St h0 Z ((b', o', (L ++ its.map (·.1)).flatMap fk ++ sp') :: E) h' → Q v' h' := H
    show mapNode_iu_keys.call #[ptr n 0, v] h Q
    refine mapNode_iu_keys.body _ _ _ _ ?_; unfold mapNode_iu_keys.sh; refine leaf_ok (a := none) (s.clz z1 3 rfl rfl) ?_; refine r_if (fun _ => ?_) (fun e => absurd e (by simp))
    refine loop_ghost (fun k st h => ∃ j v b o sp, k = its.length - j ∧ j ≤ its.length ∧ st = [v, .int .i64 (j : Nat)] ∧ Own 1 v (L ++ (its.take j).map (·.1)).length b o ((L ++ (its.take j).map (·.1)).flatMap fk) sp ∧ St h0 Z ((b, o, (L ++ (its.take j).map (·.1)).flatMap fk ++ sp) :: E) h)
      (n0 := its.length) ⟨0, v, b, o, sp, rfl, Nat.zero_le _, rfl, by simpa using wv, by simpa using s⟩ ?_
    rintro k st h ⟨j, v, b, o, sp, rfl, hj, rfl, wv, s⟩ K HK
    unfold mapNode_iu_keys.l7.b; refine r_nil ?_; refine r_fld ?_; refine s.r_lz0 z1 (j := 2) rfl ?_; refine w.lenV ?_; refine r_cmpI ?_; refine r_if (fun hlt => ?_) (fun hge => ?_)
    · have hlt : j < its.length := by simpa using hlt
      have hx : its[j]? = some its[j] := List.getElem?_eq_getElem hlt
      unfold mapNode_iu_keys.j8; refine r_nil ?_; refine r_fld ?_; refine s.r_lz0 z1 (j := 2) rfl ?_; refine w.idx (n := j) rfl hlt ?_; refine r_fld ?_; refine s.r_load1FZ encl (r := 0) z2 hx rfl ?_; refine St.r_mkSl (sz := 1) (cs := [kv its[j].1]) s (by ((simp only [fillV, fill1, Value.cells, zeros_succ, zeros_zero, size_toArray, length_cons, length_nil, length_append, take_succ_cons, take_zero, take_nil, drop_succ_cons, drop_zero, drop_nil, cons_append, nil_append, append_nil, Nat.reduceAdd, Nat.reduceMul, Nat.reduceLeDiff, Nat.reduceEqDiff, and_self, and_true, true_and, if_true, Nat.le_refl, Nat.zero_add, Nat.add_zero, Nat.zero_mul, reduceIte, if_false] <;> rfl))) rfl fun q h s w1 => ?_; refine St.r_app s 1 (sz := 1) (n := 1) (new := [kv its[j].1]) rfl wv rfl (w1.rdl s 0 rfl) (by simp [one1]) (by simp; omega) (by simp; omega) fun v' b' o' sp' h s w' => ?_; rw [snoc_fk] at s w'
      have et : (L ++ (its.take j).map (·.1)) ++ [its[j].1] = L ++ (its.take (j + 1)).map (·.1) := by
        rw [List.take_succ_eq_append_getElem hlt, List.map_append, List.append_assoc]; rfl
      have w' : Own 1 v' ((L ++ (its.take j).map (·.1)) ++ [its[j].1]).length b' o' (((L ++ (its.take j).map (·.1)) ++ [its[j].1]).flatMap fk) sp' := by rw [List.length_append]; exact w'
      rw [et] at s w'; unfold mapNode_iu_keys.j9; refine r_add (z := ((j + 1 : Nat) : Int)) (by rw [i64w (by omega) (by omega)]; omega) ?_; exact HK (its.length - (j + 1)) _ _ (by omega) ⟨j + 1, v', b', o', sp', rfl, hlt, rfl, w', s.drop 1⟩
    · have hge : j = its.length := by simp at hge; omega
      subst hge; rw [List.take_length] at s wv; unfold mapNode_iu_keys.j6; exact H v b o sp h wv s
  | k + 1, t, lo, g, fl, hz, L, v, b, o, sp, E, h, Q, hN, wv, s, H => by
    obtain ⟨d, ts⟩ := t; obtain ⟨own, n, is', cnt, its, iv, ib, io, isp, kb, kv', krb, kro, ksp⟩ := d; obtain ⟨z1, z2, z3, z4, z5⟩ := allZ_inner hz
    have w : Own 1 iv its.length ib io (its.flatMap enc) isp := g.wf.1.1
    have wK : Own 1 kv' ts.length krb kro ((ts.map GT.id).map fun m => ptr m 0) ksp := g.wf.2.1
    have hkl : ts.length = its.length + 1 := g.wf.2.2.1
    have hl : its.length ≤ m := fl.2.1
    have hpl : ∀ i, ((ts.take i).map fun t => t.pt.items) = (((ts.map GT.pt).take i).map PT.items) := fun i => by rw [← List.map_take, List.map_map]; rfl
    have hsplit : ∀ i (hi : i ≤ its.length) c, ts[i]? = some c → PT.items (h := k + 1) (its, ts.map GT.pt) = lz (its.take i) ((ts.take i).map fun t => t.pt.items) ++ (c.pt.items ++ rz (its.drop i) (((ts.map GT.pt).drop (i + 1)).map PT.items)) := by
      intro i hi c hc; obtain ⟨c', hc', _, e⟩ := PT.around (t := ((its, ts.map GT.pt) : PT It (k + 1))) fl hi
      have hc' : (ts.map GT.pt)[i]? = some c' := hc'
      rw [List.getElem?_map, hc] at hc'
      have : c' = c.pt := (Option.some.inj hc').symm
      subst this; rw [hpl]; exact e
    have hN : L.length + (PT.items (h := k + 1) (its, ts.map GT.pt)).length ≤ 4294967295 := hN
    have H : ∀ v' b' o' sp' h', Own 1 v' (L ++ (PT.items (h := k + 1) (its, ts.map GT.pt)).map (·.1)).length b' o' ((L ++ (PT.items (h := k + 1) (its, ts.map GT.pt)).map (·.1)).flatMap fk) sp' → St h0 Z ((b', o', (L ++ (PT.items (h := k + 1) (its, ts.map GT.pt)).map (·.1)).flatMap fk ++ sp') :: E) h' → Q v' h' := H
    show mapNode_iu_keys.call #[ptr n 0, v] h Q
    refine mapNode_iu_keys.body _ _ _ _ ?_; unfold mapNode_iu_keys.sh; refine leaf_ok (a := some ⟨kb, 0, Option.none⟩) (s.clz z1 3 rfl rfl) ?_; refine r_if (fun e => absurd e (by simp)) (fun _ => ?_)
    unfold mapNode_iu_keys.j1
    refine loop_ghost (fun q st h => ∃ j v b o sp, q = its.length - j ∧ j ≤ its.length ∧ st = [v, .int .i64 (j : Nat)] ∧ Own 1 v (L ++ (lz (its.take j) ((ts.take j).map fun t => t.pt.items)).map (·.1)).length b o ((L ++ (lz (its.take j) ((ts.take j).map fun t => t.pt.items)).map (·.1)).flatMap fk) sp ∧ St h0 Z ((b, o, (L ++ (lz (its.take j) ((ts.take j).map fun t => t.pt.items)).map (·.1)).flatMap fk ++ sp) :: E) h)
      (n0 := its.length) ⟨0, v, b, o, sp, rfl, Nat.zero_le _, rfl, by simpa [lz] using wv, by simpa [lz] using s⟩ ?_
    rintro q st h ⟨j, v, b, o, sp, rfl, hj, rfl, wv, s⟩ K HK
    obtain ⟨c, hc⟩ : ∃ c, ts[j]? = some c := ⟨ts[j]'(by omega), List.getElem?_eq_getElem (by omega)⟩
    have hcm := List.mem_of_getElem? hc
    have hfc : PT.Fl m (m / 2) c.pt := fl.2.2.2 _ (List.mem_map.2 ⟨c, hcm, rfl⟩)
    have hs := hsplit j hj c hc
    have hsl := congrArg List.length hs
    simp only [List.length_append] at hsl
    unfold mapNode_iu_keys.l3.b; refine r_nil ?_; refine r_fld ?_; refine s.r_lz0 z1 (j := 2) rfl ?_; refine w.lenV ?_; refine r_cmpI ?_; refine r_if (fun hlt => ?_) (fun hge => ?_)
    · have hlt : j < its.length := by simpa using hlt
      have hx : its[j]? = some its[j] := List.getElem?_eq_getElem hlt
      have et : its.take (j + 1) = its.take j ++ [its[j]] := List.take_succ_eq_append_getElem hlt
      have ek : ts.take (j + 1) = ts.take j ++ [c] := by rw [List.take_add_one, hc]; rfl
      have ez : lz (its.take (j + 1)) ((ts.take (j + 1)).map fun t => t.pt.items) = lz (its.take j) ((ts.take j).map fun t => t.pt.items) ++ (c.pt.items ++ [its[j]]) := by
        rw [et, ek, List.map_append, List.map_cons, List.map_nil, lz_snoc _ _ _ _ (by simp; omega)]
      obtain ⟨rest, hrest⟩ : ∃ rest, rz (its.drop j) (((ts.map GT.pt).drop (j + 1)).map PT.items) = its[j] :: rest := by
        have e1 : its.drop j = its[j] :: its.drop (j + 1) := List.drop_eq_getElem_cons hlt
        have e2 : (ts.map GT.pt).drop (j + 1) = (ts.map GT.pt)[j + 1]'(by simp; omega) :: (ts.map GT.pt).drop (j + 1 + 1) := List.drop_eq_getElem_cons (by simp; omega)
        rw [e1, e2, List.map_cons, rz_cons]; exact ⟨_, rfl⟩
      rw [hrest, List.length_cons] at hsl; unfold mapNode_iu_keys.j4; refine r_nil ?_; refine r_fld ?_; refine s.r_lz0 z1 (j := 3) rfl ?_; refine r_nil ?_; refine s.r_lz0 z3 (j := 0) rfl ?_; refine wK.idx (n := j) rfl (by omega) ?_; refine r_ld (kidcell z4 hc s) ?_; refine nodeKeys_ok hm c (g.kid hcm) hfc (z5 c hcm) (by rw [List.length_append, List.length_map]; omega) wv s fun v2 b2 o2 sp2 h s2 s => ?_; refine r_nil ?_; refine r_fld ?_; refine s.r_lz0 z1 (j := 2) rfl ?_; refine w.idx (n := j) rfl hlt ?_; refine r_fld ?_; refine s.r_load1FZ encl (r := 0) z2 hx rfl ?_; refine St.r_mkSl (sz := 1) (cs := [kv its[j].1]) s (by ((simp only [fillV, fill1, Value.cells, zeros_succ, zeros_zero, size_toArray, length_cons, length_nil, length_append, take_succ_cons, take_zero, take_nil, drop_succ_cons, drop_zero, drop_nil, cons_append, nil_append, append_nil, Nat.reduceAdd, Nat.reduceMul, Nat.reduceLeDiff, Nat.reduceEqDiff, and_self, and_true, true_and, if_true, Nat.le_refl, Nat.zero_add, Nat.add_zero, Nat.zero_mul, reduceIte, if_false] <;> rfl))) rfl fun q h s w1 => ?_; refine St.r_app s 1 (sz := 1) (n := 1) (new := [kv its[j].1]) rfl s2 rfl (w1.rdl s 0 rfl) (by simp [one1]) (by simp only [List.length_append, List.length_map]; omega) (by simp only [List.length_append, List.length_map]; omega) fun v' b' o' sp' h s w' => ?_; rw [snoc_fk] at s w'
      have e9 : (L ++ (lz (its.take j) ((ts.take j).map fun t => t.pt.items)).map (·.1) ++ c.pt.items.map (·.1)) ++ [its[j].1] = L ++ (lz (its.take (j + 1)) ((ts.take (j + 1)).map fun t => t.pt.items)).map (·.1) := by
        rw [ez]; simp
      have w' : Own 1 v' ((L ++ (lz (its.take j) ((ts.take j).map fun t => t.pt.items)).map (·.1) ++ c.pt.items.map (·.1)) ++ [its[j].1]).length b' o' (((L ++ (lz (its.take j) ((ts.take j).map fun t => t.pt.items)).map (·.1) ++ c.pt.items.map (·.1)) ++ [its[j].1]).flatMap fk) sp' := by rw [List.length_append]; exact w'
      rw [e9] at s w'; unfold mapNode_iu_keys.j5; refine r_add (z := ((j + 1 : Nat) : Int)) (by rw [i64w (by omega) (by omega)]; omega) ?_; exact HK (its.length - (j + 1)) _ _ (by omega) ⟨j + 1, v', b', o', sp', rfl, hlt, rfl, w', s.drop 1⟩
    · have hge : j = its.length := by simp at hge; omega
      subst hge
      have hr0 : rz (its.drop its.length) (((ts.map GT.pt).drop (its.length + 1)).map PT.items) = [] := by rw [List.drop_length]; rfl
      rw [hr0, List.append_nil] at hs; unfold mapNode_iu_keys.j2; refine r_nil ?_; refine r_fld ?_; refine s.r_lz0 z1 (j := 3) rfl ?_; refine r_nil ?_; refine s.r_lz0 z3 (j := 0) rfl ?_; refine r_nil ?_; refine r_fld ?_; refine s.r_lz0 z1 (j := 3) rfl ?_; refine r_nil ?_; refine s.r_lz0 z3 (j := 0) rfl ?_; refine wK.lenV ?_; refine r_sub (z := ((its.length : Nat) : Int)) (by rw [i64w (by omega) (by omega)]; omega) ?_; refine wK.idx (n := its.length) rfl (by omega) ?_; refine r_ld (kidcell z4 hc s) ?_; refine nodeKeys_ok hm c (g.kid hcm) hfc (z5 c hcm) (by rw [List.length_append, List.length_map]; omega) wv s fun v2 b2 o2 sp2 h s2 s => ?_
      have e9 : L ++ (lz (its.take its.length) ((ts.take its.length).map fun t => t.pt.items)).map (·.1) ++ c.pt.items.map (·.1) = L ++ (PT.items (h := k + 1) (its, ts.map GT.pt)).map (·.1) := by rw [hs]; simp
      rw [e9] at s s2; exact H v2 b2 o2 sp2 h s2 s
theorem Keys_ok {g : Rt} {tb m : Nat} {iso mn mx : Int} {ctr : Option Addr} (M : MapOk m iso g) (hl : (rPt g).items.length ≤ 4294967295) (s : St h0 Z (((tb, 0, hdr iso ctr (rA g) (rPt g).items.length mn mx) :: rAll g) ++ E) h)
    (H : ∀ v b o sp h', Own 1 v ((rPt g).items.map (·.1)).length b o (((rPt g).items.map (·.1)).flatMap fk) sp → St h0 Z ((b, o, ((rPt g).items.map (·.1)).flatMap fk ++ sp) :: (((tb, 0, hdr iso ctr (rA g) (rPt g).items.length mn mx) :: rAll g) ++ E)) h' → Q v h') :
    Map_iu_Keys.call #[ptr tb 0] h Q := by
  refine Map_iu_Keys.body _ _ _ ?_; unfold Map_iu_Keys.sh; refine Map_iu_Len.body _ _ _ ?_; unfold Map_iu_Len.sh
  have s : St h0 Z ((tb, 0, hdr iso ctr (rA g) (rPt g).items.length mn mx) :: (rAll g ++ E)) h := s
  refine r_nil ?_; refine r_fld ?_; refine St.r_load0 s 0 rfl rfl ?_; refine s.r_mks (n := 0) (sz := 1) rfl (by omega) (by omega) (by omega) fun v b h s w => ?_; rw [zeros_zero] at s w; refine r_nil ?_; refine r_fld ?_; refine St.r_load0 s 1 rfl rfl ?_; refine r_neNilP ?_
  cases g with
  | none =>
    refine r_if (fun e => absurd e (by simp [rA])) (fun _ => ?_)
    unfold Map_iu_Keys.j1; exact H _ b 0 _ h w s
  | some t =>
    refine r_if (fun _ => ?_) (fun e => absurd e (by simp [rA]))
    refine r_nil ?_; refine r_fld ?_; refine St.r_load0 s 1 rfl rfl ?_
    have s0 : St h0 Z (((tb, 0, hdr iso ctr (rA (some t)) (rPt (some t)).items.length mn mx) :: rAll (some t)) ++ ((b, 0, ([] : List KT).flatMap fk ++ zeros [kv emp.1] ((rPt (some t)).items.length - 0)) :: E)) h := s.perm (by ((apply perm_rg; intro f; simp only [set_cons_zero, set_cons_succ, eraseIdx_cons_zero, eraseIdx_cons_succ, cons_append, nil_append, map_append, map_cons, map_nil, List.sum_append, List.sum_cons, List.sum_nil, map_flatMap, Nat.add_zero, Nat.zero_add]; ac_rfl)))
    obtain ⟨s1, back⟩ := s0.borrow; refine nodeKeys_ok M.m1 t.2 M.gd M.fl (fun r hr => List.mem_append.2 (.inl (List.mem_cons_of_mem _ hr))) (L := []) (by rw [List.length_nil, Nat.zero_add]; exact hl) w s1 fun v' b' o' sp' h' w' s => ?_
    have s := back _ h' s
    unfold Map_iu_Keys.j1; exact H v' b' o' sp' h' w' (s.perm (by ((apply perm_rg; intro f; simp only [set_cons_zero, set_cons_succ, eraseIdx_cons_zero, eraseIdx_cons_succ, cons_append, nil_append, map_append, map_cons, map_nil, List.sum_append, List.sum_cons, List.sum_nil, map_flatMap, Nat.add_zero, Nat.zero_add]; ac_rfl))))
end Go.Proofs.Ytdpkpcmoabfofaa.Iu
end
section
namespace Go.Proofs.Ytdpkpcmoabfofaa.Iu
open Go.Hp Go.Proofs.Ytdpkpcmoabfofaa
variable {h0 h : Heap} {Z E : List Rg} {Q : Value → Heap → Prop}
theorem nodeReverse_ok {cont : List It → Bool} {f tr : Value} {J : List It → Heap → Prop} {iso : Int} {m N : Nat} (hm : m ≤ 1024) (hJ : ∀ p h, J p h → ∃ E, St h0 Z E h)
    (cb : ∀ (p : List It) (x : It) (h : Heap) (K : Value → Heap → Prop), p.length < N → J p h → (∀ h', J (p ++ [x]) h' → K (.bool (cont (p ++ [x]))) h') → callV Try.prog f #[kv x.1, vv x.2] h K) :
    ∀ {k : Nat} (t : GT It k) {lo : Nat} (g : Gd iso t) (fl : t.pt.Fl m lo) (hz : ∀ r ∈ t.all enc, r ∈ Z) (hzb : ∀ r ∈ t.all enc, r.2.2 ≠ [] → h0.size ≤ r.1) {pb po : Nat} (hp : ∀ E h, St h0 Z E h → cl h pb po = some (ptr t.id 0)) {p : List It} {h : Heap} {Q : Value → Heap → Prop}, p.length + t.pt.items.length ≤ N → J p h →
      (∀ h', J (feed cont p t.pt.items.reverse).1 h' → Q (.bool (feed cont p t.pt.items.reverse).2) h') → Map_iu_nodeReverse.call #[tr, ptr pb po, f, .bool false] h Q
  | 0, (d : Nd It), lo, g, fl, hz, hzb, pb, po, hp, p, h, Q, hN, hj, H => by
    obtain ⟨own, n, is', cnt, its, iv, ib, io, isp, kb, kv', krb, kro, ksp⟩ := d; obtain ⟨z1, z2⟩ := allZ_leaf hz
    have hib : 0 < its.length → h0.size ≤ ib := fun hl => hzb (ib, io, its.flatMap enc ++ isp) (List.mem_cons_of_mem _ (List.mem_cons_self ..)) (fun e => by
      have e : its.flatMap enc ++ isp = [] := e
      have := congrArg List.length e
      rw [List.length_append, flat_len encl, List.length_nil] at this
      omega)
    have w : Own 1 iv its.length ib io (its.flatMap enc) isp := g.wf.1
    have hl : its.length ≤ m := fl.2
    have hp : ∀ E h, St h0 Z E h → cl h pb po = some (ptr n 0) := hp
    have hN : p.length + its.length ≤ N := hN
    have H : ∀ h', J (feed cont p its.reverse).1 h' → Q (.bool (feed cont p its.reverse).2) h' := H
    refine Map_iu_nodeReverse.body _ _ _ _ _ _ ?_; unfold Map_iu_nodeReverse.sh; obtain ⟨E, s⟩ := hJ p h hj; refine isoLoad_ro (hp E h s) ?_; refine leaf_ok (a := none) (s.clz z1 3 rfl rfl) ?_; refine r_if (fun _ => ?_) (fun e => absurd e (by simp))
    refine r_nil ?_; refine r_fld ?_; refine s.r_lz0 z1 (j := 2) rfl ?_; refine w.lenV ?_; refine r_sub (z := (its.length : Int) - 1 - (0 : Nat)) (by rw [i64w (by omega) (by omega)]; omega) ?_; refine loop_up (n := its.length) (fun j => [.int .i64 ((its.length : Int) - 1 - (j : Nat))]) (fun j h => (feed cont p (its.drop (its.length - j)).reverse).2 = true ∧ J (feed cont p (its.drop (its.length - j)).reverse).1 h) ⟨by rw [Nat.sub_zero, List.drop_length]; rfl, by rw [Nat.sub_zero, List.drop_length]; exact hj⟩ ?_
    rintro j h hjl ⟨hf, hj⟩ K HK
    obtain ⟨E, s⟩ := hJ _ h hj; unfold Map_iu_nodeReverse.l9.b; refine r_cmpI ?_; refine r_if (fun hlt => ?_) (fun hge => ?_)
    · have hlt : j < its.length := by have : (0 : Int) ≤ (its.length : Int) - 1 - (j : Nat) := by simpa using hlt
                                      omega
      obtain ⟨i, hi⟩ : ∃ i, i + 1 = its.length - j := ⟨its.length - j - 1, by omega⟩
      have hi2 : its.length - (j + 1) = i := by omega
      have hlt : i < its.length := by omega
      have ei : (its.length : Int) - 1 - (j : Nat) = ((i : Nat) : Int) := by omega
      have hx : its[i]? = some its[i] := List.getElem?_eq_getElem hlt
      rw [← hi] at hf hj
      have et : (its.drop i).reverse = (its.drop (i + 1)).reverse ++ [its[i]] := by rw [List.drop_eq_getElem_cons hlt, List.reverse_cons]
      rw [ei]; unfold Map_iu_nodeReverse.j10; refine r_nil ?_; refine r_fld ?_; refine s.r_lz0 z1 (j := 2) rfl ?_; refine w.idx (n := i) rfl hlt ?_; refine r_fld ?_; refine s.r_load1FZ encl (r := 0) z2 hx rfl ?_; refine r_nil ?_; refine r_fld ?_; refine s.r_lz0 z1 (j := 2) rfl ?_; refine w.idx (n := i) rfl hlt ?_
      have hpos : 0 < (its.flatMap enc ++ isp).length := by rw [List.length_append, flat_len encl]; omega
      refine r_fldZT zall s (hib (by omega)) z2 hpos ?_; refine r_ld00 ?_
      have hfl := feed_len (cont := cont) (its.drop (i + 1)).reverse p
      rw [List.length_reverse, List.length_drop] at hfl; refine cb _ its[i] h _ (by omega) hj fun h' hj' => ?_; refine r_not ?_
      have ef : feed cont p (its.drop i).reverse = ((feed cont p (its.drop (i + 1)).reverse).1 ++ [its[i]], cont ((feed cont p (its.drop (i + 1)).reverse).1 ++ [its[i]])) := by rw [et, feed_step hf, feed_one]
      refine r_if (fun hc => ?_) (fun hc => ?_)
      · have hc : cont ((feed cont p (its.drop (i + 1)).reverse).1 ++ [its[i]]) = false := by simpa using hc
        have ea : feed cont p its.reverse = ((feed cont p (its.drop (i + 1)).reverse).1 ++ [its[i]], false) := by
          have e0 := feed_stop (cont := cont) (p := p) (a := (its.drop i).reverse) (b := (its.take i).reverse) (by rw [ef]; exact hc)
          rw [← List.reverse_append, List.take_append_drop, ef] at e0; exact e0
        have := H h' (by rw [ea]; exact hj')
        rw [ea] at this; exact this
      · have hc : cont ((feed cont p (its.drop (i + 1)).reverse).1 ++ [its[i]]) = true := by simpa using hc
        unfold Map_iu_nodeReverse.j11; refine r_sub (z := (its.length : Int) - 1 - (j + 1 : Nat)) (by rw [i64w (by omega) (by omega)]; omega) ?_; exact HK h' (by omega) ⟨by rw [hi2, ef]; exact hc, by rw [hi2, ef]; exact hj'⟩
    · have hge : j = its.length := by have : ¬ (0 : Int) ≤ (its.length : Int) - 1 - (j : Nat) := by simpa using hge
                                      omega
      subst hge; rw [Nat.sub_self, List.drop_zero] at hf hj; unfold Map_iu_nodeReverse.j8
      have := H h hj
      rw [hf] at this; exact this
  | k + 1, t, lo, g, fl, hz, hzb, pb, po, hp, p, h, Q, hN, hj, H => by
    obtain ⟨d, ts⟩ := t; obtain ⟨own, n, is', cnt, its, iv, ib, io, isp, kb, kv', krb, kro, ksp⟩ := d; obtain ⟨z1, z2, z3, z4, z5⟩ := allZ_inner hz
    have hib : 0 < its.length → h0.size ≤ ib := fun hl => hzb (ib, io, its.flatMap enc ++ isp) (List.mem_append.2 (.inl (List.mem_cons_of_mem _ (List.mem_cons_self ..)))) (fun e => by
      have e : its.flatMap enc ++ isp = [] := e
      have := congrArg List.length e
      rw [List.length_append, flat_len encl, List.length_nil] at this
      omega)
    have w : Own 1 iv its.length ib io (its.flatMap enc) isp := g.wf.1.1
    have wK : Own 1 kv' ts.length krb kro ((ts.map GT.id).map fun m => ptr m 0) ksp := g.wf.2.1
    have hkl : ts.length = its.length + 1 := g.wf.2.2.1
    have hl : its.length ≤ m := fl.2.1
    have hp : ∀ E h, St h0 Z E h → cl h pb po = some (ptr n 0) := hp
    have hpl : ∀ i, ((ts.take i).map fun t => t.pt.items) = (((ts.map GT.pt).take i).map PT.items) := fun i => by rw [← List.map_take, List.map_map]; rfl
    obtain ⟨D, hD⟩ : ∃ D : Nat → List It, ∀ i c, ts[i]? = some c → D i = c.pt.items ++ rz (its.drop i) (((ts.map GT.pt).drop (i + 1)).map PT.items) := ⟨fun i => match ts[i]? with | some c => c.pt.items ++ rz (its.drop i) (((ts.map GT.pt).drop (i + 1)).map PT.items) | none => [], fun i c hc => by simp only [hc]⟩
    have hsplit : ∀ i (hi : i ≤ its.length) c, ts[i]? = some c → PT.items (h := k + 1) (its, ts.map GT.pt) = lz (its.take i) ((ts.take i).map fun t => t.pt.items) ++ D i := by
      intro i hi c hc; obtain ⟨c', hc', _, e⟩ := PT.around (t := ((its, ts.map GT.pt) : PT It (k + 1))) fl hi
      have hc' : (ts.map GT.pt)[i]? = some c' := hc'
      rw [List.getElem?_map, hc] at hc'
      have : c' = c.pt := (Option.some.inj hc').symm
      subst this; rw [hpl, hD i c hc]; exact e
    have hstep : ∀ i (hi : i < its.length) c, ts[i]? = some c → D i = c.pt.items ++ its[i] :: D (i + 1) := by
      intro i hi c hc; obtain ⟨c2, hc2⟩ : ∃ c2, ts[i + 1]? = some c2 := ⟨ts[i + 1]'(by omega), List.getElem?_eq_getElem (by omega)⟩
      have e1 : its.drop i = its[i] :: its.drop (i + 1) := List.drop_eq_getElem_cons hi
      have e2 : (ts.map GT.pt).drop (i + 1) = c2.pt :: (ts.map GT.pt).drop (i + 1 + 1) := by
        have e3 : (ts.map GT.pt)[i + 1]'(by rw [List.length_map]; omega) = c2.pt := by
          have : (ts.map GT.pt)[i + 1]? = some c2.pt := by rw [List.getElem?_map, hc2]; rfl
          exact (List.getElem?_eq_some_iff.1 this).2
        rw [← e3]; exact List.drop_eq_getElem_cons (by rw [List.length_map]; omega)
      rw [hD i c hc, hD (i + 1) c2 hc2, e1, e2, List.map_cons, rz_cons]
    have hN : p.length + (PT.items (h := k + 1) (its, ts.map GT.pt)).length ≤ N := hN
    have H : ∀ h', J (feed cont p (PT.items (h := k + 1) (its, ts.map GT.pt)).reverse).1 h' → Q (.bool (feed cont p (PT.items (h := k + 1) (its, ts.map GT.pt)).reverse).2) h' := H
    refine Map_iu_nodeReverse.body _ _ _ _ _ _ ?_; unfold Map_iu_nodeReverse.sh; obtain ⟨E, s⟩ := hJ p h hj; refine isoLoad_ro (hp E h s) ?_; refine leaf_ok (a := some ⟨kb, 0, Option.none⟩) (s.clz z1 3 rfl rfl) ?_; refine r_if (fun e => absurd e (by simp)) (fun _ => ?_)
    unfold Map_iu_nodeReverse.j1; obtain ⟨c, hc⟩ : ∃ c, ts[its.length]? = some c := ⟨ts[its.length]'(by omega), List.getElem?_eq_getElem (by omega)⟩
    have hcm := List.mem_of_getElem? hc
    have hfc : PT.Fl m (m / 2) c.pt := fl.2.2.2 _ (List.mem_map.2 ⟨c, hcm, rfl⟩)
    have hr0 : rz (its.drop its.length) (((ts.map GT.pt).drop (its.length + 1)).map PT.items) = [] := by rw [List.drop_length]; rfl
    have hDn : D its.length = c.pt.items := by rw [hD _ c hc, hr0, List.append_nil]
    have hs := hsplit its.length (Nat.le_refl _) c hc
    have hsl := congrArg List.length hs
    rw [hDn] at hsl
    simp only [List.length_append] at hsl
    refine r_nil ?_; refine r_fld ?_; refine s.r_lz0 z1 (j := 3) rfl ?_; refine r_nil ?_; refine s.r_lz0 z3 (j := 0) rfl ?_; refine r_nil ?_; refine r_fld ?_; refine s.r_lz0 z1 (j := 3) rfl ?_; refine r_nil ?_; refine s.r_lz0 z3 (j := 0) rfl ?_; refine wK.lenV ?_; refine r_sub (z := ((its.length : Nat) : Int)) (by rw [i64w (by omega) (by omega)]; omega) ?_; refine wK.idx (n := its.length) rfl (by omega) ?_; refine nodeReverse_ok hm hJ cb c (g.kid hcm) hfc (z5 c hcm) (fun r hr => hzb r (List.mem_append.2 (.inr (List.mem_flatMap.2 ⟨c, hcm, hr⟩)))) (fun E h s => kidcell z4 hc s) (by omega) hj fun h' hj' => ?_; refine r_not ?_; rw [← hDn] at hj' ⊢; refine r_if (fun hr => ?_) (fun hr => ?_)
    · have hr : (feed cont p (D its.length).reverse).2 = false := by simpa using hr
      have ea : feed cont p (PT.items (h := k + 1) (its, ts.map GT.pt)).reverse = ((feed cont p (D its.length).reverse).1, false) := by
        rw [hs, List.reverse_append, feed_stop hr]
      have := H h' (by rw [ea]; exact hj')
      rw [ea] at this; exact this
    have hr : (feed cont p (D its.length).reverse).2 = true := by simpa using hr
    clear hj s hs hsl hc hcm hfc hDn; obtain ⟨E, s⟩ := hJ _ h' hj'; unfold Map_iu_nodeReverse.j2; refine r_nil ?_; refine r_fld ?_; refine s.r_lz0 z1 (j := 2) rfl ?_; refine w.lenV ?_; refine r_sub (z := (its.length : Int) - 1 - (0 : Nat)) (by rw [i64w (by omega) (by omega)]; omega) ?_; refine loop_up (n := its.length) (fun j => [.int .i64 ((its.length : Int) - 1 - (j : Nat))]) (fun j h => (feed cont p (D (its.length - j)).reverse).2 = true ∧ J (feed cont p (D (its.length - j)).reverse).1 h) ⟨hr, hj'⟩ ?_; clear hr hj' s
    rintro j h hjl ⟨hf, hj⟩ K HK
    obtain ⟨E, s⟩ := hJ _ h hj; unfold Map_iu_nodeReverse.l4.b; refine r_cmpI ?_; refine r_if (fun hlt => ?_) (fun hge => ?_)
    · have hlt : j < its.length := by have : (0 : Int) ≤ (its.length : Int) - 1 - (j : Nat) := by simpa using hlt
                                      omega
      obtain ⟨i, hi⟩ : ∃ i, i + 1 = its.length - j := ⟨its.length - j - 1, by omega⟩
      have hi2 : its.length - (j + 1) = i := by omega
      have hlt : i < its.length := by omega
      have ei : (its.length : Int) - 1 - (j : Nat) = ((i : Nat) : Int) := by omega
      have hx : its[i]? = some its[i] := List.getElem?_eq_getElem hlt
      rw [← hi] at hf hj; obtain ⟨c, hc⟩ : ∃ c, ts[i]? = some c := ⟨ts[i]'(by omega), List.getElem?_eq_getElem (by omega)⟩
      have hcm := List.mem_of_getElem? hc
      have hfc : PT.Fl m (m / 2) c.pt := fl.2.2.2 _ (List.mem_map.2 ⟨c, hcm, rfl⟩)
      have hd := hstep i hlt c hc
      have hs := hsplit i (by omega) c hc
      have hsl := congrArg List.length hs
      rw [hd] at hsl
      simp only [List.length_append, List.length_cons] at hsl
      have et : (D i).reverse = ((D (i + 1)).reverse ++ [its[i]]) ++ c.pt.items.reverse := by rw [hd]; simp
      have ers : (PT.items (h := k + 1) (its, ts.map GT.pt)).reverse = ((D (i + 1)).reverse ++ [its[i]]) ++ (c.pt.items.reverse ++ (lz (its.take i) ((ts.take i).map fun t => t.pt.items)).reverse) := by rw [hs, List.reverse_append, et]; simp
      have hfl := feed_len (cont := cont) (D (i + 1)).reverse p
      rw [List.length_reverse] at hfl
      have ef1 : feed cont p ((D (i + 1)).reverse ++ [its[i]]) = ((feed cont p (D (i + 1)).reverse).1 ++ [its[i]], cont ((feed cont p (D (i + 1)).reverse).1 ++ [its[i]])) := by rw [feed_step hf, feed_one]
      rw [ei]; unfold Map_iu_nodeReverse.j5; refine r_nil ?_; refine r_fld ?_; refine s.r_lz0 z1 (j := 2) rfl ?_; refine w.idx (n := i) rfl hlt ?_; refine r_fld ?_; refine s.r_load1FZ encl (r := 0) z2 hx rfl ?_; refine r_nil ?_; refine r_fld ?_; refine s.r_lz0 z1 (j := 2) rfl ?_; refine w.idx (n := i) rfl hlt ?_
      have hpos : 0 < (its.flatMap enc ++ isp).length := by rw [List.length_append, flat_len encl]; omega
      refine r_fldZT zall s (hib (by omega)) z2 hpos ?_; refine r_ld00 ?_; refine cb _ its[i] h _ (by omega) hj fun h' hj' => ?_; refine r_not ?_; refine r_if (fun hb => ?_) (fun hb => ?_)
      · have hb : cont ((feed cont p (D (i + 1)).reverse).1 ++ [its[i]]) = false := by simpa using hb
        have ea : feed cont p (PT.items (h := k + 1) (its, ts.map GT.pt)).reverse = ((feed cont p (D (i + 1)).reverse).1 ++ [its[i]], false) := by
          rw [ers, feed_stop (by rw [ef1]; exact hb), ef1]
        have := H h' (by rw [ea]; exact hj')
        rw [ea] at this; exact this
      · have hb : cont ((feed cont p (D (i + 1)).reverse).1 ++ [its[i]]) = true := by simpa using hb
        rw [hb] at ef1
        have hf1 : (feed cont p ((D (i + 1)).reverse ++ [its[i]])).2 = true := by rw [ef1]
        have hj1 : J (feed cont p ((D (i + 1)).reverse ++ [its[i]])).1 h' := by rw [ef1]; exact hj'
        have hfl2 := feed_len (cont := cont) ((D (i + 1)).reverse ++ [its[i]]) p
        rw [List.length_append, List.length_reverse, List.length_singleton] at hfl2; obtain ⟨E, s⟩ := hJ _ h' hj'; unfold Map_iu_nodeReverse.j7; refine r_nil ?_; refine r_fld ?_; refine s.r_lz0 z1 (j := 3) rfl ?_; refine r_nil ?_; refine s.r_lz0 z3 (j := 0) rfl ?_; refine wK.idx (n := i) rfl (by omega) ?_; refine nodeReverse_ok hm hJ cb c (g.kid hcm) hfc (z5 c hcm) (fun r hr => hzb r (List.mem_append.2 (.inr (List.mem_flatMap.2 ⟨c, hcm, hr⟩)))) (fun E h s => kidcell z4 hc s) (by omega) hj1 fun h2 hj2 => ?_
        have ef2 : feed cont p (D i).reverse = feed cont (feed cont p ((D (i + 1)).reverse ++ [its[i]])).1 c.pt.items.reverse := by rw [et, feed_step hf1]
        rw [← ef2] at hj2 ⊢; refine r_not ?_; refine r_if (fun hr => ?_) (fun hr => ?_)
        · have hr : (feed cont p (D i).reverse).2 = false := by simpa using hr
          have ea : feed cont p (PT.items (h := k + 1) (its, ts.map GT.pt)).reverse = ((feed cont p (D i).reverse).1, false) := by
            rw [hs, List.reverse_append, feed_stop hr]
          have := H h2 (by rw [ea]; exact hj2)
          rw [ea] at this; exact this
        · have hr : (feed cont p (D i).reverse).2 = true := by simpa using hr
          unfold Map_iu_nodeReverse.j6; refine r_sub (z := (its.length : Int) - 1 - (j + 1 : Nat)) (by rw [i64w (by omega) (by omega)]; omega) ?_; exact HK h2 (by omega) ⟨by rw [hi2]; exact hr, by rw [hi2]; exact hj2⟩
    · have hge : j = its.length := by have : ¬ (0 : Int) ≤ (its.length : Int) - 1 - (j : Nat) := by simpa using hge
                                      omega
      subst hge; obtain ⟨c, hc⟩ : ∃ c, ts[0]? = some c := ⟨ts[0]'(by omega), List.getElem?_eq_getElem (by omega)⟩
      have hs := hsplit 0 (Nat.zero_le _) c hc
      have hs : PT.items (h := k + 1) (its, ts.map GT.pt) = D 0 := by rw [hs]; rfl
      rw [Nat.sub_self, ← hs] at hf hj; unfold Map_iu_nodeReverse.j3
      have := H h hj
      rw [hf] at this; exact this
end Go.Proofs.Ytdpkpcmoabfofaa.Iu
end
section
namespace Go.Proofs.Ytdpkpcmoabfofaa.Iu
open Go.Hp Go.Proofs.Ytdpkpcmoabfofaa
variable {h0 h : Heap} {Z E : List Rg} {Q : Value → Heap → Prop}
abbrev it (k : KT) : It := (k, ())
def setT (l : List KT) : List It := setAll (l.map it)
def keysT (l : List KT) : List KT := (setT l).map (·.1)
theorem setT_snoc (l : List KT) (x : KT) : setT (l ++ [x]) = lput lt (setT l) (it x) := by unfold setT; rw [List.map_append]; exact setAll_snoc _ _
theorem setT_len (l : List KT) : (setT l).length ≤ l.length := by have := setAll_len (l.map it); rw [List.length_map] at this; exact this
def Hd (mn mx : Int) (g : Rt) : Prop := (mn = 31 ∧ mx = 63) ∨ (mn = 0 ∧ mx = 0 ∧ g = none)
theorem Insert_ok {tb : Nat} {mn mx : Int} {g : Rt} {x : KT} (M : MapOk 63 0 g) (hd : Hd mn mx g) (hsz : (rPt g).items.length ≤ 4611686018427387903) (s : St h0 Z ((tb, 0, hdr 0 none (rA g) (rPt g).items.length mn mx) :: (rAll g ++ E)) h)
    (H : ∀ (g' : Rt) h', rPt g' = (rPt g).set lt 63 (it x) → MapOk 63 0 g' → St h0 Z ((tb, 0, hdr 0 none (rA g') (rPt g').items.length 31 63) :: (rAll g' ++ E)) h' → Q (.tuple #[]) h') : Set_i_Insert.call #[ptr tb 0, kv x] h Q := by
  refine Set_i_Insert.body _ _ _ _ ?_; unfold Set_i_Insert.sh; refine r_nil ?_; refine r_fld ?_
  (apply r_build; (simp only [fillV, fill1, Value.cells, zeros_succ, zeros_zero, size_toArray, length_cons, length_nil, length_append, take_succ_cons, take_zero, take_nil, drop_succ_cons, drop_zero, drop_nil, cons_append, nil_append, append_nil, Nat.reduceAdd, Nat.reduceMul, Nat.reduceLeDiff, Nat.reduceEqDiff, and_self, and_true, true_and, if_true, Nat.le_refl, Nat.zero_add, Nat.add_zero, Nat.zero_mul, reduceIte, if_false] <;> rfl))
  rcases hd with ⟨rfl, rfl⟩ | ⟨rfl, rfl, rfl⟩
  · exact Set_ok (x := it x) M (by decide) hsz s fun g' h' e M' s => H g' h' e M' s
  · exact Set_zero (x := it x) (E := E) s fun g' h' e M' s => H g' h' e M' s
theorem growS_ok {hA : Heap} {l : List KT} {v : Value} (hr : Rdl 1 hA v l.length (l.flatMap fk)) (hl : l.length ≤ 2147483647)
    (H : ∀ (g : Rt) tb mn mx E' h', (rPt g).items = setT l → MapOk 63 0 g → Hd mn mx g → St hA [] ((tb, 0, hdr 0 none (rA g) (rPt g).items.length mn mx) :: (rAll g ++ E')) h' → Q (ptr tb 0) h') : i_growSet.call #[v] hA Q := by
  refine i_growSet.body _ _ _ ?_; unfold i_growSet.sh
  have s := St.start hA
  refine s.r_alloc fun tb h s => ?_
  have e0 : ((rPt (none : Rt)).items.length : Int) = 0 := rfl
  have s0 : St hA [] ((tb, 0, hdr 0 none (rA (none : Rt)) ((rPt (none : Rt)).items.length) 0 0) :: (rAll (none : Rt) ++ [])) h := by rw [e0]; exact s
  refine hr.lenV ?_
  refine loop_up (n := l.length) (fun j => [.int .i64 j]) (fun j h' => ∃ (g : Rt) (mn mx : Int), (rPt g).items = setT (l.take j) ∧ MapOk 63 0 g ∧ Hd mn mx g ∧ St hA [] ((tb, 0, hdr 0 none (rA g) (rPt g).items.length mn mx) :: (rAll g ++ [])) h')
    ⟨none, 0, 0, rfl, MapOk.none (by decide) (by decide) (by decide), .inr ⟨rfl, rfl, rfl⟩, by exact s0⟩ ?_
  rintro j h hj ⟨g, mn, mx, e, M, hd, s⟩ K HK
  unfold i_growSet.l2.b; refine r_cmpI ?_; refine r_if (fun hlt => ?_) (fun hge => ?_)
  · have hlt : j < l.length := by simpa using hlt
    unfold i_growSet.j3; refine (hr.st s).at (n := j) rfl fkl rfl rfl hlt fun b o hb => ?_; refine hb.load0 rfl ?_
    have hle := setT_len (l.take j)
    rw [List.length_take] at hle; refine Insert_ok M hd (by rw [e]; omega) s fun g' h' e1 M' s => ?_; unfold i_growSet.j4; refine r_add (z := ((j + 1 : Nat) : Int)) (by rw [i64w (by omega) (by omega)]; omega) ?_; refine HK h' hlt ⟨g', 31, 63, ?_, M', .inl ⟨rfl, rfl⟩, s⟩
    rw [e1, List.take_succ_eq_append_getElem hlt, setT_snoc, ← e]; exact (MT.set_items swo M.odd M.m3 M.fl M.asc).1
  · have hge : j = l.length := by simp at hge; omega
    subst hge; rw [List.take_length] at e; unfold i_growSet.j1; exact H g tb mn mx _ h e M hd s
theorem scan_hasBody : hasBody Try.prog 118 := ⟨_, Try.func118, rfl, rfl⟩
theorem rev_hasBody : hasBody Try.prog 128 := ⟨_, Try.func128, rfl, rfl⟩
theorem takeS_hasBody : hasBody Try.prog 119 := ⟨_, Try.func119, rfl, rfl⟩
def KeepS (h0 : Heap) (Z E : List Rg) (t2 t3 t5 t7 : Nat) (n : Int) (p : List It) (h : Heap) : Prop :=
  ∃ v b o sp, Own 1 v (p.map (·.1)).length b o ((p.map (·.1)).flatMap fk) sp ∧ St h0 Z ((t5, 0, [.func (.func 119) #[] #[ptr t2 0, ptr t3 0]]) :: (t2, 0, [ptr t7 0]) :: (t3, 0, [.int .i64 n]) :: (t7, 0, [v]) :: (b, o, (p.map (·.1)).flatMap fk ++ sp) :: E) h
theorem scanS_cb {t2 t3 t5 t7 : Nat} {n : Int} (p : List It) (x : It) (h : Heap) (K : Value → Heap → Prop) (hp : p.length < 4294967296) (hj : KeepS h0 Z E t2 t3 t5 t7 n p h) (HK : ∀ h', KeepS h0 Z E t2 t3 t5 t7 n (p ++ [x]) h' → K (.bool (upTo n (p ++ [x]))) h') :
    callV Try.prog (.func (.func 118) #[] #[ptr t5 0]) #[kv x.1, vv x.2] h K := by
  obtain ⟨v, b, o, sp, w, s⟩ := hj; refine r_callV scan_hasBody ?_; refine Set_i_Scan_c1.body _ _ _ _ _ ?_; unfold Set_i_Scan_c1.sh; refine St.r_box (cs := []) s fun t4 h s => ?_
  have s := s.tail rfl
  refine St.r_load0 s 0 rfl rfl ?_; refine r_callV takeS_hasBody ?_; refine i_taker_i_c1.body _ _ _ _ _ ?_; unfold i_taker_i_c1.sh; refine St.r_load0 s 1 rfl rfl ?_; refine St.r_load0 s 1 rfl rfl ?_; refine r_nil ?_; refine St.r_load0 s 3 rfl rfl ?_; refine St.r_mkSl (sz := 1) (cs := [kv x.1]) s (by ((simp only [fillV, fill1, Value.cells, zeros_succ, zeros_zero, size_toArray, length_cons, length_nil, length_append, take_succ_cons, take_zero, take_nil, drop_succ_cons, drop_zero, drop_nil, cons_append, nil_append, append_nil, Nat.reduceAdd, Nat.reduceMul, Nat.reduceLeDiff, Nat.reduceEqDiff, and_self, and_true, true_and, if_true, Nat.le_refl, Nat.zero_add, Nat.add_zero, Nat.zero_mul, reduceIte, if_false] <;> rfl))) rfl fun q h s w1 => ?_; refine And.intro (by exact St.r_still0 s 2 rfl rfl) ?_; refine And.intro (by exact St.r_still0 s 2 rfl rfl) ?_; refine And.intro (by exact St.r_still0 s 4 rfl rfl) ?_; refine St.r_app s 5 (sz := 1) (n := 1) (new := [kv x.1]) rfl w rfl (w1.rdl s 0 rfl) (by simp [one1]) (by rw [List.length_map]; omega) (by rw [List.length_map]; omega) fun v' b' o' sp' h s w' => ?_
  have ex : (p.map (·.1)).flatMap fk ++ [kv x.1] = ((p ++ [x]).map (·.1)).flatMap fk := by rw [List.map_append, List.flatMap_append]; rfl
  rw [ex] at s w'
  have w' : Own 1 v' ((p ++ [x]).map (·.1)).length b' o' (((p ++ [x]).map (·.1)).flatMap fk) sp' := by rw [List.length_map, List.length_append]; rw [List.length_map] at w'; exact w'
  refine And.intro (by exact St.r_still0 s 2 rfl rfl) ?_; refine r_nil ?_; refine St.r_store0 s 4 rfl (by simp) w'.one ?_; intro h s
  refine St.r_load0 s 3 rfl rfl ?_; refine r_cmpI ?_
  have J' : KeepS h0 Z E t2 t3 t5 t7 n (p ++ [x]) h := ⟨v', b', o', sp', w', s.tail rfl⟩
  refine r_br (fun hb => ?_) (fun hb => ?_)
  · have hb : ¬ n < 1 := by simpa using hb
    refine St.r_load0 s 2 rfl rfl ?_; refine r_nil ?_; refine St.r_load0 s 4 rfl rfl ?_; refine w'.lenV ?_; refine St.r_load0 s 3 rfl rfl ?_; refine r_cmpI ?_
    have := HK h J'
    have e : upTo n (p ++ [x]) = decide ((((p ++ [x]).map (·.1)).length : Int) < n) := by simp [upTo, hb]
    rw [e] at this; exact this
  · have hb : n < 1 := by simpa using hb
    have := HK h J'
    have e : upTo n (p ++ [x]) = true := by simp [upTo, hb]
    rw [e] at this; exact this
theorem revS_cb {t2 t3 t5 t7 : Nat} {n : Int} (p : List It) (x : It) (h : Heap) (K : Value → Heap → Prop) (hp : p.length < 4294967296) (hj : KeepS h0 Z E t2 t3 t5 t7 n p h) (HK : ∀ h', KeepS h0 Z E t2 t3 t5 t7 n (p ++ [x]) h' → K (.bool (upTo n (p ++ [x]))) h') :
    callV Try.prog (.func (.func 128) #[] #[ptr t5 0]) #[kv x.1, vv x.2] h K := by
  obtain ⟨v, b, o, sp, w, s⟩ := hj; refine r_callV rev_hasBody ?_; refine Set_i_Reverse_c1.body _ _ _ _ _ ?_; unfold Set_i_Reverse_c1.sh; refine St.r_box (cs := []) s fun t4 h s => ?_
  have s := s.tail rfl
  refine St.r_load0 s 0 rfl rfl ?_; refine r_callV takeS_hasBody ?_; refine i_taker_i_c1.body _ _ _ _ _ ?_; unfold i_taker_i_c1.sh; refine St.r_load0 s 1 rfl rfl ?_; refine St.r_load0 s 1 rfl rfl ?_; refine r_nil ?_; refine St.r_load0 s 3 rfl rfl ?_; refine St.r_mkSl (sz := 1) (cs := [kv x.1]) s (by ((simp only [fillV, fill1, Value.cells, zeros_succ, zeros_zero, size_toArray, length_cons, length_nil, length_append, take_succ_cons, take_zero, take_nil, drop_succ_cons, drop_zero, drop_nil, cons_append, nil_append, append_nil, Nat.reduceAdd, Nat.reduceMul, Nat.reduceLeDiff, Nat.reduceEqDiff, and_self, and_true, true_and, if_true, Nat.le_refl, Nat.zero_add, Nat.add_zero, Nat.zero_mul, reduceIte, if_false] <;> rfl))) rfl fun q h s w1 => ?_; refine And.intro (by exact St.r_still0 s 2 rfl rfl) ?_; refine And.intro (by exact St.r_still0 s 2 rfl rfl) ?_; refine And.intro (by exact St.r_still0 s 4 rfl rfl) ?_; refine St.r_app s 5 (sz := 1) (n := 1) (new := [kv x.1]) rfl w rfl (w1.rdl s 0 rfl) (by simp [one1]) (by rw [List.length_map]; omega) (by rw [List.length_map]; omega) fun v' b' o' sp' h s w' => ?_
  have ex : (p.map (·.1)).flatMap fk ++ [kv x.1] = ((p ++ [x]).map (·.1)).flatMap fk := by rw [List.map_append, List.flatMap_append]; rfl
  rw [ex] at s w'
  have w' : Own 1 v' ((p ++ [x]).map (·.1)).length b' o' (((p ++ [x]).map (·.1)).flatMap fk) sp' := by rw [List.length_map, List.length_append]; rw [List.length_map] at w'; exact w'
  refine And.intro (by exact St.r_still0 s 2 rfl rfl) ?_; refine r_nil ?_; refine St.r_store0 s 4 rfl (by simp) w'.one ?_; intro h s
  refine St.r_load0 s 3 rfl rfl ?_; refine r_cmpI ?_
  have J' : KeepS h0 Z E t2 t3 t5 t7 n (p ++ [x]) h := ⟨v', b', o', sp', w', s.tail rfl⟩
  refine r_br (fun hb => ?_) (fun hb => ?_)
  · have hb : ¬ n < 1 := by simpa using hb
    refine St.r_load0 s 2 rfl rfl ?_; refine r_nil ?_; refine St.r_load0 s 4 rfl rfl ?_; refine w'.lenV ?_; refine St.r_load0 s 3 rfl rfl ?_; refine r_cmpI ?_
    have := HK h J'
    have e : upTo n (p ++ [x]) = decide ((((p ++ [x]).map (·.1)).length : Int) < n) := by simp [upTo, hb]
    rw [e] at this; exact this
  · have hb : n < 1 := by simpa using hb
    have := HK h J'
    have e : upTo n (p ++ [x]) = true := by simp [upTo, hb]
    rw [e] at this; exact this
theorem SScan_ok {hA : Heap} {l : List KT} {v : Value} (hr : Rdl 1 hA v l.length (l.flatMap fk)) (hl : l.length ≤ 2147483647)
    (H : ∀ v b o sp E' h', Own 1 v (keysT l).length b o ((keysT l).flatMap fk) sp → St hA [] ((b, o, (keysT l).flatMap fk ++ sp) :: E') h' → Q v h') : i_SScan.call #[v, .int .i64 0] hA Q := by
  refine i_SScan.body _ _ _ _ ?_; unfold i_SScan.sh
  have s := St.start hA
  refine s.r_alloc fun t7 h s => ?_; refine growS_ok (hr.st s) hl fun g tb mn mx E' h' e M hd s1 => ?_
  have s := s.join s1
  have hle := setT_len l
  refine i_taker_i.body _ _ _ _ ?_; unfold i_taker_i.sh; refine St.r_box1 s rfl fun t2 h s => ?_; refine St.r_box1 s rfl fun t3 h s => ?_; refine Set_i_Scan.body _ _ _ _ ?_; unfold Set_i_Scan.sh; refine St.r_box1 s rfl fun t5 h s => ?_; refine r_nil (r_fld ?_)
  have s0 : St hA [] (((tb, 0, hdr 0 none (rA g) (rPt g).items.length mn mx) :: rAll g) ++ ((t5, 0, [.func (.func 119) #[] #[ptr t2 0, ptr t3 0]]) :: (t2, 0, [ptr t7 0]) :: (t3, 0, [.int .i64 0]) :: (t7, 0, [.slice none 0 0]) :: (0, 0, (([] : List It).map (·.1)).flatMap fk ++ []) :: E')) h := (s.empty 0 0).perm (by ((apply perm_rg; intro f; simp only [set_cons_zero, set_cons_succ, eraseIdx_cons_zero, eraseIdx_cons_succ, cons_append, nil_append, map_append, map_cons, map_nil, List.sum_append, List.sum_cons, List.sum_nil, map_flatMap, Nat.add_zero, Nat.zero_add]; ac_rfl)))
  obtain ⟨s1, back⟩ := s0.borrow; refine Map_iu_Scan.body _ _ _ _ ?_; unfold Map_iu_Scan.sh; refine Map_iu_scan.body _ _ _ _ _ ?_; unfold Map_iu_scan.sh
  have hT : (tb, 0, hdr 0 none (rA g) (rPt g).items.length mn mx) ∈ ((tb, 0, hdr 0 none (rA g) (rPt g).items.length mn mx) :: rAll g) ++ [] := List.mem_append.2 (.inl (List.mem_cons_self ..))
  have fin : ∀ {h' : Heap} (L : List It), L = (rPt g).items → KeepS hA (((tb, 0, hdr 0 none (rA g) (rPt g).items.length mn mx) :: rAll g) ++ []) E' t2 t3 t5 t7 0 L h' → load1 (ptr t7 0) h' fun t11 => Q t11 h' := fun {h'} L eL hj => by
    obtain ⟨v, b, o, sp, w, s⟩ := hj
    have ek : L.map (·.1) = keysT l := by rw [eL]; rw [e]; rfl
    rw [ek] at w s; refine St.r_load0 s 3 rfl rfl ?_
    have s := back _ h' s
    exact H v b o sp _ h' w (s.perm (E' := (b, o, (keysT l).flatMap fk ++ sp) :: (((tb, 0, hdr 0 none (rA g) (rPt g).items.length mn mx) :: rAll g) ++ ((t5, 0, _) :: (t2, 0, _) :: (t3, 0, _) :: (t7, 0, _) :: E'))) (by ((apply perm_rg; intro f; simp only [set_cons_zero, set_cons_succ, eraseIdx_cons_zero, eraseIdx_cons_succ, cons_append, nil_append, map_append, map_cons, map_nil, List.sum_append, List.sum_cons, List.sum_nil, map_flatMap, Nat.add_zero, Nat.zero_add]; ac_rfl))))
  have hj0 : KeepS hA (((tb, 0, hdr 0 none (rA g) (rPt g).items.length mn mx) :: rAll g) ++ []) E' t2 t3 t5 t7 0 [] h := ⟨_, 0, 0, [], Own.nil 1 0 0, s1⟩
  refine r_nil (r_fld ?_)
  refine s1.r_lz0 hT (j := 2) rfl ?_; refine r_eqNilP ?_
  cases g with
  | none =>
    refine r_if (fun _ => ?_) (fun e => absurd e (by simp [rA]))
    exact fin [] rfl hj0
  | some t =>
    refine r_if (fun e => absurd e (by simp [rA])) (fun _ => ?_)
    unfold Map_iu_scan.j1; refine r_nil (r_fld ?_)
    refine nodeScan_ok (cont := upTo 0) (J := KeepS hA (((tb, 0, hdr 0 none (rA (some t)) (rPt (some t)).items.length mn mx) :: rAll (some t)) ++ []) E' t2 t3 t5 t7 0) (N := 4294967296) M.m1 (fun p h hj => by obtain ⟨v, b, o, sp, w, s⟩ := hj; exact ⟨_, s⟩) (fun p x h K hp hj HK => scanS_cb p x h K hp hj HK) t.2 M.gd M.fl (fun r hr => List.mem_append.2 (.inl (List.mem_cons_of_mem _ hr))) (fun r hr => (s0.e r (List.mem_append.2 (.inl (List.mem_cons_of_mem _ hr)))).2) (fun E h s => s.clz hT 2 rfl rfl) (by have e : t.2.pt.items = setT l := e; rw [List.length_nil, Nat.zero_add, e]; omega) hj0 fun h' hj => ?_; refine fin _ ?_ hj
    rw [feed_first]; unfold firstN; rw [if_pos (.inl (by decide))]
    rfl
theorem SReverse_ok {hA : Heap} {l : List KT} {v : Value} (hr : Rdl 1 hA v l.length (l.flatMap fk)) (hl : l.length ≤ 2147483647)
    (H : ∀ v b o sp E' h', Own 1 v ((keysT l).reverse).length b o (((keysT l).reverse).flatMap fk) sp → St hA [] ((b, o, ((keysT l).reverse).flatMap fk ++ sp) :: E') h' → Q v h') : i_SReverse.call #[v, .int .i64 0] hA Q := by
  refine i_SReverse.body _ _ _ _ ?_; unfold i_SReverse.sh
  have s := St.start hA
  refine s.r_alloc fun t7 h s => ?_; refine growS_ok (hr.st s) hl fun g tb mn mx E' h' e M hd s1 => ?_
  have s := s.join s1
  have hle := setT_len l
  refine i_taker_i.body _ _ _ _ ?_; unfold i_taker_i.sh; refine St.r_box1 s rfl fun t2 h s => ?_; refine St.r_box1 s rfl fun t3 h s => ?_; refine Set_i_Reverse.body _ _ _ _ ?_; unfold Set_i_Reverse.sh; refine St.r_box1 s rfl fun t5 h s => ?_; refine r_nil (r_fld ?_)
  have s0 : St hA [] (((tb, 0, hdr 0 none (rA g) (rPt g).items.length mn mx) :: rAll g) ++ ((t5, 0, [.func (.func 119) #[] #[ptr t2 0, ptr t3 0]]) :: (t2, 0, [ptr t7 0]) :: (t3, 0, [.int .i64 0]) :: (t7, 0, [.slice none 0 0]) :: (0, 0, (([] : List It).map (·.1)).flatMap fk ++ []) :: E')) h := (s.empty 0 0).perm (by ((apply perm_rg; intro f; simp only [set_cons_zero, set_cons_succ, eraseIdx_cons_zero, eraseIdx_cons_succ, cons_append, nil_append, map_append, map_cons, map_nil, List.sum_append, List.sum_cons, List.sum_nil, map_flatMap, Nat.add_zero, Nat.zero_add]; ac_rfl)))
  obtain ⟨s1, back⟩ := s0.borrow; refine Map_iu_Reverse.body _ _ _ _ ?_; unfold Map_iu_Reverse.sh; refine Map_iu_reverse.body _ _ _ _ _ ?_; unfold Map_iu_reverse.sh
  have hT : (tb, 0, hdr 0 none (rA g) (rPt g).items.length mn mx) ∈ ((tb, 0, hdr 0 none (rA g) (rPt g).items.length mn mx) :: rAll g) ++ [] := List.mem_append.2 (.inl (List.mem_cons_self ..))
  have fin : ∀ {h' : Heap} (L : List It), L = (rPt g).items.reverse → KeepS hA (((tb, 0, hdr 0 none (rA g) (rPt g).items.length mn mx) :: rAll g) ++ []) E' t2 t3 t5 t7 0 L h' → load1 (ptr t7 0) h' fun t11 => Q t11 h' := fun {h'} L eL hj => by
    obtain ⟨v, b, o, sp, w, s⟩ := hj
    have ek : L.map (·.1) = (keysT l).reverse := by rw [eL]; rw [e, List.map_reverse]; rfl
    rw [ek] at w s; refine St.r_load0 s 3 rfl rfl ?_
    have s := back _ h' s
    exact H v b o sp _ h' w (s.perm (E' := (b, o, ((keysT l).reverse).flatMap fk ++ sp) :: (((tb, 0, hdr 0 none (rA g) (rPt g).items.length mn mx) :: rAll g) ++ ((t5, 0, _) :: (t2, 0, _) :: (t3, 0, _) :: (t7, 0, _) :: E'))) (by ((apply perm_rg; intro f; simp only [set_cons_zero, set_cons_succ, eraseIdx_cons_zero, eraseIdx_cons_succ, cons_append, nil_append, map_append, map_cons, map_nil, List.sum_append, List.sum_cons, List.sum_nil, map_flatMap, Nat.add_zero, Nat.zero_add]; ac_rfl))))
  have hj0 : KeepS hA (((tb, 0, hdr 0 none (rA g) (rPt g).items.length mn mx) :: rAll g) ++ []) E' t2 t3 t5 t7 0 [] h := ⟨_, 0, 0, [], Own.nil 1 0 0, s1⟩
  refine r_nil (r_fld ?_)
  refine s1.r_lz0 hT (j := 2) rfl ?_; refine r_eqNilP ?_
  cases g with
  | none =>
    refine r_if (fun _ => ?_) (fun e => absurd e (by simp [rA]))
    exact fin [] rfl hj0
  | some t =>
    refine r_if (fun e => absurd e (by simp [rA])) (fun _ => ?_)
    unfold Map_iu_reverse.j1; refine r_nil (r_fld ?_)
    refine nodeReverse_ok (cont := upTo 0) (J := KeepS hA (((tb, 0, hdr 0 none (rA (some t)) (rPt (some t)).items.length mn mx) :: rAll (some t)) ++ []) E' t2 t3 t5 t7 0) (N := 4294967296) M.m1 (fun p h hj => by obtain ⟨v, b, o, sp, w, s⟩ := hj; exact ⟨_, s⟩) (fun p x h K hp hj HK => revS_cb p x h K hp hj HK) t.2 M.gd M.fl (fun r hr => List.mem_append.2 (.inl (List.mem_cons_of_mem _ hr))) (fun r hr => (s0.e r (List.mem_append.2 (.inl (List.mem_cons_of_mem _ hr)))).2) (fun E h s => s.clz hT 2 rfl rfl) (by have e : t.2.pt.items = setT l := e; rw [List.length_nil, Nat.zero_add, e]; omega) hj0 fun h' hj => ?_; refine fin _ ?_ hj
    rw [feed_first]; unfold firstN; rw [if_pos (.inl (by decide))]
    rfl
theorem SLen_ok {hA : Heap} {l : List KT} {v : Value} (hr : Rdl 1 hA v l.length (l.flatMap fk)) (hl : l.length ≤ 2147483647)
    (H : ∀ E' h', St hA [] E' h' → Q (.int .i64 ((keysT l).length : Nat)) h') : i_SLen.call #[v] hA Q := by
  refine i_SLen.body _ _ _ ?_; unfold i_SLen.sh; refine growS_ok hr hl fun g tb mn mx E' h' e M hd s => ?_; refine Set_i_Len.body _ _ _ ?_; unfold Set_i_Len.sh; refine r_nil (r_fld ?_)
  refine Map_iu_Len.body _ _ _ ?_; unfold Map_iu_Len.sh; refine r_nil (r_fld ?_)
  refine St.r_load0 s 0 rfl rfl ?_
  have : (rPt g).items.length = (keysT l).length := by rw [e]; unfold keysT; rw [List.length_map]
  rw [this]; exact H _ h' s
end Go.Proofs.Ytdpkpcmoabfofaa.Iu
end
