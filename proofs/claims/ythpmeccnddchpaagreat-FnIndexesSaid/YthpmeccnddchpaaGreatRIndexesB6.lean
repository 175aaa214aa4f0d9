/-
  Texts of this claim, laid together: Gr Gs Gt Gu Gv Gh Gn P0 P1 P9 Ra Rb Rc Rf Ri.
  Conditions: as each of them tells.
-/
import Derived.Test.YthpmeccnddchpaaGreatRIndexesB5
set_option linter.unusedVariables false
set_option linter.unusedSimpArgs false
open List (set_cons_zero set_cons_succ eraseIdx_cons_zero eraseIdx_cons_succ cons_append nil_append map_append map_cons map_flatMap map_nil flatMap_cons flatMap_append flatMap_nil append_nil append_assoc length_cons length_nil length_append take_succ_cons drop_succ_cons take_zero drop_zero take_nil drop_nil size_toArray length_map)
set_option maxRecDepth 100000
set_option maxHeartbeats 8000000
section
namespace Go.Proofs.YthpmeccnddchpaaGreat.Gi
open Go.Hp Go.Proofs.YthpmeccnddchpaaGreat
variable {h0 h : Heap} {Z E : List Rg} {Q : Value → Heap → Prop} {lf : Value}
attribute [local irreducible] load1 loadN store1 storeN fld nilck lenV idx arith cmpI notV extr mkSl app cpy slc ifV
theorem rebalance_j {tb m j : Nat} {iso mn : Int} {ctr : Option Addr} (hT0 : (tb, 0, hd0 iso ctr) ∈ Z) (hT4 : (tb, 4, hd4 lf mn m) ∈ Z) (hm3 : 3 ≤ m) (hm1 : m ≤ 1024) (ho : m % 2 = 1) {k : Nat} (t : GT It (k + 1))
  (hlm : t.pt.1.length ≤ m) (hj : j < t.pt.1.length) (hfx : ∀ c ∈ t.pt.2, PT.Fl m (m / 2 - 1) c) (hd : ∀ c c', t.pt.2[j]? = some c → t.pt.2[j + 1]? = some c' → (c.its.length + 1 = m / 2 ∧ PT.Fl m (m / 2) c') ∨ (PT.Fl m (m / 2) c ∧ c'.its.length + 1 = m / 2)) (hfy : ∀ i c, t.pt.2[i]? = some c → i ≠ j → i ≠ j + 1 → PT.Fl m (m / 2) c)
  (hsz : t.pt.items.length ≤ 4611686018427387903) (g : Gd iso t) (s : St h0 Z (t.all enc ++ E) h)
  (H : ∀ (t' : GT It (k + 1)) h', Mended iso m j t t' → St h0 Z (t'.all enc ++ E) h' → Q (.tuple #[]) h') : z00_.j1 (ptr tb 0) (ptr t.id 0) (.int .i64 j) h Q := by
 obtain ⟨d, ts⟩ := t; obtain ⟨own, n, is', cnt, its, iv, ib, io, isp, kb, kv, krb, kro, ksp⟩ := d
 have hj : j < its.length := hj
 have hlm : its.length ≤ m := hlm
 have w : Own 2 iv its.length ib io (its.flatMap enc) isp := g.own
 have wK : Own 1 kv ((ts.map GT.id).map pp).length krb kro (((ts.map GT.id).map pp).flatMap fv) ksp := g.ownK
 have hkl : ts.length = its.length + 1 := g.wf.2.2.1
 have hiso : is' = iso := g.iso
 have hcn : cnt = (PT.items (h := k + 1) (its, ts.map GT.pt)).length := g.cn.1
 subst hiso
 have s : St h0 Z (((n, 0, [.int .u64 is', .int .i64 cnt, iv, ptr kb 0]) :: (ib, io, its.flatMap enc ++ isp) :: (kb, 0, [kv]) :: (krb, kro, ((ts.map GT.id).map pp).flatMap fv ++ ksp) :: ts.flatMap (GT.all enc)) ++ E) h := by
  have e := all_eq (k := k + 1) ((⟨own, n, is', cnt, its, iv, ib, io, isp, kb, kv, krb, kro, ksp⟩ : Nd It), ts)
  rw [e] at s; exact s
 obtain ⟨A, l, r, B, ets, hA⟩ := two_of (ts := ts) (j := j) (by omega); obtain ⟨P, y, S, eits, hP⟩ := one_of (ts := its) (j := j) hj
 have hB : B.length = S.length := by rw [ets, eits] at hkl; simp at hkl; omega
 subst ets; subst eits
 have gl : Gd is' l := g.kid (by simp)
 have gr : Gd is' r := g.kid (by simp)
 have fl0 : l.pt.Fl m (m / 2 - 1) := hfx _ (List.mem_map.2 ⟨l, by simp, rfl⟩)
 have fr0 : r.pt.Fl m (m / 2 - 1) := hfx _ (List.mem_map.2 ⟨r, by simp, rfl⟩)
 have flr : (l.pt.its.length + 1 = m / 2 ∧ r.pt.Fl m (m / 2)) ∨ (l.pt.Fl m (m / 2) ∧ r.pt.its.length + 1 = m / 2) := by
  have h1 : ((A ++ l :: r :: B).map GT.pt)[j]? = some l.pt := by rw [List.map_append, List.map_cons]; exact getAt (by simpa using hA)
  have h2 : ((A ++ l :: r :: B).map GT.pt)[j + 1]? = some r.pt := by
   rw [show A ++ l :: r :: B = (A ++ [l]) ++ r :: B by simp, List.map_append, List.map_cons]; exact getAt (by simp [hA])
  exact hd _ _ h1 h2
 have hab : ∀ c ∈ A ++ B, PT.Fl m (m / 2) c.pt := fun c hc => by
  obtain ⟨i, hi, e⟩ := List.getElem_of_mem hc
  rcases Nat.lt_or_ge i A.length with hl | hl
  · rw [List.getElem_append_left hl] at e
    refine hfy i c.pt ?_ (by omega) (by omega)
    show ((A ++ l :: r :: B).map GT.pt)[i]? = some c.pt
    rw [List.getElem?_map, List.getElem?_append_left hl, List.getElem?_eq_getElem hl, e]; rfl
  · rw [List.getElem_append_right hl] at e
    rw [List.length_append] at hi; refine hfy (i + 2) c.pt ?_ (by omega) (by omega)
    show ((A ++ l :: r :: B).map GT.pt)[i + 2]? = some c.pt
    rw [List.getElem?_map, List.getElem?_append_right (by omega), show i + 2 - A.length = (i - A.length) + 2 by omega, List.getElem?_cons_succ, List.getElem?_cons_succ, List.getElem?_eq_getElem (by omega), e]; rfl
 have ll := fl_its fl0
 have lr := fl_its fr0
 have hlr : (l.nd.its.length + 1 = m / 2 ∧ m / 2 ≤ r.nd.its.length) ∨ (m / 2 ≤ l.nd.its.length ∧ r.nd.its.length + 1 = m / 2) := by
  rw [GT.pt_its, GT.pt_its] at flr; exact flr.imp (fun f => ⟨f.1, (fl_its f.2).1⟩) (fun f => ⟨(fl_its f.1).1, f.2⟩)
 have wl := gl.own
 have wr := gr.own
 have cl0 := gl.cntEq
 have cr0 := gr.cntEq
 have il := gl.iso
 have ir := gr.iso
 rw [ids_pp] at s wK
 have hKl : ((A.map GT.id).map pp ++ pp l.id :: pp r.id :: (B.map GT.id).map pp).length = P.length + S.length + 2 := by simp; omega
 have hil : (P ++ y :: S).length = P.length + S.length + 1 := by simp; omega
 have s : St h0 Z ((l.id, 0, [.int .u64 l.nd.iso, .int .i64 l.nd.cnt, l.nd.iv, GT.kp l]) :: (l.nd.ib, l.nd.io, l.nd.its.flatMap enc ++ l.nd.isp) :: (r.id, 0, [.int .u64 r.nd.iso, .int .i64 r.nd.cnt, r.nd.iv, GT.kp r]) :: (r.nd.ib, r.nd.io, r.nd.its.flatMap enc ++ r.nd.isp) ::
   (n, 0, [.int .u64 is', .int .i64 cnt, iv, ptr kb 0]) :: (ib, io, (P ++ y :: S).flatMap enc ++ isp) :: (kb, 0, [kv]) :: (krb, kro, ((A.map GT.id).map pp ++ pp l.id :: pp r.id :: (B.map GT.id).map pp).flatMap fv ++ ksp) :: (GT.rest l ++ (GT.rest r ++ (A.flatMap (GT.all enc) ++ (B.flatMap (GT.all enc) ++ E))))) h := by
  have e : (A ++ l :: r :: B).flatMap (GT.all enc) = A.flatMap (GT.all enc) ++ (l.all enc ++ (r.all enc ++ B.flatMap (GT.all enc))) := by rw [List.flatMap_append, List.flatMap_cons, List.flatMap_cons]
  refine s.perm ?_; rw [e, all_eq l, all_eq r]
  ((apply perm_rg; intro f; simp only [PS]; ac_rfl))
 rw [il, ir, cl0, cr0] at s
 have hr1 : r.nd.its.length ≤ r.pt.items.length := by have := (PT.its_sub r.pt).length_le; rwa [GT.pt_its] at this
 have hl1 : l.nd.its.length ≤ l.pt.items.length := by have := (PT.its_sub l.pt).length_le; rwa [GT.pt_its] at this
 have hsz2 : (lz P (A.map fun c => c.pt.items)).length + l.pt.items.length + 1 + r.pt.items.length + (rz S (B.map fun c => c.pt.items)).length ≤ 4611686018427387903 := by
  have e := PT.items_two P S y (A.map GT.pt) (B.map GT.pt) l.pt r.pt (by rw [List.length_map]; omega) (by rw [List.length_map]; omega)
  have h2 : (PT.items (h := k + 1) (P ++ y :: S, (A ++ l :: r :: B).map GT.pt)).length ≤ 4611686018427387903 := hsz
  rw [List.map_append, List.map_cons, List.map_cons, e] at h2
  simp only [List.length_append, List.length_cons, List.map_map, Function.comp_def] at h2
  omega
 have gA : ∀ c ∈ A, Gd is' c := fun c hc => g.kid (by simp [hc])
 have gB : ∀ c ∈ B, Gd is' c := fun c hc => g.kid (by simp [hc])
 have hi : ∀ {E h}, St h0 Z E h → cl h tb 0 = some (.int .u64 is') := fun s => by have := s.getZ hT0 (j := 0) (by simp); simpa using this
 have kj : ((A.map GT.id).map pp ++ pp l.id :: pp r.id :: (B.map GT.id).map pp)[j]? = some (ptr l.id 0) := getAt (by simp [hA])
 have kj1 : ((A.map GT.id).map pp ++ pp l.id :: pp r.id :: (B.map GT.id).map pp)[j + 1]? = some (ptr r.id 0) := by
  have : (A.map GT.id).map pp ++ pp l.id :: pp r.id :: (B.map GT.id).map pp = ((A.map GT.id).map pp ++ [pp l.id]) ++ pp r.id :: (B.map GT.id).map pp := by simp
  rw [this]; exact getAt (by simp [hA])
 have pj : (P ++ y :: S)[j]? = some y := getAt hP
 show z00_.j1 (ptr tb 0) (ptr n 0) (.int .i64 j) h Q
 unfold z00_.j1; refine r_nil (r_fld (St.r_load0 s 4 rfl rfl (r_nil (St.r_load0 s 6 rfl rfl ?_))))
 (refine Own.idx (by assumption) rfl (by first | omega | (simp; done) | (simp; omega)) ?_)
 refine isoLoad_ok (hi s) (s.clV 7 rfl kj) (fun _ => s.cl0 0 rfl rfl) ?_; refine r_nil (r_fld (St.r_load0 s 4 rfl rfl (r_nil (St.r_load0 s 6 rfl rfl ?_))))
 refine r_add1 (by omega) ?_
 (refine Own.idx (by assumption) rfl (by first | omega | (simp; done) | (simp; omega)) ?_)
 refine isoLoad_ok (hi s) (s.clV 7 rfl kj1) (fun _ => s.cl0 2 rfl rfl) ?_; refine r_nil (r_fld (St.r_load0 s 0 rfl rfl ?_))
 refine Own.lenV (by assumption) ?_; refine r_nil (r_fld (St.r_load0 s 2 rfl rfl ?_))
 refine Own.lenV (by assumption) ?_; refine r_addN (by omega) ?_; refine r_nil (r_fld ?_)
 refine s.r_lz hT4 5 rfl rfl ?_; refine r_cmpI ?_; refine r_if (fun hlt => ?_) (fun hge => ?_)
 · have hlt : l.nd.its.length + r.nd.its.length < m := by have := of_decide_eq_true hlt; omega
   refine r_nil (r_fld (St.r_load0 s 0 rfl rfl (r_nil (r_fld (St.r_load0 s 4 rfl rfl ?_)))))
   (refine Own.idx (by assumption) rfl (by first | omega | (simp; done) | (simp; omega)) ?_)
   refine s.r_loadF encl 5 rfl (by assumption) ?_; refine St.r_mkSl (sz := 2) (cs := enc y) s (by ((simp only [fillV, fill1, Value.cells, Nat.reduceAdd, Nat.reduceMul, Nat.reduceLeDiff, Nat.reduceEqDiff, reduceIte, PF] <;> rfl))) rfl fun q h s w1 => ?_; refine And.intro (by exact St.r_still0 s 1 rfl rfl) ?_; refine s.r_appL (M := [y]) 2 rfl wl rfl (by have := w1.rdl s 0 rfl; simpa using this) (fun _ _ => enc1 _) (by simp; omega) (by simp; omega) fun liv1 lib1 lio1 lisp1 h s wl1 => ?_
   have s := s.tail rfl
   refine r_nil (r_fld ?_)
   (refine St.r_store0 s 0 rfl (by simp) (Own.one (by assumption)) ?_; intro h s; try simp only [P2] at s)
   refine r_nil (r_fld (St.r_load0 s 0 rfl rfl (r_nil (r_fld (St.r_load0 s 2 rfl rfl ?_)))))
   refine s.r_appL (M := r.nd.its) 1 rfl wl1 rfl (wr.rdl s 3 rfl) (fun _ _ => enc1 _) (by simp; omega) (by simp; omega) fun liv2 lib2 lio2 lisp2 h s wl2 => ?_; refine r_nil (r_fld ?_)
   (refine St.r_store0 s 0 rfl (by simp) (Own.one (by assumption)) ?_; intro h s; try simp only [P2] at s)
   -- the node itself
   have tail : ∀ {X : List Rg} {kp : Value} {h : Heap}, St h0 Z ((l.id, 0, [.int .u64 is', .int .i64 l.pt.items.length, liv2, kp]) :: (lib2, lio2, (l.nd.its ++ [y] ++ r.nd.its).flatMap enc ++ lisp2) :: (r.id, 0, [.int .u64 is', .int .i64 r.pt.items.length, r.nd.iv, GT.kp r]) :: (r.nd.ib, r.nd.io, r.nd.its.flatMap enc ++ r.nd.isp) ::
     (n, 0, [.int .u64 is', .int .i64 cnt, iv, ptr kb 0]) :: (ib, io, (P ++ y :: S).flatMap enc ++ isp) :: (kb, 0, [kv]) :: (krb, kro, ((A.map GT.id).map pp ++ pp l.id :: pp r.id :: (B.map GT.id).map pp).flatMap fv ++ ksp) :: X) h →
     (∀ iv2 isp2 kv2 ksp2 h, Own 2 iv2 (P ++ S).length ib io ((P ++ S).flatMap enc) isp2 → Own 1 kv2 ((A.map GT.id).map pp ++ pp l.id :: (B.map GT.id).map pp).length krb kro (((A.map GT.id).map pp ++ pp l.id :: (B.map GT.id).map pp).flatMap fv) ksp2 →
      St h0 Z ((l.id, 0, [.int .u64 is', .int .i64 ((l.pt.items.length + (r.pt.items.length + 1) : Nat) : Int), liv2, kp]) :: (lib2, lio2, (l.nd.its ++ [y] ++ r.nd.its).flatMap enc ++ lisp2) :: (r.id, 0, [.int .u64 is', .int .i64 r.pt.items.length, r.nd.iv, GT.kp r]) :: (r.nd.ib, r.nd.io, r.nd.its.flatMap enc ++ r.nd.isp) ::
       (n, 0, [.int .u64 is', .int .i64 cnt, iv2, ptr kb 0]) :: (ib, io, (P ++ S).flatMap enc ++ isp2) :: (kb, 0, [kv2]) :: (krb, kro, ((A.map GT.id).map pp ++ pp l.id :: (B.map GT.id).map pp).flatMap fv ++ ksp2) :: X) h → Q (.tuple #[]) h) →
     z00_.j2 (ptr tb 0) (ptr n 0) (.int .i64 j) (ptr l.id 0) (ptr r.id 0) h Q := by
    intro X kp h s K; unfold z00_.j2; refine r_nil (r_fld (St.r_load0 s 0 rfl rfl (r_nil (r_fld (St.r_load0 s 2 rfl rfl ?_)))))
    refine r_add1 (by omega) ?_; refine r_addN (by omega) ?_; refine r_nil (r_fld ?_)
    (refine St.r_store0 s 0 rfl (by simp) rfl ?_; intro h s; try simp only [P2] at s)
    refine r_nil (r_fld (St.r_load0 s 4 rfl rfl ?_))
    refine w.slcLo encl (i := j) rfl (by omega) fun dd wd => ?_; refine r_nil (r_fld (St.r_load0 s 4 rfl rfl ?_))
    refine r_add1 (by omega) ?_; refine (w.rdl s 5 rfl).slcLo encl (i := j + 1) rfl (by omega) fun src rs => ?_; refine s.r_cpyF encl 5 (L := P ++ y :: S) (M := (P ++ y :: S).drop (j + 1)) rfl wd (by simp; omega) rs rfl (fun y _ => enc1 y) fun h s => ?_; refine r_nil (r_fld (St.r_load0 s 4 rfl rfl (r_nil (r_fld (St.r_load0 s 4 rfl rfl ?_)))))
    refine Own.lenV (by assumption) ?_; refine r_sub1 (by omega) (by omega) ?_; refine r_nil (r_fld ?_)
    refine s.r_lzE hT4 3 (enc emp) rfl (by simp) rfl ?_
    (refine Own.idx (by assumption) rfl (by first | omega | (simp; done) | (simp; omega)) ?_)
    (refine s.r_storeF encl 5 rfl (by first | omega | (simp; done) | (simp; omega)) (enc1 _) ?_; intro h s; try simp only [P2] at s)
    refine r_nil (r_fld (St.r_load0 s 4 rfl rfl (r_nil (r_fld (St.r_load0 s 4 rfl rfl ?_)))))
    refine Own.lenV (by assumption) ?_; refine r_sub1 (by omega) (by omega) ?_
    have hj2 : j < (P ++ y :: S).length := by omega
    have hpe : (P ++ y :: S).eraseIdx j = P ++ S := eraseIdx_at hP
    refine (w.list encl (del_len (P ++ y :: S) emp hj2)).slcHi encl rfl (by rw [del_len _ _ hj2]; omega) fun iv2 w2 => ?_
    have s := s.del (f := enc) 5 rfl _ (del_erase (P ++ y :: S) emp hj2)
    rw [del_erase (P ++ y :: S) emp hj2, hpe] at w2; rw [hpe] at s; refine r_nil (r_fld ?_)
    (refine St.r_store0 s 4 rfl (by simp) (Own.one (by assumption)) ?_; intro h s; try simp only [P2] at s)
    refine r_nil (r_fld (St.r_load0 s 4 rfl rfl (r_nil (St.r_load0 s 6 rfl rfl ?_))))
    refine r_add1 (by omega) ?_
    generalize hKK : (A.map GT.id).map pp ++ pp l.id :: pp r.id :: (B.map GT.id).map pp = KK at *
    have hK1 : KK.eraseIdx (j + 1) = (A.map GT.id).map pp ++ pp l.id :: (B.map GT.id).map pp := by
     rw [← hKK, show (A.map GT.id).map pp ++ pp l.id :: pp r.id :: (B.map GT.id).map pp = ((A.map GT.id).map pp ++ [pp l.id]) ++ pp r.id :: (B.map GT.id).map pp by simp, eraseIdx_at (by simp [hA])]
     simp
    have hKo : ∀ x ∈ KK, one1 x = true := fun x hx => by
     rw [← hKK] at hx
     rcases List.mem_append.1 hx with h | h
     · obtain ⟨a, _, rfl⟩ := List.mem_map.1 h; rfl
     · rcases List.mem_cons.1 h with h | h
       · rw [h]; rfl
       · rcases List.mem_cons.1 h with h | h
         · rw [h]; rfl
         · obtain ⟨a, _, rfl⟩ := List.mem_map.1 h; rfl
    refine wK.slcLo fvl (i := j + 1) rfl (by omega) fun dk wdk => ?_; refine r_nil (r_fld (St.r_load0 s 4 rfl rfl (r_nil (St.r_load0 s 6 rfl rfl ?_))))
    refine r_add2 (by omega) ?_; refine (wK.rdl s 7 rfl).slcLo fvl (i := j + 1 + 1) rfl (by omega) fun sk rsk => ?_; refine s.r_cpyF fvl 7 (L := KK) (M := KK.drop (j + 1 + 1)) rfl wdk (by simp; omega) rsk rfl (fun x hx => by intro c hc; rw [List.mem_singleton.1 hc]; exact hKo x (List.mem_of_mem_drop hx)) fun h s => ?_; refine r_nil (r_fld (St.r_load0 s 4 rfl rfl (r_nil (St.r_load0 s 6 rfl rfl (r_nil (r_fld ?_))))))
    refine St.r_load0 s 4 rfl rfl (r_nil (St.r_load0 s 6 rfl rfl ?_))
    refine Own.lenV (by assumption) ?_; refine r_sub1 (by omega) (by omega) ?_
    (refine Own.idx (by assumption) rfl (by first | omega | (simp; done) | (simp; omega)) ?_)
    (refine s.r_storeV 7 rfl (by first | omega | (simp; done) | (simp; omega)) rfl ?_; intro h s; try simp only [P2] at s)
    refine r_nil (r_fld (St.r_load0 s 4 rfl rfl (r_nil (r_fld (St.r_load0 s 4 rfl rfl (r_nil ?_))))))
    refine St.r_load0 s 6 rfl rfl (r_nil (r_fld (St.r_load0 s 4 rfl rfl (r_nil (St.r_load0 s 6 rfl rfl ?_)))))
    refine Own.lenV (by assumption) ?_; refine r_sub1 (by omega) (by omega) ?_
    have hj3 : j + 1 < KK.length := by omega
    refine (wK.list fvl (del_len KK (.pointer none) hj3)).slcHi fvl rfl (by rw [del_len _ _ hj3]; omega) fun kv2 wk2 => ?_
    have s := s.del (f := fv) 7 rfl _ (del_erase KK (.pointer none) hj3)
    rw [del_erase KK (.pointer none) hj3, hK1] at wk2; rw [hK1] at s; refine r_nil ?_
    (refine St.r_store0 s 6 rfl (by simp) (Own.one (by assumption)) ?_; intro h s; try simp only [P2] at s)
    exact K _ _ _ _ _ w2 wk2 s
   cases k with
   | zero =>
    refine node_leaf_ok (a := none) (s.cl0 0 rfl rfl) ?_; refine r_not ?_; refine r_if (fun e => absurd e (by simp)) (fun _ => ?_)
    have s := St.kids0 s
    refine tail s fun iv2 isp2 kv2 ksp2 h w2 wk2 s => ?_; obtain ⟨l', hl1', gl', hl2', hl3', hl4'⟩ := mk_leaf (iso := is') (n := l.id) wl2
    have wK2 : Own 1 kv2 (((A ++ l' :: B).map GT.id).map pp).length krb kro ((((A ++ l' :: B).map GT.id).map pp).flatMap fv) ksp2 := by rw [ids_one, hl1']; exact wk2
    obtain ⟨t', ht1, gt, ht2, ht3, ht4⟩ := mk_inner (n := n) (kb := kb) (iso := is') w2 wK2 (by simp; omega) (fun c hc => by
     rcases List.mem_append.1 hc with h | h
     · exact gA c h
     · rcases List.mem_cons.1 h with h | h
       · subst h; exact gl'
       · exact gB c h)
    have hfl' : l'.pt.Fl m (m / 2) := by rw [hl2']; exact fl_leaf (by simp; omega) (by simp; omega)
    refine (fun M => H t' h M ((s.perm (E' := (r.id, 0, [.int .u64 is', .int .i64 r.pt.items.length, r.nd.iv, GT.kp r]) :: (r.nd.ib, r.nd.io, r.nd.its.flatMap enc ++ r.nd.isp) :: (t'.all enc ++ E)) ?_).drop 2)) ?_
    rotate_left
    · refine mended_one rfl ht2 (by omega) (by omega) ht1 gt hab hlm hfl' ?_ hP ⟨hlt, ?_⟩
      · rw [hl2']
        show l.nd.its ++ y :: r.nd.its = l.nd.its ++ [y] ++ r.nd.its
        simp
      · rw [hl2']
        show l.nd.its ++ y :: r.nd.its = l.nd.its ++ [y] ++ r.nd.its
        simp
    have e1 := M.2.1
    rw [ht2] at e1
    have e1 : ((PT.items (h := 1) (P ++ S, (A ++ l' :: B).map GT.pt)).length : Int) = cnt := by rw [hcn, e1]; rfl
    have e2 : (A ++ l' :: B).flatMap (GT.all enc) = A.flatMap (GT.all enc) ++ (l'.all enc ++ B.flatMap (GT.all enc)) := by rw [List.flatMap_append, List.flatMap_cons]
    have e3 : l.pt.items.length + (r.pt.items.length + 1) = (l.nd.its ++ [y] ++ r.nd.its).length := by
     show l.nd.its.length + (r.nd.its.length + 1) = _
     simp <;> omega
    rw [ht4, e1, e2, hl4', ids_one, hl1', e3]
    ((apply perm_rg; intro f; simp only [PS]; ac_rfl))
   | succ k =>
    obtain ⟨dl, lk⟩ := l; obtain ⟨dr, rk⟩ := r; refine node_leaf_ok (a := some ⟨dl.kb, 0, none⟩) (s.cl0 0 rfl rfl) ?_; refine r_not ?_; refine r_if (fun _ => ?_) (fun e => absurd e (by simp))
    have s := St.kids8 s
    have s : St h0 Z ((dl.n, 0, [_, _, _, ptr dl.kb 0]) :: _ :: (dr.n, 0, [_, _, _, ptr dr.kb 0]) :: _ :: _ :: _ :: _ :: _ :: (dl.kb, 0, [dl.kv]) :: (dl.krb, dl.kro, ((lk.map GT.id).map pp).flatMap fv ++ dl.ksp) :: (dr.kb, 0, [dr.kv]) :: (dr.krb, dr.kro, ((rk.map GT.id).map pp).flatMap fv ++ dr.ksp) ::
     (lk.flatMap (GT.all enc) ++ (rk.flatMap (GT.all enc) ++ (A.flatMap (GT.all enc) ++ (B.flatMap (GT.all enc) ++ E))))) h := s
    have wLK : Own 1 dl.kv ((lk.map GT.id).map pp).length dl.krb dl.kro (((lk.map GT.id).map pp).flatMap fv) dl.ksp := gl.ownK
    have wRK : Own 1 dr.kv ((rk.map GT.id).map pp).length dr.krb dr.kro (((rk.map GT.id).map pp).flatMap fv) dr.ksp := gr.ownK
    have hlk : lk.length = dl.its.length + 1 := gl.wf.2.2.1
    have hrk : rk.length = dr.its.length + 1 := gr.wf.2.2.1
    have hdl : dl.its.length ≤ m := ll.2
    have hdr : dr.its.length ≤ m := lr.2
    have hrkL : ((rk.map GT.id).map pp).length = dr.its.length + 1 := by rw [List.length_map, List.length_map]; exact hrk
    have hlkL : ((lk.map GT.id).map pp).length = dl.its.length + 1 := by rw [List.length_map, List.length_map]; exact hlk
    refine r_nil (r_fld (St.r_load0 s 0 rfl rfl (r_nil (r_fld (St.r_load0 s 0 rfl rfl (r_nil ?_))))))
    refine St.r_load0 s 8 rfl rfl (r_nil (r_fld (St.r_load0 s 2 rfl rfl (r_nil (St.r_load0 s 10 rfl rfl ?_)))))
    refine s.r_appL (f := fv) (L := (lk.map GT.id).map pp) (M := (rk.map GT.id).map pp) 9 rfl wLK rfl (wRK.rdl s 11 rfl) (fun x hx => by obtain ⟨a, _, rfl⟩ := List.mem_map.1 hx; simp [one1]) (by omega) (by omega) fun lkv1 lkb1 lko1 lks1 h s wLK1 => ?_; refine And.intro (by exact St.r_still0 s 0 rfl rfl) ?_; refine r_nil ?_
    (refine St.r_store0 s 8 rfl (by simp) (Own.one (by assumption)) ?_; intro h s; try simp only [P2] at s)
    refine tail s fun iv2 isp2 kv2 ksp2 h w2 wk2 s => ?_
    have eL : ((lk ++ rk).map GT.id).map pp = (lk.map GT.id).map pp ++ (rk.map GT.id).map pp := by simp
    rw [← eL] at s wLK1
    obtain ⟨l', hl1', gl', hl2', hl3', hl4'⟩ := mk_inner (iso := is') (n := dl.n) (kb := dl.kb) (ts := lk ++ rk) wl2 wLK1 (by show _ = (dl.its ++ [y] ++ dr.its).length + 1; simp; omega) (fun q hq => by
     rcases List.mem_append.1 hq with h | h
     · exact gl.kid h
     · exact gr.kid h)
    have wK2 : Own 1 kv2 (((A ++ l' :: B).map GT.id).map pp).length krb kro ((((A ++ l' :: B).map GT.id).map pp).flatMap fv) ksp2 := by rw [ids_one, hl1']; exact wk2
    obtain ⟨t', ht1, gt, ht2, ht3, ht4⟩ := mk_inner (n := n) (kb := kb) (iso := is') w2 wK2 (by simp; omega) (fun c hc => by
     rcases List.mem_append.1 hc with h | h
     · exact gA c h
     · rcases List.mem_cons.1 h with h | h
       · subst h; exact gl'
       · exact gB c h)
    have fkl : ∀ q ∈ lk, PT.Fl m (m / 2) q.pt := fun q hq => fl0.2.2.2 _ (List.mem_map.2 ⟨q, hq, rfl⟩)
    have fkr : ∀ q ∈ rk, PT.Fl m (m / 2) q.pt := fun q hq => fr0.2.2.2 _ (List.mem_map.2 ⟨q, hq, rfl⟩)
    have hlt2 : dl.its.length + dr.its.length < m := hlt
    have hlr2 : (dl.its.length + 1 = m / 2 ∧ m / 2 ≤ dr.its.length) ∨ (m / 2 ≤ dl.its.length ∧ dr.its.length + 1 = m / 2) := hlr
    have hfl' : l'.pt.Fl m (m / 2) := by
     rw [hl2']; refine fl_inner (by show m / 2 ≤ (dl.its ++ [y] ++ dr.its).length; simp; omega) (by show (dl.its ++ [y] ++ dr.its).length ≤ m; simp; omega) (by show _ = (dl.its ++ [y] ++ dr.its).length + 1; simp; omega) fun q hq => ?_; obtain ⟨x, hx, rfl⟩ := List.mem_map.1 hq
     rcases List.mem_append.1 hx with h | h
     · exact fkl x h
     · exact fkr x h
    have hlI : l'.pt.items = (GT.pt (h := k + 1) (dl, lk)).items ++ y :: (GT.pt (h := k + 1) (dr, rk)).items := by
     rw [hl2']
     show inter (dl.its ++ [y] ++ dr.its) (((lk ++ rk).map GT.pt).map PT.items) = inter dl.its ((lk.map GT.pt).map PT.items) ++ y :: inter dr.its ((rk.map GT.pt).map PT.items)
     rw [List.map_append, List.map_append, List.append_assoc]; exact inter_join _ _ _ _ _ (by simp; omega)
    refine (fun M => H t' h M ((s.perm (E' := (dr.n, 0, [.int .u64 is', .int .i64 (GT.pt (h := k + 1) (dr, rk)).items.length, dr.iv, ptr dr.kb 0]) :: (dr.ib, dr.io, dr.its.flatMap enc ++ dr.isp) :: (dr.kb, 0, [dr.kv]) :: (dr.krb, dr.kro, ((rk.map GT.id).map pp).flatMap fv ++ dr.ksp) :: (t'.all enc ++ E)) ?_).drop 4)) ?_
    rotate_left
    · refine mended_one rfl ht2 (by omega) (by omega) ht1 gt hab hlm hfl' (by rw [hlI]) hP ⟨hlt, ?_⟩
      rw [hl2']
      show (dl.its ++ y :: dr.its, lk.map GT.pt ++ rk.map GT.pt) = (dl.its ++ [y] ++ dr.its, (lk ++ rk).map GT.pt)
      rw [List.map_append]; simp
    have e1 := M.2.1
    rw [ht2] at e1
    have e1 : ((PT.items (h := k + 2) (P ++ S, (A ++ l' :: B).map GT.pt)).length : Int) = cnt := by rw [hcn, e1]; rfl
    have e2 : (A ++ l' :: B).flatMap (GT.all enc) = A.flatMap (GT.all enc) ++ (l'.all enc ++ B.flatMap (GT.all enc)) := by rw [List.flatMap_append, List.flatMap_cons]
    have e3 : (PT.items (h := k + 1) ((GT.nd (h := k + 1) (dl, lk)).its ++ [y] ++ (GT.nd (h := k + 1) (dr, rk)).its, (lk ++ rk).map GT.pt)).length = (GT.pt (h := k + 1) (dl, lk)).items.length + ((GT.pt (h := k + 1) (dr, rk)).items.length + 1) := by
     have := congrArg List.length hlI
     rw [hl2', List.length_append, List.length_cons] at this; exact this
    have e5 : (lk ++ rk).flatMap (GT.all enc) = lk.flatMap (GT.all enc) ++ rk.flatMap (GT.all enc) := List.flatMap_append
    rw [ht4, e1, e2, hl4', ids_one, hl1', e3, e5]
    ((apply perm_rg; intro f; simp only [PS]; ac_rfl))
 · have hge : m ≤ l.nd.its.length + r.nd.its.length := by have := of_decide_eq_false hge; omega
   refine r_nil (r_fld (St.r_load0 s 0 rfl rfl ?_))
   refine Own.lenV (by assumption) ?_; refine r_nil (r_fld (St.r_load0 s 2 rfl rfl ?_))
   refine Own.lenV (by assumption) ?_; refine r_cmpI ?_; refine r_if (fun hgt => ?_) (fun hle => ?_)
   · have hgt : r.nd.its.length < l.nd.its.length := by have := of_decide_eq_true hgt; omega
     refine r_nil (r_fld (St.r_load0 s 2 rfl rfl (r_nil (r_fld ?_))))
     refine s.r_lzE hT4 3 (enc emp) rfl (by simp) rfl ?_; refine St.r_mkSl (sz := 2) (cs := enc emp) s (by ((simp only [fillV, fill1, Value.cells, Nat.reduceAdd, Nat.reduceMul, Nat.reduceLeDiff, Nat.reduceEqDiff, reduceIte, PF] <;> rfl))) rfl fun q h s w1 => ?_; refine And.intro (by exact St.r_still0 s 3 rfl rfl) ?_; refine s.r_appL (M := [emp]) 4 rfl wr rfl (by have := w1.rdl s 0 rfl; simpa using this) (fun _ _ => enc1 _) (by simp; omega) (by simp; omega) fun riv1 rib1 rio1 risp1 h s wr1 => ?_
     have s := s.tail rfl
     refine r_nil (r_fld ?_)
     (refine St.r_store0 s 2 rfl (by simp) (Own.one (by assumption)) ?_; intro h s; try simp only [P2] at s)
     refine r_nil (r_fld (St.r_load0 s 2 rfl rfl ?_))
     refine wr1.slcLo encl (i := 1) rfl (by simp) fun dd wd => ?_; refine r_nil (r_fld (St.r_load0 s 2 rfl rfl ?_))
     refine s.r_cpyF encl 3 (L := r.nd.its ++ [emp]) (M := (r.nd.its ++ [emp]).drop 0) rfl wd (by simp; omega) (wr1.rdl s 3 rfl).z0 rfl (fun y _ => enc1 y) fun h s => ?_
     have hl0 : 1 ≤ l.nd.its.length := by omega
     obtain ⟨L, z, hL⟩ := last_of hl0
     have hzl : l.nd.its[l.nd.its.length - 1]? = some z := by rw [hL]; simp
     have hLl : l.nd.its.length = L.length + 1 := by rw [hL]; simp
     refine r_nil (r_fld (St.r_load0 s 2 rfl rfl (r_nil (r_fld (St.r_load0 s 4 rfl rfl ?_)))))
     (refine Own.idx (by assumption) rfl (by first | omega | (simp; done) | (simp; omega)) ?_)
     refine s.r_loadF encl 5 rfl (by assumption) ?_
     (refine Own.idx (by assumption) rfl (by first | omega | (simp; done) | (simp; omega)) ?_)
     (refine s.r_storeF encl 3 rfl (by first | omega | (simp; done) | (simp; omega)) (enc1 _) ?_; intro h s; try simp only [P2] at s)
     refine r_nil (r_fld (St.r_load0 s 2 rfl rfl ?_))
     refine r_add1 (by omega) ?_; refine r_nil (r_fld ?_)
     (refine St.r_store0 s 2 rfl (by simp) rfl ?_; intro h s; try simp only [P2] at s)
     refine r_nil (r_fld (St.r_load0 s 4 rfl rfl (r_nil (r_fld (St.r_load0 s 0 rfl rfl (r_nil ?_))))))
     refine r_fld (St.r_load0 s 0 rfl rfl ?_)
     refine Own.lenV (by assumption) ?_; refine r_sub1 (by omega) (by omega) ?_
     (refine Own.idx (by assumption) rfl (by first | omega | (simp; done) | (simp; omega)) ?_)
     refine s.r_loadF encl 1 rfl (by assumption) ?_
     (refine Own.idx (by assumption) rfl (by first | omega | (simp; done) | (simp; omega)) ?_)
     (refine s.r_storeF encl 5 rfl (by first | omega | (simp; done) | (simp; omega)) (enc1 _) ?_; intro h s; try simp only [P2] at s)
     refine r_nil (r_fld (St.r_load0 s 0 rfl rfl (r_nil (r_fld (St.r_load0 s 0 rfl rfl ?_)))))
     refine Own.lenV (by assumption) ?_; refine r_sub1 (by omega) (by omega) ?_; refine r_nil (r_fld ?_)
     refine s.r_lzE hT4 3 (enc emp) rfl (by simp) rfl ?_
     (refine Own.idx (by assumption) rfl (by first | omega | (simp; done) | (simp; omega)) ?_)
     (refine s.r_storeF encl 1 rfl (by first | omega | (simp; done) | (simp; omega)) (enc1 _) ?_; intro h s; try simp only [P2] at s)
     refine r_nil (r_fld (St.r_load0 s 0 rfl rfl (r_nil (r_fld (St.r_load0 s 0 rfl rfl ?_)))))
     refine Own.lenV (by assumption) ?_; refine r_sub1 (by omega) (by omega) ?_; rw [ins_steps r.nd.its emp y (Nat.zero_le _), ins0] at s
     have wr2 : Own 2 riv1 (y :: r.nd.its).length rib1 rio1 ((y :: r.nd.its).flatMap enc) risp1 := wr1.list encl (by simp)
     rw [setAt hP] at s; refine (wl.list encl (pop_len (e := emp))).slcHi encl rfl (by rw [pop_len]; omega) fun liv2 wl2 => ?_
     have s := s.del (f := enc) 1 rfl _ (pop_steps (e := emp) hL)
     rw [pop_steps (e := emp) hL] at wl2; refine r_nil (r_fld ?_)
     (refine St.r_store0 s 0 rfl (by simp) (Own.one (by assumption)) ?_; intro h s; try simp only [P2] at s)
     refine r_nil (r_fld (St.r_load0 s 0 rfl rfl ?_))
     refine r_sub1 (by omega) (by omega) ?_; refine r_nil (r_fld ?_)
     (refine St.r_store0 s 0 rfl (by simp) rfl ?_; intro h s; try simp only [P2] at s)
     have w2 : Own 2 iv (P ++ z :: S).length ib io ((P ++ z :: S).flatMap enc) isp := w.list encl (by simp)
     cases k with
     | zero =>
      refine node_leaf_ok (a := none) (s.cl0 0 rfl rfl) ?_; refine r_not ?_; refine r_if (fun e => absurd e (by simp)) (fun _ => ?_)
      have s := St.kids0 s
      obtain ⟨l', hl1', gl', hl2', hl3', hl4'⟩ := mk_leaf (iso := is') (n := l.id) wl2; obtain ⟨r', hr1', gr', hr2', hr3', hr4'⟩ := mk_leaf (iso := is') (n := r.id) wr2
      have wK2 : Own 1 kv (((A ++ l' :: r' :: B).map GT.id).map pp).length krb kro ((((A ++ l' :: r' :: B).map GT.id).map pp).flatMap fv) ksp := by rw [ids_pp, hl1', hr1']; exact wK
      obtain ⟨t', ht1, gt, ht2, ht3, ht4⟩ := mk_inner (n := n) (kb := kb) (iso := is') w2 wK2 (by simp; omega) (fun c hc => by
       rcases List.mem_append.1 hc with h | h
       · exact gA c h
       · rcases List.mem_cons.1 h with h | h
         · subst h; exact gl'
         · rcases List.mem_cons.1 h with h | h
           · subst h; exact gr'
           · exact gB c h)
      have hfl' : l'.pt.Fl m (m / 2) := by rw [hl2']; exact fl_leaf (by omega) (by omega)
      have hfr' : r'.pt.Fl m (m / 2) := by rw [hr2']; exact fl_leaf (by simp; omega) (by simp; omega)
      refine (fun M => H t' h M (s.perm ?_)) ?_
      rotate_left
      · refine mended_two rfl ht2 (by omega) (by omega) ht1 gt hab hlm hfl' hfr' ?_ hP ⟨by omega, .inl ⟨hgt, ?_⟩⟩
        · rw [hl2', hr2']
          show l.nd.its ++ y :: r.nd.its = L ++ z :: (y :: r.nd.its)
          rw [hL]; simp
        · rw [hl2', hr2']
          show (l.nd.its.dropLast, l.nd.its.getLast?.getD y, y :: r.nd.its) = (L, z, y :: r.nd.its)
          rw [hL]; simp
      have e1 := M.2.1
      rw [ht2] at e1
      have e1 : ((PT.items (h := 1) (P ++ z :: S, (A ++ l' :: r' :: B).map GT.pt)).length : Int) = cnt := by rw [hcn, e1]; rfl
      have e2 : (A ++ l' :: r' :: B).flatMap (GT.all enc) = A.flatMap (GT.all enc) ++ (l'.all enc ++ (r'.all enc ++ B.flatMap (GT.all enc))) := by rw [List.flatMap_append, List.flatMap_cons, List.flatMap_cons]
      have e3 : l.pt.items.length = l.nd.its.length := rfl
      have e4 : r.pt.items.length = r.nd.its.length := rfl
      rw [ht4, e1, e2, hl4', hr4', ids_pp, hl1', hr1', e3, e4, hLl, List.length_cons, Nat.add_sub_cancel]
      ((apply perm_rg; intro f; simp only [PS]; ac_rfl))
     | succ k =>
      obtain ⟨dl, lk⟩ := l; obtain ⟨dr, rk⟩ := r; refine node_leaf_ok (a := some ⟨dl.kb, 0, none⟩) (s.cl0 0 rfl rfl) ?_; refine r_not ?_; refine r_if (fun _ => ?_) (fun e => absurd e (by simp))
      have s := St.kids8 s
      have s : St h0 Z ((dl.n, 0, [_, _, _, ptr dl.kb 0]) :: _ :: (dr.n, 0, [_, _, _, ptr dr.kb 0]) :: _ :: _ :: _ :: _ :: _ :: (dl.kb, 0, [dl.kv]) :: (dl.krb, dl.kro, ((lk.map GT.id).map pp).flatMap fv ++ dl.ksp) :: (dr.kb, 0, [dr.kv]) :: (dr.krb, dr.kro, ((rk.map GT.id).map pp).flatMap fv ++ dr.ksp) ::
       (lk.flatMap (GT.all enc) ++ (rk.flatMap (GT.all enc) ++ (A.flatMap (GT.all enc) ++ (B.flatMap (GT.all enc) ++ E))))) h := s
      have wLK : Own 1 dl.kv ((lk.map GT.id).map pp).length dl.krb dl.kro (((lk.map GT.id).map pp).flatMap fv) dl.ksp := gl.ownK
      have wRK : Own 1 dr.kv ((rk.map GT.id).map pp).length dr.krb dr.kro (((rk.map GT.id).map pp).flatMap fv) dr.ksp := gr.ownK
      have hlk : lk.length = dl.its.length + 1 := gl.wf.2.2.1
      have hrk : rk.length = dr.its.length + 1 := gr.wf.2.2.1
      have hdl : dl.its.length ≤ m := ll.2
      have hdr : dr.its.length ≤ m := lr.2
      have hLl : dl.its.length = L.length + 1 := hLl
      obtain ⟨lk', c, ec⟩ := last_of (show 1 ≤ lk.length by omega)
      have hrkL : ((rk.map GT.id).map pp).length = dr.its.length + 1 := by rw [List.length_map, List.length_map]; exact hrk
      have hlkL : ((lk.map GT.id).map pp).length = dl.its.length + 1 := by rw [List.length_map, List.length_map]; exact hlk
      have hlkE : (lk.map GT.id).map pp = (lk'.map GT.id).map pp ++ [ptr c.id 0] := by rw [ec]; simp
      have hlast : ((lk.map GT.id).map pp)[((lk.map GT.id).map pp).length - 1]? = some (ptr c.id 0) := by rw [hlkE]; simp
      refine r_nil (r_fld (St.r_load0 s 2 rfl rfl (r_nil (r_fld (St.r_load0 s 2 rfl rfl (r_nil ?_))))))
      refine St.r_load0 s 10 rfl rfl ?_; refine St.r_mkSl (sz := 1) (cs := [.pointer none]) s (by ((simp only [fillV, fill1, Value.cells, Nat.reduceAdd, Nat.reduceMul, Nat.reduceLeDiff, Nat.reduceEqDiff, reduceIte, PF] <;> rfl))) rfl fun q h s w1 => ?_; refine And.intro (by exact St.r_still0 s 3 rfl rfl) ?_; refine And.intro (by exact St.r_still0 s 3 rfl rfl) ?_; refine And.intro (by exact St.r_still0 s 11 rfl rfl) ?_; refine s.r_appL (f := fv) (L := (rk.map GT.id).map pp) (M := [.pointer none]) 12 rfl wRK rfl (w1.rdl s 0 rfl) (fun _ h => by simp [one1, List.mem_singleton.1 h]) (by simp; omega) (by simp; omega) fun rkv1 rkb1 rko1 rks1 h s wRK1 => ?_
      have s := s.tail rfl
      refine And.intro (by exact St.r_still0 s 2 rfl rfl) ?_; refine r_nil ?_
      (refine St.r_store0 s 10 rfl (by simp) (Own.one (by assumption)) ?_; intro h s; try simp only [P2] at s)
      refine r_nil (r_fld (St.r_load0 s 2 rfl rfl (r_nil (St.r_load0 s 10 rfl rfl ?_))))
      refine wRK1.slcLo fvl (i := 1) rfl (by simp) fun dd wd2 => ?_; refine r_nil (r_fld (St.r_load0 s 2 rfl rfl (r_nil (St.r_load0 s 10 rfl rfl ?_))))
      refine s.r_cpyF fvl 11 (L := (rk.map GT.id).map pp ++ [Value.pointer none]) (M := ((rk.map GT.id).map pp ++ [Value.pointer none]).drop 0) rfl wd2 (by simp; omega) (wRK1.rdl s 11 rfl).z0 rfl (fun y hy => by
       rw [List.drop_zero] at hy
       rcases List.mem_append.1 hy with hy | hy
       · obtain ⟨a, _, rfl⟩ := List.mem_map.1 hy; simp [one1]
       · rw [List.mem_singleton.1 hy]; simp [one1]) fun h s => ?_
      refine r_nil (r_fld (St.r_load0 s 2 rfl rfl (r_nil (St.r_load0 s 10 rfl rfl (r_nil (r_fld ?_))))))
      refine St.r_load0 s 0 rfl rfl (r_nil (St.r_load0 s 8 rfl rfl (r_nil (r_fld (St.r_load0 s 0 rfl rfl (r_nil ?_))))))
      refine St.r_load0 s 8 rfl rfl ?_; refine Own.lenV (by assumption) ?_; refine r_sub1 (by omega) (by omega) ?_
      (refine Own.idx (by assumption) rfl (by first | omega | (simp; done) | (simp; omega)) ?_)
      refine s.r_loadV 9 rfl (by assumption) ?_
      (refine Own.idx (by assumption) rfl (by first | omega | (simp; done) | (simp; omega)) ?_)
      (refine s.r_storeV 11 rfl (by first | omega | (simp; done) | (simp; omega)) rfl ?_; intro h s; try simp only [P2] at s)
      refine r_nil (r_fld (St.r_load0 s 0 rfl rfl (r_nil (St.r_load0 s 8 rfl rfl (r_nil (r_fld ?_))))))
      refine St.r_load0 s 0 rfl rfl (r_nil (St.r_load0 s 8 rfl rfl ?_))
      refine Own.lenV (by assumption) ?_; refine r_sub1 (by omega) (by omega) ?_
      (refine Own.idx (by assumption) rfl (by first | omega | (simp; done) | (simp; omega)) ?_)
      (refine s.r_storeV 9 rfl (by first | omega | (simp; done) | (simp; omega)) rfl ?_; intro h s; try simp only [P2] at s)
      refine r_nil (r_fld (St.r_load0 s 0 rfl rfl (r_nil (r_fld (St.r_load0 s 0 rfl rfl (r_nil ?_))))))
      refine St.r_load0 s 8 rfl rfl (r_nil (r_fld (St.r_load0 s 0 rfl rfl (r_nil (St.r_load0 s 8 rfl rfl ?_)))))
      refine Own.lenV (by assumption) ?_; refine r_sub1 (by omega) (by omega) ?_; rw [ins_steps ((rk.map GT.id).map pp) (.pointer none) (ptr c.id 0) (Nat.zero_le _), ins0] at s
      have wRK2 : Own 1 rkv1 (ptr c.id 0 :: (rk.map GT.id).map pp).length rkb1 rko1 ((ptr c.id 0 :: (rk.map GT.id).map pp).flatMap fv) rks1 := wRK1.list fvl (by simp)
      clear wRK1; refine (wLK.list fvl (pop_len (e := .pointer none))).slcHi fvl rfl (by rw [pop_len]; omega) fun lkv2 wLK2 => ?_
      have s := s.del (f := fv) 9 rfl _ (pop_steps (e := .pointer none) hlkE)
      rw [pop_steps (e := .pointer none) hlkE] at wLK2; obtain ⟨a1, a2, a3, hcm⟩ := GT.topA (t := c)
      have hcl : c ∈ lk := by rw [ec]; simp
      have gc : Gd is' c := gl.kid hcl
      have hcm' : (c.id, 0, [a1, .int .i64 c.nd.cnt, a2, a3]) ∈ lk.flatMap (GT.all enc) := List.mem_flatMap.2 ⟨c, hcl, hcm⟩
      rw [gc.cntEq] at hcm'
      have hL' : dl.its = L ++ [z] := hL
      have hlk'l : lk'.length = L.length + 1 := by rw [ec] at hlk; simp at hlk; omega
      have hlI : (GT.pt (h := k + 1) (dl, lk)).items = inter L ((lk'.map GT.pt).map PT.items) ++ z :: c.pt.items := by
       show inter dl.its ((lk.map GT.pt).map PT.items) = _
       rw [ec, hL', List.map_append, List.map_append]; exact inter_snoc _ _ _ _ (by simp; omega)
      have hlL := congrArg List.length hlI
      rw [List.length_append, List.length_cons] at hlL
      have hc0 : (ptr c.id 0 :: (rk.map GT.id).map pp)[0]? = some (ptr c.id 0) := rfl
      refine r_nil ?_
      (refine St.r_store0 s 8 rfl (by simp) (Own.one (by assumption)) ?_; intro h s; try simp only [P2] at s)
      refine r_nil (r_fld (St.r_load0 s 0 rfl rfl (r_nil (r_fld (St.r_load0 s 2 rfl rfl (r_nil ?_))))))
      refine St.r_load0 s 10 rfl rfl ?_
      (refine Own.idx (by assumption) rfl (by first | omega | (simp; done) | (simp; omega)) ?_)
      refine s.r_loadI 11 0 rfl rfl rfl ?_; refine r_nil (r_fld ?_)
      refine s.r_loadD 12 (List.mem_append.2 (.inl hcm')) rfl ?_; refine r_subN (by omega) (by omega) ?_; refine r_nil (r_fld ?_)
      (refine St.r_store0 s 0 rfl (by simp) rfl ?_; intro h s; try simp only [P2] at s)
      refine r_nil (r_fld (St.r_load0 s 2 rfl rfl (r_nil (r_fld (St.r_load0 s 2 rfl rfl (r_nil ?_))))))
      refine St.r_load0 s 10 rfl rfl ?_
      (refine Own.idx (by assumption) rfl (by first | omega | (simp; done) | (simp; omega)) ?_)
      refine s.r_loadI 11 0 rfl rfl rfl ?_; refine r_nil (r_fld ?_)
      refine s.r_loadD 12 (List.mem_append.2 (.inl hcm')) rfl ?_; refine r_addN (by omega) ?_; refine r_nil (r_fld ?_)
      (refine St.r_store0 s 2 rfl (by simp) rfl ?_; intro h s; try simp only [P2] at s)
      obtain ⟨l', hl1', gl', hl2', hl3', hl4'⟩ := mk_inner (iso := is') (n := dl.n) (kb := dl.kb) (ts := lk') wl2 wLK2 hlk'l (fun q hq => gl.kid (by rw [ec]; exact List.mem_append.2 (.inl hq)))
      obtain ⟨r', hr1', gr', hr2', hr3', hr4'⟩ := mk_inner (iso := is') (n := dr.n) (kb := dr.kb) (ts := c :: rk) wr2 wRK2 (by show _ = (y :: dr.its).length + 1; simp; omega) (fun q hq => by
       rcases List.mem_cons.1 hq with h | h
       · rw [h]; exact gc
       · exact gr.kid h)
      have wK2 : Own 1 kv (((A ++ l' :: r' :: B).map GT.id).map pp).length krb kro ((((A ++ l' :: r' :: B).map GT.id).map pp).flatMap fv) ksp := by rw [ids_pp, hl1', hr1']; exact wK
      obtain ⟨t', ht1, gt, ht2, ht3, ht4⟩ := mk_inner (n := n) (kb := kb) (iso := is') w2 wK2 (by simp; omega) (fun c hc => by
       rcases List.mem_append.1 hc with h | h
       · exact gA c h
       · rcases List.mem_cons.1 h with h | h
         · subst h; exact gl'
         · rcases List.mem_cons.1 h with h | h
           · subst h; exact gr'
           · exact gB c h)
      have fkl : ∀ q ∈ lk, PT.Fl m (m / 2) q.pt := fun q hq => fl0.2.2.2 _ (List.mem_map.2 ⟨q, hq, rfl⟩)
      have fkr : ∀ q ∈ rk, PT.Fl m (m / 2) q.pt := fun q hq => fr0.2.2.2 _ (List.mem_map.2 ⟨q, hq, rfl⟩)
      have hgt2 : dr.its.length < dl.its.length := hgt
      have hlr2 : (dl.its.length + 1 = m / 2 ∧ m / 2 ≤ dr.its.length) ∨ (m / 2 ≤ dl.its.length ∧ dr.its.length + 1 = m / 2) := hlr
      have hge2 : m ≤ dl.its.length + dr.its.length := hge
      have hfl' : l'.pt.Fl m (m / 2) := by
       rw [hl2']; refine fl_inner (by omega) (by omega) (by simp; omega) fun q hq => ?_; obtain ⟨x, hx, rfl⟩ := List.mem_map.1 hq; exact fkl x (by rw [ec]; exact List.mem_append.2 (.inl hx))
      have hfr' : r'.pt.Fl m (m / 2) := by
       rw [hr2']; refine fl_inner (by show m / 2 ≤ (y :: dr.its).length; simp; omega) (by show (y :: dr.its).length ≤ m; simp; omega) (by show _ = (y :: dr.its).length + 1; simp; omega) fun q hq => ?_; obtain ⟨x, hx, rfl⟩ := List.mem_map.1 hq
       rcases List.mem_cons.1 hx with h | h
       · rw [h]; exact fkl c hcl
       · exact fkr x h
      have hl'I : l'.pt.items = inter L ((lk'.map GT.pt).map PT.items) := by rw [hl2']; rfl
      have hr'I : r'.pt.items = c.pt.items ++ y :: (GT.pt (h := k + 1) (dr, rk)).items := by rw [hr2']; rfl
      refine (fun M => H t' h M (s.perm ?_)) ?_
      rotate_left
      · refine mended_two rfl ht2 (by omega) (by omega) ht1 gt hab hlm hfl' hfr' (by rw [hlI, hl'I, hr'I]; simp) hP ⟨by show ¬ dl.its.length + dr.its.length < m; omega, .inl ⟨hgt, ?_⟩⟩
        rw [hl2', hr2']
        show ((dl.its.dropLast, (lk.map GT.pt).dropLast), dl.its.getLast?.getD y, (y :: dr.its, (lk.map GT.pt).getLast?.toList ++ rk.map GT.pt)) = ((L, lk'.map GT.pt), z, (y :: dr.its, (c :: rk).map GT.pt))
        have hL' : dl.its = L ++ [z] := hL
        rw [hL', ec]; simp
      have e1 := M.2.1
      rw [ht2] at e1
      have e1 : ((PT.items (h := k + 2) (P ++ z :: S, (A ++ l' :: r' :: B).map GT.pt)).length : Int) = cnt := by rw [hcn, e1]; rfl
      have e2 : (A ++ l' :: r' :: B).flatMap (GT.all enc) = A.flatMap (GT.all enc) ++ (l'.all enc ++ (r'.all enc ++ B.flatMap (GT.all enc))) := by rw [List.flatMap_append, List.flatMap_cons, List.flatMap_cons]
      have e3 : (PT.items (h := k + 1) (y :: (GT.nd (h := k + 1) (dr, rk)).its, (c :: rk).map GT.pt)).length = (GT.pt (h := k + 1) (dr, rk)).items.length + 1 + c.pt.items.length := by
       have := congrArg List.length hr'I
       rw [hr2'] at this; rw [List.length_append, List.length_cons] at this; exact this.trans (by omega)
      have e4 : (PT.items (h := k + 1) (L, lk'.map GT.pt)).length = (GT.pt (h := k + 1) (dl, lk)).items.length - 1 - c.pt.items.length := by
       show (inter L ((lk'.map GT.pt).map PT.items)).length = _
       omega
      have e5 : lk.flatMap (GT.all enc) = lk'.flatMap (GT.all enc) ++ c.all enc := by rw [ec, List.flatMap_append, List.flatMap_singleton]
      rw [ht4, e1, e2, hl4', hr4', ids_pp, hl1', hr1', e3, e4]
      have e6 : (c :: rk).flatMap (GT.all enc) = c.all enc ++ rk.flatMap (GT.all enc) := List.flatMap_cons
      have e7 : (((c :: rk).map GT.id).map pp) = ptr c.id 0 :: (rk.map GT.id).map pp := rfl
      rw [e5, e6, e7]
      ((apply perm_rg; intro f; simp only [PS]; ac_rfl))
   · have hle : l.nd.its.length ≤ r.nd.its.length := by have := of_decide_eq_false hle; omega
     refine r_nil (r_fld (St.r_load0 s 0 rfl rfl (r_nil (r_fld (St.r_load0 s 4 rfl rfl ?_)))))
     (refine Own.idx (by assumption) rfl (by first | omega | (simp; done) | (simp; omega)) ?_)
     refine s.r_loadF encl 5 rfl (by assumption) ?_; refine St.r_mkSl (sz := 2) (cs := enc y) s (by ((simp only [fillV, fill1, Value.cells, Nat.reduceAdd, Nat.reduceMul, Nat.reduceLeDiff, Nat.reduceEqDiff, reduceIte, PF] <;> rfl))) rfl fun q h s w1 => ?_; refine And.intro (by exact St.r_still0 s 1 rfl rfl) ?_; refine s.r_appL (M := [y]) 2 rfl wl rfl (by have := w1.rdl s 0 rfl; simpa using this) (fun _ _ => enc1 _) (by simp; omega) (by simp; omega) fun liv1 lib1 lio1 lisp1 h s wl1 => ?_
     have s := s.tail rfl
     refine r_nil (r_fld ?_)
     (refine St.r_store0 s 0 rfl (by simp) (Own.one (by assumption)) ?_; intro h s; try simp only [P2] at s)
     refine r_nil (r_fld (St.r_load0 s 0 rfl rfl ?_))
     refine r_add1 (by omega) ?_; refine r_nil (r_fld ?_)
     (refine St.r_store0 s 0 rfl (by simp) rfl ?_; intro h s; try simp only [P2] at s)
     refine r_nil (r_fld (St.r_load0 s 4 rfl rfl (r_nil (r_fld (St.r_load0 s 2 rfl rfl ?_)))))
     (refine Own.idx (by assumption) rfl (by first | omega | (simp; done) | (simp; omega)) ?_)
     (refine s.r_loadF encl 3 rfl (List.getElem?_eq_getElem (by first | omega | (simp; done) | (simp; omega))) ?_)
     (refine Own.idx (by assumption) rfl (by first | omega | (simp; done) | (simp; omega)) ?_)
     (refine s.r_storeF encl 5 rfl (by first | omega | (simp; done) | (simp; omega)) (enc1 _) ?_; intro h s; try simp only [P2] at s)
     refine r_nil (r_fld (St.r_load0 s 2 rfl rfl (r_nil (r_fld (St.r_load0 s 2 rfl rfl ?_)))))
     refine (wr.rdl s 3 rfl).slcLo encl (i := 1) rfl (by omega) fun src rs => ?_; refine s.r_cpyF encl 3 (L := r.nd.its) (M := r.nd.its.drop 1) rfl wr.z0 (by simp) rs rfl (fun y _ => enc1 y) fun h s => ?_; refine r_nil (r_fld (St.r_load0 s 2 rfl rfl (r_nil (r_fld (St.r_load0 s 2 rfl rfl ?_)))))
     refine Own.lenV (by assumption) ?_; refine r_sub1 (by omega) (by omega) ?_; refine r_nil (r_fld ?_)
     refine s.r_lzE hT4 3 (enc emp) rfl (by simp) rfl ?_
     (refine Own.idx (by assumption) rfl (by first | omega | (simp; done) | (simp; omega)) ?_)
     (refine s.r_storeF encl 3 rfl (by first | omega | (simp; done) | (simp; omega)) (enc1 _) ?_; intro h s; try simp only [P2] at s)
     refine r_nil (r_fld (St.r_load0 s 2 rfl rfl (r_nil (r_fld (St.r_load0 s 2 rfl rfl ?_)))))
     refine Own.lenV (by assumption) ?_; refine r_sub1 (by omega) (by omega) ?_
     have hr0 : 0 < r.nd.its.length := by omega
     refine (wr.list encl (del_len r.nd.its emp hr0)).slcHi encl rfl (by rw [del_len _ _ hr0]; omega) fun riv2 wr2 => ?_
     have s := s.del (f := enc) 3 rfl _ (del_erase r.nd.its emp hr0)
     rw [del_erase r.nd.its emp hr0] at wr2; refine r_nil (r_fld ?_)
     (refine St.r_store0 s 2 rfl (by simp) (Own.one (by assumption)) ?_; intro h s; try simp only [P2] at s)
     refine r_nil (r_fld (St.r_load0 s 2 rfl rfl ?_))
     refine r_sub1 (by omega) (by omega) ?_; refine r_nil (r_fld ?_)
     (refine St.r_store0 s 2 rfl (by simp) rfl ?_; intro h s; try simp only [P2] at s)
     obtain ⟨z, R, hR⟩ := head_of (show 1 ≤ r.nd.its.length by omega)
     have hz : r.nd.its[0]'(by omega) = z := by simp [hR]
     have hR0 : r.nd.its.eraseIdx 0 = R := by rw [hR]; rfl
     have hRl : r.nd.its.length = R.length + 1 := by rw [hR]; rfl
     rw [hz, setAt hP] at s; rw [hR0] at s wr2
     have w2 : Own 2 iv (P ++ z :: S).length ib io ((P ++ z :: S).flatMap enc) isp := w.list encl (by simp)
     cases k with
     | zero =>
      refine node_leaf_ok (a := none) (s.cl0 0 rfl rfl) ?_; refine r_not ?_; refine r_if (fun e => absurd e (by simp)) (fun _ => ?_)
      have s := St.kids0 s
      obtain ⟨l', hl1', gl', hl2', hl3', hl4'⟩ := mk_leaf (iso := is') (n := l.id) wl1; obtain ⟨r', hr1', gr', hr2', hr3', hr4'⟩ := mk_leaf (iso := is') (n := r.id) wr2
      have wK2 : Own 1 kv (((A ++ l' :: r' :: B).map GT.id).map pp).length krb kro ((((A ++ l' :: r' :: B).map GT.id).map pp).flatMap fv) ksp := by rw [ids_pp, hl1', hr1']; exact wK
      obtain ⟨t', ht1, gt, ht2, ht3, ht4⟩ := mk_inner (n := n) (kb := kb) (iso := is') w2 wK2 (by simp; omega) (fun c hc => by
       rcases List.mem_append.1 hc with h | h
       · exact gA c h
       · rcases List.mem_cons.1 h with h | h
         · subst h; exact gl'
         · rcases List.mem_cons.1 h with h | h
           · subst h; exact gr'
           · exact gB c h)
      have hfl' : l'.pt.Fl m (m / 2) := by rw [hl2']; exact fl_leaf (by simp; omega) (by simp; omega)
      have hfr' : r'.pt.Fl m (m / 2) := by rw [hr2']; exact fl_leaf (by omega) (by omega)
      have hx : l.pt.items ++ y :: r.pt.items = l'.pt.items ++ z :: r'.pt.items := by
       rw [hl2', hr2']
       show l.nd.its ++ y :: r.nd.its = (l.nd.its ++ [y]) ++ z :: R
       rw [hR]; simp
      have M := mended_two (t := ((⟨own, n, is', cnt, P ++ y :: S, iv, ib, io, isp, kb, kv, krb, kro, ksp⟩ : Nd It), A ++ l :: r :: B)) (iso := is') rfl ht2 (by omega) (by omega) ht1 gt hab hlm hfl' hfr' hx hP ⟨by omega, .inr ⟨by omega, by
       rw [hl2', hr2']
       show (l.nd.its ++ [y], r.nd.its.head?.getD y, r.nd.its.tail) = (l.nd.its ++ [y], z, R)
       rw [hR]; rfl⟩⟩
      refine H t' h M (s.perm ?_)
      have e1 : ((PT.items (h := 1) (P ++ z :: S, (A ++ l' :: r' :: B).map GT.pt)).length : Int) = cnt := by have := M.2.1; rw [ht2] at this; rw [hcn, this]; rfl
      have e2 : (A ++ l' :: r' :: B).flatMap (GT.all enc) = A.flatMap (GT.all enc) ++ (l'.all enc ++ (r'.all enc ++ B.flatMap (GT.all enc))) := by rw [List.flatMap_append, List.flatMap_cons, List.flatMap_cons]
      have e3 : l.pt.items.length = l.nd.its.length := rfl
      have e4 : r.pt.items.length = r.nd.its.length := rfl
      rw [ht4, e1, e2, hl4', hr4', ids_pp, hl1', hr1', e3, e4, hRl, List.length_append, List.length_singleton, Nat.add_sub_cancel]
      ((apply perm_rg; intro f; simp only [PS]; ac_rfl))
     | succ k =>
      obtain ⟨dl, lk⟩ := l; obtain ⟨dr, rk⟩ := r; refine node_leaf_ok (a := some ⟨dl.kb, 0, none⟩) (s.cl0 0 rfl rfl) ?_; refine r_not ?_; refine r_if (fun _ => ?_) (fun e => absurd e (by simp))
      have s := St.kids8 s
      have s : St h0 Z ((dl.n, 0, [_, _, _, ptr dl.kb 0]) :: _ :: (dr.n, 0, [_, _, _, ptr dr.kb 0]) :: _ :: _ :: _ :: _ :: _ :: (dl.kb, 0, [dl.kv]) :: (dl.krb, dl.kro, ((lk.map GT.id).map pp).flatMap fv ++ dl.ksp) :: (dr.kb, 0, [dr.kv]) :: (dr.krb, dr.kro, ((rk.map GT.id).map pp).flatMap fv ++ dr.ksp) ::
       (lk.flatMap (GT.all enc) ++ (rk.flatMap (GT.all enc) ++ (A.flatMap (GT.all enc) ++ (B.flatMap (GT.all enc) ++ E))))) h := s
      have wLK : Own 1 dl.kv ((lk.map GT.id).map pp).length dl.krb dl.kro (((lk.map GT.id).map pp).flatMap fv) dl.ksp := gl.ownK
      have wRK : Own 1 dr.kv ((rk.map GT.id).map pp).length dr.krb dr.kro (((rk.map GT.id).map pp).flatMap fv) dr.ksp := gr.ownK
      have hlk : lk.length = dl.its.length + 1 := gl.wf.2.2.1
      have hrk : rk.length = dr.its.length + 1 := gr.wf.2.2.1
      have hdl : dl.its.length ≤ m := ll.2
      have hdr : dr.its.length ≤ m := lr.2
      have hRl : dr.its.length = R.length + 1 := hRl
      obtain ⟨c, rk', ec⟩ := head_of (show 1 ≤ rk.length by omega)
      have hrkL : ((rk.map GT.id).map pp).length = dr.its.length + 1 := by rw [List.length_map, List.length_map]; exact hrk
      have hlkL : ((lk.map GT.id).map pp).length = dl.its.length + 1 := by rw [List.length_map, List.length_map]; exact hlk
      have hrk0 : 0 < ((rk.map GT.id).map pp).length := by simp; omega
      have hc0 : ((rk.map GT.id).map pp)[0]? = some (ptr c.id 0) := by rw [ec]; rfl
      refine r_nil (r_fld (St.r_load0 s 0 rfl rfl (r_nil (r_fld (St.r_load0 s 0 rfl rfl (r_nil ?_))))))
      refine St.r_load0 s 8 rfl rfl (r_nil (r_fld (St.r_load0 s 2 rfl rfl (r_nil (St.r_load0 s 10 rfl rfl ?_)))))
      (refine Own.idx (by assumption) rfl (by first | omega | (simp; done) | (simp; omega)) ?_)
      refine s.r_loadV 11 rfl (by assumption) ?_; refine St.r_mkSl (sz := 1) (cs := [ptr c.id 0]) s (by ((simp only [fillV, fill1, Value.cells, Nat.reduceAdd, Nat.reduceMul, Nat.reduceLeDiff, Nat.reduceEqDiff, reduceIte, PF] <;> rfl))) rfl fun q h s w1 => ?_; refine And.intro (by exact St.r_still0 s 1 rfl rfl) ?_; refine And.intro (by exact St.r_still0 s 1 rfl rfl) ?_; refine And.intro (by exact St.r_still0 s 9 rfl rfl) ?_; refine s.r_appL (f := fv) (L := (lk.map GT.id).map pp) (M := [pp c.id]) 10 rfl wLK rfl (w1.rdl s 0 rfl) (fun _ h => by simp [one1, List.mem_singleton.1 h]) (by simp; omega) (by simp; omega) fun lkv1 lkb1 lko1 lks1 h s wLK1 => ?_
      have s := s.tail rfl
      refine And.intro (by exact St.r_still0 s 0 rfl rfl) ?_; refine r_nil ?_
      (refine St.r_store0 s 8 rfl (by simp) (Own.one (by assumption)) ?_; intro h s; try simp only [P2] at s)
      refine r_nil (r_fld (St.r_load0 s 2 rfl rfl (r_nil (St.r_load0 s 10 rfl rfl (r_nil (r_fld ?_))))))
      refine St.r_load0 s 2 rfl rfl (r_nil (St.r_load0 s 10 rfl rfl ?_))
      refine (wRK.rdl s 11 rfl).slcLo fvl (i := 1) rfl (by simp; omega) fun src rs => ?_; refine s.r_cpyF fvl 11 (L := (rk.map GT.id).map pp) (M := ((rk.map GT.id).map pp).drop 1) rfl wRK.z0 (by simp) rs rfl (fun y hy => by obtain ⟨a, _, rfl⟩ := List.mem_map.1 (List.mem_of_mem_drop hy); simp [one1]) fun h s => ?_; refine r_nil (r_fld (St.r_load0 s 2 rfl rfl (r_nil (St.r_load0 s 10 rfl rfl (r_nil (r_fld ?_))))))
      refine St.r_load0 s 2 rfl rfl (r_nil (St.r_load0 s 10 rfl rfl ?_))
      refine Own.lenV (by assumption) ?_; refine r_sub1 (by omega) (by omega) ?_
      (refine Own.idx (by assumption) rfl (by first | omega | (simp; done) | (simp; omega)) ?_)
      (refine s.r_storeV 11 rfl (by first | omega | (simp; done) | (simp; omega)) rfl ?_; intro h s; try simp only [P2] at s)
      refine r_nil (r_fld (St.r_load0 s 2 rfl rfl (r_nil (r_fld (St.r_load0 s 2 rfl rfl (r_nil ?_))))))
      refine St.r_load0 s 10 rfl rfl (r_nil (r_fld (St.r_load0 s 2 rfl rfl (r_nil (St.r_load0 s 10 rfl rfl ?_)))))
      refine Own.lenV (by assumption) ?_; refine r_sub1 (by omega) (by omega) ?_; refine (wRK.list fvl (del_len _ (.pointer none) hrk0)).slcHi fvl rfl (by rw [del_len _ _ hrk0]; omega) fun rkv2 wRK2 => ?_
      have s := s.del (f := fv) 11 rfl _ (del_erase _ (.pointer none) hrk0)
      rw [del_erase _ (.pointer none) hrk0] at wRK2
      have hrk2 : ((rk.map GT.id).map pp).eraseIdx 0 = (rk'.map GT.id).map pp := by rw [ec]; rfl
      rw [hrk2] at s wRK2
      have hL1 : ((lk.map GT.id).map pp ++ [pp c.id]).length = dl.its.length + 2 := by rw [List.length_append, hlkL]; rfl
      have hlast : ((lk.map GT.id).map pp ++ [pp c.id])[((lk.map GT.id).map pp ++ [pp c.id]).length - 1]? = some (ptr c.id 0) := by simp
      obtain ⟨a1, a2, a3, hcm⟩ := GT.topA (t := c)
      have hcr : c ∈ rk := by rw [ec]; exact List.mem_cons_self ..
      have gc : Gd is' c := gr.kid hcr
      have hcm' : (c.id, 0, [a1, .int .i64 c.nd.cnt, a2, a3]) ∈ rk.flatMap (GT.all enc) := List.mem_flatMap.2 ⟨c, hcr, hcm⟩
      rw [gc.cntEq] at hcm'
      have hR' : dr.its = z :: R := hR
      have hrI : (GT.pt (h := k + 1) (dr, rk)).items = c.pt.items ++ z :: inter R ((rk'.map GT.pt).map PT.items) := by
       show inter dr.its ((rk.map GT.pt).map PT.items) = _
       rw [ec, hR']; rfl
      have hrL := congrArg List.length hrI
      rw [List.length_append, List.length_cons] at hrL; refine r_nil ?_
      (refine St.r_store0 s 10 rfl (by simp) (Own.one (by assumption)) ?_; intro h s; try simp only [P2] at s)
      refine r_nil (r_fld (St.r_load0 s 0 rfl rfl (r_nil (r_fld (St.r_load0 s 0 rfl rfl (r_nil ?_))))))
      refine St.r_load0 s 8 rfl rfl (r_nil (r_fld (St.r_load0 s 0 rfl rfl (r_nil (St.r_load0 s 8 rfl rfl ?_)))))
      refine Own.lenV (by assumption) ?_; refine r_sub1 (by omega) (by omega) ?_
      (refine Own.idx (by assumption) rfl (by first | omega | (simp; done) | (simp; omega)) ?_)
      refine s.r_loadV 9 rfl (by assumption) ?_; refine r_nil (r_fld ?_)
      refine s.r_loadD 12 (List.mem_append.2 (.inr (List.mem_append.2 (.inl hcm')))) rfl ?_; refine r_addN (by omega) ?_; refine r_nil (r_fld ?_)
      (refine St.r_store0 s 0 rfl (by simp) rfl ?_; intro h s; try simp only [P2] at s)
      refine r_nil (r_fld (St.r_load0 s 2 rfl rfl (r_nil (r_fld (St.r_load0 s 0 rfl rfl (r_nil ?_))))))
      refine St.r_load0 s 8 rfl rfl (r_nil (r_fld (St.r_load0 s 0 rfl rfl (r_nil (St.r_load0 s 8 rfl rfl ?_)))))
      refine Own.lenV (by assumption) ?_; refine r_sub1 (by omega) (by omega) ?_
      (refine Own.idx (by assumption) rfl (by first | omega | (simp; done) | (simp; omega)) ?_)
      refine s.r_loadV 9 rfl (by assumption) ?_; refine r_nil (r_fld ?_)
      refine s.r_loadD 12 (List.mem_append.2 (.inr (List.mem_append.2 (.inl hcm')))) rfl ?_; refine r_subN (by omega) (by omega) ?_; refine r_nil (r_fld ?_)
      (refine St.r_store0 s 2 rfl (by simp) rfl ?_; intro h s; try simp only [P2] at s)
      have eL : ((lk ++ [c]).map GT.id).map pp = (lk.map GT.id).map pp ++ [pp c.id] := by simp
      rw [← eL] at s wLK1
      obtain ⟨l', hl1', gl', hl2', hl3', hl4'⟩ := mk_inner (iso := is') (n := dl.n) (kb := dl.kb) (ts := lk ++ [c]) wl1 wLK1 (by show _ = (dl.its ++ [y]).length + 1; simp; omega) (fun q hq => by
       rcases List.mem_append.1 hq with h | h
       · exact gl.kid h
       · rw [List.mem_singleton.1 h]; exact gc)
      obtain ⟨r', hr1', gr', hr2', hr3', hr4'⟩ := mk_inner (iso := is') (n := dr.n) (kb := dr.kb) (ts := rk') wr2 wRK2 (by rw [ec] at hrk; simp at hrk; omega) (fun q hq => gr.kid (by rw [ec]; exact List.mem_cons_of_mem _ hq))
      have wK2 : Own 1 kv (((A ++ l' :: r' :: B).map GT.id).map pp).length krb kro ((((A ++ l' :: r' :: B).map GT.id).map pp).flatMap fv) ksp := by rw [ids_pp, hl1', hr1']; exact wK
      obtain ⟨t', ht1, gt, ht2, ht3, ht4⟩ := mk_inner (n := n) (kb := kb) (iso := is') w2 wK2 (by simp; omega) (fun c hc => by
       rcases List.mem_append.1 hc with h | h
       · exact gA c h
       · rcases List.mem_cons.1 h with h | h
         · subst h; exact gl'
         · rcases List.mem_cons.1 h with h | h
           · subst h; exact gr'
           · exact gB c h)
      have fkl : ∀ q ∈ lk, PT.Fl m (m / 2) q.pt := fun q hq => fl0.2.2.2 _ (List.mem_map.2 ⟨q, hq, rfl⟩)
      have fkr : ∀ q ∈ rk, PT.Fl m (m / 2) q.pt := fun q hq => fr0.2.2.2 _ (List.mem_map.2 ⟨q, hq, rfl⟩)
      have hle2 : dl.its.length ≤ dr.its.length := hle
      have hlr2 : (dl.its.length + 1 = m / 2 ∧ m / 2 ≤ dr.its.length) ∨ (m / 2 ≤ dl.its.length ∧ dr.its.length + 1 = m / 2) := hlr
      have hge2 : m ≤ dl.its.length + dr.its.length := hge
      have hfl' : l'.pt.Fl m (m / 2) := by
       rw [hl2']; refine fl_inner (by show m / 2 ≤ (dl.its ++ [y]).length; simp; omega) (by show (dl.its ++ [y]).length ≤ m; simp; omega) (by show _ = (dl.its ++ [y]).length + 1; simp; omega) fun q hq => ?_; obtain ⟨x, hx, rfl⟩ := List.mem_map.1 hq
       rcases List.mem_append.1 hx with h | h
       · exact fkl x h
       · rw [List.mem_singleton.1 h]; exact fkr c hcr
      have hfr' : r'.pt.Fl m (m / 2) := by
       rw [hr2']; refine fl_inner (by omega) (by omega) (by rw [ec] at hrk; simp at hrk; simp; omega) fun q hq => ?_; obtain ⟨x, hx, rfl⟩ := List.mem_map.1 hq; exact fkr x (by rw [ec]; exact List.mem_cons_of_mem _ hx)
      have hlI : l'.pt.items = (GT.pt (h := k + 1) (dl, lk)).items ++ y :: c.pt.items := by
       rw [hl2']
       show inter (dl.its ++ [y]) (((lk ++ [c]).map GT.pt).map PT.items) = inter dl.its ((lk.map GT.pt).map PT.items) ++ _
       rw [List.map_append, List.map_append]; exact inter_snoc _ _ _ _ (by simp; omega)
      have hr'I : r'.pt.items = inter R ((rk'.map GT.pt).map PT.items) := by rw [hr2']; rfl
      refine (fun M => H t' h M (s.perm ?_)) ?_
      rotate_left
      · refine mended_two rfl ht2 (by omega) (by omega) ht1 gt hab hlm hfl' hfr' (by rw [hrI, hlI, hr'I]; simp) hP ⟨by show ¬ dl.its.length + dr.its.length < m; omega, .inr ⟨by show ¬ dr.its.length < dl.its.length; omega, ?_⟩⟩
        rw [hl2', hr2']
        show ((dl.its ++ [y], lk.map GT.pt ++ (rk.map GT.pt).head?.toList), dr.its.head?.getD y, (dr.its.tail, (rk.map GT.pt).tail)) = ((dl.its ++ [y], (lk ++ [c]).map GT.pt), z, (R, rk'.map GT.pt))
        have hR' : dr.its = z :: R := hR
        rw [hR', ec]; simp
      have e1 := M.2.1
      rw [ht2] at e1
      have e1 : ((PT.items (h := k + 2) (P ++ z :: S, (A ++ l' :: r' :: B).map GT.pt)).length : Int) = cnt := by rw [hcn, e1]; rfl
      have e2 : (A ++ l' :: r' :: B).flatMap (GT.all enc) = A.flatMap (GT.all enc) ++ (l'.all enc ++ (r'.all enc ++ B.flatMap (GT.all enc))) := by rw [List.flatMap_append, List.flatMap_cons, List.flatMap_cons]
      have e3 : (PT.items (h := k + 1) ((GT.nd (h := k + 1) (dl, lk)).its ++ [y], (lk ++ [c]).map GT.pt)).length = (GT.pt (h := k + 1) (dl, lk)).items.length + 1 + c.pt.items.length := by
       have := congrArg List.length hlI
       rw [hl2'] at this; rw [List.length_append, List.length_cons] at this; exact this.trans (by omega)
      have e4 : (PT.items (h := k + 1) (R, rk'.map GT.pt)).length = (GT.pt (h := k + 1) (dr, rk)).items.length - 1 - c.pt.items.length := by
       show (inter R ((rk'.map GT.pt).map PT.items)).length = _
       omega
      have e5 : rk.flatMap (GT.all enc) = c.all enc ++ rk'.flatMap (GT.all enc) := by rw [ec, List.flatMap_cons]
      have e6 : (lk ++ [c]).flatMap (GT.all enc) = lk.flatMap (GT.all enc) ++ c.all enc := by rw [List.flatMap_append, List.flatMap_singleton]
      rw [ht4, e1, e2, hl4', hr4', ids_pp, hl1', hr1', e6, e3, e4]; rw [e5]
      ((apply perm_rg; intro f; simp only [PS]; ac_rfl))
end Go.Proofs.YthpmeccnddchpaaGreat.Gi
end
section
namespace Go.Proofs.YthpmeccnddchpaaGreat.Gi
open Go.Hp Go.Proofs.YthpmeccnddchpaaGreat
variable {h0 h : Heap} {Z E : List Rg} {Q : Value → Heap → Prop} {lt : It → It → Bool} {lf : Value}
attribute [local irreducible] load1 loadN store1 storeN fld nilck lenV idx arith cmpI notV extr mkSl app cpy slc ifV
theorem fl_any {m lo lo' : Nat} : ∀ {k : Nat} {t : PT It k}, t.Fl m lo → lo' ≤ t.its.length → t.Fl m lo'
 | 0, _, f, h => ⟨h, f.2⟩
 | _ + 1, _, f, h => ⟨h, f.2⟩
theorem fx_set {m lo i k : Nat} {its : List It} {ks : List (PT It k)} {c : PT It k} (f : PT.Fl m lo (h := k + 1) (its, ks)) (fc : c.Fl m (m / 2 - 1)) (its' : List It) (hl : its'.length = its.length) : PT.Fx m lo i ((its', ks.set i c) : PT It (k + 1)) := by
 obtain ⟨f1, f2, f3, f4⟩ := f; refine ⟨by show lo ≤ its'.length; rw [hl]; exact f1, by show its'.length ≤ m; rw [hl]; exact f2, by show (ks.set i c).length = its'.length + 1; rw [hl, List.length_set]; exact f3, fun j q hq => ?_⟩
 have hq : (ks.set i c)[j]? = some q := hq
 rw [List.getElem?_set] at hq
 by_cases e : i = j
 · subst e
   rw [if_pos rfl] at hq ⊢
   split at hq
   · cases hq; exact fc
   · cases hq
 · rw [if_neg e] at hq
   rw [if_neg (fun h => e h.symm)]; exact f4 q (List.mem_of_getElem? hq)
theorem topI : ∀ {k : Nat} {t : GT It k}, ∃ a1 a2 a3, (t.id, 0, [a1, a2, t.nd.iv, a3]) ∈ t.all enc
 | 0, d => ⟨_, _, _, List.mem_cons_self ..⟩
 | _ + 1, t => ⟨_, _, _, List.mem_append.2 (.inl (List.mem_cons_self ..))⟩
theorem rebalance_ok {tb m i lo : Nat} {iso mn : Int} {ctr : Option Addr} (hT0 : (tb, 0, hd0 iso ctr) ∈ Z) (hT4 : (tb, 4, hd4 lf mn m) ∈ Z) (hm3 : 3 ≤ m) (hm1 : m ≤ 1024) (ho : m % 2 = 1) {k : Nat} (t : GT It (k + 1))
  (fx : t.pt.Fx m lo i) (h1 : 1 ≤ t.pt.1.length) (hi : i ≤ t.pt.1.length) (hdef : ∀ c, t.pt.2[i]? = some c → c.its.length + 1 = m / 2)
  (hsz : t.pt.items.length ≤ 4611686018427387903) (g : Gd iso t) (s : St h0 Z (t.all enc ++ E) h)
  (H : ∀ (t' : GT It (k + 1)) h', Mended iso m (if i = t.pt.1.length then i - 1 else i) t t' → St h0 Z (t'.all enc ++ E) h' → Q (.tuple #[]) h') : z00_.call #[ptr tb 0, ptr t.id 0, .int .i64 i] h Q := by
 obtain ⟨f1, f2, f3, f4⟩ := fx
 have hall : ∀ c ∈ t.pt.2, PT.Fl m (m / 2 - 1) c := fun c hc => by
  obtain ⟨j, hj⟩ := List.getElem?_of_mem hc
  have := f4 j c hj
  split at this
  · exact this
  · exact this.mono (by omega)
 refine z00_.body _ _ _ _ _ ?_; unfold z00_.sh
 have main : ∀ j, j < t.pt.1.length → (j = i ∨ j + 1 = i) → j = (if i = t.pt.1.length then i - 1 else i) → z00_.j1 (ptr tb 0) (ptr t.id 0) (.int .i64 j) h Q := fun j hj hij hje => by
  rw [← hje] at H; refine rebalance_j hT0 hT4 hm3 hm1 ho t f2 hj hall (fun c c' hc hc' => ?_) (fun q c hc n1 n2 => ?_) hsz g s H
  · rcases hij with e | e
    · subst e
      refine .inl ⟨hdef c hc, ?_⟩
      have := f4 (j + 1) c' hc'
      rw [if_neg (by omega)] at this; exact this
    · refine .inr ⟨?_, hdef c' (e ▸ hc')⟩
      have := f4 j c hc
      rw [if_neg (by omega)] at this; exact this
  · have := f4 q c hc
    rw [if_neg (by omega)] at this; exact this
 have w : Own 2 t.nd.iv t.nd.its.length t.nd.ib t.nd.io (t.nd.its.flatMap enc) t.nd.isp := g.own
 have hil : t.pt.1.length = t.nd.its.length := rfl
 have s2 := s
 rw [all_eq] at s2
 have s := s2
 have s : St h0 Z ((t.id, 0, [.int .u64 t.nd.iso, .int .i64 t.nd.cnt, t.nd.iv, GT.kp t]) :: (t.nd.ib, t.nd.io, t.nd.its.flatMap enc ++ t.nd.isp) :: (GT.rest t ++ E)) h := s
 refine r_nil (r_fld (St.r_load0 s 0 rfl rfl ?_))
 refine Own.lenV (by assumption) ?_; refine r_cmpI ?_; refine r_if (fun he => ?_) (fun hn => ?_)
 · have he : i = t.nd.its.length := by simp at he; omega
   refine r_sub1 (by omega) (by omega) ?_; refine main (i - 1) (by omega) (.inr (by omega)) (by rw [if_pos (by omega)])
 · have hn : i ≠ t.nd.its.length := by simp at hn; omega
   exact main i (by omega) (.inl rfl) (by rw [if_neg (by omega)])
theorem del_after {tb m i lo n ib io kb krb kro t8 t14 pb po : Nat} {iso mn : Int} {ctr : Option Addr} {its : List It} {iv kv : Value} {isp ksp : List Value} {y z8 : It} (hT0 : (tb, 0, hd0 iso ctr) ∈ Z) (hT4 : (tb, 4, hd4 lf mn m) ∈ Z) (hmn : mn = ((m / 2 : Nat) : Int)) (hm3 : 3 ≤ m) (hm1 : m ≤ 1024) (ho : m % 2 = 1) {k : Nat} {ts : List (GT It k)}
  (w : Own 2 iv its.length ib io (its.flatMap enc) isp) (wK : Own 1 kv ((ts.map GT.id).map pp).length krb kro (((ts.map GT.id).map pp).flatMap fv) ksp) (gk : ∀ c ∈ ts, Gd iso c)
  (fx : PT.Fx m lo i ((its, ts.map GT.pt) : PT It (k + 1))) (h1 : 1 ≤ its.length) (hi : i ≤ its.length) (hsz : (PT.items (h := k + 1) (its, ts.map GT.pt)).length ≤ 4611686018427387903)
  (s : St h0 Z ((t14, 0, enc y) :: (t8, 0, enc z8) :: (pb, po, [ptr n 0]) :: (n, 0, [.int .u64 iso, .int .i64 (((PT.items (h := k + 1) (its, ts.map GT.pt)).length + 1 : Nat) : Int), iv, ptr kb 0]) :: (ib, io, its.flatMap enc ++ isp) :: (kb, 0, [kv]) :: (krb, kro, ((ts.map GT.id).map pp).flatMap fv ++ ksp) :: (ts.flatMap (GT.all enc) ++ E)) h)
  (H : ∀ (t' : GT It (k + 1)) h', t'.id = n → t'.pt.items = PT.items (h := k + 1) (its, ts.map GT.pt) → t'.pt.Fl m (its.length - 1) → Gd iso t' → t'.pt = PT.fix m ((its, ts.map GT.pt) : PT It (k + 1)) i → St h0 Z ((pb, po, [ptr n 0]) :: (t'.all enc ++ E)) h' → Q (.tuple #[av y, .bool true]) h') :
  z0n_.j4 (ptr tb 0) (ptr t8 0) (ptr n 0) (.int .i64 i) (ptr t14 0) h Q := by
 have hkl : ts.length = its.length + 1 := by have := fx.2.2.1; simpa using this
 have hlm : its.length ≤ m := fx.2.1
 have hKl : ((ts.map GT.id).map pp).length = ts.length := by rw [List.length_map, List.length_map]
 obtain ⟨c, hc⟩ : ∃ c, ts[i]? = some c := ⟨ts[i]'(by omega), List.getElem?_eq_getElem (by omega)⟩
 have hcm := List.mem_of_getElem? hc
 have gc := gk c hcm
 have hck : ((ts.map GT.id).map pp)[i]? = some (ptr c.id 0) := by rw [List.getElem?_map, List.getElem?_map, hc]; rfl
 have hcp : (ts.map GT.pt)[i]? = some c.pt := by rw [List.getElem?_map, hc]; rfl
 have fc : PT.Fl m (m / 2 - 1) c.pt := by have := fx.2.2.2 i c.pt hcp; rw [if_pos rfl] at this; exact this
 have hcl : c.nd.its.length ≤ m := (fl_its fc).2
 have hcl1 : m / 2 - 1 ≤ c.nd.its.length := (fl_its fc).1
 obtain ⟨a1, a2, a3, hct⟩ := topI (t := c)
 have wc := gc.own
 have hct' : (c.id, 0, [a1, a2, c.nd.iv, a3]) ∈ ts.flatMap (GT.all enc) := List.mem_flatMap.2 ⟨c, hcm, hct⟩
 obtain ⟨t0, ht1, gt, ht2, ht3, ht4⟩ := mk_inner (n := n) (kb := kb) (iso := iso) w wK hkl gk; subst hmn; unfold z0n_.j4; refine r_nil (r_fld (St.r_load0 s 3 rfl rfl ?_))
 refine r_sub1 (by omega) (by omega) ?_; refine r_nil (r_fld ?_)
 (refine St.r_store0 s 3 rfl (by simp) rfl ?_; intro h s; try simp only [P2] at s)
 refine r_nil (r_fld (St.r_load0 s 3 rfl rfl (r_nil (St.r_load0 s 5 rfl rfl ?_))))
 (refine Own.idx (by assumption) rfl (by first | omega | (simp; done) | (simp; omega)) ?_)
 refine s.r_loadV 6 rfl (by assumption) ?_; refine r_nil (r_fld ?_)
 refine s.r_loadD 7 (List.mem_append.2 (.inl hct')) rfl ?_; refine Own.lenV (by assumption) ?_; refine r_nil (r_fld ?_)
 refine s.r_lz hT4 6 rfl rfl ?_; refine r_cmpI ?_; refine r_if (fun hlt => ?_) (fun hge => ?_)
 · have hlt : c.nd.its.length < m / 2 := by have := of_decide_eq_true hlt; omega
   have s0 : St h0 Z (t0.all enc ++ ((t14, 0, enc y) :: (t8, 0, enc z8) :: (pb, po, [ptr n 0]) :: E)) h := s.perm (by rw [ht4]; simp only [Nat.add_sub_cancel]; ((apply perm_rg; intro f; simp only [PS]; ac_rfl)))
   rw [← ht1]; refine rebalance_ok hT0 hT4 hm3 hm1 ho t0 (by rw [ht2]; exact fx) (by rw [ht2]; exact h1) (by rw [ht2]; exact hi) (fun q hq => ?_) (by rw [ht2]; exact hsz) gt s0 fun t' h M s => ?_
   · rw [ht2] at hq
     have : q = c.pt := Option.some.inj (hq.symm.trans hcp)
     rw [this, GT.pt_its]; omega
   · obtain ⟨M1, M2, M3, M4, M5⟩ := M
     have s : St h0 Z ((t14, 0, enc y) :: (t8, 0, enc z8) :: (pb, po, [ptr n 0]) :: (t'.all enc ++ E)) h := s.perm (by ((apply perm_rg; intro f; simp only [PS]; ac_rfl)))
     unfold z0n_.j5; refine St.r_loadN0 s 0 rfl (by simp) ?_
     (refine St.r_storeN0 s 1 rfl rfl (by simp) (enc1 _) ?_; intro h s; try simp only [P2] at s)
     refine St.r_loadN0 s 1 rfl (by simp) ?_; rw [ht2] at M2 M3 M5; refine H t' h (M1.trans ht1) M2 M3 M4 (M5.trans ?_) (s.drop 2)
     exact (PT.fix_lt (t := ((its, ts.map GT.pt) : PT It (k + 1))) hcp (by rw [GT.pt_its]; exact hlt)).symm
 · have hge : m / 2 ≤ c.nd.its.length := by have := of_decide_eq_false hge; omega
   unfold z0n_.j5; refine St.r_loadN0 s 0 rfl (by simp) ?_
   (refine St.r_storeN0 s 1 rfl rfl (by simp) (enc1 _) ?_; intro h s; try simp only [P2] at s)
   refine St.r_loadN0 s 1 rfl (by simp) ?_
   refine H t0 h ht1 (by rw [ht2]) ?_ gt (by
    rw [ht2]; exact (PT.fix_ge (t := ((its, ts.map GT.pt) : PT It (k + 1))) hcp (by rw [GT.pt_its]; omega)).symm) ((s.perm (E' := (t14, 0, enc y) :: (t8, 0, enc y) :: ((pb, po, [ptr n 0]) :: (t0.all enc ++ E))) ?_).drop 2)
   · rw [ht2]
     refine fl_inner (by omega) hlm (by rw [List.length_map]; exact hkl) fun q hq => ?_; obtain ⟨j, hj⟩ := List.getElem?_of_mem hq
     have := fx.2.2.2 j q hj
     split at this
     · rename_i e; subst e
       have : q = c.pt := Option.some.inj (hj.symm.trans hcp)
       rw [this]; exact fl_any fc (by rw [GT.pt_its]; exact hge)
     · exact this
   · rw [ht4]; simp only [Nat.add_sub_cancel]; ((apply perm_rg; intro f; simp only [PS]; ac_rfl))
def Taken (lt : It → It → Bool) (mx : Bool) (x : It) (l l' : List It) (y : It) (ok : Bool) : Prop :=
 if mx then ok = true ∧ l = l' ++ [y] else match lget lt l x with
  | none => ok = false ∧ y = emp ∧ l' = l
  | some z => ok = true ∧ y = z ∧ l' = ldel lt l x
def Exact (lt : It → It → Bool) (m : Nat) (mx : Bool) (x : It) {k : Nat} (t t' : PT It k) (y : It) (ok : Bool) : Prop := (t', if ok then some y else none) = t.del lt m mx x
def DelOk (lt : It → It → Bool) (h0 : Heap) (Z : List Rg) (tb m : Nat) (iso : Int) (k : Nat) : Prop := ∀ (t : GT It k) {h : Heap} {E : List Rg} {Q : Value → Heap → Prop} {pb po lo hb dp : Nat} {hv : Value} {hc : List Value} (mx : Bool) (x : It), Hn hv hb hc → dp + k ≤ 4611686018427387903 → t.pt.Fl m lo → Asc lt t.pt.items → t.pt.items.length ≤ 4611686018427387903 → Gd iso t → 1 ≤ t.nd.its.length →
 St h0 Z ((pb, po, [ptr t.id 0]) :: (hb, 0, hc) :: (t.all enc ++ E)) h →
 (∀ (t' : GT It k) hc' h' y ok, t'.id = t.id → Gd iso t' → t'.pt.Fl m (t.nd.its.length - if ok then 1 else 0) → Taken lt mx x t.pt.items t'.pt.items y ok → Exact lt m mx x t.pt t'.pt y ok → Hn hv hb hc' → St h0 Z ((pb, po, [ptr t.id 0]) :: (hb, 0, hc') :: (t'.all enc ++ E)) h' → Q (.tuple #[av y, .bool ok]) h') →
 z0n_.call #[ptr tb 0, ptr pb po, .bool mx, av x, hv, .int .i64 dp] h Q
theorem del_leaf (o : Swo lt) (hO : OrdC Z lf lt) {tb m : Nat} {iso mn : Int} {ctr : Option Addr} (hT0 : (tb, 0, hd0 iso ctr) ∈ Z) (hT4 : (tb, 4, hd4 lf mn m) ∈ Z) (hm1 : m ≤ 1024) : DelOk lt h0 Z tb m iso 0 := by
 intro (d : Nd It) h E Q pb po lo hb dp hv hc mx x hh hdk fl ha hsz g h1 s H; obtain ⟨own, n, is', cnt, its, iv, ib, io, isp, kb, kv', krb, kro, ksp⟩ := d
 have w : Own 2 iv its.length ib io (its.flatMap enc) isp := g.wf.1
 have hiso : is' = iso := g.iso
 have hcn : cnt = its.length := g.cn
 subst hiso; subst hcn
 have hl : its.length ≤ m := fl.2
 have h1 : 1 ≤ its.length := h1
 have ha : Asc lt its := ha
 have hi : ∀ {E h}, St h0 Z E h → cl h tb 0 = some (.int .u64 is') := fun s => by have := s.getZ hT0 (j := 0) (by simp); simpa using this
 have s : St h0 Z ((pb, po, [ptr n 0]) :: (hb, 0, hc) :: (n, 0, [.int .u64 is', .int .i64 its.length, iv, .pointer none]) :: (ib, io, its.flatMap enc ++ isp) :: E) h := s
 show z0n_.call #[ptr tb 0, ptr pb po, .bool mx, av x, hv, .int .i64 dp] h Q
 refine z0n_.body _ _ _ _ _ _ _ _ ?_; unfold z0n_.sh; refine St.r_box (cs := enc x) s fun t9 h s => ?_; refine s.r_alloc fun t12 h s => ?_; refine isoLoad_ok (n := n) (iso := is') (hi s) (by have := s.get (k := 2) (j := 0) rfl (by simp); simpa using this) (fun _ => s.cl0 4 rfl rfl) ?_
 have s : St h0 Z ((t12, 0, enc emp) :: (pb, po, [ptr n 0]) :: (n, 0, [.int .u64 is', .int .i64 its.length, iv, .pointer none]) :: (ib, io, its.flatMap enc ++ isp) :: (hb, 0, hc) :: (t9, 0, enc x) :: E) h := s.perm (by ((apply perm_rg; intro f; simp only [PS]; ac_rfl)))
 have fin : ∀ (i : Nat) (hi : i < its.length) (hc : List Value) (h : Heap), Hn hv hb hc → St h0 Z ((t12, 0, enc emp) :: (pb, po, [ptr n 0]) :: (n, 0, [.int .u64 is', .int .i64 its.length, iv, .pointer none]) :: (ib, io, its.flatMap enc ++ isp) :: (hb, 0, hc) :: (t9, 0, enc x) :: E) h →
   Taken lt mx x its (its.eraseIdx i) its[i] true → Exact lt m mx x (k := 0) its (its.eraseIdx i) its[i] true → z0n_.j1 (ptr tb 0) (.bool mx) hv (.int .i64 dp) (ptr t9 0) (ptr t12 0) (ptr n 0) (.int .i64 i) (.bool true) h Q := by
  intro i hi hc h hh s hT hX; unfold z0n_.j1; refine node_leaf_ok (a := none) (s.cl0 2 rfl rfl) ?_; refine r_if (fun _ => ?_) (fun e => absurd e (by simp))
  refine r_if (fun _ => ?_) (fun e => absurd e (by simp))
  refine r_nil (r_fld (St.r_load0 s 2 rfl rfl ?_))
  (refine Own.idx (by assumption) rfl (by first | omega | (simp; done) | (simp; omega)) ?_)
  (refine s.r_loadF encl 3 rfl (List.getElem?_eq_getElem (by first | omega | (simp; done) | (simp; omega))) ?_)
  refine s.r_alloc fun t17 h s => ?_
  (refine St.r_storeN0 s 0 rfl rfl (by simp) (enc1 _) ?_; intro h s; try simp only [P2] at s)
  refine r_nil (r_fld (St.r_load0 s 3 rfl rfl ?_))
  refine w.slcLo encl (i := i) rfl (by omega) fun dd wd => ?_; refine r_nil (r_fld (St.r_load0 s 3 rfl rfl ?_))
  refine r_add1 (by omega) ?_; refine (w.rdl s 4 rfl).slcLo encl (i := i + 1) rfl (by omega) fun src rs => ?_; refine s.r_cpyF encl 4 (L := its) (M := its.drop (i + 1)) rfl wd (by simp; omega) rs rfl (fun y _ => enc1 y) fun h s => ?_; refine r_nil (r_fld (St.r_load0 s 3 rfl rfl (r_nil (r_fld (St.r_load0 s 3 rfl rfl ?_)))))
  refine Own.lenV (by assumption) ?_; refine r_sub1 (by omega) (by omega) ?_; refine r_nil (r_fld ?_)
  refine s.r_lzE hT4 3 (enc emp) rfl (by simp) rfl ?_
  (refine Own.idx (by assumption) rfl (by first | omega | (simp; done) | (simp; omega)) ?_)
  (refine s.r_storeF encl 4 rfl (by first | omega | (simp; done) | (simp; omega)) (enc1 _) ?_; intro h s; try simp only [P2] at s)
  refine r_nil (r_fld (St.r_load0 s 3 rfl rfl (r_nil (r_fld (St.r_load0 s 3 rfl rfl ?_)))))
  refine Own.lenV (by assumption) ?_; refine r_sub1 (by omega) (by omega) ?_; refine (w.list encl (del_len its emp hi)).slcHi encl rfl (by rw [del_len _ _ hi]; omega) fun iv2 w2 => ?_
  have s := s.del (f := enc) 4 rfl _ (del_erase its emp hi)
  rw [del_erase its emp hi] at w2; refine r_nil (r_fld ?_)
  (refine St.r_store0 s 3 rfl (by simp) (Own.one (by assumption)) ?_; intro h s; try simp only [P2] at s)
  refine r_nil (r_fld (St.r_load0 s 3 rfl rfl ?_))
  refine r_sub1 (by omega) (by omega) ?_; refine r_nil (r_fld ?_)
  (refine St.r_store0 s 3 rfl (by simp) rfl ?_; intro h s; try simp only [P2] at s)
  refine St.r_loadN0 s 0 rfl (by simp) ?_
  (refine St.r_storeN0 s 1 rfl rfl (by simp) (enc1 _) ?_; intro h s; try simp only [P2] at s)
  refine St.r_loadN0 s 1 rfl (by simp) ?_
  have hel : (its.eraseIdx i).length = its.length - 1 := by rw [List.length_eraseIdx, if_pos hi]
  obtain ⟨t', ht1, gt, ht2, ht3, ht4⟩ := mk_leaf (iso := is') (n := n) w2; refine H t' hc h its[i] true ht1 gt ?_ ?_ ?_ hh ((s.perm (E' := (t17, 0, enc its[i]) :: (t12, 0, enc its[i]) :: (t9, 0, enc x) :: ((pb, po, [ptr n 0]) :: (hb, 0, hc) :: (t'.all enc ++ E))) ?_).drop 3)
  · rw [ht2]; exact fl_leaf (Nat.le_of_eq hel.symm) (by omega)
  · rw [ht2]; exact hT
  · rw [ht2]; exact hX
  · rw [ht4]
    rw [hel]
    ((apply perm_rg; intro f; simp only [PS]; ac_rfl))
 refine r_if (fun hmx => ?_) (fun hmx => ?_)
 · subst hmx
   refine r_nil (r_fld (St.r_load0 s 2 rfl rfl ?_))
   refine Own.lenV (by assumption) ?_; refine r_sub1 (by omega) (by omega) ?_
   have hlast : its.eraseIdx (its.length - 1) = its.dropLast ∧ its[its.length - 1]'(by omega) = its.getLast (List.length_pos_iff.1 (by omega)) := by
    obtain ⟨R, z, e⟩ := last_of h1; subst e
    have := eraseIdx_at (P := R) (S := []) (y := z) rfl
    simp only [List.length_append, List.length_singleton, Nat.add_sub_cancel, this]
    simp
   refine fin (its.length - 1) (by omega) hc h hh s ?_ ?_
   · show _ ∧ _
     refine ⟨rfl, ?_⟩
     rw [hlast.1, hlast.2, List.dropLast_concat_getLast]
   · show (its.eraseIdx (its.length - 1), some _) = ((its.dropLast : List It), its.getLast?)
     rw [hlast.1, hlast.2, List.getLast?_eq_some_getLast]
 · subst hmx
   refine St.r_loadN0 s 5 rfl (by simp) ?_; refine find_ok o hO hh (by omega) (s.front 4 rfl) (s.clz hT4 2 rfl rfl) (c0 := .int .u64 is') (c1 := .int .i64 its.length) (iv := iv) (a := none) (List.mem_append_left _ (by simp)) (w.rdl s 3 rfl) ha (by omega) h1 fun hc h hh s => ?_
   have s : St h0 Z ((t12, 0, enc emp) :: (pb, po, [ptr n 0]) :: (n, 0, [.int .u64 is', .int .i64 its.length, iv, .pointer none]) :: (ib, io, its.flatMap enc ++ isp) :: (hb, 0, hc) :: (t9, 0, enc x) :: E) h := s.perm (by ((apply perm_rg; intro f; simp only [PS]; ac_rfl)))
   refine r_ext rfl (r_ext rfl ?_)
   cases hg : lget lt its x with
   | some z =>
    obtain ⟨hp, hz, h3, h4⟩ := lget_some hg
    have e1 : ldel lt its x = its.eraseIdx (pos lt its x) := by rw [ldel_some hg, List.eraseIdx_eq_take_drop_succ]
    refine fin (pos lt its x) hp hc h hh s ?_ ?_
    · show (match lget lt its x with | none => _ | some z => _ : Prop)
      rw [hg]; exact ⟨rfl, hz, e1.symm⟩
    · show (its.eraseIdx (pos lt its x), some its[pos lt its x]) = (ldel lt its x, lget lt its x)
      rw [e1, hg, hz]
   | none =>
    unfold z0n_.j1; refine node_leaf_ok (a := none) (s.cl0 2 rfl rfl) ?_; refine r_if (fun _ => ?_) (fun e => absurd e (by simp))
    refine r_if (fun e => absurd e (by simp)) (fun _ => ?_)
    unfold z0n_.j6; refine r_nil (r_fld ?_)
    refine s.r_lzE hT4 3 (enc emp) rfl (by simp) rfl ?_
    (refine St.r_storeN0 s 0 rfl rfl (by simp) (enc1 _) ?_; intro h s; try simp only [P2] at s)
    refine St.r_loadN0 s 0 rfl (by simp) ?_; refine H _ hc h emp false rfl g (fl_any fl (Nat.le_refl its.length)) ?_ ?_ hh ((s.perm (E' := (t12, 0, enc emp) :: (t9, 0, enc x) :: (pb, po, [ptr n 0]) :: (hb, 0, hc) :: (n, 0, [.int .u64 is', .int .i64 its.length, iv, .pointer none]) :: (ib, io, its.flatMap enc ++ isp) :: E) (by ((apply perm_rg; intro f; simp only [PS]; ac_rfl)))).drop 2)
    · show (match lget lt its x with | none => _ | some z => _ : Prop)
      rw [hg]; exact ⟨rfl, rfl, rfl⟩
    · show (its, none) = (ldel lt its x, lget lt its x)
      rw [hg, ldel_none hg]
theorem delOk_succ (o : Swo lt) (hO : OrdC Z lf lt) {tb m : Nat} {iso mn : Int} {ctr : Option Addr} (hT0 : (tb, 0, hd0 iso ctr) ∈ Z) (hT4 : (tb, 4, hd4 lf mn m) ∈ Z) (hmn : mn = ((m / 2 : Nat) : Int)) (hm3 : 3 ≤ m) (hm1 : m ≤ 1024) (ho : m % 2 = 1) {k : Nat} (ih : DelOk lt h0 Z tb m iso k) : DelOk lt h0 Z tb m iso (k + 1) := by
 intro t h E Q pb po lo hb dp hv hc0 mx x hh hdk fl ha hsz g h1 s H; obtain ⟨d, ts⟩ := t; obtain ⟨own, n, is', cnt, its, iv, ib, io, isp, kb, kv', krb, kro, ksp⟩ := d
 have w : Own 2 iv its.length ib io (its.flatMap enc) isp := g.own
 have wK : Own 1 kv' ((ts.map GT.id).map pp).length krb kro (((ts.map GT.id).map pp).flatMap fv) ksp := g.ownK
 have hiso : is' = iso := g.iso
 have hcn : cnt = (PT.items (h := k + 1) (its, ts.map GT.pt)).length := g.cn.1
 subst hiso
 have hl : its.length ≤ m := fl.2.1
 have h1 : 1 ≤ its.length := h1
 have hkl : ts.length = its.length + 1 := g.wf.2.2.1
 have hKl : ((ts.map GT.id).map pp).length = ts.length := by rw [List.length_map, List.length_map]
 have fl : PT.Fl m lo (h := k + 1) (its, ts.map GT.pt) := fl
 have ha : Asc lt (PT.items (h := k + 1) (its, ts.map GT.pt)) := ha
 have ha1 : Asc lt its := asc_of_sub ha (PT.its_sub1 ((its, ts.map GT.pt) : PT It (k + 1)))
 have hsz : (PT.items (h := k + 1) (its, ts.map GT.pt)).length ≤ 4611686018427387903 := hsz
 have hi : ∀ {E h}, St h0 Z E h → cl h tb 0 = some (.int .u64 is') := fun s => by have := s.getZ hT0 (j := 0) (by simp); simpa using this
 have s : St h0 Z ((pb, po, [ptr n 0]) :: (hb, 0, hc0) :: (((n, 0, [.int .u64 is', .int .i64 cnt, iv, ptr kb 0]) :: (ib, io, its.flatMap enc ++ isp) :: (kb, 0, [kv']) :: (krb, kro, ((ts.map GT.id).map pp).flatMap fv ++ ksp) :: ts.flatMap (GT.all enc)) ++ E)) h := by
  have e := all_eq (k := k + 1) ((⟨own, n, is', cnt, its, iv, ib, io, isp, kb, kv', krb, kro, ksp⟩ : Nd It), ts)
  rw [e] at s; exact s
 subst hcn
 have s : St h0 Z ((pb, po, [ptr n 0]) :: (hb, 0, hc0) :: (n, 0, [.int .u64 is', .int .i64 (PT.items (h := k + 1) (its, ts.map GT.pt)).length, iv, ptr kb 0]) :: (ib, io, its.flatMap enc ++ isp) :: (kb, 0, [kv']) :: (krb, kro, ((ts.map GT.id).map pp).flatMap fv ++ ksp) :: (ts.flatMap (GT.all enc) ++ E)) h := s
 have hkid : ∀ {i : Nat} {c : GT It k}, ts[i]? = some c → PT.Fl m (m / 2) c.pt ∧ Gd is' c ∧ 1 ≤ c.nd.its.length ∧ c.pt.items.length ≤ 4611686018427387903 ∧ Asc lt c.pt.items := fun {i c} hc => by
  have hcm := List.mem_of_getElem? hc
  have fc : PT.Fl m (m / 2) c.pt := fl.2.2.2 _ (List.mem_map.2 ⟨c, hcm, rfl⟩)
  refine ⟨fc, g.kid hcm, by have := (fl_its fc).1; omega, ?_, ?_⟩
  rotate_left
  · have hil := (List.getElem?_eq_some_iff.1 hc).1
    obtain ⟨q, hq, _, e⟩ := PT.around fl (i := i) (by show i ≤ its.length; omega)
    have hq : (ts.map GT.pt)[i]? = some q := hq
    rw [List.getElem?_map, hc] at hq
    have := Option.some.inj hq
    subst this
    have ha2 := ha
    rw [e] at ha2; exact (asc_app (asc_app ha2).2.1).1
  have e1 : (inter its ((ts.map GT.pt).map PT.items)).length = _ := inter_length _ _
  have e2 : (inter its ((ts.map GT.pt).map PT.items)).length ≤ 4611686018427387903 := hsz
  have e3 : c.pt.items.length ≤ (((ts.map GT.pt).map PT.items).map List.length).sum := mem_le_sum (by
   rw [List.map_map, List.map_map]; exact List.mem_map.2 ⟨c, hcm, rfl⟩)
  omega
 show z0n_.call #[ptr tb 0, ptr pb po, .bool mx, av x, hv, .int .i64 dp] h Q
 refine z0n_.body _ _ _ _ _ _ _ _ ?_; unfold z0n_.sh; refine St.r_box (cs := enc x) s fun t9 h s => ?_; refine s.r_alloc fun t12 h s => ?_; refine isoLoad_ok (n := n) (iso := is') (hi s) (by have := s.get (k := 2) (j := 0) rfl (by simp); simpa using this) (fun _ => s.cl0 4 rfl rfl) ?_
 -- behind the call below the kid
 have fin : ∀ {i : Nat} {c c' : GT It k} {y : It} {ok : Bool} {its' : List It} {t14 : Nat} {hc1 : List Value} {h : Heap}, ts[i]? = some c → c'.id = c.id → Gd is' c' → c'.pt.Fl m (c.nd.its.length - if ok then 1 else 0) → its'.length = its.length → Hn hv hb hc1 →
   Taken lt mx x (PT.items (h := k + 1) (its, ts.map GT.pt)) (PT.items (h := k + 1) (its', (ts.map GT.pt).set i c'.pt)) y ok →
   Exact lt m mx x (k := k + 1) (its, ts.map GT.pt) (if ok then PT.fix m ((its', (ts.map GT.pt).set i c'.pt) : PT It (k + 1)) i else (its', (ts.map GT.pt).set i c'.pt)) y ok →
   St h0 Z ((t14, 0, enc y) :: (t12, 0, enc emp) :: (pb, po, [ptr n 0]) :: (n, 0, [.int .u64 is', .int .i64 (PT.items (h := k + 1) (its, ts.map GT.pt)).length, iv, ptr kb 0]) :: (ib, io, its'.flatMap enc ++ isp) :: (kb, 0, [kv']) :: (krb, kro, (((ts.set i c').map GT.id).map pp).flatMap fv ++ ksp) :: ((ts.set i c').flatMap (GT.all enc) ++ ((hb, 0, hc1) :: (t9, 0, enc x) :: E))) h →
   z0n_.j3 (ptr tb 0) (ptr t12 0) (ptr n 0) (.int .i64 i) (ptr t14 0) (.bool ok) h Q := by
  intro i c c' y ok its' t14 hc1' h hc hid gc' fc' hil hh hT hX s; obtain ⟨fc, gc, hc1, _, _⟩ := hkid hc
  have hils : i < ts.length := (List.getElem?_eq_some_iff.1 hc).1
  have w' : Own 2 iv its'.length ib io (its'.flatMap enc) isp := w.list encl hil
  have wK' : Own 1 kv' (((ts.set i c').map GT.id).map pp).length krb kro ((((ts.set i c').map GT.id).map pp).flatMap fv) ksp := by rw [set_ids hc hid]; exact wK
  have gk' : ∀ q ∈ ts.set i c', Gd is' q := fun q hq => by
   rcases List.mem_or_eq_of_mem_set hq with e | e
   · exact g.kid e
   · rw [e]; exact gc'
  have ept : (ts.set i c').map GT.pt = (ts.map GT.pt).set i c'.pt := List.map_set ..
  rw [← ept] at hT hX
  have hcl := (fl_its fc).1
  unfold z0n_.j3; refine r_not ?_; refine r_if (fun hn => ?_) (fun hn => ?_)
  · have hn : ok = false := by simpa using hn
    subst hn; refine r_nil (r_fld ?_)
    refine s.r_lzE hT4 3 (enc emp) rfl (by simp) rfl ?_
    (refine St.r_storeN0 s 1 rfl rfl (by simp) (enc1 _) ?_; intro h s; try simp only [P2] at s)
    refine St.r_loadN0 s 1 rfl (by simp) ?_
    cases mx with
    | true => exact absurd hT.1 (by decide)
    | false =>
     have hT0' : (match lget lt (PT.items (h := k + 1) (its, ts.map GT.pt)) x with | none => _ | some z => _ : Prop) := hT
     cases hg : lget lt (PT.items (h := k + 1) (its, ts.map GT.pt)) x with
     | some z => rw [hg] at hT0'; exact absurd hT0'.1 (by decide)
     | none =>
      rw [hg] at hT0'; obtain ⟨t', ht1, gt, ht2, ht3, ht4⟩ := mk_inner (n := n) (kb := kb) (iso := is') w' wK' (by rw [List.length_set]; omega) gk'
      have e4 : (PT.items (h := k + 1) (its', (ts.set i c').map GT.pt)).length = (PT.items (h := k + 1) (its, ts.map GT.pt)).length := congrArg List.length hT0'.2.2
      refine H t' hc1' h emp false ht1 gt ?_ (by rw [ht2]; show (match lget lt (PT.items (h := k + 1) (its, ts.map GT.pt)) x with | none => _ | some z => _ : Prop); rw [hg]; exact ⟨rfl, rfl, hT0'.2.2⟩) (by rw [ht2]; exact hX) hh
       ((s.perm (E' := (t14, 0, enc y) :: (t12, 0, enc emp) :: (t9, 0, enc x) :: ((pb, po, [ptr n 0]) :: (hb, 0, hc1') :: (t'.all enc ++ E))) (by rw [ht4, e4]; ((apply perm_rg; intro f; simp only [PS]; ac_rfl)))).drop 3)
      rw [ht2]; refine fl_inner (by rw [hil]; exact Nat.le_refl _) (by omega) (by rw [List.length_map, List.length_set]; omega) fun q hq => ?_; rw [ept] at hq
      rcases List.mem_or_eq_of_mem_set hq with e | e
      · exact fl.2.2.2 q e
      · rw [e]; exact fc'.mono (by simp; omega)
  · have hn : ok = true := by simpa using hn
    subst hn
    have hcnt : (PT.items (h := k + 1) (its, ts.map GT.pt)).length = (PT.items (h := k + 1) (its', (ts.set i c').map GT.pt)).length + 1 := by
     cases mx with
     | true => have := congrArg List.length hT.2; rw [List.length_append] at this; exact this
     | false =>
      have hT0' : (match lget lt (PT.items (h := k + 1) (its, ts.map GT.pt)) x with | none => _ | some z => _ : Prop) := hT
      have hd := ldel_len (lt := lt) (PT.items (h := k + 1) (its, ts.map GT.pt)) x
      cases hg : lget lt (PT.items (h := k + 1) (its, ts.map GT.pt)) x with
      | none => rw [hg] at hT0'; exact absurd hT0'.1 (by decide)
      | some z =>
       rw [hg] at hT0' hd; rw [hT0'.2.2]
       simpa using hd.symm
    rw [hcnt] at s; refine del_after (i := i) hT0 hT4 hmn hm3 hm1 ho w' wK' gk' (lo := lo) (by rw [ept]; exact fx_set fl (fc'.mono (by simp; omega)) its' hil) (by omega) (by omega) (by omega) s fun t' h' e1 e2 e3 g' e5 s => ?_; refine H t' hc1' h' y true e1 g' (by rw [hil] at e3; exact e3) ?_ ?_ hh ((s.perm (E' := (t9, 0, enc x) :: ((pb, po, [ptr n 0]) :: (hb, 0, hc1') :: (t'.all enc ++ E))) (by ((apply perm_rg; intro f; simp only [PS]; ac_rfl)))).drop 1)
    · rw [e2]; exact hT
    · rw [e5]; exact hX
 have s : St h0 Z ((t12, 0, enc emp) :: (pb, po, [ptr n 0]) :: (n, 0, [.int .u64 is', .int .i64 (PT.items (h := k + 1) (its, ts.map GT.pt)).length, iv, ptr kb 0]) :: (ib, io, its.flatMap enc ++ isp) :: (kb, 0, [kv']) :: (krb, kro, ((ts.map GT.id).map pp).flatMap fv ++ ksp) :: (ts.flatMap (GT.all enc) ++ ((hb, 0, hc0) :: (t9, 0, enc x) :: E))) h := s.perm (by ((apply perm_rg; intro f; simp only [PS]; ac_rfl)))
 -- a call that takes out the last item below a kid: without a hint
 have last : ∀ {i : Nat} {c : GT It k} {R : List Rg} {h : Heap} {Q : Value → Heap → Prop}, ts[i]? = some c → St h0 Z (R ++ ((krb, kro, ((ts.map GT.id).map pp).flatMap fv ++ ksp) :: (ts.flatMap (GT.all enc) ++ ((hb, 0, hc0) :: (t9, 0, enc x) :: E)))) h →
   (∀ (c' : GT It k) h' y, c'.id = c.id → Gd is' c' → c'.pt.Fl m (c.nd.its.length - 1) → c.pt.items = c'.pt.items ++ [y] → (c'.pt, some y) = c.pt.del lt m true emp → St h0 Z (R ++ ((krb, kro, (((ts.set i c').map GT.id).map pp).flatMap fv ++ ksp) :: ((ts.set i c').flatMap (GT.all enc) ++ ((hb, 0, hc0) :: (t9, 0, enc x) :: E)))) h' → Q (.tuple #[av y, .bool true]) h') →
   z0n_.call #[ptr tb 0, ptr krb (kro + i * 1), .bool true, av emp, .pointer none, .int .i64 0] h Q := fun {i} {c} {R} {h} {Q} hc s K => by
  obtain ⟨fc, gc, hc1, hcsz, hac⟩ := hkid hc; rw [← fpv] at s; obtain ⟨E', sk, back⟩ := lend_kidH (r := (0, 0, [])) (A := R) (E := (hb, 0, hc0) :: (t9, 0, enc x) :: E) (krb := krb) (kro := kro) (ksp := ksp) (kb := kb) (kv := kv') hc (s.empty 0 0); refine ih c (dp := 0) true emp Hn.none (by omega) fc hac hcsz gc hc1 sk fun c' hc' h' y ok hid gc' fc' hT hX hh s => ?_
  have s := back c' _ h' hid s
  rw [fpv] at s; obtain ⟨rfl, hT2⟩ : ok = true ∧ c.pt.items = c'.pt.items ++ [y] := hT; exact K c' h' y hid gc' fc' hT2 hX (s.tail rfl)
 refine r_if (fun hmx => ?_) (fun hmx => ?_)
 · subst hmx
   refine r_nil (r_fld (St.r_load0 s 2 rfl rfl ?_))
   refine Own.lenV (by assumption) ?_; refine r_sub1 (by omega) (by omega) ?_; unfold z0n_.j1; refine node_leaf_ok (a := some ⟨kb, 0, none⟩) (s.cl0 2 rfl rfl) ?_; refine r_if (fun e => absurd e (by simp)) (fun _ => ?_)
   unfold z0n_.j2; refine s.r_alloc fun t14 h s => ?_; refine r_if (fun _ => ?_) (fun e => absurd e (by simp))
   refine r_if (fun _ => ?_) (fun e => absurd e (by simp))
   refine r_add (z := ((its.length : Nat) : Int)) (by rw [i64w (by omega) (by omega)]; omega) ?_; obtain ⟨cp, hcp, _, hdel⟩ := PT.del_last fl; obtain ⟨c, hc⟩ : ∃ c, ts[its.length]? = some c := ⟨ts[its.length]'(by omega), List.getElem?_eq_getElem (by omega)⟩
   have : cp = c.pt := by
    have hcp : (ts.map GT.pt)[its.length]? = some cp := hcp
    rw [List.getElem?_map, hc] at hcp; exact (Option.some.inj hcp).symm
   subst this; refine r_nil (r_fld (St.r_load0 s 3 rfl rfl (r_nil (St.r_load0 s 5 rfl rfl ?_))))
   (refine Own.idx (by assumption) rfl (by first | omega | (simp; done) | (simp; omega)) ?_)
   refine r_nil (r_fld ?_)
   refine s.r_lzE hT4 3 (enc emp) rfl (by simp) rfl ?_; refine last (R := (t14, 0, enc emp) :: (t12, 0, enc emp) :: (pb, po, [ptr n 0]) :: (n, 0, [.int .u64 is', .int .i64 (PT.items (h := k + 1) (its, ts.map GT.pt)).length, iv, ptr kb 0]) :: (ib, io, its.flatMap enc ++ isp) :: (kb, 0, [kv']) :: []) hc s fun c' h' y hid gc' fc' hT2 hX s => ?_
   have s : St h0 Z ((t14, 0, enc emp) :: (t12, 0, enc emp) :: (pb, po, [ptr n 0]) :: (n, 0, [.int .u64 is', .int .i64 (PT.items (h := k + 1) (its, ts.map GT.pt)).length, iv, ptr kb 0]) :: (ib, io, its.flatMap enc ++ isp) :: (kb, 0, [kv']) :: (krb, kro, (((ts.set its.length c').map GT.id).map pp).flatMap fv ++ ksp) :: ((ts.set its.length c').flatMap (GT.all enc) ++ ((hb, 0, hc0) :: (t9, 0, enc x) :: E))) h' := s
   refine r_ext rfl (r_ext rfl ?_)
   (refine St.r_storeN0 s 0 rfl rfl (by simp) (enc1 _) ?_; intro h s; try simp only [P2] at s)
   refine fin (ok := true) hc hid gc' fc' rfl hh ⟨rfl, ?_⟩ ?_ s
   · exact hdel c'.pt y hT2
   · unfold Exact
     rw [PT.del_true (t := ((its, ts.map GT.pt) : PT It (k + 1))) (x' := emp) hcp, ← hX]
     rfl
 · subst hmx
   refine St.r_loadN0 (s.perm (E' := (t9, 0, enc x) :: (t12, 0, enc emp) :: (pb, po, [ptr n 0]) :: (n, 0, [.int .u64 is', .int .i64 (PT.items (h := k + 1) (its, ts.map GT.pt)).length, iv, ptr kb 0]) :: (ib, io, its.flatMap enc ++ isp) :: (kb, 0, [kv']) :: (krb, kro, ((ts.map GT.id).map pp).flatMap fv ++ ksp) :: (ts.flatMap (GT.all enc) ++ ((hb, 0, hc0) :: E))) (by ((apply perm_rg; intro f; simp only [PS]; ac_rfl)))) 0 rfl (by simp) ?_
   have s : St h0 Z ((hb, 0, hc0) :: (n, 0, [.int .u64 is', .int .i64 (PT.items (h := k + 1) (its, ts.map GT.pt)).length, iv, ptr kb 0]) :: (ib, io, its.flatMap enc ++ isp) :: (kb, 0, [kv']) :: (t12, 0, enc emp) :: (pb, po, [ptr n 0]) :: (krb, kro, ((ts.map GT.id).map pp).flatMap fv ++ ksp) :: (ts.flatMap (GT.all enc) ++ ((t9, 0, enc x) :: E))) h := s.perm (by ((apply perm_rg; intro f; simp only [PS]; ac_rfl)))
   refine find_ok o hO hh (by omega) s (s.clz hT4 2 rfl rfl) (c0 := .int .u64 is') (c1 := .int .i64 (PT.items (h := k + 1) (its, ts.map GT.pt)).length) (iv := iv) (a := some ⟨kb, 0, none⟩) (List.mem_append_left _ (by simp)) (w.rdl s 2 rfl) ha1 (by omega) h1 fun hc1 h hh s => ?_; clear last
   have s : St h0 Z ((t12, 0, enc emp) :: (pb, po, [ptr n 0]) :: (n, 0, [.int .u64 is', .int .i64 (PT.items (h := k + 1) (its, ts.map GT.pt)).length, iv, ptr kb 0]) :: (ib, io, its.flatMap enc ++ isp) :: (kb, 0, [kv']) :: (krb, kro, ((ts.map GT.id).map pp).flatMap fv ++ ksp) :: (ts.flatMap (GT.all enc) ++ ((hb, 0, hc1) :: (t9, 0, enc x) :: E))) h := s.perm (by ((apply perm_rg; intro f; simp only [PS]; ac_rfl)))
   have last : ∀ {i : Nat} {c : GT It k} {R : List Rg} {h : Heap} {Q : Value → Heap → Prop}, ts[i]? = some c → St h0 Z (R ++ ((krb, kro, ((ts.map GT.id).map pp).flatMap fv ++ ksp) :: (ts.flatMap (GT.all enc) ++ ((hb, 0, hc1) :: (t9, 0, enc x) :: E)))) h →
     (∀ (c' : GT It k) h' y, c'.id = c.id → Gd is' c' → c'.pt.Fl m (c.nd.its.length - 1) → c.pt.items = c'.pt.items ++ [y] → (c'.pt, some y) = c.pt.del lt m true emp → St h0 Z (R ++ ((krb, kro, (((ts.set i c').map GT.id).map pp).flatMap fv ++ ksp) :: ((ts.set i c').flatMap (GT.all enc) ++ ((hb, 0, hc1) :: (t9, 0, enc x) :: E)))) h' → Q (.tuple #[av y, .bool true]) h') →
     z0n_.call #[ptr tb 0, ptr krb (kro + i * 1), .bool true, av emp, .pointer none, .int .i64 0] h Q := fun {i} {c} {R} {h} {Q} hc s K => by
    obtain ⟨fc, gc, hc2, hcsz, hac⟩ := hkid hc; rw [← fpv] at s; obtain ⟨E', sk, back⟩ := lend_kidH (r := (0, 0, [])) (A := R) (E := (hb, 0, hc1) :: (t9, 0, enc x) :: E) (krb := krb) (kro := kro) (ksp := ksp) (kb := kb) (kv := kv') hc (s.empty 0 0); refine ih c (dp := 0) true emp Hn.none (by omega) fc hac hcsz gc hc2 sk fun c' hc' h' y ok hid gc' fc' hT hX hh s => ?_
    have s := back c' _ h' hid s
    rw [fpv] at s; obtain ⟨rfl, hT2⟩ : ok = true ∧ c.pt.items = c'.pt.items ++ [y] := hT; exact K c' h' y hid gc' fc' hT2 hX (s.tail rfl)
   refine r_ext rfl (r_ext rfl ?_)
   unfold z0n_.j1; refine node_leaf_ok (a := some ⟨kb, 0, none⟩) (s.cl0 2 rfl rfl) ?_; refine r_if (fun e => absurd e (by simp)) (fun _ => ?_)
   unfold z0n_.j2; refine s.r_alloc fun t14 h s => ?_
   have hple := pos_le (lt := lt) its x
   have s : St h0 Z ((t14, 0, enc emp) :: (t12, 0, enc emp) :: (pb, po, [ptr n 0]) :: (n, 0, [.int .u64 is', .int .i64 (PT.items (h := k + 1) (its, ts.map GT.pt)).length, iv, ptr kb 0]) :: (ib, io, its.flatMap enc ++ isp) :: (kb, 0, [kv']) :: (krb, kro, ((ts.map GT.id).map pp).flatMap fv ++ ksp) :: (ts.flatMap (GT.all enc) ++ ((hb, 0, hc1) :: (t9, 0, enc x) :: E))) h := s
   obtain ⟨c, hc⟩ : ∃ c, ts[pos lt its x]? = some c := ⟨ts[pos lt its x]'(by omega), List.getElem?_eq_getElem (by omega)⟩
   have hcp : (ts.map GT.pt)[pos lt its x]? = some c.pt := by rw [List.getElem?_map, hc]; rfl
   obtain ⟨fc, gc, hc2, hcsz, hac⟩ := hkid hc
   cases hg : lget lt its x with
   | some z =>
    obtain ⟨hp, hz, h3, h4⟩ := lget_some hg; obtain ⟨cp, hcp2, _, _, hgt, hdel⟩ := PT.del_own o fl ha hg
    have hgt : lget lt (PT.items (h := k + 1) (its, ts.map GT.pt)) x = some z := hgt
    have : cp = c.pt := Option.some.inj (hcp2.symm.trans hcp)
    subst this
    have hpz : its[pos lt its x]? = some z := by rw [List.getElem?_eq_getElem hp, hz]
    have hT2 : ∀ (c' : GT It k) y, c.pt.items = c'.pt.items ++ [y] → Taken lt false x (PT.items (h := k + 1) (its, ts.map GT.pt)) (PT.items (h := k + 1) (its.set (pos lt its x) y, (ts.map GT.pt).set (pos lt its x) c'.pt)) z true := fun c' y e => by
     show (match lget lt (PT.items (h := k + 1) (its, ts.map GT.pt)) x with | none => _ | some z => _ : Prop)
     rw [hgt]; exact ⟨rfl, rfl, hdel c'.pt y e⟩
    have hX2 : ∀ (c' : GT It k) y, (c'.pt, some y) = c.pt.del lt m true emp → Exact lt m false x (k := k + 1) (its, ts.map GT.pt) (PT.fix m ((its.set (pos lt its x) y, (ts.map GT.pt).set (pos lt its x) c'.pt) : PT It (k + 1)) (pos lt its x)) z true := fun c' y e => by
     unfold Exact; rw [PT.del_own' (t := ((its, ts.map GT.pt) : PT It (k + 1))) (x' := emp) hg hcp, ← e]
     rfl
    refine r_if (fun _ => ?_) (fun e => absurd e (by simp))
    refine r_if (fun e => absurd e (by simp)) (fun _ => ?_)
    refine r_nil (r_fld (St.r_load0 s 3 rfl rfl ?_))
    (refine Own.idx (by assumption) rfl (by first | omega | (simp; done) | (simp; omega)) ?_)
    refine s.r_loadF encl 4 rfl (by assumption) ?_
    (refine St.r_storeN0 s 0 rfl rfl (by simp) (enc1 _) ?_; intro h s; try simp only [P2] at s)
    refine r_nil (r_fld (St.r_load0 s 3 rfl rfl (r_nil (St.r_load0 s 5 rfl rfl ?_))))
    (refine Own.idx (by assumption) rfl (by first | omega | (simp; done) | (simp; omega)) ?_)
    refine r_nil (r_fld ?_)
    refine s.r_lzE hT4 3 (enc emp) rfl (by simp) rfl ?_
    constructor
    · refine last (R := (t14, 0, enc z) :: (t12, 0, enc emp) :: (pb, po, [ptr n 0]) :: (n, 0, [.int .u64 is', .int .i64 (PT.items (h := k + 1) (its, ts.map GT.pt)).length, iv, ptr kb 0]) :: (ib, io, its.flatMap enc ++ isp) :: (kb, 0, [kv']) :: []) hc s fun c' h' y hid gc' fc' hT3 hX s => ?_
      have s : St h0 Z ((t14, 0, enc z) :: (t12, 0, enc emp) :: (pb, po, [ptr n 0]) :: (n, 0, [.int .u64 is', .int .i64 (PT.items (h := k + 1) (its, ts.map GT.pt)).length, iv, ptr kb 0]) :: (ib, io, its.flatMap enc ++ isp) :: (kb, 0, [kv']) :: (krb, kro, (((ts.set (pos lt its x) c').map GT.id).map pp).flatMap fv ++ ksp) :: ((ts.set (pos lt its x) c').flatMap (GT.all enc) ++ ((hb, 0, hc1) :: (t9, 0, enc x) :: E))) h' := s
      refine r_ext rfl (r_ext rfl ?_)
      refine s.r_alloc fun t16 h s => ?_
      (refine St.r_storeN0 s 0 rfl rfl (by simp) (enc1 _) ?_; intro h s; try simp only [P2] at s)
      refine r_nil (r_fld (St.r_load0 s 4 rfl rfl ?_))
      refine St.r_loadN0 s 0 rfl (by simp) ?_
      (refine Own.idx (by assumption) rfl (by first | omega | (simp; done) | (simp; omega)) ?_)
      (refine s.r_storeF encl 5 rfl (by first | omega | (simp; done) | (simp; omega)) (enc1 _) ?_; intro h s; try simp only [P2] at s)
      exact fin (ok := true) hc hid gc' fc' (List.length_set ..) hh (hT2 c' y hT3) (hX2 c' y hX) (s.drop 1)
    · refine s.r_alloc fun t16 h s => ?_
      refine ⟨by exact St.r_still0 s 4 rfl rfl, by exact St.r_still0 s 6 rfl rfl, ⟨_, _, rfl, rfl, s.rdZ hT4 (j := 3) (n := 2) (by simp)⟩, ?_⟩
      refine last (R := (t16, 0, enc emp) :: (t14, 0, enc z) :: (t12, 0, enc emp) :: (pb, po, [ptr n 0]) :: (n, 0, [.int .u64 is', .int .i64 (PT.items (h := k + 1) (its, ts.map GT.pt)).length, iv, ptr kb 0]) :: (ib, io, its.flatMap enc ++ isp) :: (kb, 0, [kv']) :: []) hc s fun c' h' y hid gc' fc' hT3 hX s => ?_
      have s : St h0 Z ((t16, 0, enc emp) :: (t14, 0, enc z) :: (t12, 0, enc emp) :: (pb, po, [ptr n 0]) :: (n, 0, [.int .u64 is', .int .i64 (PT.items (h := k + 1) (its, ts.map GT.pt)).length, iv, ptr kb 0]) :: (ib, io, its.flatMap enc ++ isp) :: (kb, 0, [kv']) :: (krb, kro, (((ts.set (pos lt its x) c').map GT.id).map pp).flatMap fv ++ ksp) :: ((ts.set (pos lt its x) c').flatMap (GT.all enc) ++ ((hb, 0, hc1) :: (t9, 0, enc x) :: E))) h' := s
      refine r_ext rfl (r_ext rfl ?_)
      (refine St.r_storeN0 s 0 rfl rfl (by simp) (enc1 _) ?_; intro h s; try simp only [P2] at s)
      refine r_nil (r_fld (St.r_load0 s 4 rfl rfl ?_))
      refine St.r_loadN0 s 0 rfl (by simp) ?_
      (refine Own.idx (by assumption) rfl (by first | omega | (simp; done) | (simp; omega)) ?_)
      (refine s.r_storeF encl 5 rfl (by first | omega | (simp; done) | (simp; omega)) (enc1 _) ?_; intro h s; try simp only [P2] at s)
      exact fin (ok := true) hc hid gc' fc' (List.length_set ..) hh (hT2 c' y hT3) (hX2 c' y hX) (s.drop 1)
   | none =>
    obtain ⟨cp, hcp2, _, _, hgt, hdel⟩ := PT.del_kid o fl ha hg
    have hgt : lget lt (PT.items (h := k + 1) (its, ts.map GT.pt)) x = lget lt cp.items x := hgt
    have : cp = c.pt := Option.some.inj (hcp2.symm.trans hcp)
    subst this; refine r_if (fun e => absurd e (by simp)) (fun _ => ?_)
    refine r_nil (r_fld (St.r_load0 s 3 rfl rfl (r_nil (St.r_load0 s 5 rfl rfl ?_))))
    refine wK.idx (n := pos lt its x) rfl (by omega) ?_; refine St.r_loadN0 (s.perm (E' := (t9, 0, enc x) :: (t14, 0, enc emp) :: (t12, 0, enc emp) :: (pb, po, [ptr n 0]) :: (n, 0, [.int .u64 is', .int .i64 (PT.items (h := k + 1) (its, ts.map GT.pt)).length, iv, ptr kb 0]) :: (ib, io, its.flatMap enc ++ isp) :: (kb, 0, [kv']) :: (krb, kro, ((ts.map GT.id).map pp).flatMap fv ++ ksp) :: (ts.flatMap (GT.all enc) ++ ((hb, 0, hc1) :: E))) (by ((apply perm_rg; intro f; simp only [PS]; ac_rfl)))) 0 rfl (by simp) ?_; refine r_add1 (by omega) ?_; rw [← fpv] at s; obtain ⟨E', sk, back⟩ := lend_kidH (r := (hb, 0, hc1)) (A := (t14, 0, enc emp) :: (t12, 0, enc emp) :: (pb, po, [ptr n 0]) :: (n, 0, [.int .u64 is', .int .i64 (PT.items (h := k + 1) (its, ts.map GT.pt)).length, iv, ptr kb 0]) :: (ib, io, its.flatMap enc ++ isp) :: (kb, 0, [kv']) :: []) (E := (t9, 0, enc x) :: E) (krb := krb) (kro := kro) (ksp := ksp) (kb := kb) (kv := kv') hc (s.perm (by ((apply perm_rg; intro f; simp only [PS]; ac_rfl)))); refine ih c (dp := dp + 1) false x hh (by omega) fc hac hcsz gc hc2 sk fun c' hc3 h' y ok hid gc' fc' hT hX hh s => ?_
    have s := back c' _ h' hid s
    have s : St h0 Z ((t14, 0, enc emp) :: (t12, 0, enc emp) :: (pb, po, [ptr n 0]) :: (n, 0, [.int .u64 is', .int .i64 (PT.items (h := k + 1) (its, ts.map GT.pt)).length, iv, ptr kb 0]) :: (ib, io, its.flatMap enc ++ isp) :: (kb, 0, [kv']) :: (krb, kro, ((ts.set (pos lt its x) c').map GT.id).flatMap fp ++ ksp) :: ((ts.set (pos lt its x) c').flatMap (GT.all enc) ++ ((hb, 0, hc3) :: (t9, 0, enc x) :: E))) h' := s.perm (by ((apply perm_rg; intro f; simp only [PS]; ac_rfl)))
    rw [fpv] at s; refine r_ext rfl (r_ext rfl ?_)
    (refine St.r_storeN0 s 0 rfl rfl (by simp) (enc1 _) ?_; intro h s; try simp only [P2] at s)
    have hX : (c'.pt, if ok then some y else none) = c.pt.del lt m false x := hX
    refine fin (ok := ok) hc hid gc' fc' rfl hh ?_ ?_ s
    · have hT : (match lget lt c.pt.items x with | none => _ | some z => _ : Prop) := hT
      show (match lget lt (PT.items (h := k + 1) (its, ts.map GT.pt)) x with | none => _ | some z => _ : Prop)
      rw [hgt]
      cases hg2 : lget lt c.pt.items x with
      | none =>
       rw [hg2] at hT; refine ⟨hT.1, hT.2.1, ?_⟩
       exact (hdel c'.pt (by rw [hT.2.2, ldel_none hg2])).trans (ldel_none (hgt.trans hg2))
      | some z =>
       rw [hg2] at hT; exact ⟨hT.1, hT.2.1, hdel c'.pt hT.2.2⟩
    · unfold Exact
      rw [PT.del_kid' (t := ((its, ts.map GT.pt) : PT It (k + 1))) hg hcp, ← hX]
      cases ok with
      | true => rfl
      | false =>
       have e1 : c'.pt = c.pt := by
        have e2 := PT.del_none (lt := lt) (m := m) (x := x) (t := c.pt) (by rw [← hX]; rfl)
        rw [← hX] at e2; exact e2
       show ((its, (ts.map GT.pt).set (pos lt its x) c'.pt), none) = ((its, ts.map GT.pt), none)
       rw [e1]
       congr 2
       obtain ⟨hl3, he3⟩ := List.getElem?_eq_some_iff.1 hcp; rw [← he3, List.set_getElem_self]
theorem delOk_all (o : Swo lt) (hO : OrdC Z lf lt) {tb m : Nat} {iso mn : Int} {ctr : Option Addr} (hT0 : (tb, 0, hd0 iso ctr) ∈ Z) (hT4 : (tb, 4, hd4 lf mn m) ∈ Z) (hmn : mn = ((m / 2 : Nat) : Int)) (hm3 : 3 ≤ m) (hm1 : m ≤ 1024) (ho : m % 2 = 1) : ∀ k, DelOk lt h0 Z tb m iso k
 | 0 => del_leaf o hO hT0 hT4 hm1
 | k + 1 => delOk_succ o hO hT0 hT4 hmn hm3 hm1 ho (delOk_all o hO hT0 hT4 hmn hm3 hm1 ho k)
theorem rt_of {iso : Int} {m k : Nat} {t : GT It (k + 1)} (f : t.pt.Fl m 0) (h0 : t.nd.its.length = 0) : ∃ c, t.2 = [c] ∧ t.pt.items = c.pt.items := by
 obtain ⟨d, ts⟩ := t
 have hl : ts.length = d.its.length + 1 := by have := f.2.2.1; simpa [GT.pt] using this
 have h0 : d.its.length = 0 := h0
 have hts : ts.length = 1 := by omega
 obtain ⟨c, e⟩ : ∃ c, ts = [c] := by
  cases ts with
  | nil => simp at hts
  | cons c r => cases r with
   | nil => exact ⟨c, rfl⟩
   | cons _ _ => simp at hts
 subst e; refine ⟨c, rfl, ?_⟩
 have h0 : d.its.length = 0 := h0
 show inter d.its ([c.pt.items]) = c.pt.items
 rw [List.length_eq_zero_iff.1 h0]
 simp [inter]
def rH : Rt → Nat
 | none => 0
 | some t => t.1 + 1
theorem inner_items {m lo k : Nat} {x : PT It (k + 1)} (hm : 3 ≤ m) (f : x.Fl m lo) : x.items ≠ [] := by
 intro e
 have hl : x.2.length = x.1.length + 1 := f.2.2.1
 obtain ⟨c, r, hc⟩ : ∃ c r, x.2 = c :: r := head_of (by omega)
 have hf := f.2.2.2 c (by rw [hc]; simp)
 have h1 := hf.le.1
 have h2 := (PT.its_sub c).length_le
 have h3 : (inter x.1 (x.2.map PT.items)).length = 0 := by
  have : inter x.1 (x.2.map PT.items) = [] := e
  rw [this]; rfl
 rw [inter_length, hc] at h3
 simp only [List.map_cons, List.sum_cons] at h3
 omega
theorem lock_ok {tb : Nat} {b : Bool} (H : Q (.bool false) h) : z11_.call #[ptr tb 0, .bool b] h Q := by
 refine z11_.body _ _ _ _ ?_; unfold z11_.sh; exact H
theorem deleteHint_ok (o : Swo lt) {A : List Rg} (hO : OrdA A lf lt) {tb m hb : Nat} {iso : Int} {ctr : Option Addr} {g : Rt} {x : It} {hv : Value} {hc : List Value} (M : TreeOk lt m iso g) (hsz : (rPt g).items.length ≤ 4611686018427387903) (hh : Hn hv hb hc)
  (s : St h0 Z ((tb, 0, hdr iso ctr (rA g) (rPt g).items.length lf ((m / 2 : Nat) : Int) m) :: (hb, 0, hc) :: (rAll g ++ (A ++ E))) h)
  (H : ∀ (g' : Rt) hc' h', (rPt g').items = ldel lt (rPt g).items x → rPt g' = MT.del lt m (rPt g) x → TreeOk lt m iso g' → (rH g' = rH g ∨ rH g' + 1 = rH g) → Hn hv hb hc' → St h0 Z ((tb, 0, hdr iso ctr (rA g') (rPt g').items.length lf ((m / 2 : Nat) : Int) m) :: (hb, 0, hc') :: (rAll g' ++ (A ++ E))) h' → Q (.tuple #[old (lget lt (rPt g).items x), .bool (lget lt (rPt g).items x).isSome]) h') :
  z04_.call #[ptr tb 0, av x, hv] h Q := by
 have key : ∀ g' : Rt, (rPt g').items = ldel lt (rPt g).items x → rGd iso g' → (rPt g').Fl m → TreeOk lt m iso g' := fun g' e gd f => ⟨gd, f, by rw [e]; exact asc_of_sub M.asc (ldel_sub _ _), M.m3, M.m1, M.odd⟩
 refine z04_.body _ _ _ _ _ ?_; unfold z04_.sh
 cases g with
 | none =>
  have s : St h0 Z ((tb, 0, hdr iso ctr none 0 lf ((m / 2 : Nat) : Int) m) :: (hb, 0, hc) :: (A ++ E)) h := s
  refine St.r_box (cs := enc x) s fun t4 h s => ?_; refine s.r_alloc fun t6 h s => ?_; refine r_nil (r_fld (St.r_load0 s 2 rfl rfl ?_))
  refine r_eqNilP ?_; refine r_if (fun _ => ?_) (fun e => absurd e (by simp))
  refine r_nil (r_fld ?_)
  refine St.r_loadN0 s 2 rfl (by simp) ?_; refine St.r_storeN0 s 0 rfl rfl (by simp) (enc1 emp) ?_; intro h s
  refine St.r_loadN0 s 0 rfl (by simp) ?_; exact H none hc h rfl rfl (key none rfl trivial trivial) (.inl rfl) hh (s.drop 2)
 | some t =>
  obtain ⟨k, t⟩ := t
  have hkl := PT.height_le M.m3 (show t.pt.Fl m 1 from M.fl) (Nat.le_refl _)
  have hsz : t.pt.items.length ≤ 4611686018427387903 := hsz
  have s := hdr_cut s
  obtain ⟨s1, back⟩ := St.borrow (A := [(tb, 0, hd0 iso ctr), (tb, 4, hd4 lf ((m / 2 : Nat) : Int) m)] ++ A) (E := (tb, 2, [ptr t.id 0]) :: (tb, 3, [.int .i64 t.pt.items.length]) :: (hb, 0, hc) :: (t.all enc ++ E)) (s.perm (by
   show (([(tb, 0, hd0 iso ctr), (tb, 4, hd4 lf ((m / 2 : Nat) : Int) m)] ++ A) ++ ((tb, 2, [ptr t.id 0]) :: (tb, 3, [.int .i64 t.pt.items.length]) :: (hb, 0, hc) :: (t.all enc ++ E))).Perm ((tb, 0, hd0 iso ctr) :: (tb, 4, hd4 lf ((m / 2 : Nat) : Int) m) :: (tb, 2, [ptr t.id 0]) :: (tb, 3, [.int .i64 t.pt.items.length]) :: (hb, 0, hc) :: (t.all enc ++ (A ++ E)))
   ((apply perm_rg; intro f; simp only [PS]; ac_rfl))))
  generalize hZ : ([(tb, 0, hd0 iso ctr), (tb, 4, hd4 lf ((m / 2 : Nat) : Int) m)] ++ A) ++ Z = Z1 at s1 back
  have hT0 : (tb, 0, hd0 iso ctr) ∈ Z1 := by rw [← hZ]; exact List.mem_cons_self ..
  have hT4 : (tb, 4, hd4 lf ((m / 2 : Nat) : Int) m) ∈ Z1 := by rw [← hZ]; exact List.mem_cons_of_mem _ (List.mem_cons_self ..)
  have hO1 : OrdC Z1 lf lt := hO Z1 fun r hr => by rw [← hZ]; exact List.mem_append_left _ (List.mem_append_right _ hr)
  have glue : ∀ (g2 : Rt) (c : Int) (hc' : List Value) (h : Heap), St h0 Z1 ((tb, 2, [.pointer (rA g2)]) :: (tb, 3, [.int .i64 c]) :: (hb, 0, hc') :: (rAll g2 ++ E)) h → St h0 Z ((tb, 0, hdr iso ctr (rA g2) c lf ((m / 2 : Nat) : Int) m) :: (hb, 0, hc') :: (rAll g2 ++ (A ++ E))) h := fun g2 c hc' h s => by
   refine hdr_glue ((back _ h s).perm ?_)
   show ((tb, 0, hd0 iso ctr) :: (tb, 4, hd4 lf ((m / 2 : Nat) : Int) m) :: (tb, 2, [.pointer (rA g2)]) :: (tb, 3, [.int .i64 c]) :: (hb, 0, hc') :: (rAll g2 ++ (A ++ E))).Perm (([(tb, 0, hd0 iso ctr), (tb, 4, hd4 lf ((m / 2 : Nat) : Int) m)] ++ A) ++ ((tb, 2, [.pointer (rA g2)]) :: (tb, 3, [.int .i64 c]) :: (hb, 0, hc') :: (rAll g2 ++ E)))
   ((apply perm_rg; intro f; simp only [PS]; ac_rfl))
  have H : ∀ (g' : Rt) hc' h', (rPt g').items = ldel lt t.pt.items x → rPt g' = MT.del lt m (some ⟨k, t.pt⟩) x → TreeOk lt m iso g' → (rH g' = k + 1 ∨ rH g' + 1 = k + 1) → Hn hv hb hc' → St h0 Z ((tb, 0, hdr iso ctr (rA g') (rPt g').items.length lf ((m / 2 : Nat) : Int) m) :: (hb, 0, hc') :: (rAll g' ++ (A ++ E))) h' → Q (.tuple #[old (lget lt t.pt.items x), .bool (lget lt t.pt.items x).isSome]) h' := H
  have key : ∀ g' : Rt, (rPt g').items = ldel lt t.pt.items x → rGd iso g' → (rPt g').Fl m → TreeOk lt m iso g' := key
  have hdl := ldel_len (lt := lt) t.pt.items x
  have h1 : 1 ≤ t.nd.its.length := (fl_its M.fl).1
  clear s; refine St.r_box (cs := enc x) s1 fun t4 h s => ?_; refine s.r_alloc fun t6 h s => ?_; refine r_nil (r_fld ?_)
  refine s.r_load1 2 (o := 2) (j := 0) rfl rfl ?_; refine r_eqNilP ?_; refine r_if (fun e => absurd e (by simp)) (fun _ => ?_)
  -- behind the call
  have after : ∀ {t' : GT It k} {hc' : List Value} {h' : Heap} {y : It} {ok : Bool} {t8 : Nat}, t'.id = t.id → Gd iso t' → t'.pt.Fl m (t.nd.its.length - if ok then 1 else 0) → Taken lt false x t.pt.items t'.pt.items y ok → Exact lt m false x t.pt t'.pt y ok → Hn hv hb hc' →
    St h0 Z1 ((t8, 0, enc y) :: (t6, 0, enc emp) :: (tb, 2, [ptr t.id 0]) :: (tb, 3, [.int .i64 t.pt.items.length]) :: (hb, 0, hc') :: (t'.all enc ++ E)) h' →
    (notV (.bool ok) fun t30 => ifV t30 (nilck (ptr tb 0) fun t32 => fld 7 t32 fun t33 => loadN 2 t33 h' fun t34 => storeN 2 (ptr t6 0) t34 h' fun h => loadN 2 (ptr t6 0) h fun r6 => Q (.tuple #[r6, (.bool false)]) h) (z04_.j2 (ptr tb 0) (ptr t6 0) (ptr t8 0) h' Q)) := by
   intro t' hc' h y ok t8 e1 g' f' hT hX hh s
   have hT : (match lget lt t.pt.items x with | none => _ | some z => _ : Prop) := hT
   have hX : (t'.pt, if ok then some y else none) = t.pt.del lt m false x := hX
   refine r_not ?_
   cases hg : lget lt t.pt.items x with
   | none =>
    rw [hg] at hT H; obtain ⟨rfl, rfl, e3⟩ := hT; refine r_if (fun _ => ?_) (fun e => absurd e (by simp))
    refine r_nil (r_fld ?_)
    refine s.r_lzE hT4 3 (enc emp) rfl (by simp) rfl ?_; refine St.r_storeN0 s 1 rfl rfl (by simp) (enc1 emp) ?_; intro h s
    refine St.r_loadN0 s 1 rfl (by simp) ?_
    have e4 : t'.pt.items = ldel lt t.pt.items x := by rw [ldel_none hg]; exact e3
    refine H (some ⟨k, t'⟩) hc' h e4 ?_ (key (some ⟨k, t'⟩) e4 g' (f'.mono (by simp; omega))) (.inl rfl) hh ?_
    · unfold MT.del
      simp only [← hX]
      have e2 := PT.del_none (lt := lt) (m := m) (x := x) (t := t.pt) (by rw [← hX]; rfl)
      rw [← hX] at e2
      show some (⟨k, t'.pt⟩ : (j : Nat) × PT It j) = some ⟨k, t.pt⟩
      rw [show t'.pt = t.pt from e2]
    · have := glue (some ⟨k, t'⟩) t.pt.items.length hc' h (by
       show St h0 Z1 ((tb, 2, [ptr t'.id 0]) :: (tb, 3, [.int .i64 t.pt.items.length]) :: (hb, 0, hc') :: (t'.all enc ++ E)) h
       rw [e1]; exact s.drop 2)
      show St h0 Z ((tb, 0, hdr iso ctr (some ⟨t'.id, 0, none⟩) t'.pt.items.length lf ((m / 2 : Nat) : Int) m) :: (hb, 0, hc') :: (t'.all enc ++ (A ++ E))) h
      rw [e3]; exact this
   | some z =>
    rw [hg] at hT H hdl; obtain ⟨rfl, rfl, e3⟩ := hT; refine r_if (fun e => absurd e (by simp)) (fun _ => ?_)
    have hmt : MT.del lt m (some ⟨k, t.pt⟩) x = MT.root ⟨k, t'.pt⟩ := by
     unfold MT.del
     simp only [← hX]
     rfl
    have fin : ∀ (g2 : Rt) h, (rPt g2).items = ldel lt t.pt.items x → (rPt g2 = MT.root ⟨k, t'.pt⟩ ∨ ((rPt g2).items = [] ∧ MT.root ⟨k, t'.pt⟩ = none)) → rGd iso g2 → ((rPt g2).items ≠ [] → (rPt g2).Fl m) → ((rPt g2).items ≠ [] → rPt g2 = MT.root ⟨k, t'.pt⟩) → (rH g2 = k + 1 ∨ rH g2 + 1 = k + 1) → ((rPt g2).items = [] → k = 0 ∧ MT.root ⟨k, t'.pt⟩ = none) →
      St h0 Z1 ((t8, 0, enc y) :: (t6, 0, enc emp) :: (tb, 2, [.pointer (rA g2)]) :: (tb, 3, [.int .i64 t.pt.items.length]) :: (hb, 0, hc') :: (rAll g2 ++ E)) h → z04_.j3 (ptr tb 0) (ptr t6 0) (ptr t8 0) h Q := by
     intro g2 h e4 _ gd2 f2 r2 hH hE s
     have hl1 : t.pt.items.length = (rPt g2).items.length + 1 := by rw [e4]; simpa using hdl.symm
     unfold z04_.j3; refine r_nil (r_fld ?_)
     refine s.r_loadI 3 0 rfl rfl rfl ?_; refine r_sub1 (by omega) (by omega) ?_; refine r_nil (r_fld ?_)
     (refine s.r_storeI 3 0 rfl rfl (by simp) rfl ?_; intro h s; try simp only [P2] at s)
     refine r_nil (r_fld ?_)
     refine s.r_loadI 3 0 rfl rfl rfl ?_; refine r_cmpI ?_; refine r_if (fun hz => ?_) (fun hz => ?_)
     · have hz : (rPt g2).items.length = 0 := by simp at hz; omega
       have hzn := List.length_eq_zero_iff.1 hz
       have e5 : ldel lt t.pt.items x = [] := by rw [← e4]; exact hzn
       refine r_nil (r_fld ?_)
       (refine s.r_storeI 2 0 rfl rfl (by simp) rfl ?_; intro h s; try simp only [P2] at s)
       unfold z04_.j4; refine St.r_loadN0 s 0 rfl (by simp) ?_
       (refine St.r_storeN0 s 1 rfl rfl (by simp) (enc1 _) ?_; intro h s; try simp only [P2] at s)
       refine St.r_loadN0 s 1 rfl (by simp) ?_; refine H none hc' h (by rw [e5]; rfl) (by rw [hmt, (hE hzn).2]; rfl) (key none (by rw [e5]; rfl) trivial trivial) (.inr (by have := (hE hzn).1; show 0 + 1 = k + 1; omega)) hh ?_; rw [show t.pt.items.length - 1 = 0 by omega] at s
       have s2 : St h0 Z1 ((tb, 2, [.pointer none]) :: (tb, 3, [.int .i64 ((0 : Nat) : Int)]) :: (hb, 0, hc') :: E) h := (s.drop 2).sub (List.Sublist.cons_cons _ (List.Sublist.cons_cons _ (List.Sublist.cons_cons _ (List.sublist_append_right _ _))))
       exact glue none _ hc' h s2
     · have hz : (rPt g2).items.length ≠ 0 := by intro e; simp at hz; omega
       have hne : (rPt g2).items ≠ [] := fun e => hz (by rw [e]; rfl)
       unfold z04_.j4; refine St.r_loadN0 s 0 rfl (by simp) ?_
       (refine St.r_storeN0 s 1 rfl rfl (by simp) (enc1 _) ?_; intro h s; try simp only [P2] at s)
       refine St.r_loadN0 s 1 rfl (by simp) ?_; refine H g2 hc' h e4 (by rw [hmt]; exact r2 hne) (key g2 e4 gd2 (f2 hne)) hH hh ?_
       have s2 : St h0 Z1 ((tb, 2, [.pointer (rA g2)]) :: (tb, 3, [.int .i64 ((t.pt.items.length - 1 : Nat) : Int)]) :: (hb, 0, hc') :: (rAll g2 ++ E)) h := s.drop 2
       have s := glue g2 _ hc' h s2
       rw [hl1, Nat.add_sub_cancel] at s; exact s
    unfold z04_.j2
    have wt := g'.own
    rw [all_eq t', e1] at s
    have s : St h0 Z1 ((t8, 0, enc y) :: (t6, 0, enc emp) :: (tb, 2, [ptr t.id 0]) :: (tb, 3, [.int .i64 t.pt.items.length]) :: (hb, 0, hc') :: (t.id, 0, [.int .u64 t'.nd.iso, .int .i64 t'.nd.cnt, t'.nd.iv, GT.kp t']) :: (t'.nd.ib, t'.nd.io, t'.nd.its.flatMap enc ++ t'.nd.isp) :: (GT.rest t' ++ E)) h := s
    have base : (t'.nd.its.length ≠ 0 → MT.root ⟨k, t'.pt⟩ = some ⟨k, t'.pt⟩) → (t'.nd.its.length ≠ 0 ∨ (t'.pt.items = [] ∧ MT.root ⟨k, t'.pt⟩ = none)) → z04_.j3 (ptr tb 0) (ptr t6 0) (ptr t8 0) h Q := fun hroot hb => by
     have hit := (PT.its_sub t'.pt).length_le
     have hne : t'.nd.its.length ≠ 0 → t'.pt.items ≠ [] := fun h2 e => by
      rw [e, GT.pt_its] at hit; simp at hit; rw [hit] at h2; simp at h2
     refine fin (some ⟨k, t'⟩) h e3 (hb.imp (fun h2 => (hroot h2).symm) (fun h2 => h2)) g' (fun hn => ?_) (fun hn => ?_) (.inl rfl) (fun he => ?_) ?_
     · rcases hb with hb | hb
       · exact (fl_any (lo' := 1) f' (by rw [GT.pt_its]; omega) : t'.pt.Fl m 1)
       · exact absurd hb.1 hn
     · rcases hb with hb | hb
       · exact (hroot hb).symm
       · exact absurd hb.1 hn
     · have he : t'.pt.items = [] := he
       rcases hb with hb | hb
       · exact absurd he (hne hb)
       · refine ⟨?_, hb.2⟩
         cases k with
         | zero => rfl
         | succ k => exact absurd he (inner_items M.m3 f')
     · show St h0 Z1 ((t8, 0, enc y) :: (t6, 0, enc emp) :: (tb, 2, [ptr t'.id 0]) :: (tb, 3, [.int .i64 t.pt.items.length]) :: (_, 0, hc') :: (t'.all enc ++ E)) h
       rw [all_eq t', e1]; exact s
    refine r_nil (r_fld ?_)
    refine s.r_loadI 2 0 rfl rfl rfl ?_; refine r_nil (r_fld (St.r_load0 s 5 rfl rfl ?_))
    refine Own.lenV (by assumption) ?_; refine r_cmpI ?_; refine r_br (fun hz => ?_) (fun hz => ?_)
    · have hz : t'.nd.its.length = 0 := by have := eq_of_beq hz; omega
      refine r_nil (r_fld ?_)
      refine s.r_loadI 2 0 rfl rfl rfl ?_
      cases k with
      | zero =>
       refine node_leaf_ok (a := none) (s.cl0 5 rfl rfl) ?_; refine r_not ?_; refine r_if (fun e => absurd e (by simp)) (fun _ => ?_)
       have hz2 : t'.pt = ([] : List It) := List.length_eq_zero_iff.1 hz
       exact base (fun h2 => absurd hz h2) (.inr ⟨by rw [hz2]; rfl, by rw [hz2]; rfl⟩)
      | succ k =>
       refine node_leaf_ok (a := some ⟨t'.1.kb, 0, none⟩) (s.cl0 5 rfl rfl) ?_; refine r_not ?_; refine r_if (fun _ => ?_) (fun e => absurd e (by simp))
       obtain ⟨c, ec, eit⟩ := rt_of (iso := iso) (f'.mono (Nat.zero_le _)) hz
       have wK := g'.ownK
       have hrt : MT.root ⟨k + 1, t'.pt⟩ = some ⟨k, c.pt⟩ := by
        have h2 : t'.pt = (([], [c.pt]) : List It × List (PT It k)) := by
         show (t'.1.its, t'.2.map GT.pt) = _
         rw [ec, List.length_eq_zero_iff.1 (show t'.1.its.length = 0 from hz)]; rfl
        rw [h2]; rfl
       have s : St h0 Z1 ((t8, 0, enc y) :: (t6, 0, enc emp) :: (tb, 2, [ptr t.id 0]) :: (tb, 3, [.int .i64 t.pt.items.length]) :: (hb, 0, hc') :: (t.id, 0, [.int .u64 t'.nd.iso, .int .i64 t'.nd.cnt, t'.nd.iv, ptr t'.1.kb 0]) :: (t'.nd.ib, t'.nd.io, t'.nd.its.flatMap enc ++ t'.nd.isp) ::
        (t'.1.kb, 0, [t'.1.kv]) :: (t'.1.krb, t'.1.kro, ((t'.2.map GT.id).map pp).flatMap fv ++ t'.1.ksp) :: (t'.2.flatMap (GT.all enc) ++ E)) h := s
       have hc0 : ((t'.2.map GT.id).map pp)[0]? = some (ptr c.id 0) := by rw [ec]; rfl
       have hkl0 : 0 < ((t'.2.map GT.id).map pp).length := by rw [ec]; simp
       refine r_nil (r_fld ?_)
       refine s.r_loadI 2 0 rfl rfl rfl ?_; refine r_nil (r_fld (St.r_load0 s 5 rfl rfl (r_nil (St.r_load0 s 7 rfl rfl ?_))))
       (refine Own.idx (by assumption) rfl (by first | omega | (simp; done) | (simp; omega)) ?_)
       refine s.r_loadV 8 rfl (by assumption) ?_; refine r_nil (r_fld ?_)
       (refine s.r_storeI 2 0 rfl rfl (by simp) rfl ?_; intro h s; try simp only [P2] at s)
       have hcf := f'.2.2.2 c.pt (List.mem_map.2 ⟨c, by rw [ec]; simp, rfl⟩)
       have m3 := M.m3
       refine fin (some ⟨k, c⟩) h (by rw [← e3, eit]; rfl) (.inl hrt.symm) (g'.kid (by rw [ec]; simp)) (fun _ => ?_) (fun _ => hrt.symm) (.inr rfl) (fun he => ?_) ((s.perm (E' := (t.id, 0, [.int .u64 t'.nd.iso, .int .i64 t'.nd.cnt, t'.nd.iv, ptr t'.1.kb 0]) :: (t'.nd.ib, t'.nd.io, t'.nd.its.flatMap enc ++ t'.nd.isp) :: (t'.1.kb, 0, [t'.1.kv]) :: (t'.1.krb, t'.1.kro, ((t'.2.map GT.id).map pp).flatMap fv ++ t'.1.ksp) :: ((t8, 0, enc y) :: (t6, 0, enc emp) :: (tb, 2, [ptr c.id 0]) :: (tb, 3, [.int .i64 t.pt.items.length]) :: (hb, 0, hc') :: (c.all enc ++ E))) ?_).drop 4)
       · exact hcf.mono (by omega)
       · have h8 := hcf.le.1
         have h9 := (PT.its_sub c.pt).length_le
         have he : c.pt.items = [] := he
         rw [he] at h9
         simp at h9
         rw [h9] at h8
         simp at h8
         omega
       · have e6 : t'.2.flatMap (GT.all enc) = c.all enc := by rw [ec]; simp
         rw [e6]
         ((apply perm_rg; intro f; simp only [PS]; ac_rfl))
    · have hz : t'.nd.its.length ≠ 0 := by intro e; simp [e] at hz
      refine base (fun _ => ?_) (.inl hz)
      cases k with
      | zero =>
       have h2 : ∃ a r, t'.pt = (a :: r : List It) := head_of (by show 1 ≤ t'.nd.its.length; omega)
       obtain ⟨a, r, h2⟩ := h2; rw [h2]; rfl
      | succ k =>
       obtain ⟨a, r, h2⟩ := head_of (l := t'.1.its) (by show 1 ≤ t'.nd.its.length; omega)
       have h3 : t'.pt = ((a :: r, t'.2.map GT.pt) : List It × List (PT It k)) := by show (t'.1.its, _) = _; rw [h2]
       rw [h3]; rfl
  unfold z04_.j1; refine r_nil (r_fld ?_)
  refine St.r_loadN0 s 1 rfl (by simp) ?_
  constructor
  · refine delOk_all o hO1 hT0 hT4 rfl M.m3 M.m1 M.odd k t (dp := 0) (pb := tb) (po := 2) (E := (t6, 0, enc emp) :: (t4, 0, enc x) :: (tb, 3, [.int .i64 t.pt.items.length]) :: E) false x hh (by omega) M.fl M.asc hsz M.gd h1 (s.perm (by ((apply perm_rg; intro f; simp only [PS]; ac_rfl)))) fun t' hc' h' y ok e1 g' f' hT hX hh s => ?_
    refine r_ext rfl (r_ext rfl ?_)
    refine s.r_alloc fun t8 h s => ?_; refine St.r_storeN0 s 0 rfl rfl (by simp) (enc1 y) ?_; intro h s
    have s : St h0 Z1 ((t8, 0, enc y) :: (t6, 0, enc emp) :: (tb, 2, [ptr t.id 0]) :: (tb, 3, [.int .i64 t.pt.items.length]) :: (hb, 0, hc') :: (t'.all enc ++ ((t4, 0, enc x) :: E))) h := s.perm (by ((apply perm_rg; intro f; simp only [PS]; ac_rfl)))
    have s : St h0 Z1 ((t8, 0, enc y) :: (t6, 0, enc emp) :: (tb, 2, [ptr t.id 0]) :: (tb, 3, [.int .i64 t.pt.items.length]) :: (hb, 0, hc') :: (t'.all enc ++ E)) h := St.drop (E := (t4, 0, enc x) :: (t8, 0, enc y) :: (t6, 0, enc emp) :: (tb, 2, [ptr t.id 0]) :: (tb, 3, [.int .i64 t.pt.items.length]) :: (hb, 0, hc') :: (t'.all enc ++ E)) (s.perm (by ((apply perm_rg; intro f; simp only [PS]; ac_rfl)))) 1
    exact after e1 g' f' hT hX hh s
  · refine s.r_alloc fun t8 h s => ?_
    refine ⟨St.r_stillN0 s 2 (j := 0) (n := 2) rfl (by simp) rfl, ?_⟩
    refine delOk_all o hO1 hT0 hT4 rfl M.m3 M.m1 M.odd k t (dp := 0) (pb := tb) (po := 2) (E := (t8, 0, enc emp) :: (t6, 0, enc emp) :: (t4, 0, enc x) :: (tb, 3, [.int .i64 t.pt.items.length]) :: E) false x hh (by omega) M.fl M.asc hsz M.gd h1 (s.perm (by ((apply perm_rg; intro f; simp only [PS]; ac_rfl)))) fun t' hc' h' y ok e1 g' f' hT hX hh s => ?_
    have s : St h0 Z1 ((t8, 0, enc emp) :: (t6, 0, enc emp) :: (tb, 2, [ptr t.id 0]) :: (tb, 3, [.int .i64 t.pt.items.length]) :: (hb, 0, hc') :: (t'.all enc ++ E)) h' := St.drop (E := (t4, 0, enc x) :: (t8, 0, enc emp) :: (t6, 0, enc emp) :: (tb, 2, [ptr t.id 0]) :: (tb, 3, [.int .i64 t.pt.items.length]) :: (hb, 0, hc') :: (t'.all enc ++ E)) (s.perm (by ((apply perm_rg; intro f; simp only [PS]; ac_rfl)))) 1
    refine r_ext rfl (r_ext rfl ?_)
    refine St.r_storeN0 s 0 rfl rfl (by simp) (enc1 y) ?_; intro h s
    exact after e1 g' f' hT hX hh s
theorem DeleteHint_ok (o : Swo lt) {A : List Rg} (hO : OrdA A lf lt) {tb m hb : Nat} {iso : Int} {ctr : Option Addr} {g : Rt} {x : It} {hv : Value} {hc : List Value} (M : TreeOk lt m iso g) (hsz : (rPt g).items.length ≤ 4611686018427387903) (hh : Hn hv hb hc)
  (s : St h0 Z ((tb, 0, hdr iso ctr (rA g) (rPt g).items.length lf ((m / 2 : Nat) : Int) m) :: (hb, 0, hc) :: (rAll g ++ (A ++ E))) h)
  (H : ∀ (g' : Rt) hc' h', (rPt g').items = ldel lt (rPt g).items x → rPt g' = MT.del lt m (rPt g) x → TreeOk lt m iso g' → (rH g' = rH g ∨ rH g' + 1 = rH g) → Hn hv hb hc' → St h0 Z ((tb, 0, hdr iso ctr (rA g') (rPt g').items.length lf ((m / 2 : Nat) : Int) m) :: (hb, 0, hc') :: (rAll g' ++ (A ++ E))) h' → Q (.tuple #[old (lget lt (rPt g).items x), .bool (lget lt (rPt g).items x).isSome]) h') :
  z03_.call #[ptr tb 0, av x, hv] h Q := by
 refine z03_.body _ _ _ _ _ ?_; unfold z03_.sh; refine St.r_box (cs := enc x) s fun t4 h s => ?_; refine s.r_alloc fun t6 h s => ?_; refine lock_ok ?_; refine r_if (fun e => absurd e (by simp)) (fun _ => ?_)
 unfold z03_.j1; refine St.r_loadN0 s 1 rfl (by simp) ?_; refine deleteHint_ok o hO M hsz hh (E := (t6, 0, enc emp) :: (t4, 0, enc x) :: E) (s.perm (by ((apply perm_rg; intro f; simp only [PS]; ac_rfl)))) fun g' hc' h' e e' M' hH hh s => ?_
 have s : St h0 Z ((t6, 0, enc emp) :: (t4, 0, enc x) :: (tb, 0, hdr iso ctr (rA g') (rPt g').items.length lf ((m / 2 : Nat) : Int) m) :: (hb, 0, hc') :: (rAll g' ++ (A ++ E))) h' := s.perm (by ((apply perm_rg; intro f; simp only [PS]; ac_rfl)))
 refine r_ext rfl (r_ext rfl ?_)
 refine St.r_storeN0 s 0 rfl rfl (by simp) (enc1 ((lget lt (rPt g).items x).getD emp)) ?_; intro h s
 refine St.r_loadN0 s 0 rfl (by simp) ?_; exact H g' hc' h e e' M' hH hh (s.drop 2)
theorem Delete_ok (o : Swo lt) {A : List Rg} (hO : OrdA A lf lt) {tb m : Nat} {iso : Int} {ctr : Option Addr} {g : Rt} {x : It} (M : TreeOk lt m iso g) (hsz : (rPt g).items.length ≤ 4611686018427387903)
  (s : St h0 Z ((tb, 0, hdr iso ctr (rA g) (rPt g).items.length lf ((m / 2 : Nat) : Int) m) :: (rAll g ++ (A ++ E))) h)
  (H : ∀ (g' : Rt) h', (rPt g').items = ldel lt (rPt g).items x → rPt g' = MT.del lt m (rPt g) x → TreeOk lt m iso g' → (rH g' = rH g ∨ rH g' + 1 = rH g) → St h0 Z ((tb, 0, hdr iso ctr (rA g') (rPt g').items.length lf ((m / 2 : Nat) : Int) m) :: (rAll g' ++ (A ++ E))) h' → Q (.tuple #[old (lget lt (rPt g).items x), .bool (lget lt (rPt g).items x).isSome]) h') :
  z0l_.call #[ptr tb 0, av x] h Q := by
 refine z0l_.body _ _ _ _ ?_; unfold z0l_.sh; refine St.r_box (cs := enc x) s fun t4 h s => ?_; refine s.r_alloc fun t6 h s => ?_; refine St.r_loadN0 s 1 rfl (by simp) ?_; refine DeleteHint_ok o hO M hsz Hn.none (E := (t6, 0, enc emp) :: (t4, 0, enc x) :: E) ((s.empty 0 0).perm (by ((apply perm_rg; intro f; simp only [PS]; ac_rfl)))) fun g' hc' h' e e' M' hH hh s => ?_
 have s : St h0 Z ((t6, 0, enc emp) :: (t4, 0, enc x) :: (0, 0, hc') :: (tb, 0, hdr iso ctr (rA g') (rPt g').items.length lf ((m / 2 : Nat) : Int) m) :: (rAll g' ++ (A ++ E))) h' := s.perm (by ((apply perm_rg; intro f; simp only [PS]; ac_rfl)))
 refine r_ext rfl (r_ext rfl ?_)
 refine St.r_storeN0 s 0 rfl rfl (by simp) (enc1 ((lget lt (rPt g).items x).getD emp)) ?_; intro h s
 refine St.r_loadN0 s 0 rfl (by simp) ?_; exact H g' h e e' M' hH (s.drop 3)
end Go.Proofs.YthpmeccnddchpaaGreat.Gi
end
section
namespace Go.Proofs.YthpmeccnddchpaaGreat.Gi
open Go.Hp Go.Proofs.YthpmeccnddchpaaGreat
variable {h0 h : Heap} {Z E : List Rg} {Q : Value → Heap → Prop} {lt : It → It → Bool} {lf : Value}
theorem allZ_leaf {d : Nd It} (hz : ∀ r ∈ GT.all enc (h := 0) d, r ∈ Z) : (d.n, 0, [.int .u64 d.iso, .int .i64 d.cnt, d.iv, .pointer none]) ∈ Z ∧ (d.ib, d.io, d.its.flatMap enc ++ d.isp) ∈ Z := by
 have hz : ∀ r ∈ d.leaf enc, r ∈ Z := hz
 exact ⟨hz _ (List.mem_cons_self ..), hz _ (List.mem_cons_of_mem _ (List.mem_cons_self ..))⟩
theorem allZ_inner {k : Nat} {d : Nd It} {ts : List (GT It k)} (hz : ∀ r ∈ GT.all enc (h := k + 1) (d, ts), r ∈ Z) :
  (d.n, 0, [.int .u64 d.iso, .int .i64 d.cnt, d.iv, ptr d.kb 0]) ∈ Z ∧ (d.ib, d.io, d.its.flatMap enc ++ d.isp) ∈ Z ∧ (d.kb, 0, [d.kv]) ∈ Z ∧ (d.krb, d.kro, (ts.map GT.id).flatMap fp ++ d.ksp) ∈ Z ∧ ∀ c ∈ ts, ∀ r ∈ c.all enc, r ∈ Z := by
 have hz : ∀ r ∈ d.inner enc (ts.map GT.id) ++ ts.flatMap (GT.all enc), r ∈ Z := hz
 have h1 : ∀ r ∈ d.inner enc (ts.map GT.id), r ∈ Z := fun r hr => hz r (List.mem_append.2 (.inl hr))
 refine ⟨h1 _ (List.mem_cons_self ..), h1 _ (List.mem_cons_of_mem _ (List.mem_cons_self ..)), h1 _ (List.mem_cons_of_mem _ (List.mem_cons_of_mem _ (List.mem_cons_self ..))), ?_, fun c hc r hr => hz r (List.mem_append.2 (.inr (List.mem_flatMap.2 ⟨c, hc, hr⟩)))⟩
 have := h1 _ (List.mem_cons_of_mem _ (List.mem_cons_of_mem _ (List.mem_cons_of_mem _ (List.mem_cons_self ..))))
 rw [mfp] at this; exact this
theorem kidcell {k : Nat} {ts : List (GT It k)} {krb kro i : Nat} {ksp : List Value} {c : GT It k} (hk : (krb, kro, (ts.map GT.id).flatMap fp ++ ksp) ∈ Z) (hc : ts[i]? = some c) (s : St h0 Z E h) : cl h krb (kro + i * 1) = some (ptr c.id 0) := by
 have hi : i < (ts.map GT.id).length := by rw [List.length_map]; exact (List.getElem?_eq_some_iff.1 hc).1
 refine s.clz hk (i * 1) rfl ?_; rw [List.getElem?_append_left (by rw [flat_len fpl]; omega)]
 have := flat_get (f := fp) fpl (ts.map GT.id) i hi 0 (by decide)
 rw [Nat.add_zero] at this; rw [this]
 have e : (ts.map GT.id)[i] = c.id := by
  have : (ts.map GT.id)[i]? = some c.id := by rw [List.getElem?_map, hc]; rfl
  exact (List.getElem?_eq_some_iff.1 this).2
 rw [e]; rfl
def Iso (Z : List Rg) (tb : Nat) (iso : Int) : Prop := ∃ xs, (tb, 0, xs) ∈ Z ∧ xs[0]? = some (.int .u64 iso)
theorem Iso.at {tb : Nat} {iso : Int} (i : Iso Z tb iso) (s : St h0 Z E h) : cl h tb 0 = some (.int .u64 iso) := by
 obtain ⟨xs, h1, h2⟩ := i; exact s.clz h1 0 rfl h2
theorem nodeItems_ok {m tb : Nat} {iso : Int} (hm : m ≤ 1024) (hi : Iso Z tb iso) : ∀ {k : Nat} (t : GT It k) {lo : Nat} (g : Gd iso t) (fl : t.pt.Fl m lo) (hz : ∀ r ∈ t.all enc, r ∈ Z) {L : List It} {v : Value} {b o pb po : Nat} {sp : List Value} {E : List Rg} {h : Heap} {Q : Value → Heap → Prop},
  L.length + t.pt.items.length ≤ 4294967295 → cl h pb po = some (ptr t.id 0) → Own 2 v L.length b o (L.flatMap enc) sp → St h0 Z ((b, o, L.flatMap enc ++ sp) :: E) h →
  (∀ v' b' o' sp' h', Own 2 v' (L ++ t.pt.items).length b' o' ((L ++ t.pt.items).flatMap enc) sp' → St h0 Z ((b', o', (L ++ t.pt.items).flatMap enc ++ sp') :: E) h' → Q v' h') → z07_.call #[ptr tb 0, ptr pb po, v, .bool false] h Q
 | 0, (d : Nd It), lo, g, fl, hz, L, v, b, o, pb, po, sp, E, h, Q, hN, hp, wv, s, H => by
  obtain ⟨own, n, is', cnt, its, iv, ib, io, isp, kb, kv', krb, kro, ksp⟩ := d; obtain ⟨z1, z2⟩ := allZ_leaf hz
  have w : Own 2 iv its.length ib io (its.flatMap enc) isp := g.wf.1
  have hl : its.length ≤ m := fl.2
  have hN : L.length + its.length ≤ 4294967295 := hN
  have H : ∀ v' b' o' sp' h', Own 2 v' (L ++ its).length b' o' ((L ++ its).flatMap enc) sp' → St h0 Z ((b', o', (L ++ its).flatMap enc ++ sp') :: E) h' → Q v' h' := H
  refine z07_.body _ _ _ _ _ _ ?_; unfold z07_.sh; refine isoLoad_ok (n := n) (hi.at s) hp (fun e => by cases e) ?_; refine node_leaf_ok (a := none) (s.clz z1 3 rfl rfl) ?_; refine r_if (fun _ => ?_) (fun e => absurd e (by simp))
  refine r_nil (r_fld ?_)
  refine s.r_lz0 z1 (j := 2) rfl ?_; refine s.r_appL (f := enc) (L := L) (M := its) 0 rfl wv rfl (w.rdlO (s.z _ z2)) (fun _ _ => enc1 _) (by omega) (by omega) fun v' b' o' sp' h s w' => ?_; exact H v' b' o' sp' h w' s
 | k + 1, t, lo, g, fl, hz, L, v, b, o, pb, po, sp, E, h, Q, hN, hp, wv, s, H => by
  obtain ⟨d, ts⟩ := t; obtain ⟨own, n, is', cnt, its, iv, ib, io, isp, kb, kv', krb, kro, ksp⟩ := d; obtain ⟨z1, z2, z3, z4, z5⟩ := allZ_inner hz
  have w : Own 2 iv its.length ib io (its.flatMap enc) isp := g.wf.1.1
  have wK : Own 1 kv' ts.length krb kro ((ts.map GT.id).map fun m => ptr m 0) ksp := g.wf.2.1
  have hkl : ts.length = its.length + 1 := g.wf.2.2.1
  have hl : its.length ≤ m := fl.2.1
  have hpl : ∀ i, ((ts.take i).map fun t => t.pt.items) = (((ts.map GT.pt).take i).map PT.items) := fun i => by rw [← List.map_take, List.map_map]; rfl
  have hsplit : ∀ i (hi : i ≤ its.length) c, ts[i]? = some c → PT.items (h := k + 1) (its, ts.map GT.pt) = lz (its.take i) ((ts.take i).map fun t => t.pt.items) ++ (c.pt.items ++ rz (its.drop i) (((ts.map GT.pt).drop (i + 1)).map PT.items)) := by
   intro i hi c hc; obtain ⟨c', hc', _, e⟩ := PT.around (t := ((its, ts.map GT.pt) : PT It (k + 1))) fl hi
   have hc' : (ts.map GT.pt)[i]? = some c' := hc'
   rw [List.getElem?_map, hc] at hc'
   have : c' = c.pt := (Option.some.inj hc').symm
   subst this; rw [hpl]; exact e
  have hN : L.length + (PT.items (h := k + 1) (its, ts.map GT.pt)).length ≤ 4294967295 := hN
  have H : ∀ v' b' o' sp' h', Own 2 v' (L ++ PT.items (h := k + 1) (its, ts.map GT.pt)).length b' o' ((L ++ PT.items (h := k + 1) (its, ts.map GT.pt)).flatMap enc) sp' → St h0 Z ((b', o', (L ++ PT.items (h := k + 1) (its, ts.map GT.pt)).flatMap enc ++ sp') :: E) h' → Q v' h' := H
  refine z07_.body _ _ _ _ _ _ ?_; unfold z07_.sh; refine isoLoad_ok (n := n) (hi.at s) hp (fun e => by cases e) ?_; refine node_leaf_ok (a := some ⟨kb, 0, Option.none⟩) (s.clz z1 3 rfl rfl) ?_; refine r_if (fun e => absurd e (by simp)) (fun _ => ?_)
  unfold z07_.j1
  refine loop_ghost (fun q st h => ∃ j v b o sp, q = its.length - j ∧ j ≤ its.length ∧ st = [v, .int .i64 (j : Nat)] ∧ Own 2 v (L ++ lz (its.take j) ((ts.take j).map fun t => t.pt.items)).length b o ((L ++ lz (its.take j) ((ts.take j).map fun t => t.pt.items)).flatMap enc) sp ∧ St h0 Z ((b, o, (L ++ lz (its.take j) ((ts.take j).map fun t => t.pt.items)).flatMap enc ++ sp) :: E) h)
   (n0 := its.length) ⟨0, v, b, o, sp, rfl, Nat.zero_le _, rfl, by simpa [lz] using wv, by simpa [lz] using s⟩ ?_
  clear s
  rintro q st h ⟨j, v, b, o, sp, rfl, hj, rfl, wv, s⟩ K HK
  obtain ⟨c, hc⟩ : ∃ c, ts[j]? = some c := ⟨ts[j]'(by omega), List.getElem?_eq_getElem (by omega)⟩
  have hcm := List.mem_of_getElem? hc
  have hfc : PT.Fl m (m / 2) c.pt := fl.2.2.2 _ (List.mem_map.2 ⟨c, hcm, rfl⟩)
  have hs := hsplit j hj c hc
  have hsl := congrArg List.length hs
  simp only [List.length_append] at hsl
  unfold z07_.l3.b; refine r_nil (r_fld ?_)
  refine s.r_lz0 z1 (j := 2) rfl ?_; refine w.lenV ?_; refine r_cmpI ?_; refine r_if (fun hlt => ?_) (fun hge => ?_)
  · have hlt : j < its.length := by simpa using hlt
    have hx : its[j]? = some its[j] := List.getElem?_eq_getElem hlt
    have et : its.take (j + 1) = its.take j ++ [its[j]] := List.take_succ_eq_append_getElem hlt
    have ek : ts.take (j + 1) = ts.take j ++ [c] := by rw [List.take_add_one, hc]; rfl
    have ez : lz (its.take (j + 1)) ((ts.take (j + 1)).map fun t => t.pt.items) = lz (its.take j) ((ts.take j).map fun t => t.pt.items) ++ (c.pt.items ++ [its[j]]) := by
     rw [et, ek, List.map_append, List.map_cons, List.map_nil, lz_snoc _ _ _ _ (by simp; omega)]
    obtain ⟨rest, hrest⟩ : ∃ rest, rz (its.drop j) (((ts.map GT.pt).drop (j + 1)).map PT.items) = its[j] :: rest := by
     have e1 : its.drop j = its[j] :: its.drop (j + 1) := List.drop_eq_getElem_cons hlt
     have e2 : (ts.map GT.pt).drop (j + 1) = (ts.map GT.pt)[j + 1]'(by simp; omega) :: (ts.map GT.pt).drop (j + 1 + 1) := List.drop_eq_getElem_cons (by simp; omega)
     rw [e1, e2, List.map_cons, rz_cons]; exact ⟨_, rfl⟩
    rw [hrest, List.length_cons] at hsl; unfold z07_.j4; refine r_nil (r_fld ?_)
    refine s.r_lz0 z1 (j := 3) rfl ?_; refine r_nil ?_; refine s.r_lz0 z3 (j := 0) rfl ?_; refine wK.idx (n := j) rfl (by omega) ?_; refine nodeItems_ok hm hi c (g.kid hcm) hfc (z5 c hcm) (by rw [List.length_append]; omega) (kidcell z4 hc s) wv s fun v2 b2 o2 sp2 h s2 s => ?_; refine r_nil (r_fld ?_)
    refine s.r_lz0 z1 (j := 2) rfl ?_; refine w.idx (n := j) rfl hlt ?_; refine s.r_loadFZ encl z2 hx ?_; refine St.r_mkSl (sz := 2) (cs := enc its[j]) s (by ((simp only [fillV, fill1, Value.cells, Nat.reduceAdd, Nat.reduceMul, Nat.reduceLeDiff, Nat.reduceEqDiff, reduceIte, PF] <;> rfl))) rfl fun q h s w1 => ?_; refine St.r_app s 1 (sz := 2) (n := 1) (new := enc its[j]) rfl s2 rfl (w1.rdl s 0 rfl) (enc1 _) (by simp only [List.length_append]; omega) (by simp only [List.length_append]; omega) fun v' b' o' sp' h s w' => ?_; rw [snoc_enc] at s w'
    have e9 : (L ++ lz (its.take j) ((ts.take j).map fun t => t.pt.items) ++ c.pt.items) ++ [its[j]] = L ++ lz (its.take (j + 1)) ((ts.take (j + 1)).map fun t => t.pt.items) := by
     rw [ez]; simp
    have w' : Own 2 v' ((L ++ lz (its.take j) ((ts.take j).map fun t => t.pt.items) ++ c.pt.items) ++ [its[j]]).length b' o' (((L ++ lz (its.take j) ((ts.take j).map fun t => t.pt.items) ++ c.pt.items) ++ [its[j]]).flatMap enc) sp' := by rw [List.length_append]; exact w'
    rw [e9] at s w'; unfold z07_.j5; refine r_add (z := ((j + 1 : Nat) : Int)) (by rw [i64w (by omega) (by omega)]; omega) ?_; exact HK (its.length - (j + 1)) _ _ (by omega) ⟨j + 1, v', b', o', sp', rfl, hlt, rfl, w', s.drop 1⟩
  · have hge : j = its.length := by simp at hge; omega
    subst hge
    have hr0 : rz (its.drop its.length) (((ts.map GT.pt).drop (its.length + 1)).map PT.items) = [] := by rw [List.drop_length]; rfl
    rw [hr0, List.append_nil] at hs; unfold z07_.j2; refine r_nil (r_fld ?_)
    refine s.r_lz0 z1 (j := 3) rfl ?_; refine r_nil ?_; refine s.r_lz0 z3 (j := 0) rfl ?_; refine r_nil (r_fld ?_)
    refine s.r_lz0 z1 (j := 3) rfl ?_; refine r_nil ?_; refine s.r_lz0 z3 (j := 0) rfl ?_; refine wK.lenV ?_; refine r_sub (z := ((its.length : Nat) : Int)) (by rw [i64w (by omega) (by omega)]; omega) ?_; refine wK.idx (n := its.length) rfl (by omega) ?_; refine nodeItems_ok hm hi c (g.kid hcm) hfc (z5 c hcm) (by rw [List.length_append]; omega) (kidcell z4 hc s) wv s fun v2 b2 o2 sp2 h s2 s => ?_
    have e9 : L ++ lz (its.take its.length) ((ts.take its.length).map fun t => t.pt.items) ++ c.pt.items = L ++ PT.items (h := k + 1) (its, ts.map GT.pt) := by rw [hs]; simp
    rw [e9] at s s2; exact H v2 b2 o2 sp2 h s2 s
theorem Items_ok {g : Rt} {tb m : Nat} {iso mn mx : Int} {ctr : Option Addr} (M : TreeOk lt m iso g) (hl : (rPt g).items.length ≤ 4294967295) (s : St h0 Z (((tb, 0, hdr iso ctr (rA g) (rPt g).items.length lf mn mx) :: rAll g) ++ E) h)
  (H : ∀ v b o sp h', Own 2 v (rPt g).items.length b o ((rPt g).items.flatMap enc) sp → St h0 Z ((b, o, (rPt g).items.flatMap enc ++ sp) :: (((tb, 0, hdr iso ctr (rA g) (rPt g).items.length lf mn mx) :: rAll g) ++ E)) h' → Q v h') :
  z0r_.call #[ptr tb 0] h Q := by
 refine z0r_.body _ _ _ ?_; unfold z0r_.sh; refine z0s_.body _ _ _ _ ?_; unfold z0s_.sh; refine lock_ok ?_; refine r_if (fun e => absurd e (by simp)) (fun _ => ?_)
 unfold z0s_.j1; refine z17_.body _ _ _ ?_; unfold z17_.sh
 have s : St h0 Z ((tb, 0, hdr iso ctr (rA g) (rPt g).items.length lf mn mx) :: (rAll g ++ E)) h := s
 refine r_nil (r_fld (St.r_load0 s 0 rfl rfl ?_))
 refine s.r_mks (n := 0) (sz := 2) rfl (by omega) (by omega) (by omega) fun v b h s w => ?_; rw [zeros_zero] at s w; refine r_nil (r_fld (St.r_load0 s 1 rfl rfl ?_))
 refine r_neNilP ?_
 cases g with
 | none =>
  refine r_if (fun e => absurd e (by simp [rA])) (fun _ => ?_)
  unfold z0s_.j2; exact H _ b 0 _ h w s
 | some t =>
  refine r_if (fun _ => ?_) (fun e => absurd e (by simp [rA]))
  refine r_nil (r_fld ?_)
  have s0 : St h0 Z (((tb, 0, hdr iso ctr (rA (some t)) (rPt (some t)).items.length lf mn mx) :: rAll (some t)) ++ ((b, 0, ([] : List It).flatMap enc ++ zeros [.int .i64 0, .int .i64 0] ((rPt (some t)).items.length - 0)) :: E)) h := s.perm (by ((apply perm_rg; intro f; simp only [PS]; ac_rfl)))
  obtain ⟨s1, back⟩ := s0.borrow; refine nodeItems_ok M.m1 ⟨_, List.mem_cons_self .., rfl⟩ t.2 M.gd M.fl (fun r hr => List.mem_append.2 (.inl (List.mem_cons_of_mem _ hr))) (L := []) (by rw [List.length_nil, Nat.zero_add]; exact hl) (s1.clz (List.mem_cons_self ..) 2 rfl rfl) w s1 fun v' b' o' sp' h' w' s => ?_
  have s := back _ h' s
  unfold z0s_.j2; exact H v' b' o' sp' h' w' (s.perm (by ((apply perm_rg; intro f; simp only [PS]; ac_rfl))))
theorem isoLoad_rd {tr : Value} {pb po n : Nat} (hp : cl h pb po = some (ptr n 0)) (H : Q (ptr n 0) h) : z0f_.call #[tr, ptr pb po, .bool false] h Q := by
 refine z0f_.body _ _ _ _ _ ?_; unfold z0f_.sh; refine r_br (fun e => absurd e (by decide)) (fun _ => ?_)
 unfold z0f_.j1; refine r_nil ?_; exact r_ld hp H
theorem nodeScan_ok {cont : List It → Bool} {f tr : Value} {J : List It → Heap → Prop} {iso : Int} {m N : Nat} (hm : m ≤ 1024) (hJ : ∀ p h, J p h → ∃ E, St h0 Z E h)
  (cb : ∀ (p : List It) (x : It) (h : Heap) (K : Value → Heap → Prop), p.length < N → J p h → (∀ h', J (p ++ [x]) h' → K (.bool (cont (p ++ [x]))) h') → callV Tryz.prog f #[av x] h K) :
  ∀ {k : Nat} (t : GT It k) {lo : Nat} (g : Gd iso t) (fl : t.pt.Fl m lo) (hz : ∀ r ∈ t.all enc, r ∈ Z) (hzb : ∀ r ∈ t.all enc, r.2.2 ≠ [] → h0.size ≤ r.1) {pb po : Nat} (hp : ∀ E h, St h0 Z E h → cl h pb po = some (ptr t.id 0)) {p : List It} {h : Heap} {Q : Value → Heap → Prop}, p.length + t.pt.items.length ≤ N → J p h →
   (∀ h', J (feed cont p t.pt.items).1 h' → Q (.bool (feed cont p t.pt.items).2) h') → z0c_.call #[tr, ptr pb po, f, .bool false] h Q
 | 0, (d : Nd It), lo, g, fl, hz, hzb, pb, po, hp, p, h, Q, hN, hj, H => by
  obtain ⟨own, n, is', cnt, its, iv, ib, io, isp, kb, kv', krb, kro, ksp⟩ := d; obtain ⟨z1, z2⟩ := allZ_leaf hz
  have w : Own 2 iv its.length ib io (its.flatMap enc) isp := g.wf.1
  have hl : its.length ≤ m := fl.2
  have hp : ∀ E h, St h0 Z E h → cl h pb po = some (ptr n 0) := hp
  have hN : p.length + its.length ≤ N := hN
  have H : ∀ h', J (feed cont p its).1 h' → Q (.bool (feed cont p its).2) h' := H
  refine z0c_.body _ _ _ _ _ _ ?_; unfold z0c_.sh; obtain ⟨E, s⟩ := hJ p h hj; refine isoLoad_rd (hp E h s) ?_; refine node_leaf_ok (a := none) (s.clz z1 3 rfl rfl) ?_; refine r_if (fun _ => ?_) (fun e => absurd e (by simp))
  refine loop_up (n := its.length) (fun j => [.int .i64 j]) (fun j h => (feed cont p (its.take j)).2 = true ∧ J (feed cont p (its.take j)).1 h) ⟨rfl, hj⟩ ?_
  rintro j h hjl ⟨hf, hj⟩ K HK
  obtain ⟨E, s⟩ := hJ _ h hj; unfold z0c_.l8.b; refine r_nil (r_fld ?_)
  refine s.r_lz0 z1 (j := 2) rfl ?_; refine w.lenV ?_; refine r_cmpI ?_; refine r_if (fun hlt => ?_) (fun hge => ?_)
  · have hlt : j < its.length := by simpa using hlt
    have hx : its[j]? = some its[j] := List.getElem?_eq_getElem hlt
    unfold z0c_.j9; refine r_nil (r_fld ?_)
    refine s.r_lz0 z1 (j := 2) rfl ?_; refine w.idx (n := j) rfl hlt ?_; refine s.r_loadFZ encl z2 hx ?_
    have hfl := feed_len (cont := cont) (its.take j) p
    rw [List.length_take] at hfl; refine cb _ its[j] h _ (by omega) hj fun h' hj' => ?_; refine r_not ?_
    have et : its.take (j + 1) = its.take j ++ [its[j]] := List.take_succ_eq_append_getElem hlt
    have ef : feed cont p (its.take (j + 1)) = ((feed cont p (its.take j)).1 ++ [its[j]], cont ((feed cont p (its.take j)).1 ++ [its[j]])) := by rw [et, feed_step hf, feed_one]
    refine r_if (fun hc => ?_) (fun hc => ?_)
    · have hc : cont ((feed cont p (its.take j)).1 ++ [its[j]]) = false := by simpa using hc
      have ea : feed cont p its = ((feed cont p (its.take j)).1 ++ [its[j]], false) := by
       have e0 := feed_stop (cont := cont) (p := p) (a := its.take (j + 1)) (b := its.drop (j + 1)) (by rw [ef]; exact hc)
       rw [List.take_append_drop, ef] at e0; exact e0
      have := H h' (by rw [ea]; exact hj')
      rw [ea] at this; exact this
    · have hc : cont ((feed cont p (its.take j)).1 ++ [its[j]]) = true := by simpa using hc
      unfold z0c_.j10; refine r_add (z := ((j + 1 : Nat) : Int)) (by rw [i64w (by omega) (by omega)]; omega) ?_; exact HK h' hlt ⟨by rw [ef]; exact hc, by rw [ef]; exact hj'⟩
  · have hge : j = its.length := by simp at hge; omega
    subst hge; rw [List.take_length] at hf hj; unfold z0c_.j7
    have := H h hj
    rw [hf] at this; exact this
 | k + 1, t, lo, g, fl, hz, hzb, pb, po, hp, p, h, Q, hN, hj, H => by
  obtain ⟨d, ts⟩ := t; obtain ⟨own, n, is', cnt, its, iv, ib, io, isp, kb, kv', krb, kro, ksp⟩ := d; obtain ⟨z1, z2, z3, z4, z5⟩ := allZ_inner hz
  have w : Own 2 iv its.length ib io (its.flatMap enc) isp := g.wf.1.1
  have wK : Own 1 kv' ts.length krb kro ((ts.map GT.id).map fun m => ptr m 0) ksp := g.wf.2.1
  have hkl : ts.length = its.length + 1 := g.wf.2.2.1
  have hl : its.length ≤ m := fl.2.1
  have hp : ∀ E h, St h0 Z E h → cl h pb po = some (ptr n 0) := hp
  have hpl : ∀ i, ((ts.take i).map fun t => t.pt.items) = (((ts.map GT.pt).take i).map PT.items) := fun i => by rw [← List.map_take, List.map_map]; rfl
  have hsplit : ∀ i (hi : i ≤ its.length) c, ts[i]? = some c → PT.items (h := k + 1) (its, ts.map GT.pt) = lz (its.take i) ((ts.take i).map fun t => t.pt.items) ++ (c.pt.items ++ rz (its.drop i) (((ts.map GT.pt).drop (i + 1)).map PT.items)) := by
   intro i hi c hc; obtain ⟨c', hc', _, e⟩ := PT.around (t := ((its, ts.map GT.pt) : PT It (k + 1))) fl hi
   have hc' : (ts.map GT.pt)[i]? = some c' := hc'
   rw [List.getElem?_map, hc] at hc'
   have : c' = c.pt := (Option.some.inj hc').symm
   subst this; rw [hpl]; exact e
  have hN : p.length + (PT.items (h := k + 1) (its, ts.map GT.pt)).length ≤ N := hN
  have H : ∀ h', J (feed cont p (PT.items (h := k + 1) (its, ts.map GT.pt))).1 h' → Q (.bool (feed cont p (PT.items (h := k + 1) (its, ts.map GT.pt))).2) h' := H
  refine z0c_.body _ _ _ _ _ _ ?_; unfold z0c_.sh; obtain ⟨E, s⟩ := hJ p h hj; refine isoLoad_rd (hp E h s) ?_; refine node_leaf_ok (a := some ⟨kb, 0, Option.none⟩) (s.clz z1 3 rfl rfl) ?_; refine r_if (fun e => absurd e (by simp)) (fun _ => ?_)
  unfold z0c_.j1; refine loop_up (n := its.length) (fun j => [.int .i64 j]) (fun j h => (feed cont p (lz (its.take j) ((ts.take j).map fun t => t.pt.items))).2 = true ∧ J (feed cont p (lz (its.take j) ((ts.take j).map fun t => t.pt.items))).1 h) ⟨rfl, hj⟩ ?_
  rintro j h hjl ⟨hf, hj⟩ K HK
  obtain ⟨E, s⟩ := hJ _ h hj; obtain ⟨c, hc⟩ : ∃ c, ts[j]? = some c := ⟨ts[j]'(by omega), List.getElem?_eq_getElem (by omega)⟩
  have hcm := List.mem_of_getElem? hc
  have hfc : PT.Fl m (m / 2) c.pt := fl.2.2.2 _ (List.mem_map.2 ⟨c, hcm, rfl⟩)
  unfold z0c_.l3.b; refine r_nil (r_fld ?_)
  refine s.r_lz0 z1 (j := 2) rfl ?_; refine w.lenV ?_; refine r_cmpI ?_; refine r_if (fun hlt => ?_) (fun hge => ?_)
  · have hlt : j < its.length := by simpa using hlt
    have hx : its[j]? = some its[j] := List.getElem?_eq_getElem hlt
    have et : its.take (j + 1) = its.take j ++ [its[j]] := List.take_succ_eq_append_getElem hlt
    have ek : ts.take (j + 1) = ts.take j ++ [c] := by rw [List.take_add_one, hc]; rfl
    have ez : lz (its.take (j + 1)) ((ts.take (j + 1)).map fun t => t.pt.items) = lz (its.take j) ((ts.take j).map fun t => t.pt.items) ++ (c.pt.items ++ [its[j]]) := by
     rw [et, ek, List.map_append, List.map_cons, List.map_nil, lz_snoc _ _ _ _ (by simp; omega)]
    obtain ⟨rest, hrest⟩ : ∃ rest, rz (its.drop j) (((ts.map GT.pt).drop (j + 1)).map PT.items) = its[j] :: rest := by
     have e1 : its.drop j = its[j] :: its.drop (j + 1) := List.drop_eq_getElem_cons hlt
     have e2 : (ts.map GT.pt).drop (j + 1) = (ts.map GT.pt)[j + 1]'(by simp; omega) :: (ts.map GT.pt).drop (j + 1 + 1) := List.drop_eq_getElem_cons (by simp; omega)
     rw [e1, e2, List.map_cons, rz_cons]; exact ⟨_, rfl⟩
    have hs := hsplit j hjl c hc
    rw [hrest] at hs
    have hsl := congrArg List.length hs
    simp only [List.length_append, List.length_cons] at hsl
    have hfl := feed_len (cont := cont) (lz (its.take j) ((ts.take j).map fun t => t.pt.items)) p
    have hfl2 := feed_len (cont := cont) (lz (its.take j) ((ts.take j).map fun t => t.pt.items) ++ c.pt.items) p
    rw [List.length_append] at hfl2; unfold z0c_.j4; refine r_nil (r_fld ?_)
    refine s.r_lz0 z1 (j := 3) rfl ?_; refine r_nil ?_; refine s.r_lz0 z3 (j := 0) rfl ?_; refine wK.idx (n := j) rfl (by omega) ?_; refine nodeScan_ok hm hJ cb c (g.kid hcm) hfc (z5 c hcm) (fun r hr => hzb r (List.mem_append.2 (.inr (List.mem_flatMap.2 ⟨c, hcm, hr⟩)))) (fun E h s => kidcell z4 hc s) (by omega) hj fun h' hj' => ?_; refine r_not ?_; refine r_if (fun hr => ?_) (fun hr => ?_)
    · have hr : (feed cont (feed cont p (lz (its.take j) ((ts.take j).map fun t => t.pt.items))).1 c.pt.items).2 = false := by simpa using hr
      have ea : feed cont p (PT.items (h := k + 1) (its, ts.map GT.pt)) = ((feed cont (feed cont p (lz (its.take j) ((ts.take j).map fun t => t.pt.items))).1 c.pt.items).1, false) := by
       rw [hs, feed_step hf, feed_stop hr]
      have := H h' (by rw [ea]; exact hj')
      rw [ea] at this; exact this
    · have hr : (feed cont (feed cont p (lz (its.take j) ((ts.take j).map fun t => t.pt.items))).1 c.pt.items).2 = true := by simpa using hr
      have hf1 : feed cont p (lz (its.take j) ((ts.take j).map fun t => t.pt.items) ++ c.pt.items) = feed cont (feed cont p (lz (its.take j) ((ts.take j).map fun t => t.pt.items))).1 c.pt.items := feed_step hf
      rw [← hf1] at hr hj'
      have ef : feed cont p (lz (its.take (j + 1)) ((ts.take (j + 1)).map fun t => t.pt.items)) = ((feed cont p (lz (its.take j) ((ts.take j).map fun t => t.pt.items) ++ c.pt.items)).1 ++ [its[j]], cont ((feed cont p (lz (its.take j) ((ts.take j).map fun t => t.pt.items) ++ c.pt.items)).1 ++ [its[j]])) := by
       rw [ez, ← List.append_assoc, feed_step hr, feed_one]
      obtain ⟨E, s⟩ := hJ _ h' hj'; unfold z0c_.j6; refine r_nil (r_fld ?_)
      refine s.r_lz0 z1 (j := 2) rfl ?_; refine w.idx (n := j) rfl hlt ?_; refine s.r_loadFZ encl z2 hx ?_; refine cb _ its[j] h' _ (by omega) hj' fun h2 hj2 => ?_; refine r_not ?_; refine r_if (fun hb => ?_) (fun hb => ?_)
      · have hb : cont ((feed cont p (lz (its.take j) ((ts.take j).map fun t => t.pt.items) ++ c.pt.items)).1 ++ [its[j]]) = false := by simpa using hb
        have ea : feed cont p (PT.items (h := k + 1) (its, ts.map GT.pt)) = ((feed cont p (lz (its.take j) ((ts.take j).map fun t => t.pt.items) ++ c.pt.items)).1 ++ [its[j]], false) := by
         rw [hs, ← List.append_assoc, feed_step hr]; simp only [feed, hb, Bool.false_eq_true, if_false]
        have := H h2 (by rw [ea]; exact hj2)
        rw [ea] at this; exact this
      · have hb : cont ((feed cont p (lz (its.take j) ((ts.take j).map fun t => t.pt.items) ++ c.pt.items)).1 ++ [its[j]]) = true := by simpa using hb
        unfold z0c_.j5; refine r_add (z := ((j + 1 : Nat) : Int)) (by rw [i64w (by omega) (by omega)]; omega) ?_; exact HK h2 hlt ⟨by rw [ef]; exact hb, by rw [ef]; exact hj2⟩
  · have hge : j = its.length := by simp at hge; omega
    subst hge
    have hs := hsplit its.length hjl c hc
    have hr0 : rz (its.drop its.length) (((ts.map GT.pt).drop (its.length + 1)).map PT.items) = [] := by rw [List.drop_length]; rfl
    rw [hr0, List.append_nil] at hs
    have hsl := congrArg List.length hs
    simp only [List.length_append] at hsl
    have hfl := feed_len (cont := cont) (lz (its.take its.length) ((ts.take its.length).map fun t => t.pt.items)) p
    unfold z0c_.j2; refine r_nil (r_fld ?_)
    refine s.r_lz0 z1 (j := 3) rfl ?_; refine r_nil ?_; refine s.r_lz0 z3 (j := 0) rfl ?_; refine r_nil (r_fld ?_)
    refine s.r_lz0 z1 (j := 3) rfl ?_; refine r_nil ?_; refine s.r_lz0 z3 (j := 0) rfl ?_; refine wK.lenV ?_; refine r_sub (z := ((its.length : Nat) : Int)) (by rw [i64w (by omega) (by omega)]; omega) ?_; refine wK.idx (n := its.length) rfl (by omega) ?_; refine nodeScan_ok hm hJ cb c (g.kid hcm) hfc (z5 c hcm) (fun r hr => hzb r (List.mem_append.2 (.inr (List.mem_flatMap.2 ⟨c, hcm, hr⟩)))) (fun E h s => kidcell z4 hc s) (by omega) hj fun h' hj' => ?_
    have ea : feed cont p (PT.items (h := k + 1) (its, ts.map GT.pt)) = feed cont (feed cont p (lz (its.take its.length) ((ts.take its.length).map fun t => t.pt.items))).1 c.pt.items := by rw [hs, feed_step hf]
    have := H h' (by rw [ea]; exact hj')
    rw [ea] at this; exact this
theorem find_nil (o : Swo lt) (hO : OrdC Z lf lt) {n tb : Nat} {dp : Int} {its : List It} {x : It} {iv : Value} (s : St h0 Z E h) (hlf : cl h tb 6 = some lf) (hn : cl h n 2 = some iv) (hr : Rdl 2 h iv its.length (its.flatMap enc)) (ha : Asc lt its) (hb2 : its.length ≤ 4611686018427387903)
  (H : ∀ E' h', St h [] E' h' → Q (.tuple #[.int .i64 (pos lt its x), .bool (lget lt its x).isSome]) h') : z0z_.call #[ptr tb 0, ptr n 0, av x, .pointer none, .int .i64 dp] h Q := by
 refine z0z_.body _ _ _ _ _ _ _ ?_; unfold z0z_.sh
 have u := St.start h
 refine St.r_box (cs := enc x) u fun t7 h1 u => ?_; refine r_eqNilP ?_; refine r_if (fun _ => ?_) (fun e => absurd e (by simp))
 refine St.r_loadN0 u 0 rfl (by simp) ?_; refine bsearch_ok o hO (s.join u) (u.base hlf) (u.base hn) (hr.st u) ha hb2 fun E2 h2 u2 => ?_; refine r_ext rfl (r_ext rfl ?_)
 exact H _ _ (u.join u2)
theorem nodeAscend_ok (o : Swo lt) (hO : OrdC Z lf lt) {tb : Nat} (hlf : ∀ E h, St h0 Z E h → cl h tb 6 = some lf) {cont : List It → Bool} {f : Value} {J : List It → Heap → Prop} {iso : Int} {m N : Nat} {x : It} (hm : m ≤ 1024) (hJ : ∀ p h, J p h → ∃ E, St h0 Z E h) (hX : ∀ p h E' h', J p h → St h [] E' h' → J p h')
  (cb : ∀ (p : List It) (x : It) (h : Heap) (K : Value → Heap → Prop), p.length < N → J p h → (∀ h', J (p ++ [x]) h' → K (.bool (cont (p ++ [x]))) h') → callV Tryz.prog f #[av x] h K) :
  ∀ {k : Nat} (t : GT It k) {lo : Nat} (g : Gd iso t) (fl : t.pt.Fl m lo) (ha : Asc lt t.pt.items) (hz : ∀ r ∈ t.all enc, r ∈ Z) (hzb : ∀ r ∈ t.all enc, r.2.2 ≠ [] → h0.size ≤ r.1) {pb po : Nat} (hp : ∀ E h, St h0 Z E h → cl h pb po = some (ptr t.id 0)) {p : List It} {h : Heap} {Q : Value → Heap → Prop} {dp : Nat}, dp + k ≤ 4611686018427387903 → p.length + t.pt.items.length ≤ N → J p h →
   (∀ h', J (feed cont p (t.pt.items.drop (pos lt t.pt.items x))).1 h' → Q (.bool (feed cont p (t.pt.items.drop (pos lt t.pt.items x))).2) h') → z06_.call #[ptr tb 0, ptr pb po, av x, .pointer none, .int .i64 dp, f, .bool false] h Q
 | 0, (d : Nd It), lo, g, fl, ha, hz, hzb, pb, po, hp, p, h, Q, dp, hdp, hN, hj, H => by
  obtain ⟨own, n, is', cnt, its, iv, ib, io, isp, kb, kv', krb, kro, ksp⟩ := d; obtain ⟨z1, z2⟩ := allZ_leaf hz
  have w : Own 2 iv its.length ib io (its.flatMap enc) isp := g.wf.1
  have hl : its.length ≤ m := fl.2
  have ha : Asc lt its := ha
  have hN : p.length + its.length ≤ N := hN
  have hp : ∀ E h, St h0 Z E h → cl h pb po = some (ptr n 0) := hp
  have H : ∀ h', J (feed cont p (its.drop (pos lt its x))).1 h' → Q (.bool (feed cont p (its.drop (pos lt its x))).2) h' := H
  have hpl := pos_le (lt := lt) its x
  refine z06_.body _ _ _ _ _ _ _ _ _ ?_; unfold z06_.sh
  have u := St.start h
  refine St.r_box (cs := enc x) u fun t9 h u => ?_
  have hj := hX _ _ _ _ hj u
  obtain ⟨E, s⟩ := hJ p h hj; refine isoLoad_rd (hp E h s) ?_; refine St.r_loadN0 u 0 rfl (by simp) ?_; refine find_nil o hO s (hlf E h s) (s.clz z1 2 rfl rfl) (w.rdlZ s z2) ha (by omega) fun E2 h2 u2 => ?_
  have hj := hX _ _ _ _ hj u2
  have u := (u.join u2).perm List.perm_append_comm
  obtain ⟨E, s⟩ := hJ p h2 hj; refine r_ext rfl (r_ext rfl (r_not ?_))
  have main : z06_.j1 (ptr tb 0) f (.bool false) (ptr n 0) (.int .i64 (pos lt its x)) h2 Q := by
   unfold z06_.j1; refine loop_up (n := its.length - pos lt its x) (fun j => [.int .i64 ((pos lt its x + j : Nat) : Int)]) (fun j h => (feed cont p ((its.drop (pos lt its x)).take j)).2 = true ∧ J (feed cont p ((its.drop (pos lt its x)).take j)).1 h) ⟨rfl, hj⟩ ?_
   rintro j h hjl ⟨hf, hj⟩ K HK
   obtain ⟨E, s⟩ := hJ _ h hj; unfold z06_.l3.b; refine r_nil (r_fld ?_)
   refine s.r_lz0 z1 (j := 2) rfl ?_; refine w.lenV ?_; refine r_cmpI ?_; refine r_if (fun hlt => ?_) (fun hge => ?_)
   · have hlt : pos lt its x + j < its.length := by have : ((pos lt its x + j : Nat) : Int) < its.length := by simpa using hlt
                                                    omega
     have hx : its[pos lt its x + j]? = some its[pos lt its x + j] := List.getElem?_eq_getElem hlt
     unfold z06_.j4; refine r_nil (r_fld ?_)
     refine s.r_lz0 z1 (j := 2) rfl ?_; refine w.idx (n := pos lt its x + j) rfl hlt ?_; refine s.r_loadFZ encl z2 hx ?_
     have hfl := feed_len (cont := cont) ((its.drop (pos lt its x)).take j) p
     rw [List.length_take, List.length_drop] at hfl
     have hd : j < (its.drop (pos lt its x)).length := by rw [List.length_drop]; omega
     have et : (its.drop (pos lt its x)).take (j + 1) = (its.drop (pos lt its x)).take j ++ [its[pos lt its x + j]] := by
      rw [List.take_succ_eq_append_getElem hd, List.getElem_drop]
     have ef : feed cont p ((its.drop (pos lt its x)).take (j + 1)) = ((feed cont p ((its.drop (pos lt its x)).take j)).1 ++ [its[pos lt its x + j]], cont ((feed cont p ((its.drop (pos lt its x)).take j)).1 ++ [its[pos lt its x + j]])) := by rw [et, feed_step hf, feed_one]
     refine cb _ its[pos lt its x + j] h _ (by omega) hj fun h' hj' => ?_; refine r_not ?_; refine r_if (fun hc => ?_) (fun hc => ?_)
     · have hc : cont ((feed cont p ((its.drop (pos lt its x)).take j)).1 ++ [its[pos lt its x + j]]) = false := by simpa using hc
       have ea : feed cont p (its.drop (pos lt its x)) = ((feed cont p ((its.drop (pos lt its x)).take j)).1 ++ [its[pos lt its x + j]], false) := by
        have e0 := feed_stop (cont := cont) (p := p) (a := (its.drop (pos lt its x)).take (j + 1)) (b := (its.drop (pos lt its x)).drop (j + 1)) (by rw [ef]; exact hc)
        rw [List.take_append_drop, ef] at e0; exact e0
       have := H h' (by rw [ea]; exact hj')
       rw [ea] at this; exact this
     · have hc : cont ((feed cont p ((its.drop (pos lt its x)).take j)).1 ++ [its[pos lt its x + j]]) = true := by simpa using hc
       unfold z06_.j6; obtain ⟨E2, s2⟩ := hJ _ h' hj'; refine node_leaf_ok (a := none) (s2.clz z1 3 rfl rfl) ?_; refine r_not ?_; refine r_if (fun e => absurd e (by simp)) (fun _ => ?_)
       unfold z06_.j5; refine r_add (z := ((pos lt its x + (j + 1) : Nat) : Int)) (by rw [i64w (by omega) (by omega)]; omega) ?_; exact HK h' (by omega) ⟨by rw [ef]; exact hc, by rw [ef]; exact hj'⟩
   · have hge : its.length ≤ pos lt its x + j := by have : ¬ ((pos lt its x + j : Nat) : Int) < its.length := by simpa using hge
                                                    omega
     rw [List.take_of_length_le (by rw [List.length_drop]; omega)] at hf hj; unfold z06_.j2
     have := H h hj
     rw [hf] at this; exact this
  refine r_if (fun _ => ?_) (fun _ => main)
  refine node_leaf_ok (a := none) (s.clz z1 3 rfl rfl) ?_; refine r_not ?_; refine r_if (fun e => absurd e (by simp)) (fun _ => main)
 | k + 1, t, lo, g, fl, ha, hz, hzb, pb, po, hp, p, h, Q, dp, hdp, hN, hj, H => by
  obtain ⟨d, ts⟩ := t; obtain ⟨own, n, is', cnt, its, iv, ib, io, isp, kb, kv', krb, kro, ksp⟩ := d; obtain ⟨z1, z2, z3, z4, z5⟩ := allZ_inner hz
  have w : Own 2 iv its.length ib io (its.flatMap enc) isp := g.wf.1.1
  have wK : Own 1 kv' ts.length krb kro ((ts.map GT.id).map fun m => ptr m 0) ksp := g.wf.2.1
  have hkl : ts.length = its.length + 1 := g.wf.2.2.1
  have hl : its.length ≤ m := fl.2.1
  have hp : ∀ E h, St h0 Z E h → cl h pb po = some (ptr n 0) := hp
  have ha : Asc lt (PT.items (h := k + 1) (its, ts.map GT.pt)) := ha
  have hN : p.length + (PT.items (h := k + 1) (its, ts.map GT.pt)).length ≤ N := hN
  have H : ∀ h', J (feed cont p ((PT.items (h := k + 1) (its, ts.map GT.pt)).drop (pos lt (PT.items (h := k + 1) (its, ts.map GT.pt)) x))).1 h' → Q (.bool (feed cont p ((PT.items (h := k + 1) (its, ts.map GT.pt)).drop (pos lt (PT.items (h := k + 1) (its, ts.map GT.pt)) x))).2) h' := H
  have hpl := pos_le (lt := lt) its x
  have ha1 : Asc lt its := asc_of_sub ha (PT.its_sub1 ((its, ts.map GT.pt) : PT It (k + 1)))
  obtain ⟨c, hc⟩ : ∃ c, ts[pos lt its x]? = some c := ⟨ts[pos lt its x]'(by omega), List.getElem?_eq_getElem (by omega)⟩
  have hcm := List.mem_of_getElem? hc
  have hfc : PT.Fl m (m / 2) c.pt := fl.2.2.2 _ (List.mem_map.2 ⟨c, hcm, rfl⟩)
  have hcp : (ts.map GT.pt)[pos lt its x]? = some c.pt := by rw [List.getElem?_map, hc]; rfl
  obtain ⟨c0, hc0, _, eit⟩ := PT.around (t := ((its, ts.map GT.pt) : PT It (k + 1))) fl hpl
  have : c0 = c.pt := Option.some.inj (hc0.symm.trans hcp)
  subst this
  have eit : PT.items (h := k + 1) (its, ts.map GT.pt) = lz (its.take (pos lt its x)) (((ts.map GT.pt).take (pos lt its x)).map PT.items) ++ (c.pt.items ++ rz (its.drop (pos lt its x)) (((ts.map GT.pt).drop (pos lt its x + 1)).map PT.items)) := eit
  have hb : ∀ y ∈ lz (its.take (pos lt its x)) (((ts.map GT.pt).take (pos lt its x)).map PT.items), lt y x = true := by
   have ha2 := ha
   rw [eit] at ha2; exact lz_before o (by simp; omega) ha2 (fun y hy => (asc_pos (x := x) o ha1).1 y hy)
  have hac : Asc lt c.pt.items := by rw [eit] at ha; exact (asc_app (asc_app ha).2.1).1
  generalize hB : rz (its.drop (pos lt its x)) (((ts.map GT.pt).drop (pos lt its x + 1)).map PT.items) = B at eit
  have hsl := congrArg List.length eit
  simp only [List.length_append] at hsl
  refine z06_.body _ _ _ _ _ _ _ _ _ ?_; unfold z06_.sh
  have u := St.start h
  refine St.r_box (cs := enc x) u fun t9 h u => ?_
  have hj := hX _ _ _ _ hj u
  obtain ⟨E, s⟩ := hJ p h hj; refine isoLoad_rd (hp E h s) ?_; refine St.r_loadN0 u 0 rfl (by simp) ?_; refine find_nil o hO s (hlf E h s) (s.clz z1 2 rfl rfl) (w.rdlZ s z2) ha1 (by omega) fun E2 h2 u2 => ?_
  have hj := hX _ _ _ _ hj u2
  have u := (u.join u2).perm List.perm_append_comm
  obtain ⟨E, s⟩ := hJ p h2 hj; refine r_ext rfl (r_ext rfl (r_not ?_))
  -- from the node's own item on
  have main : ∀ (q : List It) (h : Heap), q.length + B.length ≤ N → J q h → (∀ h', J (feed cont q B).1 h' → Q (.bool (feed cont q B).2) h') → z06_.j1 (ptr tb 0) f (.bool false) (ptr n 0) (.int .i64 (pos lt its x)) h Q := by
   intro q h hqN hj H
   have hkk : ∀ j, pos lt its x + 1 + j < ts.length → (((ts.map GT.pt).drop (pos lt its x + 1)).map PT.items)[j]? = (ts[pos lt its x + 1 + j]?).map fun t => t.pt.items := fun j hj => by
    rw [List.getElem?_map, List.getElem?_drop, List.getElem?_map, Option.map_map]; rfl
   unfold z06_.j1; refine loop_up (n := its.length - pos lt its x) (fun j => [.int .i64 ((pos lt its x + j : Nat) : Int)]) (fun j h => (feed cont q (rz ((its.drop (pos lt its x)).take j) ((((ts.map GT.pt).drop (pos lt its x + 1)).map PT.items).take j))).2 = true ∧ J (feed cont q (rz ((its.drop (pos lt its x)).take j) ((((ts.map GT.pt).drop (pos lt its x + 1)).map PT.items).take j))).1 h) ⟨rfl, hj⟩ ?_
   rintro j h hjl ⟨hf, hj⟩ K HK
   obtain ⟨E, s⟩ := hJ _ h hj
   have eB := rz_drop (b := its.drop (pos lt its x)) (kb := ((ts.map GT.pt).drop (pos lt its x + 1)).map PT.items) j
   rw [hB] at eB
   generalize hA : rz ((its.drop (pos lt its x)).take j) ((((ts.map GT.pt).drop (pos lt its x + 1)).map PT.items).take j) = A at hf hj eB
   unfold z06_.l3.b; refine r_nil (r_fld ?_)
   refine s.r_lz0 z1 (j := 2) rfl ?_; refine w.lenV ?_; refine r_cmpI ?_; refine r_if (fun hlt => ?_) (fun hge => ?_)
   · have hlt : pos lt its x + j < its.length := by have : ((pos lt its x + j : Nat) : Int) < its.length := by simpa using hlt
                                                    omega
     have hx : its[pos lt its x + j]? = some its[pos lt its x + j] := List.getElem?_eq_getElem hlt
     obtain ⟨c2, hc2⟩ : ∃ c2, ts[pos lt its x + j + 1]? = some c2 := ⟨ts[pos lt its x + j + 1]'(by omega), List.getElem?_eq_getElem (by omega)⟩
     have hcm2 := List.mem_of_getElem? hc2
     have hfc2 : PT.Fl m (m / 2) c2.pt := fl.2.2.2 _ (List.mem_map.2 ⟨c2, hcm2, rfl⟩)
     have l1 : j < (its.drop (pos lt its x)).length := by rw [List.length_drop]; omega
     have l2 : j < (((ts.map GT.pt).drop (pos lt its x + 1)).map PT.items).length := by rw [List.length_map, List.length_drop, List.length_map]; omega
     have g1 : (its.drop (pos lt its x))[j] = its[pos lt its x + j] := List.getElem_drop ..
     have g2 : (((ts.map GT.pt).drop (pos lt its x + 1)).map PT.items)[j] = c2.pt.items := by
      have := hkk j (by omega)
      rw [List.getElem?_eq_getElem l2, show pos lt its x + 1 + j = pos lt its x + j + 1 by omega, hc2] at this; exact Option.some.inj this
     have et := rz_take l1 l2
     rw [hA, g1, g2] at et
     have eB2 := rz_drop (b := its.drop (pos lt its x)) (kb := ((ts.map GT.pt).drop (pos lt its x + 1)).map PT.items) (j + 1)
     rw [hB, et] at eB2
     have hbl := congrArg List.length eB2
     simp only [List.length_append, List.length_cons] at hbl
     have hfl := feed_len (cont := cont) A q
     have hfl2 := feed_len (cont := cont) (A ++ [its[pos lt its x + j]]) q
     rw [List.length_append, List.length_singleton] at hfl2; unfold z06_.j4; refine r_nil (r_fld ?_)
     refine s.r_lz0 z1 (j := 2) rfl ?_; refine w.idx (n := pos lt its x + j) rfl hlt ?_; refine s.r_loadFZ encl z2 hx ?_
     have ef1 : feed cont q (A ++ [its[pos lt its x + j]]) = ((feed cont q A).1 ++ [its[pos lt its x + j]], cont ((feed cont q A).1 ++ [its[pos lt its x + j]])) := by rw [feed_step hf, feed_one]
     refine cb _ its[pos lt its x + j] h _ (by omega) hj fun h' hj' => ?_; refine r_not ?_; refine r_if (fun hc => ?_) (fun hc => ?_)
     · have hc : cont ((feed cont q A).1 ++ [its[pos lt its x + j]]) = false := by simpa using hc
       have ea : feed cont q B = ((feed cont q A).1 ++ [its[pos lt its x + j]], false) := by
        have e0 := feed_stop (cont := cont) (p := q) (a := A ++ [its[pos lt its x + j]]) (b := c2.pt.items ++ rz ((its.drop (pos lt its x)).drop (j + 1)) ((((ts.map GT.pt).drop (pos lt its x + 1)).map PT.items).drop (j + 1))) (by rw [ef1]; exact hc)
        rw [ef1] at e0; rw [eB2, ← e0]; simp
       have := H h' (by rw [ea]; exact hj')
       rw [ea] at this; exact this
     · have hc : cont ((feed cont q A).1 ++ [its[pos lt its x + j]]) = true := by simpa using hc
       rw [hc] at ef1
       have hf1 : (feed cont q (A ++ [its[pos lt its x + j]])).2 = true := by rw [ef1]
       have hj1 : J (feed cont q (A ++ [its[pos lt its x + j]])).1 h' := by rw [ef1]; exact hj'
       unfold z06_.j6; obtain ⟨E2, s⟩ := hJ _ h' hj'; refine node_leaf_ok (a := some ⟨kb, 0, Option.none⟩) (s.clz z1 3 rfl rfl) ?_; refine r_not ?_; refine r_if (fun _ => ?_) (fun e => absurd e (by simp))
       refine r_nil (r_fld ?_)
       refine s.r_lz0 z1 (j := 3) rfl ?_; refine r_nil ?_; refine s.r_lz0 z3 (j := 0) rfl ?_; refine r_add (z := ((pos lt its x + j + 1 : Nat) : Int)) (by rw [i64w (by omega) (by omega)]; omega) ?_; refine wK.idx (n := pos lt its x + j + 1) rfl (by omega) ?_
       have ef2 : feed cont q (A ++ (its[pos lt its x + j] :: c2.pt.items)) = feed cont (feed cont q (A ++ [its[pos lt its x + j]])).1 c2.pt.items := by
        rw [← feed_step hf1]; simp
       refine nodeScan_ok hm hJ cb c2 (g.kid hcm2) hfc2 (z5 c2 hcm2) (fun r hr => hzb r (List.mem_append.2 (.inr (List.mem_flatMap.2 ⟨c2, hcm2, hr⟩)))) (fun E h s => kidcell z4 hc2 s) (by omega) hj1 fun h2 hj2 => ?_; refine r_not ?_; refine r_if (fun hr => ?_) (fun hr => ?_)
       · have hr : (feed cont (feed cont q (A ++ [its[pos lt its x + j]])).1 c2.pt.items).2 = false := by simpa using hr
         have ea : feed cont q B = ((feed cont (feed cont q (A ++ [its[pos lt its x + j]])).1 c2.pt.items).1, false) := by
          rw [eB2, feed_stop (by rw [ef2]; exact hr), ef2]
         have := H h2 (by rw [ea]; exact hj2)
         rw [ea] at this; exact this
       · have hr : (feed cont (feed cont q (A ++ [its[pos lt its x + j]])).1 c2.pt.items).2 = true := by simpa using hr
         unfold z06_.j5; refine r_add (z := ((pos lt its x + (j + 1) : Nat) : Int)) (by rw [i64w (by omega) (by omega)]; omega) ?_; refine HK h2 (by omega) ⟨?_, ?_⟩
         · rw [et, ef2]; exact hr
         · rw [et, ef2]; exact hj2
   · have hge : its.length ≤ pos lt its x + j := by have : ¬ ((pos lt its x + j : Nat) : Int) < its.length := by simpa using hge
                                                    omega
     have e0 : (its.drop (pos lt its x)).drop j = [] := List.drop_of_length_le (by rw [List.length_drop]; omega)
     rw [e0] at eB
     have eB : B = A := by rw [eB]; simp [rz]
     unfold z06_.j2
     have := H h (by rw [eB]; exact hj)
     rw [eB, hf] at this; exact this
  refine r_if (fun hnf => ?_) (fun hfd => ?_)
  · have hn : lget lt its x = none := by cases e : lget lt its x with
     | none => rfl
     | some y => rw [e] at hnf; simp at hnf
    have hhd : ∀ y, B.head? = some y → lt x y = true := by
     rw [← hB, rz_head (by simp; omega)]; exact lget_none_head hn
    have hpi : pos lt (PT.items (h := k + 1) (its, ts.map GT.pt)) x = (lz (its.take (pos lt its x)) (((ts.map GT.pt).take (pos lt its x)).map PT.items)).length + pos lt c.pt.items x := by
     rw [eit, pos_app hb, pos_app2 (fun y hy => o.asym (hhd y hy))]
    have hdi : (PT.items (h := k + 1) (its, ts.map GT.pt)).drop (pos lt (PT.items (h := k + 1) (its, ts.map GT.pt)) x) = c.pt.items.drop (pos lt c.pt.items x) ++ B := by
     rw [hpi]
     conv => lhs; rw [eit]
     rw [List.drop_length_add_append, List.drop_append_of_le_length (pos_le _ _)]
    rw [hdi] at H; refine node_leaf_ok (a := some ⟨kb, 0, Option.none⟩) (s.clz z1 3 rfl rfl) ?_; refine r_not ?_; refine r_if (fun _ => ?_) (fun e => absurd e (by simp))
    refine r_nil (r_fld ?_)
    refine s.r_lz0 z1 (j := 3) rfl ?_; refine r_nil ?_; refine s.r_lz0 z3 (j := 0) rfl ?_; refine wK.idx (n := pos lt its x) rfl (by omega) ?_; refine St.r_loadN0 u 0 rfl (by simp) ?_; refine r_add1 (by omega) ?_; refine nodeAscend_ok o hO hlf hm hJ hX cb c (g.kid hcm) hfc hac (z5 c hcm) (fun r hr => hzb r (List.mem_append.2 (.inr (List.mem_flatMap.2 ⟨c, hcm, hr⟩)))) (fun E h s => kidcell z4 hc s) (dp := dp + 1) (by omega) (by omega) hj fun h' hj' => ?_
    have hfl := feed_len (cont := cont) (c.pt.items.drop (pos lt c.pt.items x)) p
    rw [List.length_drop] at hfl; refine r_not ?_; refine r_if (fun hr => ?_) (fun hr => ?_)
    · have hr : (feed cont p (c.pt.items.drop (pos lt c.pt.items x))).2 = false := by simpa using hr
      have ea := feed_stop (b := B) hr
      have := H h' (by rw [ea]; exact hj')
      rw [ea] at this; exact this
    · have hr : (feed cont p (c.pt.items.drop (pos lt c.pt.items x))).2 = true := by simpa using hr
      refine main _ h' (by omega) hj' fun h2 hj2 => ?_
      have ea := feed_step (b := B) hr
      have := H h2 (by rw [ea]; exact hj2)
      rw [ea] at this; exact this
  · obtain ⟨y, hy⟩ : ∃ y, lget lt its x = some y := by
     cases e : lget lt its x with
     | some y => exact ⟨y, rfl⟩
     | none => rw [e] at hfd; simp at hfd
    obtain ⟨hpp, hyy, h3, h4⟩ := lget_some hy
    obtain ⟨rest, hrest⟩ : ∃ rest, B = y :: rest := by
     have e1 : its.drop (pos lt its x) = y :: its.drop (pos lt its x + 1) := by rw [← hyy]; exact List.drop_eq_getElem_cons hpp
     have e2 : (ts.map GT.pt).drop (pos lt its x + 1) = (ts.map GT.pt)[pos lt its x + 1]'(by simp; omega) :: (ts.map GT.pt).drop (pos lt its x + 1 + 1) := List.drop_eq_getElem_cons (by simp; omega)
     rw [← hB, e1, e2, List.map_cons, rz_cons]; exact ⟨_, rfl⟩
    have hb2 : ∀ z ∈ lz (its.take (pos lt its x)) (((ts.map GT.pt).take (pos lt its x)).map PT.items) ++ c.pt.items, lt z x = true := fun z hz => by
     have ha2 := ha
     rw [eit, hrest, ← List.append_assoc] at ha2; exact o.tr1 ((asc_app ha2).2.2 z hz y (by simp)) h4
    have hpi : pos lt (PT.items (h := k + 1) (its, ts.map GT.pt)) x = (lz (its.take (pos lt its x)) (((ts.map GT.pt).take (pos lt its x)).map PT.items) ++ c.pt.items).length := by
     have p0 : pos lt (y :: rest) x = 0 := pos_zero (s := y :: rest) (fun z hz => by simp at hz; subst hz; exact h3)
     rw [eit, ← List.append_assoc, pos_app hb2, hrest, p0, Nat.add_zero]
    have hdi : (PT.items (h := k + 1) (its, ts.map GT.pt)).drop (pos lt (PT.items (h := k + 1) (its, ts.map GT.pt)) x) = B := by
     rw [hpi]
     conv => lhs; rw [eit, ← List.append_assoc]
     exact List.drop_left ..
    rw [hdi] at H; exact main p h2 (by omega) hj H
end Go.Proofs.YthpmeccnddchpaaGreat.Gi
end
section
namespace Go.Hp
abbrev KI : Type := Int × Int
def ltK (a b : KI) : Bool := decide (a.1 < b.1)
theorem ltK_t {a b : KI} : ltK a b = true ↔ a.1 < b.1 := by simp [ltK]
theorem ltK_f {a b : KI} : ltK a b = false ↔ b.1 ≤ a.1 := by simp [ltK]
theorem swoK : Swo ltK where
 irr a := by simp [ltK]
 tr a b c h k := by rw [ltK_t] at *; omega
 ntr a b c h k := by rw [ltK_f] at *; omega
theorem ascK_split {l : List KI} {y : KI} (ha : Asc ltK l) (hy : y ∈ l) : ∃ p s, l = p ++ y :: s ∧ (∀ z ∈ p, z.1 < y.1) ∧ ∀ z ∈ s, y.1 < z.1 := by
 obtain ⟨p, s, rfl⟩ := List.append_of_mem hy; obtain ⟨h1, h2, h3⟩ := asc_app ha; exact ⟨p, s, rfl, fun z hz => ltK_t.1 (h3 z hz y (List.mem_cons_self ..)), fun z hz => ltK_t.1 ((List.pairwise_cons.1 h2).1 z hz)⟩
theorem lgetK_mem {l : List KI} {x y : KI} (ha : Asc ltK l) (hy : y ∈ l) (e : y.1 = x.1) : lget ltK l x = some y := by
 obtain ⟨p, s, rfl, h1, h2⟩ := ascK_split ha hy; exact lget_at (fun z hz => ltK_t.2 (by have := h1 z hz; omega)) (ltK_f.2 (by omega)) (ltK_f.2 (by omega))
theorem lgetK_key {l : List KI} {x y : KI} (h : lget ltK l x = some y) : y ∈ l ∧ y.1 = x.1 := by
 obtain ⟨hp, e, h1, h2⟩ := lget_some h; rw [ltK_f] at h1 h2; exact ⟨e ▸ List.getElem_mem hp, by omega⟩
theorem lgetK_none {l : List KI} {x : KI} (hn : ∀ y ∈ l, y.1 ≠ x.1) : lget ltK l x = none := by
 cases h : lget ltK l x with
 | none => rfl
 | some y => exact absurd (lgetK_key h).2 (hn y (lgetK_key h).1)
theorem lgetK_nk {l : List KI} {x : KI} (ha : Asc ltK l) (h : lget ltK l x = none) : ∀ y ∈ l, y.1 ≠ x.1 := fun y hy e => by
 rw [lgetK_mem ha hy e] at h; cases h
theorem lputK_perm {l : List KI} {x : KI} (hn : ∀ y ∈ l, y.1 ≠ x.1) : (lput ltK l x).Perm (x :: l) := by
 unfold lput; rw [lgetK_none hn]
 simp only [Option.isSome_none, Bool.false_eq_true, if_false, Nat.add_zero]
 refine List.perm_middle.trans ?_; rw [List.take_append_drop]
theorem lputK_asc {l : List KI} {x : KI} (ha : Asc ltK l) : Asc ltK (lput ltK l x) := asc_lput swoK ha
theorem ldelK_asc {l : List KI} {x : KI} (ha : Asc ltK l) : Asc ltK (ldel ltK l x) := ha.sublist (ldel_sub l x)
theorem mem_lputK {l : List KI} {x z : KI} (ha : Asc ltK l) : z ∈ lput ltK l x ↔ z = x ∨ (z ∈ l ∧ z.1 ≠ x.1) := by
 cases h : lget ltK l x with
 | none =>
  have hn := lgetK_nk ha h
  rw [(lputK_perm hn).mem_iff, List.mem_cons]; exact ⟨fun h => h.imp id fun h => ⟨h, hn z h⟩, fun h => h.imp id fun h => h.1⟩
 | some y =>
  obtain ⟨hy, e⟩ := lgetK_key h; obtain ⟨p, s, rfl, h1, h2⟩ := ascK_split ha hy; rw [lput_at (fun z hz => ltK_t.2 (by have := h1 z hz; omega)) (ltK_f.2 (by omega)) (ltK_f.2 (by omega))]
  simp only [List.mem_append, List.mem_cons]
  constructor
  · rintro (h | h | h)
    · exact .inr ⟨.inl h, by have := h1 z h; omega⟩
    · exact .inl h
    · exact .inr ⟨.inr (.inr h), by have := h2 z h; omega⟩
  · rintro (h | ⟨h | h | h, e2⟩)
    · exact .inr (.inl h)
    · exact .inl h
    · subst h; exact absurd e e2
    · exact .inr (.inr h)
theorem mem_ldelK {l : List KI} {x z : KI} (ha : Asc ltK l) : z ∈ ldel ltK l x ↔ z ∈ l ∧ z.1 ≠ x.1 := by
 cases h : lget ltK l x with
 | none =>
  rw [ldel_none h]; exact ⟨fun hz => ⟨hz, lgetK_nk ha h z hz⟩, fun h => h.1⟩
 | some y =>
  obtain ⟨hy, e⟩ := lgetK_key h; obtain ⟨p, s, rfl, h1, h2⟩ := ascK_split ha hy; rw [ldel_at (fun z hz => ltK_t.2 (by have := h1 z hz; omega)) (ltK_f.2 (by omega)) (ltK_f.2 (by omega))]
  simp only [List.mem_append, List.mem_cons]
  constructor
  · rintro (h | h)
    · exact ⟨.inl h, by have := h1 z h; omega⟩
    · exact ⟨.inr (.inr h), by have := h2 z h; omega⟩
  · rintro ⟨h | h | h, e2⟩
    · exact .inl h
    · subst h; exact absurd e e2
    · exact .inr h
def setK (l : List KI) : List KI := l.foldl (lput ltK) []
theorem setK_snoc (l : List KI) (x : KI) : setK (l ++ [x]) = lput ltK (setK l) x := by unfold setK; rw [List.foldl_append]; rfl
theorem asc_rev {P : List KI → Prop} (h0 : P []) (h1 : ∀ l x, P l → P (l ++ [x])) : ∀ l, P l := fun l => by
 have : ∀ r : List KI, P r.reverse := fun r => by
  induction r with
  | nil => exact h0
  | cons x r ih => rw [List.reverse_cons]; exact h1 _ _ ih
 have h := this l.reverse
 rwa [List.reverse_reverse] at h
theorem setK_asc (l : List KI) : Asc ltK (setK l) := by
 refine asc_rev (P := fun l => Asc ltK (setK l)) List.Pairwise.nil (fun l x h => ?_) l
 rw [setK_snoc]; exact lputK_asc h
theorem lputK_last {l : List KI} {x : KI} (h : ∀ y ∈ l, y.1 < x.1) : lput ltK l x = l ++ [x] := by
 have hp : pos ltK l x = l.length := pos_uni (Nat.le_refl _) (fun j hj _ => ltK_t.2 (h _ (List.getElem_mem hj))) (fun hl => absurd hl (Nat.lt_irrefl _))
 have hg : lget ltK l x = none := lgetK_none fun y hy => by have := h y hy; omega
 unfold lput; rw [hg, hp, List.take_length]
 simp
theorem setK_self (l : List KI) : Asc ltK l → setK l = l := by
 refine asc_rev (P := fun l => Asc ltK l → setK l = l) (fun _ => rfl) (fun l x ih h => ?_) l
 obtain ⟨h1, _, h3⟩ := asc_app h; rw [setK_snoc, ih h1]; exact lputK_last fun y hy => ltK_t.1 (h3 y hy x (List.mem_cons_self ..))
theorem setK_put {l : List KI} {x : KI} (h : Asc ltK l) : setK (l ++ [x]) = lput ltK l x := by rw [setK_snoc, setK_self l h]
theorem setK_len (l : List KI) : (setK l).length ≤ l.length := by
 refine asc_rev (P := fun l => (setK l).length ≤ l.length) (Nat.le_refl _) (fun l x ih => ?_) l
 rw [setK_snoc, lput_length, List.length_append, List.length_singleton]
 split <;> omega
abbrev wt (p : KI) : Int := p.1 / 128
def hq (l : List Int) : List KI := (l.zipIdx).map fun p => (p.1 * 128 + (p.2 : Int), 0)
theorem sorted_ext : ∀ {l r : List Int}, l.Pairwise (· < ·) → r.Pairwise (· < ·) → (∀ z, z ∈ l ↔ z ∈ r) → l = r
 | [], [], _, _, _ => rfl
 | [], y :: r, _, _, h => absurd ((h y).2 (List.mem_cons_self ..)) (List.not_mem_nil)
 | x :: l, [], _, _, h => absurd ((h x).1 (List.mem_cons_self ..)) (List.not_mem_nil)
 | x :: l, y :: r, h1, h2, h => by
  obtain ⟨a1, a2⟩ := List.pairwise_cons.1 h1; obtain ⟨b1, b2⟩ := List.pairwise_cons.1 h2
  have e : x = y := by
   rcases List.mem_cons.1 ((h x).1 (List.mem_cons_self ..)) with e | e
   · exact e
   · rcases List.mem_cons.1 ((h y).2 (List.mem_cons_self ..)) with e2 | e2
     · exact e2.symm
     · have := b1 x e; have := a1 y e2; omega
  subst e
  congr 1
  refine sorted_ext a2 b2 fun z => ⟨fun hz => ?_, fun hz => ?_⟩
  · rcases List.mem_cons.1 ((h z).1 (List.mem_cons_of_mem _ hz)) with e | e
    · subst e; have := a1 z hz; omega
    · exact e
  · rcases List.mem_cons.1 ((h z).2 (List.mem_cons_of_mem _ hz)) with e | e
    · subst e; have := b1 z hz; omega
    · exact e
def byV (rows : List KI) (low high : Int) : List Int := (List.range (high + 1 - low).toNat).flatMap fun (d : Nat) => (List.range 64).flatMap fun (k : Nat) => (rows.filter fun x => x.2 == low + (d : Int) && x.1 == (k : Int)).map fun _ => (low + (d : Int)) * 64 + (k : Int)
structure IX (rows index : List KI) : Prop where
 asc : Asc ltK rows
 asi : Asc ltK index
 rg : ∀ r ∈ rows, 0 ≤ r.1 ∧ r.1 < 64 ∧ 0 ≤ r.2 ∧ r.2 < 256
 ix : ∀ p, p ∈ index ↔ ∃ r ∈ rows, p = (r.2 * 64 + r.1, 0)
theorem IX.nil : IX [] [] := ⟨List.Pairwise.nil, List.Pairwise.nil, fun _ h => absurd h List.not_mem_nil, fun p => ⟨fun h => absurd h List.not_mem_nil, fun ⟨_, h, _⟩ => absurd h List.not_mem_nil⟩⟩
def ixDel (rows index : List KI) (k : Int) : List KI := match lget ltK rows (k, 0) with
 | some r => ldel ltK index (r.2 * 64 + k, 0)
 | none => index
theorem IX.del {rows index : List KI} (I : IX rows index) {k : Int} (h0 : 0 ≤ k) (h1 : k < 64) : Asc ltK (ixDel rows index k) ∧ ∀ p, p ∈ ixDel rows index k ↔ ∃ r ∈ rows, r.1 ≠ k ∧ p = (r.2 * 64 + r.1, 0) := by
 unfold ixDel
 cases hg : lget ltK rows (k, 0) with
 | none =>
  have hn := lgetK_nk I.asc hg
  refine ⟨I.asi, fun p => ?_⟩
  rw [I.ix]; exact ⟨fun ⟨r, hr, e⟩ => ⟨r, hr, hn r hr, e⟩, fun ⟨r, hr, _, e⟩ => ⟨r, hr, e⟩⟩
 | some r0 =>
  obtain ⟨hr0, e0⟩ := lgetK_key hg
  have e0 : r0.1 = k := e0
  refine ⟨ldelK_asc I.asi, fun p => ?_⟩
  dsimp only
  rw [mem_ldelK I.asi, I.ix]
  have g0 := I.rg r0 hr0
  constructor
  · rintro ⟨⟨r, hr, rfl⟩, hne⟩
    refine ⟨r, hr, fun e => hne ?_, rfl⟩
    have : lget ltK rows (k, 0) = some r := lgetK_mem I.asc hr e
    rw [hg] at this
    cases this
    rw [e]
  · rintro ⟨r, hr, hne, rfl⟩
    refine ⟨⟨r, hr, rfl⟩, fun e => hne ?_⟩
    have e : r.2 * 64 + r.1 = r0.2 * 64 + k := e
    have := I.rg r hr
    omega
theorem IX.delete {rows index : List KI} (I : IX rows index) {k : Int} (h0 : 0 ≤ k) (h1 : k < 64) : IX (ldel ltK rows (k, 0)) (ixDel rows index k) := by
 obtain ⟨d1, d2⟩ := I.del h0 h1; refine ⟨ldelK_asc I.asc, d1, fun r hr => I.rg r ((mem_ldelK I.asc).1 hr).1, fun p => ?_⟩
 rw [d2]
 constructor
 · rintro ⟨r, hr, hne, e⟩
   exact ⟨r, (mem_ldelK I.asc).2 ⟨hr, hne⟩, e⟩
 · rintro ⟨r, hr, e⟩
   have := (mem_ldelK I.asc).1 hr
   exact ⟨r, this.1, this.2, e⟩
theorem IX.set {rows index : List KI} (I : IX rows index) {k v : Int} (h0 : 0 ≤ k) (h1 : k < 64) (h2 : 0 ≤ v) (h3 : v < 256) : IX (lput ltK rows (k, v)) (lput ltK (ixDel rows index k) (v * 64 + k, 0)) := by
 obtain ⟨d1, d2⟩ := I.del h0 h1; refine ⟨lputK_asc I.asc, lputK_asc d1, fun r hr => ?_, fun p => ?_⟩
 · rcases (mem_lputK I.asc).1 hr with e | e
   · rw [e]; exact ⟨h0, h1, h2, h3⟩
   · exact I.rg r e.1
 · rw [mem_lputK d1, d2]
   constructor
   · rintro (rfl | ⟨⟨r, hr, hne, e⟩, _⟩)
     · exact ⟨(k, v), (mem_lputK I.asc).2 (.inl rfl), rfl⟩
     · exact ⟨r, (mem_lputK I.asc).2 (.inr ⟨hr, hne⟩), e⟩
   · rintro ⟨r, hr, e⟩
     rcases (mem_lputK I.asc).1 hr with e2 | ⟨e2, hne⟩
     · left; rw [e, e2]
     · right
       refine ⟨⟨r, e2, hne, e⟩, fun e3 => hne ?_⟩
       rw [e] at e3
       have e3 : r.2 * 64 + r.1 = v * 64 + k := e3
       have := I.rg r e2
       omega
theorem mem_byV {rows : List KI} (hrg : ∀ r ∈ rows, 0 ≤ r.1 ∧ r.1 < 64 ∧ 0 ≤ r.2 ∧ r.2 < 256) {low high z : Int} : z ∈ byV rows low high ↔ ∃ r ∈ rows, low ≤ r.2 ∧ r.2 ≤ high ∧ z = r.2 * 64 + r.1 := by
 unfold byV
 simp only [List.mem_flatMap, List.mem_range, List.mem_map, List.mem_filter, Bool.and_eq_true, beq_iff_eq]
 constructor
 · rintro ⟨d, hd, k, hk, r, ⟨hr, e1, e2⟩, rfl⟩
   exact ⟨r, hr, by omega, by omega, by rw [e1, e2]⟩
 · rintro ⟨r, hr, h1, h2, rfl⟩
   have := hrg r hr
   exact ⟨(r.2 - low).toNat, by omega, r.1.toNat, by omega, r, ⟨hr, by omega, by omega⟩, by omega⟩
theorem byV_asc {rows : List KI} (ha : Asc ltK rows) (low high : Int) : (byV rows low high).Pairwise (· < ·) := by
 unfold byV; rw [List.pairwise_flatMap]; refine ⟨fun d _ => ?_, ?_⟩
 · rw [List.pairwise_flatMap]
   refine ⟨fun k _ => ?_, ?_⟩
   · rw [List.pairwise_map]
     refine (ha.sublist List.filter_sublist).imp_of_mem fun {a b} h1 h2 h3 => ?_; rw [List.mem_filter] at h1 h2
     have h1 := h1.2
     have h2 := h2.2
     simp at h1 h2
     have := ltK_t.1 h3
     omega
   · refine List.pairwise_lt_range.imp fun {a b} hab x hx y hy => ?_
     obtain ⟨_, _, rfl⟩ := List.mem_map.1 hx; obtain ⟨_, _, rfl⟩ := List.mem_map.1 hy
     omega
 · refine List.pairwise_lt_range.imp fun {a b} hab x hx y hy => ?_
   obtain ⟨i, hi, hx⟩ := List.mem_flatMap.1 hx; obtain ⟨j, hj, hy⟩ := List.mem_flatMap.1 hy; obtain ⟨_, _, rfl⟩ := List.mem_map.1 hx; obtain ⟨_, _, rfl⟩ := List.mem_map.1 hy
   have hi := List.mem_range.1 hi
   have hj := List.mem_range.1 hj
   omega
theorem ascK_keys {l : List KI} (h : Asc ltK l) : (l.map Prod.fst).Pairwise (· < ·) := by
 rw [List.pairwise_map]; exact h.imp fun e => ltK_t.1 e
theorem IX.all {rows index : List KI} (I : IX rows index) : index.map Prod.fst = byV rows 0 255 := by
 refine sorted_ext (ascK_keys I.asi) (byV_asc I.asc 0 255) fun z => ?_; rw [mem_byV I.rg, List.mem_map]
 constructor
 · rintro ⟨p, hp, rfl⟩
   obtain ⟨r, hr, rfl⟩ := (I.ix p).1 hp
   have := I.rg r hr
   exact ⟨r, hr, by omega, by omega, rfl⟩
 · rintro ⟨r, hr, _, _, rfl⟩
   exact ⟨_, (I.ix _).2 ⟨r, hr, rfl⟩, rfl⟩
theorem IX.some {rows index : List KI} (I : IX rows index) (low high : Int) : ((index.drop (pos ltK index (low * 64, 0))).filter fun x => decide (x.1 / 64 ≤ high)).map Prod.fst = byV rows low high := by
 have hp := asc_pos swoK I.asi (x := (low * 64, 0))
 have hd : ∀ p, p ∈ index.drop (pos ltK index (low * 64, 0)) ↔ p ∈ index ∧ low * 64 ≤ p.1 := fun p => by
  constructor
  · exact fun h => ⟨List.mem_of_mem_drop h, ltK_f.1 (hp.2 p h)⟩
  · rintro ⟨h1, h2⟩
    rw [← List.take_append_drop (pos ltK index (low * 64, 0)) index] at h1
    rcases List.mem_append.1 h1 with h | h
    · have := ltK_t.1 (hp.1 p h)
      have this : p.1 < low * 64 := this
      omega
    · exact h
 refine sorted_ext (ascK_keys ((I.asi.sublist (List.drop_sublist _ _)).sublist List.filter_sublist)) (byV_asc I.asc low high) fun z => ?_; rw [mem_byV I.rg, List.mem_map]
 constructor
 · rintro ⟨p, h, rfl⟩
   rw [List.mem_filter, hd] at h; obtain ⟨⟨h1, h2⟩, h3⟩ := h; obtain ⟨r, hr, rfl⟩ := (I.ix p).1 h1
   have := I.rg r hr
   have h3 : (r.2 * 64 + r.1) / 64 ≤ high := by simpa using h3
   have h2 : low * 64 ≤ r.2 * 64 + r.1 := h2
   exact ⟨r, hr, by omega, by omega, rfl⟩
 · rintro ⟨r, hr, h1, h2, rfl⟩
   have := I.rg r hr
   refine ⟨(r.2 * 64 + r.1, 0), ?_, rfl⟩
   rw [List.mem_filter, hd]; refine ⟨⟨(I.ix _).2 ⟨r, hr, rfl⟩, by show low * 64 ≤ r.2 * 64 + r.1; omega⟩, ?_⟩
   have : (r.2 * 64 + r.1) / 64 ≤ high := by omega
   simpa using this
end Go.Hp
end
section
namespace Go.Proofs.YthpmeccnddchpaaGreat.Gi
open Go.Hp Go.Proofs.YthpmeccnddchpaaGreat
section
variable {h0 h : Heap} {Z E : List Rg} {Q : Value → Heap → Prop} {lt : It → It → Bool} {lf : Value} {ow : List Int} {ov : Value}
structure OwAt (h : Heap) (ow : List Int) (ov : Value) : Prop where
 rd : Rdl 1 h ov ow.length (ow.flatMap fi)
 le : ow.length ≤ 2147483647
theorem OwAt.st {h' : Heap} {E' : List Rg} (o : OwAt h ow ov) (s : St h [] E' h') : OwAt h' ow ov := ⟨o.rd.st s, o.le⟩
theorem OwAt.fr {h' : Heap} (o : OwAt h ow ov) (s : Fr (fun _ _ => False) h h') : OwAt h' ow ov := ⟨o.rd.fr s (fun _ _ e => e), o.le⟩
theorem OwAt.nil (h : Heap) : OwAt h [] (.slice none 0 0) := ⟨Rdl.nil 1 h, by decide⟩
theorem OwAt.one (o : OwAt h ow ov) : one1 ov = true := o.rd.one
end
variable {h0 h : Heap} {Z E : List Rg} {Q : Value → Heap → Prop} {lt : It → It → Bool} {lf : Value}
theorem join2 {r : Rg} {E' : List Rg} {h' : Heap} (s : St h0 Z E h) (k : St h [] (r :: E') h') : St h0 Z (r :: (E' ++ E)) h' := s.join k
theorem one3 {a b c : Value} (h1 : one1 a = true) (h2 : one1 b = true) (h3 : one1 c = true) : ∀ y ∈ [a, b, c], one1 y = true := by
 intro y hy
 simp only [List.mem_cons, List.not_mem_nil, or_false] at hy
 rcases hy with rfl | rfl | rfl <;> assumption
theorem options_ok {ov : Value} {d : Int} {nl : Bool} (h1 : one1 ov = true) (H : ∀ E' h', St h [] E' h' → Q (.agg #[.int .i64 d, .bool nl]) h') : z1v_.call #[.agg #[ov, .int .i64 d, .bool nl]] h Q := by
 refine z1v_.body _ _ _ ?_; unfold z1v_.sh
 have s := St.start h
 refine St.r_box (cs := [ov, .int .i64 d, .bool nl]) s fun t1 h s => ?_; refine s.r_alloc fun t2 h s => ?_; refine r_fld (St.r_load0 s 1 rfl rfl (r_fld (St.r_load0 s 1 rfl rfl ?_)))
 ((apply r_build; ((simp only [fillV, fill1, Value.cells, Nat.reduceAdd, Nat.reduceMul, Nat.reduceLeDiff, Nat.reduceEqDiff, reduceIte, PF] <;> rfl))))
 (refine St.r_storeN0 s 0 rfl rfl (by simp) (by simp [one1]) ?_; intro h s; try simp only [P2] at s)
 refine St.r_loadN0 s 0 rfl (by simp) ?_; exact H _ _ s
structure Tr (b : Heap) (Z : List Rg) (ow : List Int) (d : Nat) (tb : Nat) (g : Rt) (A E : List Rg) (lf : Value) (cb : Nat) (h : Heap) : Prop where
 ord : OrdA A lf (ltO ow)
 ok : TreeOk (ltO ow) (dmax d) 1 g
 st : St b Z ((tb, 0, hdr 1 (some ⟨cb, 0, none⟩) (rA g) (rPt g).items.length lf (dmin d : Nat) (dmax d : Nat)) :: (rAll g ++ (A ++ E))) h
theorem grow_ok {ow : List Int} {ov v : Value} {d : Nat} {nl : Bool} {l : List It} (ho : OwAt h ow ov) (hd : d = 0 ∨ 2 ≤ d) (hd2 : d ≤ 512) (hr : Rdl 2 h v l.length (l.flatMap enc)) (hl : l.length ≤ 1073741824)
  (H : ∀ tb g lf cb A E' h', rPt g = l.foldl (MT.set (ltO ow) (dmax d)) none → Tr h [] ow d tb g A E' lf cb h' → Q (ptr tb 0) h') : z2f_.call #[.agg #[ov, .int .i64 d, .bool nl], v] h Q := by
 obtain ⟨m3, m1, mo, _, mn0⟩ := dmax_ok hd hd2; refine z2f_.body _ _ _ _ ?_; unfold z2f_.sh
 have s := St.start h
 refine St.r_box (cs := [ov, .int .i64 d, .bool nl]) s fun t2 h1 s => ?_; refine r_fld (St.r_load0 s 0 rfl rfl ?_)
 refine St.r_loadN0 s 0 rfl (by simp) ?_; refine before_ok (ho.st s).rd ho.le fun lf A E1 h1 hA s1 => ?_
 have s := (s.join s1).perm List.perm_append_comm
 refine ⟨St.r_stillN0 s 0 (j := 0) rfl (by simp) rfl, ?_⟩
 refine options_ok ho.one fun E2 h1 s2 => ?_
 have s := (s.join s2).perm List.perm_append_comm
 refine New_ok s hd hd2 ((hA A fun _ h => h).one) fun tb cb h1 s => ?_; refine (hr.st s).lenV ?_
 refine loop_intro (fun t h' => ∃ (j : Nat) (g : Rt) (R : List Rg), t = [.int .i64 j] ∧ j ≤ l.length ∧ rPt g = (l.take j).foldl (MT.set (ltO ow) (dmax d)) none ∧ (rPt g).items.length ≤ j ∧ Tr h [] ow d tb g A R lf cb h') (fun t _ => l.length - (Hp.iv (t.getD 0 undef)).toNat)
  ⟨0, none, ((cb, 0, [.int .u64 1]) :: (t2, 0, [ov, .int .i64 d, .bool nl]) :: (E1 ++ E2)), rfl, by omega, rfl, Nat.le_refl _, hA, TreeOk.none m3 m1 mo, s.perm (by simp only [rAll]; ((apply perm_rg; intro f; simp only [PS]; ac_rfl)))⟩ ?_
 clear s
 rintro t h1 ⟨j, g, R, rfl, hj, hg, hgl, T⟩
 have s := T.st
 unfold z2f_.l2.b; refine r_cmpI ?_; refine r_if (fun hlt => ?_) (fun hge => ?_)
 · have hlt : j < l.length := by simp at hlt; omega
   unfold z2f_.j3; refine hr.at (n := j) (f := enc) rfl encl rfl rfl hlt fun b o hb => ?_; refine (hb.st s).loadN rfl ?_; refine s.r_alloc fun t7 h1 s => ?_; refine St.r_storeN0 s 0 rfl rfl (by simp) (enc1 l[j]) ?_; intro h1 s
   refine St.r_loadN0 s 0 rfl (by simp) ?_; refine Set_ok (mn := (dmin d : Nat)) (swoO ow) hA (x := l[j]) (E := (t7, 0, enc l[j]) :: R) T.ok (by omega) (by omega) (s.perm (by ((apply perm_rg; intro f; simp only [PS]; ac_rfl)))) fun g' h1 e M' s => ?_; unfold z2f_.j4; refine r_add1 (by omega) ?_
   have hset := (MT.set_items (x := l[j]) (swoO ow) mo m3 T.ok.fl T.ok.asc).1
   refine ⟨⟨j + 1, g', (t7, 0, enc l[j]) :: R, rfl, hlt, ?_, ?_, hA, M', s⟩, by simp; omega⟩
   · rw [e, hg, List.take_succ_eq_append_getElem hlt, List.foldl_append]; rfl
   · rw [e, hset, lput_length]; split <;> omega
 · have hge : j = l.length := by simp at hge; omega
   subst hge; rw [List.take_length] at hg; unfold z2f_.j1; exact H tb g lf cb A R h1 hg T
abbrev foundC (o : Option It) : List Value := match o with
 | some p => [.int .i64 p.1, .int .i64 p.2, .bool true]
 | none => [.int .i64 0, .int .i64 0, .bool false]
theorem foundC_len (o : Option It) : (foundC o).length = 3 := by cases o <;> rfl
theorem foundC_one (o : Option It) : ∀ y ∈ foundC o, one1 y = true := by cases o <;> simp [one1]
theorem found_ok {o : Option It} (H : ∀ E' h', St h [] E' h' → Q (.agg (foundC o).toArray) h') : z29_.call #[old o, .bool o.isSome] h Q := by
 refine z29_.body _ _ _ _ ?_; unfold z29_.sh
 have s := St.start h
 refine St.r_box (cs := enc (o.getD emp)) s fun t2 h s => ?_; refine s.r_alloc fun t4 h s => ?_; refine r_not ?_
 cases o with
 | none =>
  refine r_if (fun _ => ?_) (fun e => absurd e (by simp))
  ((apply r_build; ((simp only [fillV, fill1, Value.cells, Nat.reduceAdd, Nat.reduceMul, Nat.reduceLeDiff, Nat.reduceEqDiff, reduceIte, PF] <;> rfl))))
  (refine St.r_storeN0 s 0 rfl rfl (by simp) (by simp [one1]) ?_; intro h s; try simp only [P2] at s)
  refine St.r_loadN0 s 0 rfl (by simp) ?_; exact H _ _ s
 | some p =>
  refine r_if (fun e => absurd e (by simp)) (fun _ => ?_)
  unfold z29_.j1; refine St.r_loadN0 s 1 rfl (by simp) ?_
  ((apply r_build; ((simp only [fillV, fill1, Value.cells, Nat.reduceAdd, Nat.reduceMul, Nat.reduceLeDiff, Nat.reduceEqDiff, reduceIte, PF] <;> rfl))))
  (refine St.r_storeN0 s 0 rfl rfl (by simp) (by simp [one1]) ?_; intro h s; try simp only [P2] at s)
  refine St.r_loadN0 s 0 rfl (by simp) ?_; exact H _ _ s
theorem ltO_nil : ltO [] = ltK := by
 funext a b; rfl
theorem setK_one {m : Nat} {g : Rt} {x : It} (mo : m % 2 = 1) (m3 : 3 ≤ m) (f : (rPt g).Fl m) (ha : Asc (ltO []) (rPt g).items) : ((rPt g).set (ltO []) m x).items = lput ltK (rPt g).items x := by
 have := (MT.set_items (x := x) (swoO []) mo m3 f ha).1
 rw [ltO_nil] at this ⊢; exact this
theorem items_setK {m : Nat} (mo : m % 2 = 1) (m3 : 3 ≤ m) : ∀ l : List It, (l.foldl (MT.set (ltO []) m) none).items = setK l ∧ (l.foldl (MT.set (ltO []) m) none).Fl m := by
 refine asc_rev (P := fun l => (l.foldl (MT.set (ltO []) m) none).items = setK l ∧ (l.foldl (MT.set (ltO []) m) none).Fl m) ⟨rfl, trivial⟩ fun l x ⟨i1, i2⟩ => ?_; rw [List.foldl_append, setK_snoc]
 have h := MT.set_items (x := x) (swoO []) mo m3 i2 (by rw [i1, ltO_nil]; exact setK_asc l)
 refine ⟨?_, h.2⟩
 have h1 := h.1
 rw [i1] at h1
 show (MT.set (ltO []) m (l.foldl (MT.set (ltO []) m) none) x).items = _
 rw [h1, ltO_nil]
abbrev mk (d : Nat) : Value := .agg #[.slice none 0 0, .int .i64 d, .bool true]
theorem byKeys_ok {d : Int} (H : ∀ E' h', St h [] E' h' → Q (.agg #[.slice none 0 0, .int .i64 d, .bool true]) h') : z23_.call #[.int .i64 d] h Q := by
 refine z23_.body _ _ _ ?_; unfold z23_.sh
 have s := St.start h
 refine s.r_alloc fun t2 h s => ?_; refine r_build (cs := [.slice none 0 0, .int .i64 d, .bool true]) rfl ?_; refine St.r_storeN0 s 0 (ys := [.slice none 0 0, .int .i64 d, .bool true]) rfl rfl (by simp) (one3 rfl rfl rfl) ?_; intro h s
 refine St.r_loadN0 s 0 rfl (by simp) ?_; exact H _ _ s
theorem GItemsO_ok {l : List It} {v : Value} {d : Nat} {nl : Bool} (hd : d = 0 ∨ 2 ≤ d) (hd2 : d ≤ 512) (hr : Rdl 2 h v l.length (l.flatMap enc)) (hl : l.length ≤ 1073741824)
  (H : ∀ v' b o sp E' h', Own 2 v' (setK l).length b o ((setK l).flatMap enc) sp → St h [] ((b, o, (setK l).flatMap enc ++ sp) :: E') h' → Q v' h') : z20_.call #[.agg #[.slice none 0 0, .int .i64 d, .bool nl], v] h Q := by
 obtain ⟨m3, m1, mo, me, mn0⟩ := dmax_ok hd hd2; refine z20_.body _ _ _ _ ?_; unfold z20_.sh
 have s := St.start h
 refine St.r_box (cs := [.slice none 0 0, .int .i64 d, .bool nl]) s fun t2 h1 s => ?_; refine St.r_loadN0 s 0 rfl (by simp) ?_; refine grow_ok (OwAt.nil _) hd hd2 (hr.st s) hl fun tb g lf cb A E1 h1 hg T => ?_
 have s := s.join T.st
 have e1 := (items_setK mo m3 l).1
 rw [← hg] at e1
 have hle := setK_len l
 refine Items_ok T.ok (by rw [e1]; omega) (E := A ++ E1 ++ [(t2, 0, [.slice none 0 0, .int .i64 d, .bool nl])]) (s.perm (by ((apply perm_rg; intro f; simp only [PS]; ac_rfl)))) fun v' b o sp h2 w s => ?_; rw [e1] at w s; exact H _ _ _ _ _ _ w s
theorem GItems_ok {l : List It} {v : Value} {d : Nat} {nl : Bool} (hd : d = 0 ∨ 2 ≤ d) (hd2 : d ≤ 512) (hr : Rdl 2 h v l.length (l.flatMap enc)) (hl : l.length ≤ 1073741824)
  (H : ∀ v' E' h', St h [] E' h' → Rdl 2 h' v' (setK l).length ((setK l).flatMap enc) → Q v' h') : z20_.call #[.agg #[.slice none 0 0, .int .i64 d, .bool nl], v] h Q :=
 GItemsO_ok hd hd2 hr hl fun v' b o sp E' h' w s => H _ _ _ s (w.rdl s 0 rfl)
theorem exMake_ok (H : ∀ E' h', St h [] E' h' → Q (.agg #[.slice none 0 0, .int .i64 2, .bool false]) h') : z24_.call #[] h Q := by
 refine z24_.body _ _ ?_; unfold z24_.sh
 have s := St.start h
 refine s.r_alloc fun t0 h s => ?_
 ((apply r_build; ((simp only [fillV, fill1, Value.cells, Nat.reduceAdd, Nat.reduceMul, Nat.reduceLeDiff, Nat.reduceEqDiff, reduceIte, PF] <;> rfl))))
 (refine St.r_storeN0 s 0 rfl rfl (by simp) (by simp [one1]) ?_; intro h s; try simp only [P2] at s)
 refine St.r_loadN0 s 0 rfl (by simp) ?_; exact H _ _ s
def exI : List It := [(5, 1), (3, 2), (9, 3), (3, 4), (1, 5), (7, 6), (8, 7)]
theorem alive_ok (H : ∀ E' h', St h [] E' h' → Q (.bool true) h') : z2b_.call #[] h Q := by
 refine z2b_.body _ _ ?_; unfold z2b_.sh; refine exMake_ok fun E0 h1 s => ?_; refine z1x_.body _ _ ?_; unfold z1x_.sh
 (apply r_build; (simp only [fillV, fill1, Value.cells, Nat.reduceAdd, Nat.reduceMul, Nat.reduceLeDiff, Nat.reduceEqDiff, reduceIte, PF] <;> rfl))
 (apply r_build; (simp only [fillV, fill1, Value.cells, Nat.reduceAdd, Nat.reduceMul, Nat.reduceLeDiff, Nat.reduceEqDiff, reduceIte, PF] <;> rfl))
 (apply r_build; (simp only [fillV, fill1, Value.cells, Nat.reduceAdd, Nat.reduceMul, Nat.reduceLeDiff, Nat.reduceEqDiff, reduceIte, PF] <;> rfl))
 (apply r_build; (simp only [fillV, fill1, Value.cells, Nat.reduceAdd, Nat.reduceMul, Nat.reduceLeDiff, Nat.reduceEqDiff, reduceIte, PF] <;> rfl))
 (apply r_build; (simp only [fillV, fill1, Value.cells, Nat.reduceAdd, Nat.reduceMul, Nat.reduceLeDiff, Nat.reduceEqDiff, reduceIte, PF] <;> rfl))
 (apply r_build; (simp only [fillV, fill1, Value.cells, Nat.reduceAdd, Nat.reduceMul, Nat.reduceLeDiff, Nat.reduceEqDiff, reduceIte, PF] <;> rfl))
 (apply r_build; (simp only [fillV, fill1, Value.cells, Nat.reduceAdd, Nat.reduceMul, Nat.reduceLeDiff, Nat.reduceEqDiff, reduceIte, PF] <;> rfl))
 refine St.r_mkSl (sz := 2) (cs := exI.flatMap enc) s (by ((simp only [fillV, fill1, Value.cells, Nat.reduceAdd, Nat.reduceMul, Nat.reduceLeDiff, Nat.reduceEqDiff, reduceIte, PF] <;> rfl))) rfl fun q h1 s w => ?_
 have w : Own 2 (.slice (some ⟨q, 0, none⟩) 7 7) exI.length q 0 (exI.flatMap enc) [] := w
 have s : St h [] ((q, 0, exI.flatMap enc ++ []) :: E0) h1 := s
 refine (w.rdl s 0 rfl).slc (l := 0) (m := 3) rfl ⟨_, _, rfl, by decide, by decide, rfl⟩ (by decide) (by decide) fun v' r => ?_; rw [Nat.zero_mul, List.drop_zero, Nat.sub_zero, flat_take encl exI 3 (by decide)] at r; refine GItems_ok (l := exI.take 3) (d := 2) (.inr (by decide)) (by decide) r (by decide) fun v2 E' h' s2 r2 => ?_; refine r2.lenV ?_; refine r_cmpI ?_
 have e : (setK (exI.take 3)).length = 3 := by decide +kernel
 rw [e]; exact H _ _ (s.join s2)
end Go.Proofs.YthpmeccnddchpaaGreat.Gi
end
section
namespace Go.Proofs.YthpmeccnddchpaaGreat.Gi
open Go.Hp Go.Proofs.YthpmeccnddchpaaGreat
variable {h0 h : Heap} {Z E : List Rg} {Q : Value → Heap → Prop} {lt : It → It → Bool} {lf : Value}
theorem push_ok {F : List (Option It)} {o : Option It} {v : Value} {b off k : Nat} {sp : List Value} {KV : Value → Heap → Prop} (s : St h0 Z E h) (hk : E[k]? = some (b, off, F.flatMap foundC ++ sp)) (w : Own 3 v F.length b off (F.flatMap foundC) sp) (hF : F.length ≤ 2147483647)
  (H : ∀ v' b' o' sp' q h', St h0 Z ((q, 0, foundC o) :: E.set k (b', o', (F ++ [o]).flatMap foundC ++ sp')) h' → Own 3 v' (F ++ [o]).length b' o' ((F ++ [o]).flatMap foundC) sp' → KV v' h') :
  mkSl (if 1 * 3 = 0 then [] else zeros [(.int .i64 0), (.int .i64 0), (.bool false)] 1) 1 [(0 * 3, 3, .agg (foundC o).toArray)] 38 h fun t35 h => app 38 3 24 [(.int .i64 0), (.int .i64 0), (.bool false)] v t35 h KV := by
 refine St.r_mkSl (sz := 3) (cs := foundC o) s (by rcases o with _ | p <;> ((simp only [fillV, fill1, Value.cells, Nat.reduceAdd, Nat.reduceMul, Nat.reduceLeDiff, Nat.reduceEqDiff, reduceIte, PF] <;> rfl))) (by cases o <;> rfl) fun q h s wq => ?_; refine s.r_appL (f := foundC) (L := F) (M := [o]) (k + 1) hk w rfl (by have := wq.rdl s 0 (by rw [List.append_nil]; rfl); simpa using this) (fun y _ => foundC_one y) (by rw [List.length_singleton]; omega) (by rw [List.length_singleton]; omega) fun v' b' o' sp' h s w' => ?_; exact H v' b' o' sp' q h s w'
theorem GSetO_ok {l : List It} {v : Value} {d : Nat} {nl : Bool} (hd : d = 0 ∨ 2 ≤ d) (hd2 : d ≤ 512) (hr : Rdl 2 h v l.length (l.flatMap enc)) (hl : l.length ≤ 1073741824)
  (H : ∀ w v' b o sp E' h', Own 2 v' (setK l).length b o ((setK l).flatMap enc) sp → St h [] ((b, o, (setK l).flatMap enc ++ sp) :: E') h' → Q (.tuple #[w, v']) h') : z2c_.call #[.agg #[.slice none 0 0, .int .i64 d, .bool nl], v] h Q := by
 obtain ⟨m3, m1, mo, me, mn0⟩ := dmax_ok hd hd2; refine z2c_.body _ _ _ _ ?_; unfold z2c_.sh
 have s := St.start h
 refine St.r_box (cs := [.slice none 0 0, .int .i64 d, .bool nl]) s fun t2 h1 s => ?_; refine St.r_loadN0 s 0 rfl (by simp) ?_; refine grow_ok (l := []) (OwAt.nil _) hd hd2 (Rdl.nil 2 _) (by simp) fun tb g lf cb A E1 h1 hg T => ?_
 have s := s.join T.st
 have hO := T.ord
 have e0 : rPt g = none := hg
 refine (hr.st s).lenV ?_
 refine loop_ghost (fun q st h' => ∃ (j : Nat) (v1 : Value) (b1 o1 : Nat) (p1 : List Value) (F : List (Option It)) (g : Rt) (R : List Rg), q = l.length - j ∧ j ≤ l.length ∧ st = [v1, .int .i64 (j : Nat)] ∧ F.length = j ∧ (rPt g).items = setK (l.take j) ∧ TreeOk (ltO []) (dmax d) 1 g ∧ Own 3 v1 F.length b1 o1 (F.flatMap foundC) p1 ∧
   St h [] ((b1, o1, F.flatMap foundC ++ p1) :: (tb, 0, hdr 1 (some ⟨cb, 0, none⟩) (rA g) (rPt g).items.length lf (dmin d : Nat) (dmax d : Nat)) :: (rAll g ++ (A ++ R))) h') (n0 := l.length)
  ⟨0, .slice none 0 0, 0, 0, [], [], g, E1 ++ [(t2, 0, [.slice none 0 0, .int .i64 d, .bool nl])], rfl, Nat.zero_le _, rfl, rfl, by rw [e0]; rfl, T.ok, Own.nil 3 0 0, (s.empty 0 0).perm (by ((apply perm_rg; intro f; simp only [PS]; ac_rfl)))⟩ ?_
 clear s T e0 hg; clear g
 rintro q st h1 ⟨j, v1, b1, o1, p1, F, g, R, rfl, hj, rfl, hF, e, M, w1, s⟩ K HK
 unfold z2c_.l2.b; refine r_cmpI ?_; refine r_if (fun hlt => ?_) (fun hge => ?_)
 · have hlt : j < l.length := by have := of_decide_eq_true hlt; omega
   have hle := setK_len (l.take j)
   rw [List.length_take] at hle; unfold z2c_.j3; refine (hr.st s).at (n := j) rfl encl rfl rfl hlt fun b o hb => ?_; refine hb.loadN rfl ?_; refine s.r_alloc fun t9 h1 s => ?_; refine St.r_storeN0 s 0 rfl rfl (by simp) (enc1 _) ?_; intro h1 s
   have s : St h [] ((t9, 0, enc l[j]) :: (b1, o1, F.flatMap foundC ++ p1) :: (tb, 0, hdr 1 (some ⟨cb, 0, none⟩) (rA g) (rPt g).items.length lf (dmin d : Nat) (dmax d : Nat)) :: (rAll g ++ (A ++ R))) h1 := s
   refine St.r_loadN0 s 0 rfl (by simp) ?_; refine Set_ok (mn := (dmin d : Nat)) (swoO []) hO (x := l[j]) (E := (t9, 0, enc l[j]) :: (b1, o1, F.flatMap foundC ++ p1) :: R) M (by omega) (by rw [e]; omega) (s.perm (by ((apply perm_rg; intro f; simp only [PS]; ac_rfl)))) fun g' h1 e1 M' s => ?_
   have e2 : (rPt g').items = setK (l.take (j + 1)) := by
    rw [e1, List.take_succ_eq_append_getElem hlt, setK_snoc, ← e]; exact setK_one mo m3 M.fl M.asc
   refine r_ext rfl (r_ext rfl ?_)
   refine found_ok fun E2 h1 s2 => ?_
   have s := s.join s2
   have s : St h [] ((b1, o1, F.flatMap foundC ++ p1) :: (tb, 0, hdr 1 (some ⟨cb, 0, none⟩) (rA g') (rPt g').items.length lf (dmin d : Nat) (dmax d : Nat)) :: (rAll g' ++ (A ++ (R ++ ((t9, 0, enc l[j]) :: E2))))) h1 := s.perm (by ((apply perm_rg; intro f; simp only [PS]; ac_rfl)))
   refine push_ok s (k := 0) rfl w1 (by omega) fun v' b' o' sp' q h1 s w' => ?_; unfold z2c_.j4; refine r_add1 (by omega) ?_; refine HK (l.length - (j + 1)) _ _ (by omega) ⟨j + 1, v', b', o', sp', _, g', (q, 0, foundC _) :: (R ++ ((t9, 0, enc l[j]) :: E2)), rfl, hlt, rfl, by rw [List.length_append, hF]; rfl, e2, M', w', s.perm (by simp only [List.set_cons_zero]; ((apply perm_rg; intro f; simp only [PS]; ac_rfl)))⟩
 · have hge : j = l.length := by have := of_decide_eq_false hge; omega
   subst hge; rw [List.take_length] at e
   have hle := setK_len l
   unfold z2c_.j1; refine Items_ok M (by rw [e]; omega) (E := A ++ R ++ [(b1, o1, F.flatMap foundC ++ p1)]) (s.perm (by ((apply perm_rg; intro f; simp only [PS]; ac_rfl)))) fun v' b o sp h2 w s => ?_; rw [e] at w s; exact H _ _ _ _ _ _ _ w s
theorem CloneI_ok {l : List It} {v : Value} (hr : Rdl 2 h v l.length (l.flatMap enc)) (hl : l.length ≤ 2147483647)
  (H : ∀ v' b o sp E' h', Own 2 v' l.length b o (l.flatMap enc) sp → St h [] ((b, o, l.flatMap enc ++ sp) :: E') h' → Q v' h') : z0b_.call #[v] h Q := by
 refine z0b_.body _ _ _ ?_; unfold z0b_.sh
 have s := St.start h
 have hr0 := hr
 obtain ⟨a, cap, e, _, hc, _⟩ := hr0; subst e; refine ⟨a, _, _, rfl, ?_⟩
 refine r_if (fun ha => ?_) (fun ha => ?_)
 · have : l = [] := by
    cases l with
    | nil => rfl
    | cons x r =>
     obtain ⟨b, o, e, _⟩ := hc (by simp); subst e; cases ha
   subst this; exact H _ 0 0 [] _ _ (Own.nil 2 0 0) (s.empty 0 0)
 · unfold z0b_.j1
   refine St.r_mkSl (sz := 2) (cs := []) s (by ((simp only [fillV, fill1, Value.cells, Nat.reduceAdd, Nat.reduceMul, Nat.reduceLeDiff, Nat.reduceEqDiff, reduceIte, PF] <;> rfl))) rfl fun q h s wq => ?_; refine s.r_appL (f := enc) (L := []) (M := l) 0 rfl wq rfl (hr.st s) (fun _ _ => enc1 _) (by simp; omega) (by simp; omega) fun v' b' o' sp' h s w' => ?_; exact H _ _ _ _ _ _ w' s
theorem withO_ok {l : List It} {v : Value} {d : Nat} {x : It} (hd : d = 0 ∨ 2 ≤ d) (hd2 : d ≤ 512) (hr : Rdl 2 h v l.length (l.flatMap enc)) (ha : Asc ltK l) (hl : l.length ≤ 1073741823)
  (H : ∀ v' b o sp E' h', Own 2 v' (lput ltK l x).length b o ((lput ltK l x).flatMap enc) sp → St h [] ((b, o, (lput ltK l x).flatMap enc ++ sp) :: E') h' → Q v' h') : z2i_.call #[mk d, v, av x] h Q := by
 refine z2i_.body _ _ _ _ _ ?_; unfold z2i_.sh
 have s := St.start h
 refine St.r_box (cs := [.slice none 0 0, .int .i64 d, .bool true]) s fun t3 h1 s => ?_; refine St.r_box (cs := enc x) s fun t5 h1 s => ?_; refine St.r_loadN0 s 1 rfl (by simp) ?_; refine St.r_loadN0 s 0 rfl (by simp) ?_
 have e2 : setK (l ++ [x]) = lput ltK l x := setK_put ha
 have fin : ∀ {b o q : Nat} {sp : List Value} {R : List Rg} {g1 : Heap} {vc : Value}, St h [] ((b, o, l.flatMap enc ++ sp) :: (q, 0, enc x) :: (t5, 0, enc x) :: (t3, 0, [.slice none 0 0, .int .i64 d, .bool true]) :: R) g1 → Own 2 vc l.length b o (l.flatMap enc) sp → Own 2 (.slice (some ⟨q, 0, none⟩) 1 1) 1 q 0 (enc x) [] →
   app 31 2 16 [(.int .i64 0), (.int .i64 0)] vc (.slice (some ⟨q, 0, none⟩) 1 1) g1 fun t15 h => stillN 3 (ptr t3 0) (.agg #[.slice none 0 0, .int .i64 d, .bool true]) h ∧ z2c_.call #[.agg #[.slice none 0 0, .int .i64 d, .bool true], t15] h fun t16 h => extr 0 t16 fun t17 => extr 1 t16 fun t18 => Q t18 h := fun {b o q sp R g1 vc} s w wq => by
  refine s.r_appL (f := enc) (L := l) (M := [x]) 0 rfl w rfl (by have := wq.rdl s 1 rfl; simpa using this) (fun _ _ => enc1 _) (by rw [List.length_singleton]; omega) (by rw [List.length_singleton]; omega) fun v' b' o' sp' g1 s w' => ?_
  have s : St h [] ((b', o', (l ++ [x]).flatMap enc ++ sp') :: (q, 0, enc x) :: (t5, 0, enc x) :: (t3, 0, [.slice none 0 0, .int .i64 d, .bool true]) :: R) g1 := s
  refine ⟨St.r_stillN0 s 3 (j := 0) rfl (by simp) rfl, ?_⟩
  refine GSetO_ok hd hd2 (w'.rdl s 0 rfl) (by rw [List.length_append, List.length_singleton]; omega) fun v1 v2 b2 o2 sp2 E2 g2 w2 s2 => ?_; rw [e2] at w2 s2; refine r_ext rfl (r_ext rfl ?_)
  exact H _ _ _ _ _ _ w2 (join2 s s2)
 refine ⟨?_, ?_⟩
 · refine CloneI_ok (hr.st s) (by omega) fun v' b o sp E6 g6 w6 s6 => ?_
   have s := s.join s6
   have s : St h [] ((b, o, l.flatMap enc ++ sp) :: (t5, 0, enc x) :: (t3, 0, [.slice none 0 0, .int .i64 d, .bool true]) :: E6) g6 := s.perm (by ((apply perm_rg; intro f; simp only [PS]; ac_rfl)))
   refine ⟨St.r_stillN0 s 2 (j := 0) rfl (by simp) rfl, St.r_stillN0 s 1 (j := 0) rfl (by simp) rfl, ?_⟩
   refine St.r_mkSl (sz := 2) (cs := enc x) s (by ((simp only [fillV, fill1, Value.cells, Nat.reduceAdd, Nat.reduceMul, Nat.reduceLeDiff, Nat.reduceEqDiff, reduceIte, PF] <;> rfl))) rfl fun q g6 s wq => ?_
   have s : St h [] ((b, o, l.flatMap enc ++ sp) :: (q, 0, enc x) :: (t5, 0, enc x) :: (t3, 0, [.slice none 0 0, .int .i64 d, .bool true]) :: E6) g6 := s.perm (List.Perm.swap _ _ _)
   exact ⟨St.r_stillN0 s 3 (j := 0) rfl (by simp) rfl, fin s w6 wq⟩
 · refine St.r_mkSl (sz := 2) (cs := enc x) s (by ((simp only [fillV, fill1, Value.cells, Nat.reduceAdd, Nat.reduceMul, Nat.reduceLeDiff, Nat.reduceEqDiff, reduceIte, PF] <;> rfl))) rfl fun q g1 s wq => ?_
   have s : St h [] ((q, 0, enc x) :: (t5, 0, enc x) :: (t3, 0, [.slice none 0 0, .int .i64 d, .bool true]) :: []) g1 := s
   refine ⟨St.r_stillN0 s 2 (j := 0) rfl (by simp) rfl, ?_⟩
   refine CloneI_ok (hr.st s) (by omega) fun v' b o sp E6 g6 w6 s6 => ?_
   have s := s.join s6
   have s : St h [] ((b, o, l.flatMap enc ++ sp) :: (q, 0, enc x) :: (t5, 0, enc x) :: (t3, 0, [.slice none 0 0, .int .i64 d, .bool true]) :: E6) g6 := s.perm (by ((apply perm_rg; intro f; simp only [PS]; ac_rfl)))
   exact ⟨St.r_stillN0 s 3 (j := 0) rfl (by simp) rfl, fin s w6 wq⟩
theorem with_ok {l : List It} {v : Value} {d : Nat} {x : It} (hd : d = 0 ∨ 2 ≤ d) (hd2 : d ≤ 512) (hr : Rdl 2 h v l.length (l.flatMap enc)) (ha : Asc ltK l) (hl : l.length ≤ 1073741823)
  (H : ∀ v' E' h', St h [] E' h' → Rdl 2 h' v' (lput ltK l x).length ((lput ltK l x).flatMap enc) → Q v' h') : z2i_.call #[mk d, v, av x] h Q :=
 withO_ok hd hd2 hr ha hl fun v' b o sp E' h' w s => H _ _ _ s (w.rdl s 0 rfl)
theorem GDeleteO_ok {l ks : List It} {v vk : Value} {d : Nat} {nl : Bool} (hd : d = 0 ∨ 2 ≤ d) (hd2 : d ≤ 512) (hr : Rdl 2 h v l.length (l.flatMap enc)) (hl : l.length ≤ 1073741824) (hk : Rdl 2 h vk ks.length (ks.flatMap enc)) (hkl : ks.length ≤ 1073741824)
  (H : ∀ w v' b o sp E' h', Own 2 v' (ks.foldl (ldel ltK) (setK l)).length b o ((ks.foldl (ldel ltK) (setK l)).flatMap enc) sp → St h [] ((b, o, (ks.foldl (ldel ltK) (setK l)).flatMap enc ++ sp) :: E') h' → Q (.tuple #[w, v']) h') : z1r_.call #[.agg #[.slice none 0 0, .int .i64 d, .bool nl], v, vk] h Q := by
 obtain ⟨m3, m1, mo, me, mn0⟩ := dmax_ok hd hd2; refine z1r_.body _ _ _ _ _ ?_; unfold z1r_.sh
 have s := St.start h
 refine St.r_box (cs := [.slice none 0 0, .int .i64 d, .bool nl]) s fun t2 h1 s => ?_; refine St.r_loadN0 s 0 rfl (by simp) ?_; refine grow_ok (OwAt.nil _) hd hd2 (hr.st s) hl fun tb g lf cb A E1 h1 hg T => ?_
 have s := s.join T.st
 have hO := T.ord
 have e0 := (items_setK mo m3 l).1
 rw [← hg] at e0
 have hle := setK_len l
 have eL : (setK l).length ≤ 1073741824 := by omega
 generalize setK l = L0 at *
 rw [me] at s; refine (hk.st s).lenV ?_
 refine loop_ghost (fun q st h' => ∃ (j : Nat) (v1 : Value) (b1 o1 : Nat) (p1 : List Value) (F : List (Option It)) (g : Rt) (R : List Rg), q = ks.length - j ∧ j ≤ ks.length ∧ st = [v1, .int .i64 (j : Nat)] ∧ F.length = j ∧ (rPt g).items = (ks.take j).foldl (ldel ltK) L0 ∧ (rPt g).items.length ≤ 1073741824 ∧ TreeOk (ltO []) (dmax d) 1 g ∧ Own 3 v1 F.length b1 o1 (F.flatMap foundC) p1 ∧
   St h [] ((b1, o1, F.flatMap foundC ++ p1) :: (tb, 0, hdr 1 (some ⟨cb, 0, none⟩) (rA g) (rPt g).items.length lf ((dmax d / 2 : Nat) : Int) (dmax d : Nat)) :: (rAll g ++ (A ++ R))) h') (n0 := ks.length)
  ⟨0, .slice none 0 0, 0, 0, [], [], g, E1 ++ [(t2, 0, [.slice none 0 0, .int .i64 d, .bool nl])], rfl, Nat.zero_le _, rfl, rfl, e0, by rw [e0]; exact eL, T.ok, Own.nil 3 0 0, (s.empty 0 0).perm (by ((apply perm_rg; intro f; simp only [PS]; ac_rfl)))⟩ ?_
 clear s T e0 hg; clear g
 rintro q st h1 ⟨j, v1, b1, o1, p1, F, g, R, rfl, hj, rfl, hF, e, hgl, M, w1, s⟩ K HK
 unfold z1r_.l2.b; refine r_cmpI ?_; refine r_if (fun hlt => ?_) (fun hge => ?_)
 · have hlt : j < ks.length := by have := of_decide_eq_true hlt; omega
   unfold z1r_.j3; refine (hk.st s).at (n := j) rfl encl rfl rfl hlt fun b o hb => ?_; refine hb.loadN rfl ?_; refine s.r_alloc fun t9 h1 s => ?_; refine St.r_storeN0 s 0 rfl rfl (by simp) (enc1 _) ?_; intro h1 s
   have s : St h [] ((t9, 0, enc ks[j]) :: (b1, o1, F.flatMap foundC ++ p1) :: (tb, 0, hdr 1 (some ⟨cb, 0, none⟩) (rA g) (rPt g).items.length lf ((dmax d / 2 : Nat) : Int) (dmax d : Nat)) :: (rAll g ++ (A ++ R))) h1 := s
   refine St.r_loadN0 s 0 rfl (by simp) ?_; refine Delete_ok (swoO []) hO (x := ks[j]) (E := (t9, 0, enc ks[j]) :: (b1, o1, F.flatMap foundC ++ p1) :: R) M (by omega) (s.perm (by ((apply perm_rg; intro f; simp only [PS]; ac_rfl)))) fun g' h1 e1 _ M' _ s => ?_
   have e2 : (rPt g').items = (ks.take (j + 1)).foldl (ldel ltK) L0 := by
    rw [e1, List.take_succ_eq_append_getElem hlt, List.foldl_append, ← e, ltO_nil]; rfl
   have hgl2 : (rPt g').items.length ≤ 1073741824 := by rw [e1]; exact Nat.le_trans (ldel_sub _ _).length_le hgl
   refine r_ext rfl (r_ext rfl ?_)
   refine found_ok fun E2 h1 s2 => ?_
   have s := s.join s2
   have s : St h [] ((b1, o1, F.flatMap foundC ++ p1) :: (tb, 0, hdr 1 (some ⟨cb, 0, none⟩) (rA g') (rPt g').items.length lf ((dmax d / 2 : Nat) : Int) (dmax d : Nat)) :: (rAll g' ++ (A ++ (R ++ ((t9, 0, enc ks[j]) :: E2))))) h1 := s.perm (by ((apply perm_rg; intro f; simp only [PS]; ac_rfl)))
   refine push_ok s (k := 0) rfl w1 (by omega) fun v' b' o' sp' q h1 s w' => ?_; unfold z1r_.j4; refine r_add1 (by omega) ?_; refine HK (ks.length - (j + 1)) _ _ (by omega) ⟨j + 1, v', b', o', sp', _, g', (q, 0, foundC _) :: (R ++ ((t9, 0, enc ks[j]) :: E2)), rfl, hlt, rfl, by rw [List.length_append, hF]; rfl, e2, hgl2, M', w', s.perm (by simp only [List.set_cons_zero]; ((apply perm_rg; intro f; simp only [PS]; ac_rfl)))⟩
 · have hge : j = ks.length := by have := of_decide_eq_false hge; omega
   subst hge; rw [List.take_length] at e; unfold z1r_.j1; refine Items_ok M (by omega) (E := A ++ R ++ [(b1, o1, F.flatMap foundC ++ p1)]) (s.perm (by ((apply perm_rg; intro f; simp only [PS]; ac_rfl)))) fun v' b o sp h2 w s => ?_; rw [e] at w s; exact H _ _ _ _ _ _ _ w s
theorem withoutO_ok {l : List It} {v : Value} {d : Nat} {k : Int} (hd : d = 0 ∨ 2 ≤ d) (hd2 : d ≤ 512) (hr : Rdl 2 h v l.length (l.flatMap enc)) (ha : Asc ltK l) (hl : l.length ≤ 1073741823)
  (H : ∀ v' b o sp E' h', Own 2 v' (ldel ltK l (k, 0)).length b o ((ldel ltK l (k, 0)).flatMap enc) sp → St h [] ((b, o, (ldel ltK l (k, 0)).flatMap enc ++ sp) :: E') h' → Q v' h') : z1y_.call #[mk d, v, .int .i64 k] h Q := by
 refine z1y_.body _ _ _ _ _ ?_; unfold z1y_.sh
 have s := St.start h
 refine St.r_box (cs := [.slice none 0 0, .int .i64 d, .bool true]) s fun t3 h1 s => ?_; refine St.r_loadN0 s 0 rfl (by simp) ?_; refine r_build (cs := [.int .i64 k, .int .i64 0]) rfl ?_; refine St.r_mkSl (sz := 2) (cs := enc (k, 0)) s (by ((simp only [fillV, fill1, Value.cells, Nat.reduceAdd, Nat.reduceMul, Nat.reduceLeDiff, Nat.reduceEqDiff, reduceIte, PF] <;> rfl))) rfl fun q h1 s wq => ?_; refine GDeleteO_ok (ks := [(k, 0)]) hd hd2 (hr.st s) (by omega) (by have := wq.rdl s 0 rfl; simpa using this) (by simp) fun w v' b2 o2 sp2 E2 h2 w2 s2 => ?_; rw [setK_self l ha] at w2 s2; refine r_ext rfl (r_ext rfl ?_)
 exact H _ _ _ _ _ _ w2 (join2 s s2)
theorem without_ok {l : List It} {v : Value} {d : Nat} {k : Int} (hd : d = 0 ∨ 2 ≤ d) (hd2 : d ≤ 512) (hr : Rdl 2 h v l.length (l.flatMap enc)) (ha : Asc ltK l) (hl : l.length ≤ 1073741823)
  (H : ∀ v' E' h', St h [] E' h' → Rdl 2 h' v' (ldel ltK l (k, 0)).length ((ldel ltK l (k, 0)).flatMap enc) → Q v' h') : z1y_.call #[mk d, v, .int .i64 k] h Q :=
 withoutO_ok hd hd2 hr ha hl fun v' b o sp E' h' w s => H _ _ _ s (w.rdl s 0 rfl)
def KeepJ (h0 : Heap) (Z : List Rg) (t2 t3 t7 : Nat) (n : Int) (p : List It) (h : Heap) : Prop :=
 ∃ v b o sp E, Own 2 v p.length b o (p.flatMap enc) sp ∧ St h0 Z ((t2, 0, [ptr t7 0]) :: (t3, 0, [.int .i64 n]) :: (t7, 0, [v]) :: (b, o, p.flatMap enc ++ sp) :: E) h
theorem taker_hasBody : hasBody Tryz.prog 57 := ⟨_, Tryz.func57, rfl, rfl⟩
def takeF (t2 t3 : Nat) : Value := .func (.func 57) #[] #[ptr t2 0, ptr t3 0]
theorem taker_ok {t7 : Nat} {n : Int} (s : St h0 Z E h) (H : ∀ t2 t3 h', St h0 Z ((t2, 0, [ptr t7 0]) :: (t3, 0, [.int .i64 n]) :: E) h' → Q (takeF t2 t3) h') : z1w_.call #[ptr t7 0, .int .i64 n] h Q := by
 refine z1w_.body _ _ _ _ ?_; unfold z1w_.sh; refine St.r_box1 s rfl fun t2 h s => ?_; refine St.r_box1 s rfl fun t3 h s => ?_; exact H t2 t3 h (s.perm (by ((apply perm_rg; intro f; simp only [PS]; ac_rfl))))
theorem keep_cb {t2 t3 t7 : Nat} {n : Int} (p : List It) (x : It) (h : Heap) (K : Value → Heap → Prop) (hp : p.length < 2147483648) (hj : KeepJ h0 Z t2 t3 t7 n p h) (HK : ∀ h', KeepJ h0 Z t2 t3 t7 n (p ++ [x]) h' → K (.bool (upTo n (p ++ [x]))) h') :
  callV Tryz.prog (takeF t2 t3) #[av x] h K := by
 obtain ⟨v, b, o, sp, E, w, s⟩ := hj; refine r_callV taker_hasBody ?_; refine z19_.body _ _ _ _ _ ?_; unfold z19_.sh; refine St.r_box (cs := enc x) s fun t3' h s => ?_; refine St.r_load0 s 1 rfl rfl (St.r_load0 s 1 rfl rfl (r_nil (St.r_load0 s 3 rfl rfl ?_)))
 refine St.r_loadN0 s 0 rfl (by simp) ?_; refine St.r_mkSl (sz := 2) (cs := enc x) s (by ((simp only [fillV, fill1, Value.cells, Nat.reduceAdd, Nat.reduceMul, Nat.reduceLeDiff, Nat.reduceEqDiff, reduceIte, PF] <;> rfl))) rfl fun q h s w1 => ?_; refine And.intro (by exact St.r_still0 s 2 rfl rfl) ?_; refine And.intro (by exact St.r_still0 s 2 rfl rfl) ?_; refine And.intro (by exact St.r_still0 s 4 rfl rfl) ?_; refine s.r_appL (f := enc) (L := p) (M := [x]) 5 rfl w rfl (by have := w1.rdl s 0 (by rw [List.append_nil]; rfl); simpa using this) (fun y _ => enc1 y) (by rw [List.length_singleton]; omega) (by rw [List.length_singleton]; omega) fun v' b' o' sp' h s w' => ?_; refine And.intro (by exact St.r_still0 s 2 rfl rfl) ?_; refine r_nil ?_; refine St.r_store0 s 4 rfl (by simp) w'.one ?_; intro h s
 refine St.r_load0 s 3 rfl rfl (r_cmpI ?_)
 have J' : KeepJ h0 Z t2 t3 t7 n (p ++ [x]) h := ⟨v', b', o', sp', _, w', s.perm (E' := (t2, 0, [ptr t7 0]) :: (t3, 0, [.int .i64 n]) :: (t7, 0, [v']) :: (b', o', (p ++ [x]).flatMap enc ++ sp') :: ((q, 0, enc x) :: (t3', 0, enc x) :: E)) (by ((apply perm_rg; intro f; simp only [PS]; ac_rfl)))⟩
 refine r_br (fun hb => ?_) (fun hb => ?_)
 · have hb : ¬ n < 1 := by simpa using hb
   refine St.r_load0 s 2 rfl rfl (r_nil (St.r_load0 s 4 rfl rfl ?_))
   refine w'.lenV ?_; refine St.r_load0 s 3 rfl rfl (r_cmpI ?_)
   have := HK h J'
   have e : upTo n (p ++ [x]) = decide (((p ++ [x]).length : Int) < n) := by simp [upTo, hb]
   rw [e] at this; exact this
 · have hb : n < 1 := by simpa using hb
   have := HK h J'
   have e : upTo n (p ++ [x]) = true := by simp [upTo, hb]
   rw [e] at this; exact this
theorem AscendZ_ok (o : Swo lt) (hO : OrdC Z lf lt) {cont : List It → Bool} {f : Value} {J : List It → Heap → Prop} {g : Rt} {tb m N : Nat} {iso cnt mn mx : Int} {ctr : Option Addr} {x : It} (M : TreeOk lt m iso g) (hT : (tb, 0, hdr iso ctr (rA g) cnt lf mn mx) ∈ Z) (hz : ∀ r ∈ rAll g, r ∈ Z) (hzb : ∀ r ∈ rAll g, r.2.2 ≠ [] → h0.size ≤ r.1)
  (hJ : ∀ p h, J p h → ∃ E, St h0 Z E h) (hX : ∀ p h E' h', J p h → St h [] E' h' → J p h')
  (cb : ∀ (p : List It) (x : It) (h : Heap) (K : Value → Heap → Prop), p.length < N → J p h → (∀ h', J (p ++ [x]) h' → K (.bool (cont (p ++ [x]))) h') → callV Tryz.prog f #[av x] h K)
  (hN : (rPt g).items.length ≤ N) (hN2 : (rPt g).items.length ≤ 4294967296) (hj : J [] h) (H : ∀ h', J (feed cont [] ((rPt g).items.drop (pos lt (rPt g).items x))).1 h' → Q (.tuple #[]) h') : z0k_.call #[ptr tb 0, av x, f] h Q := by
 refine z0k_.body _ _ _ _ _ ?_; unfold z0k_.sh
 have u := St.start h
 refine St.r_box (cs := enc x) u fun t4 h u => ?_
 have hj := hX _ _ _ _ hj u
 refine St.r_loadN0 u 0 rfl (by simp) ?_; refine z0m_.body _ _ _ _ _ _ _ ?_; unfold z0m_.sh
 have u := St.start h
 refine St.r_box (cs := enc x) u fun t6 h u => ?_
 have hj := hX _ _ _ _ hj u
 obtain ⟨E, s⟩ := hJ [] h hj; refine lock_ok ?_; refine r_if (fun e => absurd e (by simp)) (fun _ => ?_)
 unfold z0m_.j1; refine r_nil (r_fld ?_)
 refine s.r_lz0 hT (j := 2) rfl ?_; refine r_eqNilP ?_
 cases g with
 | none =>
  refine r_if (fun _ => ?_) (fun e => absurd e (by simp [rA]))
  exact H h hj
 | some t =>
  refine r_if (fun e => absurd e (by simp [rA])) (fun _ => ?_)
  unfold z0m_.j2; refine r_nil (r_fld ?_)
  refine St.r_loadN0 u 0 rfl (by simp) ?_
  have hk : t.1 ≤ 4611686018427387903 := by
   have h1 := PT.height_le M.m3 M.fl (Nat.le_refl _)
   have h1 : t.1 ≤ t.2.pt.items.length := Nat.le_of_lt h1
   have h2 : t.2.pt.items.length ≤ 4294967296 := hN2
   omega
  refine nodeAscend_ok o hO (fun E h s => s.clz hT 6 rfl rfl) (x := x) M.m1 hJ hX cb t.2 M.gd M.fl M.asc hz hzb (fun E h s => ?_) (dp := 0) (by omega) (by rw [List.length_nil, Nat.zero_add]; exact hN) hj fun h' hj' => H h' hj'
  exact s.clz hT 2 rfl rfl
theorem GAscend_ok {l : List It} {v : Value} {d : Nat} {nl : Bool} {x : It} {n : Int} (hd : d = 0 ∨ 2 ≤ d) (hd2 : d ≤ 512) (hr : Rdl 2 h v l.length (l.flatMap enc)) (hl : l.length ≤ 1073741824)
  (H : ∀ w b o sp E' h', Own 2 w (firstN ((setK l).drop (pos ltK (setK l) x)) n).length b o ((firstN ((setK l).drop (pos ltK (setK l) x)) n).flatMap enc) sp → St h [] ((b, o, (firstN ((setK l).drop (pos ltK (setK l) x)) n).flatMap enc ++ sp) :: E') h' → Q w h') : z1q_.call #[.agg #[.slice none 0 0, .int .i64 d, .bool nl], v, av x, .int .i64 n] h Q := by
 obtain ⟨m3, m1, mo, me, mn0⟩ := dmax_ok hd hd2; refine z1q_.body _ _ _ _ _ _ ?_; unfold z1q_.sh
 have s := St.start h
 refine St.r_box (cs := [.slice none 0 0, .int .i64 d, .bool nl]) s fun t4 h1 s => ?_; refine St.r_box (cs := enc x) s fun t6 h1 s => ?_; refine s.r_alloc fun t9 h1 s => ?_; refine St.r_loadN0 s 2 rfl (by simp) ?_; refine St.r_loadN0 s 1 rfl (by simp) ?_; refine grow_ok (OwAt.nil _) hd hd2 (hr.st s) hl fun tb g lf cb A E1 h1 hg T => ?_
 have s := s.join T.st
 have e0 := (items_setK mo m3 l).1
 rw [← hg] at e0
 have hle := setK_len l
 have M := T.ok
 have hO := T.ord
 have s : St h [] ((t9, 0, [.slice none 0 0]) :: (t6, 0, enc x) :: ((((tb, 0, hdr 1 (some ⟨cb, 0, none⟩) (rA g) (rPt g).items.length lf (dmin d : Nat) (dmax d : Nat)) :: rAll g) ++ A) ++ (E1 ++ [(t4, 0, [.slice none 0 0, .int .i64 d, .bool nl])]))) h1 := s.perm (by ((apply perm_rg; intro f; simp only [PS]; ac_rfl)))
 clear T; refine ⟨St.r_stillN0 s 1 (j := 0) rfl (by simp) rfl, ?_⟩
 refine taker_ok s fun t2 t3 h1 s => ?_
 have s : St h [] ((t9, 0, [.slice none 0 0]) :: (t6, 0, enc x) :: ((((tb, 0, hdr 1 (some ⟨cb, 0, none⟩) (rA g) (rPt g).items.length lf (dmin d : Nat) (dmax d : Nat)) :: rAll g) ++ A) ++ ((t2, 0, [ptr t9 0]) :: (t3, 0, [.int .i64 n]) :: (E1 ++ [(t4, 0, [.slice none 0 0, .int .i64 d, .bool nl])])))) h1 := s.perm (by ((apply perm_rg; intro f; simp only [PS]; ac_rfl)))
 refine ⟨St.r_stillN0 s 1 (j := 0) rfl (by simp) rfl, ?_⟩
 have s0 : St h [] ((((tb, 0, hdr 1 (some ⟨cb, 0, none⟩) (rA g) (rPt g).items.length lf (dmin d : Nat) (dmax d : Nat)) :: rAll g) ++ A) ++ ((t2, 0, [ptr t9 0]) :: (t3, 0, [.int .i64 n]) :: (t9, 0, [.slice none 0 0]) :: (0, 0, ([] : List It).flatMap enc ++ []) :: ((t6, 0, enc x) :: (E1 ++ [(t4, 0, [.slice none 0 0, .int .i64 d, .bool nl])])))) h1 := (s.empty 0 0).perm (by ((apply perm_rg; intro f; simp only [PS]; ac_rfl)))
 obtain ⟨s1, back⟩ := s0.borrow
 refine AscendZ_ok (swoO []) (hO _ (fun r hr => List.mem_append.2 (.inl (List.mem_append.2 (.inr hr))))) (x := x) (J := KeepJ h ((((tb, 0, hdr 1 (some ⟨cb, 0, none⟩) (rA g) (rPt g).items.length lf (dmin d : Nat) (dmax d : Nat)) :: rAll g) ++ A) ++ []) t2 t3 t9 n) (cont := upTo n) (N := 2147483648) M (List.mem_append.2 (.inl (List.mem_append.2 (.inl (List.mem_cons_self ..))))) (fun r hr => List.mem_append.2 (.inl (List.mem_append.2 (.inl (List.mem_cons_of_mem _ hr))))) (fun r hr => (s0.e r (List.mem_append.2 (.inl (List.mem_append.2 (.inl (List.mem_cons_of_mem _ hr)))))).2)
  (fun p h hj => by obtain ⟨v, b, o, sp, E, w, s⟩ := hj; exact ⟨_, s⟩) (fun p h E' h' hj u => by obtain ⟨v, b, o, sp, E, w, s⟩ := hj; exact ⟨v, b, o, sp, E ++ E', w, (s.join u).perm (by ((apply perm_rg; intro f; simp only [PS]; ac_rfl)))⟩) (fun p x h K hp hj HK => keep_cb p x h K hp hj HK) (by rw [e0]; omega) (by rw [e0]; omega) ⟨_, 0, 0, [], _, Own.nil 2 0 0, s1⟩ fun h' hj => ?_
 rw [feed_first] at hj
 have eg : (rPt g).items.drop (pos (ltO []) (rPt g).items x) = (setK l).drop (pos ltK (setK l) x) := by rw [e0, ltO_nil]
 rw [eg] at hj; obtain ⟨v, b, o, sp, E, w, s⟩ := hj
 have s := back _ h' s
 have s : St h [] ((t9, 0, [v]) :: (b, o, (firstN ((setK l).drop (pos ltK (setK l) x)) n).flatMap enc ++ sp) :: (((((tb, 0, hdr 1 (some ⟨cb, 0, none⟩) (rA g) (rPt g).items.length lf (dmin d : Nat) (dmax d : Nat)) :: rAll g) ++ A)) ++ ((t2, 0, [ptr t9 0]) :: (t3, 0, [.int .i64 n]) :: E))) h' := s.perm (by ((apply perm_rg; intro f; simp only [PS]; ac_rfl)))
 refine St.r_load0 s 0 rfl rfl ?_; exact H v b o sp _ h' w (s.perm (E' := (b, o, _) :: ((t9, 0, [v]) :: (((((tb, 0, hdr 1 (some ⟨cb, 0, none⟩) (rA g) (rPt g).items.length lf (dmin d : Nat) (dmax d : Nat)) :: rAll g) ++ A)) ++ ((t2, 0, [ptr t9 0]) :: (t3, 0, [.int .i64 n]) :: E)))) (by ((apply perm_rg; intro f; simp only [PS]; ac_rfl))))
end Go.Proofs.YthpmeccnddchpaaGreat.Gi
end
section
namespace Go.Proofs.YthpmeccnddchpaaGreat.Gi
open Go.Hp Go.Proofs.YthpmeccnddchpaaGreat
variable {h0 h : Heap} {Z E : List Rg} {Q : Value → Heap → Prop}
abbrev fiX (i : Int) : List Value := [.int .i64 i]
theorem fiXl (i : Int) : (fiX i).length = 1 := rfl
abbrev encC (p : Bool × Int × Int) : List Value := [.bool p.1, .int .i64 p.2.1, .int .i64 p.2.2]
theorem encCl (p : Bool × Int × Int) : (encC p).length = 3 := rfl
theorem encC1 (p : Bool × Int × Int) : ∀ y ∈ encC p, one1 y = true := by simp [one1]
theorem ModuloZ_ok {a n : Int} (hn : n = 64 ∨ n = 256) (H : Q (.int .i64 (a % n)) h) : z27_.call #[.int .i64 a, .int .i64 n] h Q := by
 refine z27_.body _ _ _ _ ?_; unfold z27_.sh
 have key : ∃ z, a.tmod n = z ∧ -n < z ∧ z < n ∧ (z + n) % n = a % n := by
  rcases Int.le_total 0 a with ha | ha
  · refine ⟨a % n, Int.tmod_eq_emod_of_nonneg ha, ?_, ?_, ?_⟩ <;> rcases hn with rfl | rfl <;> omega
  · obtain ⟨b, rfl⟩ : ∃ b, a = -b := ⟨-a, by omega⟩
    have e : (-b).tmod n = -(b % n) := by rw [Int.neg_tmod, Int.tmod_eq_emod_of_nonneg (by omega)]
    refine ⟨-(b % n), e, ?_, ?_, ?_⟩ <;> rcases hn with rfl | rfl <;> omega
 obtain ⟨z, e, h1, h2, h3⟩ := key; refine r_remK (by omega) e ?_; refine r_add (z := z + n) (i64w (by omega) (by omega)) ?_; refine r_remN (by omega) (by omega) ?_; rw [h3]; exact H
theorem EqualX_ok {L : List Int} {v1 v2 : Value} (h1 : Rdl 1 h v1 L.length (L.flatMap fiX)) (h2 : Rdl 1 h v2 L.length (L.flatMap fiX)) (hl : L.length ≤ 10000000) (H : Q (.bool true) h) : z16_.call #[v1, v2] h Q := by
 refine z16_.body _ _ _ _ ?_; unfold z16_.sh; refine h1.lenV ?_; refine h2.lenV ?_; refine r_cmpI ?_; refine r_if (fun e => absurd e (by simp)) (fun _ => ?_)
 unfold z16_.j1; refine h1.lenV ?_
 refine loop_ghost (fun q st h' => ∃ (j : Nat), q = L.length - j ∧ j ≤ L.length ∧ st = [.int .i64 (j : Nat)] ∧ h' = h) (n0 := L.length)
  ⟨0, rfl, Nat.zero_le _, rfl, rfl⟩ ?_
 rintro q st g ⟨j, rfl, hj, rfl, rfl⟩ K HK
 unfold z16_.l3.b; refine r_cmpI ?_; refine r_if (fun hlt => ?_) (fun hge => ?_)
 · have hlt : j < L.length := by have := of_decide_eq_true hlt; omega
   unfold z16_.j4; refine h1.at (f := fiX) (n := j) rfl fiXl rfl rfl hlt fun b o hrd => ?_; refine hrd.load0 rfl ?_; refine h2.at (f := fiX) (n := j) rfl fiXl rfl rfl hlt fun b o hrd => ?_; refine hrd.load0 rfl ?_; refine r_cmpI ?_; refine r_if (fun e => absurd e (by simp)) (fun _ => ?_)
   unfold z16_.j5; refine r_add1 (by omega) ?_; exact HK (L.length - (j + 1)) _ _ (by omega) ⟨j + 1, rfl, hlt, rfl, rfl⟩
 · exact H
theorem KeysX_ok {l : List It} {v : Value} (hr : Rdl 2 h v l.length (l.flatMap enc)) (hl : l.length ≤ 1000)
  (H : ∀ v' E' h', St h [] E' h' → Rdl 1 h' v' (l.map Prod.fst).length ((l.map Prod.fst).flatMap fiX) → Q v' h') : z2k_.call #[v] h Q := by
 refine z2k_.body _ _ _ ?_; unfold z2k_.sh; refine hr.lenV ?_
 refine loop_ghost (fun q st h' => ∃ (j : Nat) (v1 : Value) (b1 o1 : Nat) (p1 : List Value) (R : List Rg), q = l.length - j ∧ j ≤ l.length ∧ st = [v1, .int .i64 (j : Nat)] ∧ Own 1 v1 ((l.take j).map Prod.fst).length b1 o1 (((l.take j).map Prod.fst).flatMap fiX) p1 ∧ St h [] ((b1, o1, ((l.take j).map Prod.fst).flatMap fiX ++ p1) :: R) h') (n0 := l.length)
  ⟨0, .slice none 0 0, 0, 0, [], [], rfl, Nat.zero_le _, rfl, Own.nil 1 0 0, (St.start h).empty 0 0⟩ ?_
 rintro q st g ⟨j, v1, b1, o1, p1, R, rfl, hj, rfl, w, s⟩ K HK
 unfold z2k_.l2.b; refine r_cmpI ?_; refine r_if (fun hlt => ?_) (fun hge => ?_)
 · have hlt : j < l.length := by have := of_decide_eq_true hlt; omega
   have hl1 : ((l.take j).map Prod.fst).length = j := by simp; omega
   have et : (l.take j).map Prod.fst ++ [l[j].1] = (l.take (j + 1)).map Prod.fst := by rw [List.take_succ_eq_append_getElem hlt, List.map_append]; rfl
   unfold z2k_.j3; refine (hr.st s).at (n := j) rfl encl rfl rfl hlt fun b o hb => ?_; refine hb.loadN rfl ?_; refine s.r_alloc fun t5 g s => ?_; refine St.r_storeN0 s 0 rfl rfl (by simp) (enc1 _) ?_; intro g s
   have s : St h [] ((t5, 0, enc l[j]) :: (b1, o1, ((l.take j).map Prod.fst).flatMap fiX ++ p1) :: R) g := s
   refine r_fld (St.r_load0 s 0 rfl rfl ?_)
   refine St.r_mkSl (sz := 1) (cs := fiX l[j].1) s (by ((simp only [fillV, fill1, Value.cells, Nat.reduceAdd, Nat.reduceMul, Nat.reduceLeDiff, Nat.reduceEqDiff, reduceIte, PF] <;> rfl))) rfl fun q1 g s wq => ?_; refine s.r_appL (f := fiX) (L := (l.take j).map Prod.fst) (M := [l[j].1]) 2 rfl w rfl (by have := wq.rdl s 0 rfl; simpa using this) (fun _ _ => by simp [one1]) (by rw [hl1]; simp; omega) (by rw [hl1]; simp; omega) fun v1' b1' o1' p1' g s w' => ?_; rw [et] at w' s
   have s : St h [] ((b1', o1', ((l.take (j + 1)).map Prod.fst).flatMap fiX ++ p1') :: R) g := s.drop 2
   unfold z2k_.j4; refine r_add1 (by omega) ?_; exact HK (l.length - (j + 1)) _ _ (by omega) ⟨j + 1, v1', b1', o1', p1', R, rfl, hlt, rfl, w', s⟩
 · have hge : j = l.length := by have := of_decide_eq_false hge; omega
   subst hge; rw [List.take_length] at w s; unfold z2k_.j1; exact H _ _ _ s (w.rdl s 0 rfl)
def row1 (rows : List It) (v k : Int) : List Int := (rows.filter fun x => x.2 == v && x.1 == k).map fun _ => v * 64 + k
def row2 (rows : List It) (v : Int) (n : Nat) : List Int := (List.range n).flatMap fun (k : Nat) => row1 rows v k
def row3 (rows : List It) (low : Int) (n : Nat) : List Int := (List.range n).flatMap fun (d : Nat) => row2 rows (low + d) 64
theorem byV_row3 (rows : List It) (low high : Int) : byV rows low high = row3 rows low (high + 1 - low).toNat := rfl
theorem row2_succ (rows : List It) (v : Int) (n : Nat) : row2 rows v (n + 1) = row2 rows v n ++ row1 rows v n := by unfold row2; rw [List.range_succ, List.flatMap_append, List.flatMap_singleton]
theorem row3_succ (rows : List It) (low : Int) (n : Nat) : row3 rows low (n + 1) = row3 rows low n ++ row2 rows (low + n) 64 := by unfold row3; rw [List.range_succ, List.flatMap_append, List.flatMap_singleton]
theorem row1_len (rows : List It) (v k : Int) : (row1 rows v k).length ≤ rows.length := by unfold row1; rw [List.length_map]; exact List.length_filter_le _ _
theorem ByValues_ok {rows : List It} {v : Value} {low high : Int} (hr : Rdl 2 h v rows.length (rows.flatMap enc)) (hl : rows.length ≤ 100) (h0l : 0 ≤ low) (hll : low ≤ 255) (h0h : 0 ≤ high) (hhh : high ≤ 255)
  (H : ∀ v' E' h', St h [] E' h' → (byV rows low high).length ≤ 10000000 → Rdl 1 h' v' (byV rows low high).length ((byV rows low high).flatMap fiX) → Q v' h') : z1o_.call #[v, .int .i64 low, .int .i64 high] h Q := by
 refine z1o_.body _ _ _ _ _ ?_; unfold z1o_.sh; rw [byV_row3] at H
 generalize hN : (high + 1 - low).toNat = N at *
 have hN2 : (N : Int) = (if low ≤ high then high + 1 - low else 0) := by split <;> omega
 have hN3 : N ≤ 256 := by split at hN2 <;> omega
 refine loop_ghost (fun q st h' => ∃ (j : Nat) (v1 : Value) (b1 o1 : Nat) (p1 : List Value) (R : List Rg), q = N - j ∧ j ≤ N ∧ st = [v1, .int .i64 (low + j)] ∧ (row3 rows low j).length ≤ j * 6400 ∧ Own 1 v1 (row3 rows low j).length b1 o1 ((row3 rows low j).flatMap fiX) p1 ∧ St h [] ((b1, o1, (row3 rows low j).flatMap fiX ++ p1) :: R) h') (n0 := N)
  ⟨0, .slice none 0 0, 0, 0, [], [], rfl, Nat.zero_le _, by simp, by simp [row3], Own.nil 1 0 0, (St.start h).empty 0 0⟩ ?_
 rintro q st g ⟨j, v1, b1, o1, p1, R, rfl, hj, rfl, hA, w, s⟩ K HK
 unfold z1o_.l2.b; refine r_cmpI ?_; refine r_if (fun hle => ?_) (fun hgt => ?_)
 · have hle : low + j ≤ high := of_decide_eq_true hle
   have hjN : j < N := by rw [if_pos (by omega)] at hN2; omega
   have hj256 : j < 256 := by omega
   unfold z1o_.j3; rw [show (row3 rows low j) = row3 rows low j ++ row2 rows (low + j) 0 by simp [row2]] at w s
   refine loop_ghost (fun q st h' => ∃ (k : Nat) (v1 : Value) (b1 o1 : Nat) (p1 : List Value) (R : List Rg), q = 64 - k ∧ k ≤ 64 ∧ st = [v1, .int .i64 (k : Nat)] ∧ (row2 rows (low + j) k).length ≤ k * 100 ∧ Own 1 v1 (row3 rows low j ++ row2 rows (low + j) k).length b1 o1 ((row3 rows low j ++ row2 rows (low + j) k).flatMap fiX) p1 ∧ St h [] ((b1, o1, (row3 rows low j ++ row2 rows (low + j) k).flatMap fiX ++ p1) :: R) h') (n0 := 64)
    ⟨0, v1, b1, o1, p1, R, rfl, Nat.zero_le _, rfl, by simp [row2], w, s⟩ ?_
   clear w s
   rintro q st g ⟨k, v1, b1, o1, p1, R, rfl, hk, rfl, hB, w, s⟩ K2 HK2
   unfold z1o_.l5.b; refine r_cmpI ?_; refine r_if (fun hlt => ?_) (fun hge => ?_)
   · have hlt : k < 64 := by have := of_decide_eq_true hlt; omega
     unfold z1o_.j6; refine (hr.st s).lenV ?_
     generalize hX : row3 rows low j ++ row2 rows (low + j) k = X at *
     have hXl : X.length ≤ 6400 * 256 + 6400 := by rw [← hX, List.length_append]; omega
     refine loop_ghost (fun q st h' => ∃ (i : Nat) (v1 : Value) (b1 o1 : Nat) (p1 : List Value) (R : List Rg), q = rows.length - i ∧ i ≤ rows.length ∧ st = [v1, .int .i64 (i : Nat)] ∧ Own 1 v1 (X ++ row1 (rows.take i) (low + j) k).length b1 o1 ((X ++ row1 (rows.take i) (low + j) k).flatMap fiX) p1 ∧ St h [] ((b1, o1, (X ++ row1 (rows.take i) (low + j) k).flatMap fiX ++ p1) :: R) h') (n0 := rows.length)
      ⟨0, v1, b1, o1, p1, R, rfl, Nat.zero_le _, rfl, by simpa [row1] using w, by simpa [row1] using s⟩ ?_
     clear w s
     rintro q st g ⟨i, v1, b1, o1, p1, R, rfl, hi, rfl, w, s⟩ K3 HK3
     unfold z1o_.l8.b; refine r_cmpI ?_; refine r_if (fun hlt2 => ?_) (fun hge2 => ?_)
     · have hlt2 : i < rows.length := by have := of_decide_eq_true hlt2; omega
       have hrl := row1_len (rows.take i) (low + j) k
       have htl : (rows.take i).length ≤ 100 := by rw [List.length_take]; omega
       have et : row1 (rows.take (i + 1)) (low + j) k = row1 (rows.take i) (low + j) k ++ (if rows[i].2 == low + j && rows[i].1 == (k : Int) then [(low + j) * 64 + k] else []) := by
        unfold row1; rw [List.take_succ_eq_append_getElem hlt2, List.filter_append, List.map_append, List.filter_cons, List.filter_nil]
        split <;> rfl
       unfold z1o_.j9; refine (hr.st s).at (n := i) rfl encl rfl rfl hlt2 fun b o hb => ?_; refine hb.loadN rfl ?_; refine s.r_alloc fun t11 g s => ?_; refine St.r_storeN0 s 0 rfl rfl (by simp) (enc1 _) ?_; intro g s
       have s : St h [] ((t11, 0, enc rows[i]) :: (b1, o1, (X ++ row1 (rows.take i) (low + j) k).flatMap fiX ++ p1) :: R) g := s
       have skip : (rows[i].2 == low + j && rows[i].1 == (k : Int)) = false → z1o_.j10 v (.int .i64 high) v1 (.int .i64 (low + j)) (.int .i64 (k : Nat)) (.int .i64 (k : Nat)) v (.int .i64 (rows.length : Nat)) (.int .i64 (i : Nat)) g K K2 K3 Q := fun hc => by
        rw [hc] at et
        simp only [Bool.false_eq_true, if_false, List.append_nil] at et
        unfold z1o_.j10; refine r_add1 (by omega) ?_; exact HK3 (rows.length - (i + 1)) _ _ (by omega) ⟨i + 1, v1, b1, o1, p1, R, rfl, hlt2, rfl, by rw [et]; exact w, by rw [et]; exact s.drop 1⟩
       refine r_fld (St.r_load0 s 0 rfl rfl (r_cmpI ?_))
       refine r_br (fun e1 => ?_) (fun e1 => skip (by have e1 : (rows[i].2 == low + j) = false := e1; rw [e1]; rfl))
       refine r_fld (St.r_load0 s 0 rfl rfl (r_cmpI ?_))
       refine r_if (fun e2 => ?_) (fun e2 => skip (by have e2 : (rows[i].1 == (k : Int)) = false := e2; rw [e2, Bool.and_false]))
       have e1 : (rows[i].2 == low + j) = true := e1
       have e2 : (rows[i].1 == (k : Int)) = true := e2
       rw [e1, e2] at et
       simp only [Bool.and_self, if_true] at et
       refine r_shlN (p := 64) 6 (by decide) (by decide) (by omega) (by omega) ?_; refine r_add (z := (low + j) * 64 + k) (i64w (by omega) (by omega)) ?_; refine St.r_mkSl (sz := 1) (cs := fiX ((low + j) * 64 + k)) s (by ((simp only [fillV, fill1, Value.cells, Nat.reduceAdd, Nat.reduceMul, Nat.reduceLeDiff, Nat.reduceEqDiff, reduceIte, PF] <;> rfl))) rfl fun q1 g s wq => ?_; refine s.r_appL (f := fiX) (L := X ++ row1 (rows.take i) (low + j) k) (M := [(low + j) * 64 + k]) 2 rfl w rfl (by have := wq.rdl s 0 rfl; simpa using this) (fun _ _ => by simp [one1]) (by rw [List.length_append]; simp; omega) (by rw [List.length_append]; simp; omega) fun v1' b1' o1' p1' g s w' => ?_; rw [List.append_assoc, ← et] at w' s
       have s : St h [] ((b1', o1', (X ++ row1 (rows.take (i + 1)) (low + j) k).flatMap fiX ++ p1') :: R) g := s.drop 2
       unfold z1o_.j10; refine r_add1 (by omega) ?_; exact HK3 (rows.length - (i + 1)) _ _ (by omega) ⟨i + 1, v1', b1', o1', p1', R, rfl, hlt2, rfl, w', s⟩
     · have hge2 : i = rows.length := by have := of_decide_eq_false hge2; omega
       subst hge2; rw [List.take_length, ← hX, List.append_assoc, ← row2_succ] at w s; unfold z1o_.j7; refine r_add1 (by omega) ?_
       have := row1_len rows (low + j) k
       exact HK2 (64 - (k + 1)) _ _ (by omega) ⟨k + 1, v1, b1, o1, p1, R, rfl, hlt, rfl, by rw [row2_succ, List.length_append]; omega, w, s⟩
   · have hge : k = 64 := by have := of_decide_eq_false hge; omega
     subst hge; rw [← row3_succ] at w s; unfold z1o_.j4; refine r_add (z := low + ((j + 1 : Nat) : Int)) (by rw [i64w (by omega) (by omega)]; omega) ?_; exact HK (N - (j + 1)) _ _ (by omega) ⟨j + 1, v1, b1, o1, p1, R, rfl, hjN, rfl, by rw [row3_succ, List.length_append]; omega, w, s⟩
 · have hgt : ¬ low + j ≤ high := of_decide_eq_false hgt
   have hjN : j = N := by split at hN2 <;> omega
   subst hjN; unfold z1o_.j1; exact H _ _ _ s (by omega) (w.rdl s 0 rfl)
theorem AscendsX_ok {rows : List It} {v : Value} (ha : Asc ltK rows) (hr : Rdl 2 h v rows.length (rows.flatMap enc)) (hl : rows.length ≤ 1000)
  (H : ∀ E' h', St h [] E' h' → Q (.bool true) h') : z1z_.call #[.slice none 0 0, v] h Q := by
 refine z1z_.body _ _ _ _ ?_; unfold z1z_.sh
 refine loop_ghost (fun q st h' => ∃ (j : Nat) (R : List Rg), q = rows.length + 1 - j ∧ 1 ≤ j ∧ st = [.int .i64 (j : Nat)] ∧ St h [] R h') (n0 := rows.length)
  ⟨1, [], rfl, Nat.le_refl _, rfl, St.start h⟩ ?_
 rintro q st g ⟨j, R, rfl, hj, rfl, s⟩ K HK
 unfold z1z_.l2.b; refine (hr.st s).lenV ?_; refine r_cmpI ?_; refine r_if (fun hlt => ?_) (fun hge => ?_)
 · have hlt : j < rows.length := by have := of_decide_eq_true hlt; omega
   unfold z1z_.j3; refine (hr.st s).at (n := j) rfl encl rfl rfl hlt fun b o hb => ?_; refine hb.loadN rfl ?_; refine r_sub (z := ((j - 1 : Nat) : Int)) (by rw [i64w (by omega) (by omega)]; omega) ?_; refine (hr.st s).at (n := j - 1) rfl encl rfl rfl (by omega) fun b o hb => ?_; refine hb.loadN rfl ?_; refine Ii.Before_nil (p := rows[j]) (q := rows[j - 1]) fun E2 g s2 => ?_
   have hlt2 : Ii.lt rows[j] rows[j - 1] = false := by
    have h1 := List.pairwise_iff_getElem.1 ha (j - 1) j (by omega) hlt (by omega)
    have h1 := ltK_t.1 h1
    exact ltK_f.2 (by omega)
   rw [hlt2]; refine r_if (fun e => absurd e (by decide)) (fun _ => ?_)
   unfold z1z_.j4; refine r_add1 (by omega) ?_; exact HK (rows.length + 1 - (j + 1)) _ _ (by omega) ⟨j + 1, _, rfl, by omega, rfl, s.join s2⟩
 · unfold z1z_.j1
   exact H _ _ s
end Go.Proofs.YthpmeccnddchpaaGreat.Gi
end
