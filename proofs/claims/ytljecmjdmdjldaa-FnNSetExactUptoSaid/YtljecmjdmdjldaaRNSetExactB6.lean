/-
  Texts of this claim, laid together: Nc Gv Nd Ne Nf Ng Nj Nk Nl Nm Nq Nv Nr Ns Nt Nx Ny Nput Nputi.
  Conditions: as each of them tells.
-/
import Derived.Test.YtljecmjdmdjldaaRNSetExactB5
set_option linter.unusedVariables false
set_option linter.unusedSimpArgs false
open List (set_cons_zero set_cons_succ eraseIdx_cons_zero eraseIdx_cons_succ cons_append nil_append map_append map_cons map_flatMap map_nil flatMap_cons flatMap_append flatMap_nil append_nil append_assoc length_cons length_nil length_append take_succ_cons drop_succ_cons take_zero drop_zero take_nil drop_nil size_toArray length_map)
section
namespace Go.Proofs.Ytljecmjdmdjldaa.Gi
open Go.Hp Go.Proofs.Ytljecmjdmdjldaa
variable {h0 h : Heap} {Z E : List Rg} {Q : Value → Heap → Prop} {lt : It → It → Bool} {lf : Value}
theorem s_Fits_ok {d : Int} (H : Q (.bool (decide (d = 0 ∨ (2 ≤ d ∧ d ≤ 128)))) h) : s_Fits.call #[.int .i64 d] h Q := by
  refine s_Fits.body _ _ _ ?_; unfold s_Fits.sh; refine r_cmpI ?_; refine r_br (fun e => ?_) (fun e => ?_)
  · have e : d ≠ 0 := by simpa using e
    refine r_cmpI ?_; refine r_br (fun e2 => ?_) (fun e2 => ?_)
    · have e2 : 2 ≤ d := by simpa using e2
      refine r_cmpI ?_
      simpa [e, e2] using H
    · have e2 : ¬ 2 ≤ d := by simpa using e2
      simpa [e, e2] using H
  · have e : d = 0 := by simpa using e
    simpa [e] using H
theorem l_fits_ok {ov : Value} {d : Int} {nl : Bool} (h1 : one1 ov = true) (H : ∀ E' h', St h [] E' h' → Q (.bool (decide (d = 0 ∨ (2 ≤ d ∧ d ≤ 128)))) h') : l_fits.call #[.agg #[ov, .int .i64 d, .bool nl]] h Q := by
  refine l_fits.body _ _ _ ?_; unfold l_fits.sh
  have s := St.start h
  refine St.r_box (cs := [ov, .int .i64 d, .bool nl]) s fun t1 h1 s => ?_; refine r_fld ?_; refine St.r_load0 s 0 rfl rfl ?_; refine s_Fits_ok ?_; exact H _ _ s
theorem l_zzFits1_ok {ow : List Int} {ov : Value} {d : Int} {nl : Bool} (hr : Rdl 1 h ov ow.length (ow.flatMap fi)) (H : ∀ E' h', St h [] E' h' → Q (.bool (decide (ow.length ≤ 2147483647))) h') : l_zzFits1.call #[.agg #[ov, .int .i64 d, .bool nl]] h Q := by
  refine l_zzFits1.body _ _ _ ?_; unfold l_zzFits1.sh
  have s := St.start h
  refine St.r_box (cs := [ov, .int .i64 d, .bool nl]) s fun t1 h1 s => ?_; refine r_fld ?_; refine St.r_load0 s 0 rfl rfl ?_; refine (hr.st s).lenV ?_; refine r_cmpI ?_; refine r_if (fun e => ?_) (fun e => ?_)
  · have e : ¬ ow.length ≤ 2147483647 := by have := of_decide_eq_true e; omega
    have := H _ _ s
    simpa [e] using this
  · have e : ow.length ≤ 2147483647 := by have := of_decide_eq_false e; omega
    have := H _ _ s
    unfold l_zzFits1.j1
    simpa [e] using this
end Go.Proofs.Ytljecmjdmdjldaa.Gi
end
section
namespace Go.Proofs.Ytljecmjdmdjldaa.Gi
open Go.Hp Go.Proofs.Ytljecmjdmdjldaa
variable {h0 h : Heap} {Z E : List Rg} {Q : Value → Heap → Prop} {lt : It → It → Bool} {lf : Value}
theorem allZ_leaf {d : Nd It} (hz : ∀ r ∈ GT.all enc (h := 0) d, r ∈ Z) : (d.n, 0, [.int .u64 d.iso, .int .i64 d.cnt, d.iv, .pointer none]) ∈ Z ∧ (d.ib, d.io, d.its.flatMap enc ++ d.isp) ∈ Z := by
  have hz : ∀ r ∈ d.leaf enc, r ∈ Z := hz
  exact ⟨hz _ (List.mem_cons_self ..), hz _ (List.mem_cons_of_mem _ (List.mem_cons_self ..))⟩
theorem allZ_inner {k : Nat} {d : Nd It} {ts : List (GT It k)} (hz : ∀ r ∈ GT.all enc (h := k + 1) (d, ts), r ∈ Z) :
    (d.n, 0, [.int .u64 d.iso, .int .i64 d.cnt, d.iv, ptr d.kb 0]) ∈ Z ∧ (d.ib, d.io, d.its.flatMap enc ++ d.isp) ∈ Z ∧ (d.kb, 0, [d.kv]) ∈ Z ∧ (d.krb, d.kro, (ts.map GT.id).flatMap fp ++ d.ksp) ∈ Z ∧ ∀ c ∈ ts, ∀ r ∈ c.all enc, r ∈ Z := by
  have hz : ∀ r ∈ d.inner enc (ts.map GT.id) ++ ts.flatMap (GT.all enc), r ∈ Z := hz
  have h1 : ∀ r ∈ d.inner enc (ts.map GT.id), r ∈ Z := fun r hr => hz r (List.mem_append.2 (.inl hr))
  refine ⟨h1 _ (List.mem_cons_self ..), h1 _ (List.mem_cons_of_mem _ (List.mem_cons_self ..)), h1 _ (List.mem_cons_of_mem _ (List.mem_cons_of_mem _ (List.mem_cons_self ..))), ?_, fun c hc r hr => hz r (List.mem_append.2 (.inr (List.mem_flatMap.2 ⟨c, hc, hr⟩)))⟩
  have := h1 _ (List.mem_cons_of_mem _ (List.mem_cons_of_mem _ (List.mem_cons_of_mem _ (List.mem_cons_self ..))))
  rw [mfp] at this; exact this
theorem kidcell {k : Nat} {ts : List (GT It k)} {krb kro i : Nat} {ksp : List Value} {c : GT It k} (hk : (krb, kro, (ts.map GT.id).flatMap fp ++ ksp) ∈ Z) (hc : ts[i]? = some c) (s : St h0 Z E h) : cl h krb (kro + i * 1) = some (ptr c.id 0) := by
  have hi : i < (ts.map GT.id).length := by rw [List.length_map]; exact (List.getElem?_eq_some_iff.1 hc).1
  refine s.clz hk (i * 1) rfl ?_; rw [List.getElem?_append_left (by rw [flat_len fpl]; omega)]
  have := flat_get (f := fp) fpl (ts.map GT.id) i hi 0 (by decide)
  rw [Nat.add_zero] at this; rw [this]
  have e : (ts.map GT.id)[i] = c.id := by
    have : (ts.map GT.id)[i]? = some c.id := by rw [List.getElem?_map, hc]; rfl
    exact (List.getElem?_eq_some_iff.1 this).2
  rw [e]; rfl
def Iso (Z : List Rg) (tb : Nat) (iso : Int) : Prop := ∃ xs, (tb, 0, xs) ∈ Z ∧ xs[0]? = some (.int .u64 iso)
theorem Iso.at {tb : Nat} {iso : Int} (i : Iso Z tb iso) (s : St h0 Z E h) : cl h tb 0 = some (.int .u64 iso) := by
  obtain ⟨xs, h1, h2⟩ := i; exact s.clz h1 0 rfl h2
theorem nodeItems_ok {m tb : Nat} {iso : Int} (hm : m ≤ 1024) (hi : Iso Z tb iso) : ∀ {k : Nat} (t : GT It k) {lo : Nat} (g : Gd iso t) (fl : t.pt.Fl m lo) (hz : ∀ r ∈ t.all enc, r ∈ Z) {L : List It} {v : Value} {b o pb po : Nat} {sp : List Value} {E : List Rg} {h : Heap} {Q : Value → Heap → Prop},
    L.length + t.pt.items.length ≤ 4294967295 → cl h pb po = some (ptr t.id 0) → Own 2 v L.length b o (L.flatMap enc) sp → St h0 Z ((b, o, L.flatMap enc ++ sp) :: E) h →
    (∀ v' b' o' sp' h', Own 2 v' (L ++ t.pt.items).length b' o' ((L ++ t.pt.items).flatMap enc) sp' → St h0 Z ((b', o', (L ++ t.pt.items).flatMap enc ++ sp') :: E) h' → Q v' h') → BTreeG_I_nodeItems.call #[ptr tb 0, ptr pb po, v, .bool false] h Q
  | 0, (d : Nd It), lo, g, fl, hz, L, v, b, o, pb, po, sp, E, h, Q, hN, hp, wv, s, H => by
    obtain ⟨own, n, is', cnt, its, iv, ib, io, isp, kb, kv', krb, kro, ksp⟩ := d; obtain ⟨z1, z2⟩ := allZ_leaf hz
    have w : Own 2 iv its.length ib io (its.flatMap enc) isp := g.wf.1
    have hl : its.length ≤ m := fl.2
    have hN : L.length + its.length ≤ 4294967295 := hN
    have H : ∀ v' b' o' sp' h', Own 2 v' (L ++ its).length b' o' ((L ++ its).flatMap enc) sp' → St h0 Z ((b', o', (L ++ its).flatMap enc ++ sp') :: E) h' → Q v' h' := H
    refine BTreeG_I_nodeItems.body _ _ _ _ _ _ ?_; unfold BTreeG_I_nodeItems.sh; refine isoLoad_ok (n := n) (hi.at s) hp (fun e => by cases e) ?_; refine node_leaf_ok (a := none) (s.clz z1 3 rfl rfl) ?_; refine r_if (fun _ => ?_) (fun e => absurd e (by simp))
    refine r_nil ?_; refine r_fld ?_; refine s.r_lz0 z1 (j := 2) rfl ?_; refine s.r_appL (f := enc) (L := L) (M := its) 0 rfl wv rfl (w.rdlO (s.z _ z2)) (fun _ _ => enc1 _) (by omega) (by omega) fun v' b' o' sp' h s w' => ?_; exact H v' b' o' sp' h w' s
  | k + 1, t, lo, g, fl, hz, L, v, b, o, pb, po, sp, E, h, Q, hN, hp, wv, s, H => by
    obtain ⟨d, ts⟩ := t; obtain ⟨own, n, is', cnt, its, iv, ib, io, isp, kb, kv', krb, kro, ksp⟩ := d; obtain ⟨z1, z2, z3, z4, z5⟩ := allZ_inner hz
    have w : Own 2 iv its.length ib io (its.flatMap enc) isp := g.wf.1.1
    have wK : Own 1 kv' ts.length krb kro ((ts.map GT.id).map fun m => ptr m 0) ksp := g.wf.2.1
    have hkl : ts.length = its.length + 1 := g.wf.2.2.1
    have hl : its.length ≤ m := fl.2.1
    have hpl : ∀ i, ((ts.take i).map fun t => t.pt.items) = (((ts.map GT.pt).take i).map PT.items) := fun i => by rw [← List.map_take, List.map_map]; rfl
    have hsplit : ∀ i (hi : i ≤ its.length) c, ts[i]? = some c → PT.items (h := k + 1) (its, ts.map GT.pt) = lz (its.take i) ((ts.take i).map fun t => t.pt.items) ++ (c.pt.items ++ rz (its.drop i) (((ts.map GT.pt).drop (i + 1)).map PT.items)) := by
      intro i hi c hc; obtain ⟨c', hc', _, e⟩ := PT.around (t := ((its, ts.map GT.pt) : PT It (k + 1))) fl hi
      have hc' : (ts.map GT.pt)[i]? = some c' := hc'
      rw [List.getElem?_map, hc] at hc'
      have : c' = c.pt := (Option.some.inj hc').symm
      subst this; rw [hpl]; exact e
    have hN : L.length + (PT.items (h := k + 1) (its, ts.map GT.pt)).length ≤ 4294967295 := hN
    have H : ∀ v' b' o' sp' h', Own 2 v' (L ++ PT.items (h := k + 1) (its, ts.map GT.pt)).length b' o' ((L ++ PT.items (h := k + 1) (its, ts.map GT.pt)).flatMap enc) sp' → St h0 Z ((b', o', (L ++ PT.items (h := k + 1) (its, ts.map GT.pt)).flatMap enc ++ sp') :: E) h' → Q v' h' := H
    refine BTreeG_I_nodeItems.body _ _ _ _ _ _ ?_; unfold BTreeG_I_nodeItems.sh; refine isoLoad_ok (n := n) (hi.at s) hp (fun e => by cases e) ?_; refine node_leaf_ok (a := some ⟨kb, 0, Option.none⟩) (s.clz z1 3 rfl rfl) ?_; refine r_if (fun e => absurd e (by simp)) (fun _ => ?_)
    unfold BTreeG_I_nodeItems.j1
    refine loop_ghost (fun q st h => ∃ j v b o sp, q = its.length - j ∧ j ≤ its.length ∧ st = [v, .int .i64 (j : Nat)] ∧ Own 2 v (L ++ lz (its.take j) ((ts.take j).map fun t => t.pt.items)).length b o ((L ++ lz (its.take j) ((ts.take j).map fun t => t.pt.items)).flatMap enc) sp ∧ St h0 Z ((b, o, (L ++ lz (its.take j) ((ts.take j).map fun t => t.pt.items)).flatMap enc ++ sp) :: E) h)
      (n0 := its.length) ⟨0, v, b, o, sp, rfl, Nat.zero_le _, rfl, by simpa [lz] using wv, by simpa [lz] using s⟩ ?_
    clear s
    rintro q st h ⟨j, v, b, o, sp, rfl, hj, rfl, wv, s⟩ K HK
    obtain ⟨c, hc⟩ : ∃ c, ts[j]? = some c := ⟨ts[j]'(by omega), List.getElem?_eq_getElem (by omega)⟩
    have hcm := List.mem_of_getElem? hc
    have hfc : PT.Fl m (m / 2) c.pt := fl.2.2.2 _ (List.mem_map.2 ⟨c, hcm, rfl⟩)
    have hs := hsplit j hj c hc
    have hsl := congrArg List.length hs
    simp only [List.length_append] at hsl
    unfold BTreeG_I_nodeItems.l3.b; refine r_nil ?_; refine r_fld ?_; refine s.r_lz0 z1 (j := 2) rfl ?_; refine w.lenV ?_; refine r_cmpI ?_; refine r_if (fun hlt => ?_) (fun hge => ?_)
    · have hlt : j < its.length := by simpa using hlt
      have hx : its[j]? = some its[j] := List.getElem?_eq_getElem hlt
      have et : its.take (j + 1) = its.take j ++ [its[j]] := List.take_succ_eq_append_getElem hlt
      have ek : ts.take (j + 1) = ts.take j ++ [c] := by rw [List.take_add_one, hc]; rfl
      have ez : lz (its.take (j + 1)) ((ts.take (j + 1)).map fun t => t.pt.items) = lz (its.take j) ((ts.take j).map fun t => t.pt.items) ++ (c.pt.items ++ [its[j]]) := by
        rw [et, ek, List.map_append, List.map_cons, List.map_nil, lz_snoc _ _ _ _ (by simp; omega)]
      obtain ⟨rest, hrest⟩ : ∃ rest, rz (its.drop j) (((ts.map GT.pt).drop (j + 1)).map PT.items) = its[j] :: rest := by
        have e1 : its.drop j = its[j] :: its.drop (j + 1) := List.drop_eq_getElem_cons hlt
        have e2 : (ts.map GT.pt).drop (j + 1) = (ts.map GT.pt)[j + 1]'(by simp; omega) :: (ts.map GT.pt).drop (j + 1 + 1) := List.drop_eq_getElem_cons (by simp; omega)
        rw [e1, e2, List.map_cons, rz_cons]; exact ⟨_, rfl⟩
      rw [hrest, List.length_cons] at hsl; unfold BTreeG_I_nodeItems.j4; refine r_nil ?_; refine r_fld ?_; refine s.r_lz0 z1 (j := 3) rfl ?_; refine r_nil ?_; refine s.r_lz0 z3 (j := 0) rfl ?_; refine wK.idx (n := j) rfl (by omega) ?_; refine nodeItems_ok hm hi c (g.kid hcm) hfc (z5 c hcm) (by rw [List.length_append]; omega) (kidcell z4 hc s) wv s fun v2 b2 o2 sp2 h s2 s => ?_; refine r_nil ?_; refine r_fld ?_; refine s.r_lz0 z1 (j := 2) rfl ?_; refine w.idx (n := j) rfl hlt ?_; refine s.r_loadFZ encl z2 hx ?_; refine St.r_mkSl (sz := 2) (cs := enc its[j]) s (by ((simp only [fillV, fill1, Value.cells, zeros_succ, zeros_zero, size_toArray, length_cons, length_nil, length_append, take_succ_cons, take_zero, take_nil, drop_succ_cons, drop_zero, drop_nil, cons_append, nil_append, append_nil, Nat.reduceAdd, Nat.reduceMul, Nat.reduceLeDiff, Nat.reduceEqDiff, and_self, and_true, true_and, if_true, Nat.le_refl, Nat.zero_add, Nat.add_zero, Nat.zero_mul, reduceIte, if_false] <;> rfl))) rfl fun q h s w1 => ?_; refine St.r_app s 1 (sz := 2) (n := 1) (new := enc its[j]) rfl s2 rfl (w1.rdl s 0 rfl) (enc1 _) (by simp only [List.length_append]; omega) (by simp only [List.length_append]; omega) fun v' b' o' sp' h s w' => ?_; rw [snoc_enc] at s w'
      have e9 : (L ++ lz (its.take j) ((ts.take j).map fun t => t.pt.items) ++ c.pt.items) ++ [its[j]] = L ++ lz (its.take (j + 1)) ((ts.take (j + 1)).map fun t => t.pt.items) := by
        rw [ez]; simp
      have w' : Own 2 v' ((L ++ lz (its.take j) ((ts.take j).map fun t => t.pt.items) ++ c.pt.items) ++ [its[j]]).length b' o' (((L ++ lz (its.take j) ((ts.take j).map fun t => t.pt.items) ++ c.pt.items) ++ [its[j]]).flatMap enc) sp' := by rw [List.length_append]; exact w'
      rw [e9] at s w'; unfold BTreeG_I_nodeItems.j5; refine r_add (z := ((j + 1 : Nat) : Int)) (by rw [i64w (by omega) (by omega)]; omega) ?_; exact HK (its.length - (j + 1)) _ _ (by omega) ⟨j + 1, v', b', o', sp', rfl, hlt, rfl, w', s.drop 1⟩
    · have hge : j = its.length := by simp at hge; omega
      subst hge
      have hr0 : rz (its.drop its.length) (((ts.map GT.pt).drop (its.length + 1)).map PT.items) = [] := by rw [List.drop_length]; rfl
      rw [hr0, List.append_nil] at hs; unfold BTreeG_I_nodeItems.j2; refine r_nil ?_; refine r_fld ?_; refine s.r_lz0 z1 (j := 3) rfl ?_; refine r_nil ?_; refine s.r_lz0 z3 (j := 0) rfl ?_; refine r_nil ?_; refine r_fld ?_; refine s.r_lz0 z1 (j := 3) rfl ?_; refine r_nil ?_; refine s.r_lz0 z3 (j := 0) rfl ?_; refine wK.lenV ?_; refine r_sub (z := ((its.length : Nat) : Int)) (by rw [i64w (by omega) (by omega)]; omega) ?_; refine wK.idx (n := its.length) rfl (by omega) ?_; refine nodeItems_ok hm hi c (g.kid hcm) hfc (z5 c hcm) (by rw [List.length_append]; omega) (kidcell z4 hc s) wv s fun v2 b2 o2 sp2 h s2 s => ?_
      have e9 : L ++ lz (its.take its.length) ((ts.take its.length).map fun t => t.pt.items) ++ c.pt.items = L ++ PT.items (h := k + 1) (its, ts.map GT.pt) := by rw [hs]; simp
      rw [e9] at s s2; exact H v2 b2 o2 sp2 h s2 s
theorem Items_ok {g : Rt} {tb m : Nat} {iso mn mx : Int} {ctr : Option Addr} (M : TreeOk lt m iso g) (hl : (rPt g).items.length ≤ 4294967295) (s : St h0 Z (((tb, 0, hdr iso ctr (rA g) (rPt g).items.length lf mn mx) :: rAll g) ++ E) h)
    (H : ∀ v b o sp h', Own 2 v (rPt g).items.length b o ((rPt g).items.flatMap enc) sp → St h0 Z ((b, o, (rPt g).items.flatMap enc ++ sp) :: (((tb, 0, hdr iso ctr (rA g) (rPt g).items.length lf mn mx) :: rAll g) ++ E)) h' → Q v h') :
    BTreeG_I_Items.call #[ptr tb 0] h Q := by
  refine BTreeG_I_Items.body _ _ _ ?_; unfold BTreeG_I_Items.sh; refine BTreeG_I_items.body _ _ _ _ ?_; unfold BTreeG_I_items.sh; refine lock_ok ?_; refine r_if (fun e => absurd e (by simp)) (fun _ => ?_)
  unfold BTreeG_I_items.j1; refine BTreeG_I_Len.body _ _ _ ?_; unfold BTreeG_I_Len.sh
  have s : St h0 Z ((tb, 0, hdr iso ctr (rA g) (rPt g).items.length lf mn mx) :: (rAll g ++ E)) h := s
  refine r_nil ?_; refine r_fld ?_; refine St.r_load0 s 0 rfl rfl ?_; refine s.r_mks (n := 0) (sz := 2) rfl (by omega) (by omega) (by omega) fun v b h s w => ?_; rw [zeros_zero] at s w; refine r_nil ?_; refine r_fld ?_; refine St.r_load0 s 1 rfl rfl ?_; refine r_neNilP ?_
  cases g with
  | none =>
    refine r_if (fun e => absurd e (by simp [rA])) (fun _ => ?_)
    unfold BTreeG_I_items.j2; exact H _ b 0 _ h w s
  | some t =>
    refine r_if (fun _ => ?_) (fun e => absurd e (by simp [rA]))
    refine r_nil ?_; refine r_fld ?_
    have s0 : St h0 Z (((tb, 0, hdr iso ctr (rA (some t)) (rPt (some t)).items.length lf mn mx) :: rAll (some t)) ++ ((b, 0, ([] : List It).flatMap enc ++ zeros [.int .i64 0, .int .i64 0] ((rPt (some t)).items.length - 0)) :: E)) h := s.perm (by ((apply perm_rg; intro f; simp only [set_cons_zero, set_cons_succ, eraseIdx_cons_zero, eraseIdx_cons_succ, cons_append, nil_append, map_append, map_cons, map_nil, List.sum_append, List.sum_cons, List.sum_nil, map_flatMap, Nat.add_zero, Nat.zero_add]; ac_rfl)))
    obtain ⟨s1, back⟩ := s0.borrow; refine nodeItems_ok M.m1 ⟨_, List.mem_cons_self .., rfl⟩ t.2 M.gd M.fl (fun r hr => List.mem_append.2 (.inl (List.mem_cons_of_mem _ hr))) (L := []) (by rw [List.length_nil, Nat.zero_add]; exact hl) (s1.clz (List.mem_cons_self ..) 2 rfl rfl) w s1 fun v' b' o' sp' h' w' s => ?_
    have s := back _ h' s
    unfold BTreeG_I_items.j2; exact H v' b' o' sp' h' w' (s.perm (by ((apply perm_rg; intro f; simp only [set_cons_zero, set_cons_succ, eraseIdx_cons_zero, eraseIdx_cons_succ, cons_append, nil_append, map_append, map_cons, map_nil, List.sum_append, List.sum_cons, List.sum_nil, map_flatMap, Nat.add_zero, Nat.zero_add]; ac_rfl))))
theorem Len_ok {tb : Nat} {v : Value} (hv : cl h tb 3 = some v) (H : Q v h) : BTreeG_I_Len.call #[ptr tb 0] h Q := by
  refine BTreeG_I_Len.body _ _ _ ?_; unfold BTreeG_I_Len.sh
  have s := St.start h
  refine r_nil ?_; refine r_fld ?_; refine s.r_loadB hv ?_; exact H
theorem Height_some {k : Nat} {t : GT It k} {tb : Nat} (hr : cl h tb 2 = some (ptr t.id 0)) (ht : t.At enc 2 h) (hk : k ≤ 1000000000) (H : Q (.int .i64 ((k + 1 : Nat) : Int)) h) : BTreeG_I_Height.call #[ptr tb 0] h Q := by
  refine BTreeG_I_Height.body _ _ _ ?_; unfold BTreeG_I_Height.sh; refine lock_ok ?_; refine r_if (fun e => absurd e (by simp)) (fun _ => ?_)
  unfold BTreeG_I_Height.j1
  have s := St.start h
  refine r_nil ?_; refine r_fld ?_; refine s.r_loadB hr ?_; refine r_neNilP ?_; refine r_if (fun _ => ?_) (fun e => absurd e (by simp))
  refine r_nil ?_; refine r_fld ?_; refine s.r_loadB hr ?_; refine loop_intro (fun l h' => h' = h ∧ ∃ (j : Nat) (t' : GT It j), j ≤ k ∧ t'.At enc 2 h ∧ l = [.int .i64 ((k - j : Nat) : Int), ptr t'.id 0]) (fun l _ => k - (Hp.iv (l.getD 0 undef)).toNat) ⟨rfl, k, t, Nat.le_refl _, ht, by simp⟩ ?_
  rintro l h' ⟨rfl, j, t', hj, ht', rfl⟩
  unfold BTreeG_I_Height.l3.b; refine r_add (z := ((k - j + 1 : Nat) : Int)) (by rw [i64w (by omega) (by omega)]; omega) ?_
  cases j with
  | zero =>
    refine node_leaf_ok (a := none) ht'.2 ?_; refine r_if (fun _ => ?_) (fun e => absurd e (by simp))
    exact H
  | succ j =>
    refine node_leaf_ok (a := some ⟨t'.1.kb, 0, none⟩) ht'.2.1 ?_; refine r_if (fun e => absurd e (by simp)) (fun _ => ?_)
    unfold BTreeG_I_Height.j4; refine r_nil ?_; refine r_fld ?_; refine s.r_loadB ht'.2.1 ?_; refine r_nil ?_; refine s.r_loadB ht'.2.2.1 ?_
    have hl : 0 < t'.2.length := by have := ht'.2.2.2.2.1; omega
    refine ht'.2.2.2.1.at1 rfl hl fun b o hb => ?_; refine hb.load0 rfl ?_; exact ⟨⟨rfl, j, t'.2[0], by omega, ht'.2.2.2.2.2 _ (List.getElem_mem hl), by simp; omega⟩, by simp; omega⟩
theorem Height_ok {g : Rt} {tb m : Nat} {iso mn mx : Int} {ctr : Option Addr} (M : TreeOk lt m iso g) (s : St h0 Z ((tb, 0, hdr iso ctr (rA g) (rPt g).items.length lf mn mx) :: (rAll g ++ E)) h) (hh : rH g ≤ 1000000000)
    (H : Q (.int .i64 (rH g)) h) : BTreeG_I_Height.call #[ptr tb 0] h Q := by
  cases g with
  | none =>
    refine BTreeG_I_Height.body _ _ _ ?_; unfold BTreeG_I_Height.sh; refine lock_ok ?_; refine r_if (fun e => absurd e (by simp)) (fun _ => ?_)
    unfold BTreeG_I_Height.j1; refine r_nil ?_; refine r_fld ?_; refine St.r_load0 s 0 rfl rfl ?_; refine r_neNilP ?_; refine r_if (fun e => absurd e (by simp [rA])) (fun _ => ?_)
    exact H
  | some t =>
    exact Height_some (t := t.2) (s.get (k := 0) (j := 2) rfl (by simp)) (GT.At.of M.gd.wf fun r hr => (s.e r (List.mem_cons_of_mem _ (List.mem_append_left _ hr))).1) (by have : t.1 + 1 ≤ _ := hh; omega) H
end Go.Proofs.Ytljecmjdmdjldaa.Gi
end
section
namespace Go.Proofs.Ytljecmjdmdjldaa.Gi
open Go.Hp Go.Proofs.Ytljecmjdmdjldaa
variable {h0 h : Heap} {Z E : List Rg} {Q : Value → Heap → Prop} {lt : It → It → Bool} {lf : Value}
def validN (ow : List Int) (d : Int) {k : Nat} (t : DT k) : Prop := match k, t with
  | 0, e => e.elim
  | _ + 1, t => (t.1 = [] ∧ t.2 = []) ∨ (t.lv.2 = true ∧ t.fl (if d = 0 then 32 else d) 1 = true ∧ Asc (ltO ow) t.items)
theorem s_Valid_ok {ow : List Int} {ov : Value} {k : Nat} (t : DT (k + 1)) {g : Heap} {vi vk vc v2 : Value} {d : Int} {Q : Value → Heap → Prop} (ho : OwAt g ow ov) (ha : ArgD g t vi vk) (hb : t.bulk ≤ 1073741824) (hk : k ≤ 1099511627775) (hd0 : 0 ≤ d) (hd : d ≤ 1073741824) (hvc : one1 vc = true) (hv2 : one1 v2 = true)
    (H : ∀ (b : Bool) E' h', (b = true ↔ validN ow d t) → St g [] E' h' → Q (.bool b) h') : s_Valid.call #[.agg #[ov, .int .i64 d, v2], .agg #[vi, vk, vc]] g Q := by
  have ha' := ha
  obtain ⟨hr, cs, hcl, hrk, hks⟩ := ha
  have hbulk := t.kids_le
  refine s_Valid.body _ _ _ _ ?_; unfold s_Valid.sh
  have s := St.start g
  refine St.r_box (cs := [ov, .int .i64 d, v2]) s fun b2 h s => ?_; refine St.r_box (cs := [vi, vk, vc]) s fun b3 h s => ?_; refine r_fld ?_; refine St.r_load0 s 0 rfl rfl ?_; refine (hr.st s).lenV ?_; refine r_cmpI ?_
  have main : ¬ (t.1 = [] ∧ t.2 = []) → s_Valid.j1 (ptr b2 0) (ptr b3 0) h Q := fun hne => by
    unfold s_Valid.j1; refine St.r_loadN0 s 0 rfl (by simp) ?_; refine s_Levels_ok t (ha'.fr s.fr) hb (by omega) hvc fun E1 h s1 => ?_
    have s := (s.join s1).perm List.perm_append_comm
    refine r_ext rfl ?_; refine r_ext rfl ?_; refine r_br (fun e1 => ?_) (fun e1 => H false _ _ ⟨fun e => (by cases e), fun hv => ?_⟩ s)
    · refine r_fld ?_
      refine St.r_load0 s 1 rfl rfl ?_; refine St.r_loadN0 s 0 rfl (by simp) ?_; refine s_Width.body _ _ _ ?_; unfold s_Width.sh; refine r_cmpI ?_
      have rest : ∀ (w : Int), w = (if d = 0 then 32 else d) → stillN 3 (ptr b3 0) (.agg #[vi, vk, vc]) h ∧ s_Filled.call #[.int .i64 w, .int .i64 1, .agg #[vi, vk, vc]] h fun t28 h => br t28 true (fld 0 (ptr b2 0) fun t31 =>
          load1 t31 h fun t32 => loadN 3 (ptr b3 0) h fun t33 => s_NodeItems.call #[t33] h fun t34 h => still1 t31 t32 h ∧ s_Rising.call #[t32, t34] h fun t35 h => Q t35 h) (Q (.bool false) h) := fun w hw => by
        refine ⟨St.r_stillN0 s 0 (j := 0) (n := 3) rfl (by simp) rfl, ?_⟩
        refine s_Filled_ok t (ha'.fr s.fr) hb (by rw [hw]; split <;> omega) (by rw [hw]; split <;> omega) hvc fun E2 h s2 => ?_
        have s := (s.join s2).perm List.perm_append_comm
        rw [hw]; refine r_br (fun e2 => ?_) (fun e2 => H false _ _ ⟨fun e => (by cases e), fun hv => ?_⟩ s)
        · refine r_fld ?_
          refine St.r_load0 s 1 rfl rfl ?_; refine St.r_loadN0 s 0 rfl (by simp) ?_; refine s_NodeItems_ok t (ha'.fr s.fr) hb hvc fun v E3 h s3 hv => ?_
          have hil := t.items_le
          have s := (s.join s3).perm List.perm_append_comm
          refine ⟨St.r_still0 s 1 rfl rfl, ?_⟩
          refine s_Rising_ok (ho.st s) hv (by omega) fun bb E4 h hbb s4 => ?_; refine H bb _ _ ⟨fun e => .inr ⟨e1, e2, hbb.1 e⟩, fun hv => ?_⟩ (s.join s4)
          rcases hv with hv | hv
          · exact absurd hv hne
          · exact hbb.2 hv.2.2
        · rcases hv with hv | hv
          · exact absurd hv hne
          · rw [hv.2.1] at e2; cases e2
      refine r_if (fun e => rest 32 (by have := eq_of_beq e; rw [if_pos this])) (fun e => ?_)
      unfold s_Width.j1
      exact rest d (by have : d ≠ 0 := by simpa using e
                       rw [if_neg this])
    · rcases hv with hv | hv
      · exact absurd hv hne
      · rw [hv.1] at e1; cases e1
  refine r_br (fun e => ?_) (fun e => main fun hh => ?_)
  · have e : t.1 = [] := List.length_eq_zero_iff.1 (by have := eq_of_beq e; omega)
    refine r_fld ?_; refine St.r_load0 s 0 rfl rfl ?_; refine (hrk.st s).lenV ?_; refine r_cmpI ?_; refine r_if (fun e2 => ?_) (fun e2 => main fun hh => ?_)
    · have e2 : t.2 = [] := List.length_eq_zero_iff.1 (by have := eq_of_beq e2; omega)
      exact H true _ _ ⟨fun _ => .inl ⟨e, e2⟩, fun _ => rfl⟩ s
    · rw [hh.2] at hcl
      simp at hcl
      rw [hcl] at e2
      simp at e2
  · rw [hh.1] at e
    simp at e
theorem l_valid_ok {ow : List Int} {ov : Value} {nl : Bool} {k : Nat} (t : DT (k + 1)) {g : Heap} {vi vk vc : Value} {d : Int} {Q : Value → Heap → Prop} (ho : OwAt g ow ov) (ha : ArgD g t vi vk) (hb : t.bulk ≤ 1073741824) (hk : k ≤ 1099511627775) (hvc : one1 vc = true)
    (H : ∀ (b : Bool) E' h', (b = true ↔ (d = 0 ∨ 2 ≤ d ∧ d ≤ 128) ∧ validN ow d t) → St g [] E' h' → Q (.bool b) h') : l_valid.call #[.agg #[ov, .int .i64 d, .bool nl], .agg #[vi, vk, vc]] g Q := by
  refine l_valid.body _ _ _ _ ?_; unfold l_valid.sh
  have s := St.start g
  refine St.r_box (cs := [ov, .int .i64 d, .bool nl]) s fun b2 h s => ?_; refine St.r_box (cs := [vi, vk, vc]) s fun b3 h s => ?_; refine St.r_loadN0 s 1 rfl (by simp) ?_; refine l_fits_ok ho.one fun E1 h s1 => ?_
  have s := (s.join s1).perm List.perm_append_comm
  refine r_br (fun e => ?_) (fun e => H false _ _ ⟨fun e => (by cases e), fun hv => ?_⟩ s)
  · have e : d = 0 ∨ 2 ≤ d ∧ d ≤ 128 := of_decide_eq_true e
    refine St.r_loadN0 s 1 rfl (by simp) ?_; refine St.r_loadN0 s 0 rfl (by simp) ?_; refine s_Valid_ok t (ho.st s) (ha.fr s.fr) hb hk (by omega) (by omega) hvc rfl fun b E' h hbb s2 => ?_; exact H b _ _ ⟨fun e2 => ⟨e, hbb.1 e2⟩, fun hv => hbb.2 hv.2⟩ (s.join s2)
  · have e : ¬ (d = 0 ∨ 2 ≤ d ∧ d ≤ 128) := of_decide_eq_false e
    exact absurd hv.1 e
theorem l_zzFits3_ok {m n : Nat} {vi vk vc : Value} {xs ys : List Value} (hi : Rdl 2 h vi m xs) (hk : Rdl 3 h vk n ys) (h1 : m ≤ 2147483647) (h2 : n ≤ 2147483647) (hvc : one1 vc = true) (H : ∀ E' h', St h [] E' h' → Q (.bool true) h') : l_zzFits3.call #[.agg #[vi, vk, vc]] h Q := by
  refine l_zzFits3.body _ _ _ ?_; unfold l_zzFits3.sh
  have s := St.start h
  refine St.r_box (cs := [vi, vk, vc]) s fun b h s => ?_; refine r_fld ?_; refine St.r_load0 s 0 rfl rfl ?_; refine (hi.st s).lenV ?_; refine r_cmpI ?_; refine r_if (fun e => absurd (of_decide_eq_true e) (by omega)) (fun _ => ?_)
  unfold l_zzFits3.j1; refine r_fld ?_; refine St.r_load0 s 0 rfl rfl ?_; refine (hk.st s).lenV ?_; refine r_cmpI ?_; refine r_if (fun e => absurd (of_decide_eq_true e) (by omega)) (fun _ => ?_)
  exact H _ _ s
theorem exists_list {α β : Type} {R : α → β → Prop} : ∀ (l : List α), (∀ a, a ∈ l → ∃ b, R a b) → ∃ l' : List β, l'.length = l.length ∧ ∀ i (h1 : i < l.length) (h2 : i < l'.length), R l[i] l'[i]
  | [], _ => ⟨[], rfl, fun i h1 => absurd h1 (Nat.not_lt_zero _)⟩
  | a :: r, h => by
    obtain ⟨b, hb⟩ := h a (List.mem_cons_self ..); obtain ⟨l', h1, h2⟩ := exists_list r fun x hx => h x (List.mem_cons_of_mem _ hx); refine ⟨b :: l', by simp [h1], fun i i1 i2 => ?_⟩
    cases i with
    | zero => exact hb
    | succ i => exact h2 i (by simpa using i1) (by simpa using i2)
theorem lv_pos : ∀ {k : Nat} (t : DT k), t.lv.2 = true → 1 ≤ t.lv.1
  | 0, e => e.elim
  | k + 1, t => by
    unfold DT.lv
    split
    · intro _; exact Nat.le_refl _
    · split
      · intro _; exact Nat.succ_le_succ (Nat.zero_le _)
      · intro h; cases h
structure Uni {k n : Nat} (t : DT k) (x : PT It n) : Prop where
  its : x.its = t.its
  items : x.items = t.items
  sh : ∀ m, t.bulk ≤ m → x.Sh m
  arg : ∀ h vi vk, ArgD h t vi vk → ArgT h x vi vk
  fl : ∀ d lo : Nat, 1 ≤ d → t.fl d lo = true → x.Fl (2 * d - 1) lo
theorem uni_of : ∀ {k : Nat} (t : DT k) (n : Nat), t.lv = (n + 1, true) → ∃ x : PT It n, Uni t x
  | 0, e, _, _ => e.elim
  | k + 1, t, n, h => by
    match ht : t.2 with
    | [] =>
      have hl : t.lv = (1, true) := by unfold DT.lv; rw [ht]
      rw [hl] at h
      have hn : n = 0 := by have := congrArg Prod.fst h; simp at this; omega
      subst hn; refine ⟨t.1, rfl, ?_, fun m hm => ?_, fun h vi vk ⟨hr, cs, hcl, hrk, _⟩ => ⟨hr, ?_⟩, fun d lo h1 hf => ?_⟩
      · show t.1 = inter t.1 (t.2.map DT.items); rw [ht]; rfl
      · have := t.kids_le; show t.1.length ≤ m; omega
      · rw [ht] at hcl
        have hc0 : cs.length = 0 := hcl
        obtain ⟨a, cap, e, _⟩ := hrk; rw [hc0] at e; exact ⟨a, cap, e⟩
      · have : t.fl d lo = (decide ((lo : Int) ≤ t.1.length) && decide ((t.1.length : Int) ≤ 2 * d - 1) && t.2.all fun q => DT.fl d (d - 1) q) := rfl
        rw [this] at hf
        simp only [Bool.and_eq_true, decide_eq_true_eq] at hf
        show lo ≤ t.1.length ∧ t.1.length ≤ 2 * d - 1
        omega
    | q :: qs =>
      by_cases e : qs.length = t.1.length
      · have hl : t.lv = (q.lv.1 + 1, q.lv.2 && qs.all fun x => x.lv.2 && x.lv.1 == q.lv.1) := by
          conv => lhs; unfold DT.lv
          rw [ht]; simp only [if_pos e]
        rw [hl] at h
        have hn := congrArg Prod.fst h
        have hb := congrArg Prod.snd h
        simp only at hn hb
        have hq : q.lv.2 = true := by cases hh : q.lv.2 <;> simp_all
        have hp := lv_pos q hq
        obtain ⟨n, rfl⟩ : ∃ m, n = m + 1 := ⟨n - 1, by omega⟩
        have hall : ∀ x, x ∈ t.2 → x.lv = (n + 1, true) := fun x hx => by
          rw [ht] at hx
          rcases List.mem_cons.1 hx with rfl | hx
          · exact Prod.ext (by simp only; omega) hq
          · rw [hq, Bool.true_and, List.all_eq_true] at hb
            have := hb x hx
            simp only [Bool.and_eq_true, beq_iff_eq] at this
            exact Prod.ext (by simp only; omega) this.1
        obtain ⟨xs, hxl, hxs⟩ := exists_list t.2 fun x hx => uni_of x n (hall x hx); refine ⟨(t.1, xs), rfl, ?_, fun m hm => ?_, fun h vi vk ⟨hr, cs, hcl, hrk, hks⟩ => ⟨hr, ?_, cs, ?_, hrk, fun j h1 h2 => ?_⟩, fun d lo h1 hf => ?_⟩
        · show inter t.1 (xs.map PT.items) = inter t.1 (t.2.map DT.items)
          congr 1
          refine List.ext_getElem (by simp [hxl]) fun i h1 h2 => ?_
          simp only [List.getElem_map]
          exact (hxs i (by simpa using h2) (by simpa using h1)).items
        · have hk := t.kids_le
          refine ⟨by show t.1.length ≤ m; omega, by show xs.length = t.1.length + 1; rw [hxl, ht, List.length_cons, e], fun x hx => ?_⟩
          obtain ⟨i, hi, rfl⟩ := List.getElem_of_mem (show x ∈ xs from hx)
          have := t.kid_le (List.getElem_mem (show i < t.2.length by omega))
          exact (hxs i (by omega) hi).sh m (by omega)
        · show xs ≠ []
          intro hh; rw [hh, ht] at hxl
          simp at hxl
        · show cs.length = xs.length
          rw [hxl]; exact hcl
        · have h1' : j < xs.length := h1
          exact (hxs j (by omega) h1').arg h _ _ (hks j (by omega) h2)
        · have : t.fl d lo = (decide ((lo : Int) ≤ t.1.length) && decide ((t.1.length : Int) ≤ 2 * d - 1) && t.2.all fun q => DT.fl d (d - 1) q) := rfl
          rw [this] at hf
          simp only [Bool.and_eq_true, decide_eq_true_eq, List.all_eq_true] at hf
          refine ⟨by show lo ≤ t.1.length; omega, by show t.1.length ≤ _; omega, by show xs.length = t.1.length + 1; rw [hxl, ht, List.length_cons, e], fun x hx => ?_⟩
          obtain ⟨i, hi, rfl⟩ := List.getElem_of_mem (show x ∈ xs from hx)
          have h3 := hf.2 _ (List.getElem_mem (show i < t.2.length by omega))
          have e4 : (2 * d - 1) / 2 = d - 1 := by omega
          rw [e4]; refine (hxs i (by omega) hi).fl d (d - 1) h1 ?_; rw [show ((d - 1 : Nat) : Int) = (d : Int) - 1 by omega]; exact h3
      · have hl : t.lv = (0, false) := by unfold DT.lv; rw [ht]; simp only [if_neg e]
        rw [hl] at h
        cases h
end Go.Proofs.Ytljecmjdmdjldaa.Gi
end
section
namespace Go.Proofs.Ytljecmjdmdjldaa.Gi
open Go.Hp Go.Proofs.Ytljecmjdmdjldaa
variable {h0 h : Heap} {Z E : List Rg} {Q : Value → Heap → Prop} {lt : It → It → Bool} {lf : Value}
theorem eqItem (a i : Int) (d : Nat) : EqV Try.prog (d + 2) 27 (.agg #[.int .i64 a, .int .i64 i]) (.agg #[.int .i64 a, .int .i64 i]) true := by
  refine .inr (.inr (.inr ⟨_, _, _, Try.underlying27, by kernel_rfl, rfl, rfl, ?_⟩))
  refine ⟨by decide, .int .i64 a, .int .i64 a, true, ⟨_, Try.underlying3, .inr ⟨by kernel_rfl, rfl⟩⟩, ⟨_, Try.underlying3, .inr ⟨by kernel_rfl, rfl⟩⟩, .inl ⟨_, _, a, a, Try.underlying3, rfl, rfl, by simp⟩, .inr ⟨rfl, ?_⟩⟩
  exact ⟨by decide, .int .i64 i, .int .i64 i, true, ⟨_, Try.underlying3, .inr ⟨by kernel_rfl, rfl⟩⟩, ⟨_, Try.underlying3, .inr ⟨by kernel_rfl, rfl⟩⟩, .inl ⟨_, _, i, i, Try.underlying3, rfl, rfl, by simp⟩, .inr ⟨rfl, rfl⟩⟩
def mt0 : MT It → (k : Nat) × PT It k
  | none => ⟨0, ([] : List It)⟩
  | some t => t
def mh : MT It → Nat
  | none => 0
  | some t => t.1 + 1
theorem mt0_items (y : MT It) : (mt0 y).2.items = y.items := by cases y <;> rfl
theorem Sh_mono {m m' : Nat} (h : m ≤ m') : ∀ {k : Nat} {x : PT It k}, x.Sh m → x.Sh m'
  | 0, _, s => Nat.le_trans s h
  | _ + 1, _, s => ⟨Nat.le_trans s.1 h, s.2.1, fun c hc => Sh_mono h (s.2.2 c hc)⟩
theorem head_mem {iso : Int} : ∀ {k : Nat} {t : GT It k}, Gd iso t → ∃ a1 a2 a3, (t.id, 0, [a1, Value.int .i64 t.pt.items.length, a2, a3]) ∈ t.all enc
  | 0, d, g => by
    have e : (Nd.cnt d : Int) = ((Nd.its d).length : Nat) := g.cn
    refine ⟨.int .u64 (Nd.iso d), Nd.iv d, .pointer none, ?_⟩
    show (Nd.n d, 0, [_, Value.int .i64 ((Nd.its d).length : Nat), _, _]) ∈ Nd.leaf enc d
    rw [← e]; exact List.mem_cons_self ..
  | k + 1, t, g => by
    have e : t.1.cnt = (GT.pt (h := k + 1) t).items.length := g.cn.1
    refine ⟨.int .u64 t.1.iso, t.1.iv, ptr t.1.kb 0, ?_⟩
    rw [← e]; exact List.mem_append_left _ (List.mem_cons_self ..)
def Stands (ow : List Int) (ov : Value) (nl : Bool) (d : Nat) (m0 : MT It) (h : Heap) (vi vk vc : Value) : Prop := ∀ {Q : Value → Heap → Prop}, (∀ (g : Rt) tb lf cb A E' h', rPt g = m0 → Tr h [] ow d tb g A E' lf cb h' → Q (ptr tb 0) h') → i_stand.call #[.agg #[ov, .int .i64 d, .bool nl], .agg #[vi, vk, vc]] h Q
theorem stands_of2 {ow : List Int} {ov : Value} {nl : Bool} {d k : Nat} {t : DT (k + 1)} {g : Heap} {vi vk vc : Value} (ho : OwAt g ow ov) (ha : ArgD g t vi vk) (hb : t.bulk ≤ 268435456) (hvc : one1 vc = true) (hd : d = 0 ∨ 2 ≤ d) (hd2 : d ≤ 512) (hv : validN ow d t) :
    ∃ m0 : MT It, m0.items = t.items ∧ mh m0 = (if t.1 = [] then 0 else t.lv.1) ∧ m0.Fl (dmax d) ∧ Asc (ltO ow) m0.items ∧ ((t.1 = [] ∧ t.2 = [] ∧ m0 = none) ∨ ∃ (n : Nat) (x : PT It n), m0 = some ⟨n, x⟩ ∧ Uni t x) ∧ ∀ h, Fr (fun _ _ => False) g h → Stands ow ov nl d m0 h vi vk vc := by
  have ha' := ha
  obtain ⟨hr, cs, hcl, hrk, hks⟩ := ha; obtain ⟨m3, m1, mo, _, mn0⟩ := dmax_ok hd hd2
  rcases hv with ⟨he1, he2⟩ | ⟨hlv, hfl, hasc⟩
  · have hnil : t.items = [] := by show inter t.1 (t.2.map DT.items) = []; rw [he1, he2]; rfl
    refine ⟨none, hnil.symm, by rw [if_pos he1]; rfl, trivial, List.Pairwise.nil, .inl ⟨he1, he2, rfl⟩, fun h f Q H => ?_⟩
    have ho := ho.fr f
    have hr := hr.fr f (fun _ _ e => e)
    have hrk := hrk.fr f (fun _ _ e => e)
    refine i_stand.body _ _ _ _ ?_; unfold i_stand.sh
    have s := St.start h
    refine St.r_box (cs := [ov, .int .i64 d, .bool nl]) s fun b2 h s => ?_; refine St.r_box (cs := [vi, vk, vc]) s fun b3 h s => ?_; refine St.r_loadN0 s 1 rfl (by simp) ?_; refine grow_nil (ho.st s) hd hd2 fun tb lf cb A E1 h T => ?_
    have s1 := T.st
    have s := (s.join s1).perm List.perm_append_comm
    refine r_fld ?_; refine St.r_load0 s 0 rfl rfl ?_; refine (hr.st s).lenV ?_; refine r_cmpI ?_; refine r_br (fun _ => ?_) (fun e => absurd e (by rw [he1]; simp))
    refine r_fld ?_; refine St.r_load0 s 0 rfl rfl ?_; refine (hrk.st s).lenV ?_; refine r_cmpI ?_; refine r_if (fun e => absurd e (by rw [hcl, he2]; simp)) (fun _ => ?_)
    unfold i_stand.j1; refine H none tb lf cb A ((b3, 0, [vi, vk, vc]) :: (b2, 0, [ov, .int .i64 d, .bool nl]) :: E1) _ rfl ⟨T.ord, T.ok, s.perm ?_⟩
    simp only [rAll]; ((apply perm_rg; intro f; simp only [set_cons_zero, set_cons_succ, eraseIdx_cons_zero, eraseIdx_cons_succ, cons_append, nil_append, map_append, map_cons, map_nil, List.sum_append, List.sum_cons, List.sum_nil, map_flatMap, Nat.add_zero, Nat.zero_add]; ac_rfl))
  · have hne0 : t.1 ≠ [] := by
      have h1 : (1 : Int) ≤ t.1.length := by
        have : t.fl (if (d : Int) = 0 then 32 else d) 1 = (decide ((1 : Int) ≤ t.1.length) && decide ((t.1.length : Int) ≤ 2 * (if (d : Int) = 0 then 32 else (d : Int)) - 1) && t.2.all fun q => q.fl (if (d : Int) = 0 then 32 else (d : Int)) ((if (d : Int) = 0 then 32 else (d : Int)) - 1)) := rfl
        rw [this] at hfl
        simp only [Bool.and_eq_true, decide_eq_true_eq] at hfl
        exact hfl.1.1
      intro hh; rw [hh] at h1
      simp at h1
    have hp := lv_pos t hlv
    obtain ⟨x, hx⟩ := uni_of t (t.lv.1 - 1) (Prod.ext (by simp only; omega) hlv)
    have hil := t.items_le
    have hF : x.Fl (dmax d) 1 := by
      by_cases e : d = 0
      · subst e
        have := hx.fl 32 1 (by omega) (by simpa using hfl)
        exact this
      · rw [if_neg (by omega)] at hfl
        have := hx.fl d 1 (by omega) hfl
        unfold dmax; rw [if_neg e]; exact this
    have hA : Asc (ltO ow) x.items := by rw [hx.items]; exact hasc
    refine ⟨some ⟨_, x⟩, hx.items, by rw [if_neg hne0]; show t.lv.1 - 1 + 1 = _; omega, hF, hA, .inr ⟨_, x, rfl, hx⟩, fun h f Q H => ?_⟩
    have ho := ho.fr f
    have hr := hr.fr f (fun _ _ e => e)
    have hax := (hx.arg _ _ _ (ha'.fr f))
    refine i_stand.body _ _ _ _ ?_; unfold i_stand.sh
    have s := St.start h
    refine St.r_box (cs := [ov, .int .i64 d, .bool nl]) s fun b2 h s => ?_; refine St.r_box (cs := [vi, vk, vc]) s fun b3 h s => ?_; refine St.r_loadN0 s 1 rfl (by simp) ?_; refine grow_nil (ho.st s) hd hd2 fun tb lf cb A E1 h T => ?_
    have s1 := T.st
    have s := (s.join s1).perm List.perm_append_comm
    refine r_fld ?_; refine St.r_load0 s 0 rfl rfl ?_; refine (hr.st s).lenV ?_; refine r_cmpI ?_; refine r_br (fun e => ?_) (fun _ => ?_)
    · have : t.1.length = 0 := by have := of_decide_eq_false e; omega
      exact absurd (List.length_eq_zero_iff.1 this) hne0
    have s : St _ [] ((tb, 0, hdr 1 (some ⟨cb, 0, none⟩) none 0 lf (dmin d : Nat) (dmax d : Nat)) :: ((b3, 0, [vi, vk, vc]) :: (b2, 0, [ov, .int .i64 d, .bool nl]) :: (A ++ E1))) h := s.perm (by simp only [rAll]; ((apply perm_rg; intro f; simp only [set_cons_zero, set_cons_succ, eraseIdx_cons_zero, eraseIdx_cons_succ, cons_append, nil_append, map_append, map_cons, map_nil, List.sum_append, List.sum_cons, List.sum_nil, map_flatMap, Nat.add_zero, Nat.zero_add]; ac_rfl)))
    refine St.r_loadN0 s 1 rfl (by simp) ?_; refine planted_ok x (s.get (k := 0) (j := 0) rfl (by simp)) (hax.fr s.fr) (hx.sh _ (by omega)) (by rw [hx.items]; omega) hvc fun t' h ht1 gt s2 => ?_
    have s := (s.join s2).perm List.perm_append_comm
    obtain ⟨a1, a2, a3, hm⟩ := head_mem gt
    have s : St _ [] ((tb, 0, hdr 1 (some ⟨cb, 0, none⟩) none 0 lf (dmin d : Nat) (dmax d : Nat)) :: (((b3, 0, [vi, vk, vc]) :: (b2, 0, [ov, .int .i64 d, .bool nl]) :: (A ++ E1)) ++ t'.all enc)) h := s
    refine DoorPlant_ok s (List.mem_append_left _ (List.mem_append_right _ hm)) fun h s => ?_; unfold i_stand.j1
    have er : rPt (some ⟨_, t'⟩) = some ⟨_, x⟩ := by show some (⟨_, t'.pt⟩ : (k : Nat) × PT It k) = _; rw [ht1]
    refine H (some ⟨_, t'⟩) tb lf cb A ((b3, 0, [vi, vk, vc]) :: (b2, 0, [ov, .int .i64 d, .bool nl]) :: E1) h er ⟨T.ord, ⟨gt, by rw [er]; exact hF, by rw [er]; exact hA, m3, m1, mo⟩, s.perm ?_⟩
    simp only [rAll, rA, rPt]
    ((apply perm_rg; intro f; simp only [set_cons_zero, set_cons_succ, eraseIdx_cons_zero, eraseIdx_cons_succ, cons_append, nil_append, map_append, map_cons, map_nil, List.sum_append, List.sum_cons, List.sum_nil, map_flatMap, Nat.add_zero, Nat.zero_add]; ac_rfl))
theorem stands_of {ow : List Int} {ov : Value} {nl : Bool} {d k : Nat} {t : DT (k + 1)} {g : Heap} {vi vk vc : Value} (ho : OwAt g ow ov) (ha : ArgD g t vi vk) (hb : t.bulk ≤ 268435456) (hvc : one1 vc = true) (hd : d = 0 ∨ 2 ≤ d) (hd2 : d ≤ 512) (hv : validN ow d t) :
    ∃ m0 : MT It, m0.items = t.items ∧ mh m0 = (if t.1 = [] then 0 else t.lv.1) ∧ m0.Fl (dmax d) ∧ Asc (ltO ow) m0.items ∧ ∀ h, Fr (fun _ _ => False) g h → Stands ow ov nl d m0 h vi vk vc := by
  obtain ⟨m0, e1, e2, e3, e4, _, e5⟩ := stands_of2 (nl := nl) ho ha hb hvc hd hd2 hv; exact ⟨m0, e1, e2, e3, e4, e5⟩
theorem rH_mh (g : Rt) : rH g = mh (rPt g) := by cases g <;> rfl
theorem i_NItems_ok {ow : List Int} {ov : Value} {nl : Bool} {d : Nat} {m0 : MT It} {vi vk vc : Value} (hov : one1 ov = true) (h1 : one1 vi = true) (h2 : one1 vk = true) (h3 : one1 vc = true) (hs : ∀ h', Fr (fun _ _ => False) h h' → Stands ow ov nl d m0 h' vi vk vc) (hl : m0.items.length ≤ 268435456) (hh : mh m0 ≤ 1000000000)
    (H : ∀ v E' h', St h [] E' h' → Rdl 2 h' v m0.items.length (m0.items.flatMap enc) → Q (.tuple #[v, .int .i64 m0.items.length, .int .i64 (mh m0)]) h') : i_NItems.call #[.agg #[ov, .int .i64 d, .bool nl], .agg #[vi, vk, vc]] h Q := by
  refine i_NItems.body _ _ _ _ ?_; unfold i_NItems.sh
  have s := St.start h
  refine St.r_box (cs := [ov, .int .i64 d, .bool nl]) s fun b2 h s => ?_; refine St.r_box (cs := [vi, vk, vc]) s fun b3 h s => ?_; refine St.r_loadN0 s 1 rfl (by simp) ?_; refine St.r_loadN0 s 0 rfl (by simp) ?_; refine hs h s.fr fun g tb lf cb A E1 h e T => ?_; subst e
  have s1 := T.st
  have s := (s.join s1).perm List.perm_append_comm
  have s : St _ [] (((tb, 0, hdr 1 (some ⟨cb, 0, none⟩) (rA g) (rPt g).items.length lf (dmin d : Nat) (dmax d : Nat)) :: rAll g) ++ (A ++ ((b3, 0, [vi, vk, vc]) :: (b2, 0, [ov, .int .i64 d, .bool nl]) :: E1))) h := s.perm (by ((apply perm_rg; intro f; simp only [set_cons_zero, set_cons_succ, eraseIdx_cons_zero, eraseIdx_cons_succ, cons_append, nil_append, map_append, map_cons, map_nil, List.sum_append, List.sum_cons, List.sum_nil, map_flatMap, Nat.add_zero, Nat.zero_add]; ac_rfl)))
  refine Items_ok T.ok (by omega) s fun v b o sp h w s => ?_; refine Len_ok (s.get (k := 1) (j := 3) rfl (by simp)) ?_
  have s : St _ [] ((tb, 0, hdr 1 (some ⟨cb, 0, none⟩) (rA g) (rPt g).items.length lf (dmin d : Nat) (dmax d : Nat)) :: (rAll g ++ ((b, o, (rPt g).items.flatMap enc ++ sp) :: (A ++ ((b3, 0, [vi, vk, vc]) :: (b2, 0, [ov, .int .i64 d, .bool nl]) :: E1))))) h := s.perm (by ((apply perm_rg; intro f; simp only [set_cons_zero, set_cons_succ, eraseIdx_cons_zero, eraseIdx_cons_succ, cons_append, nil_append, map_append, map_cons, map_nil, List.sum_append, List.sum_cons, List.sum_nil, map_flatMap, Nat.add_zero, Nat.zero_add]; ac_rfl)))
  refine Height_ok T.ok s (by rw [rH_mh]; exact hh) ?_; rw [rH_mh]; refine H v _ h s (w.rdlO (s.ok (List.mem_append_left _ (List.mem_cons_of_mem _ (List.mem_append_right _ (List.mem_cons_self ..))))))
def exDT : DT 2 := ([(4, 1)], [([(2, 2)], []), ([(6, 3)], [])])
theorem l_exNode_ok (H : ∀ vi vk E' h', St h [] E' h' → ArgD h' exDT vi vk → Q (.agg #[vi, vk, .int .i64 0]) h') : l_exNode.call #[] h Q := by
  refine l_exNode.body _ _ ?_; unfold l_exNode.sh
  have s := St.start h
  refine s.r_alloc fun t0 h s => ?_
  ((apply r_build; ((simp only [fillV, fill1, Value.cells, zeros_succ, zeros_zero, size_toArray, length_cons, length_nil, length_append, take_succ_cons, take_zero, take_nil, drop_succ_cons, drop_zero, drop_nil, cons_append, nil_append, append_nil, Nat.reduceAdd, Nat.reduceMul, Nat.reduceLeDiff, Nat.reduceEqDiff, and_self, and_true, true_and, if_true, Nat.le_refl, Nat.zero_add, Nat.add_zero, Nat.zero_mul, reduceIte, if_false] <;> rfl))))
  refine s.r_mkSl (sz := 2) (cs := [.int .i64 4, .int .i64 1]) (by ((simp only [fillV, fill1, Value.cells, zeros_succ, zeros_zero, size_toArray, length_cons, length_nil, length_append, take_succ_cons, take_zero, take_nil, drop_succ_cons, drop_zero, drop_nil, cons_append, nil_append, append_nil, Nat.reduceAdd, Nat.reduceMul, Nat.reduceLeDiff, Nat.reduceEqDiff, and_self, and_true, true_and, if_true, Nat.le_refl, Nat.zero_add, Nat.add_zero, Nat.zero_mul, reduceIte, if_false] <;> rfl))) rfl fun t2 h s w2 => ?_
  ((apply r_build; ((simp only [fillV, fill1, Value.cells, zeros_succ, zeros_zero, size_toArray, length_cons, length_nil, length_append, take_succ_cons, take_zero, take_nil, drop_succ_cons, drop_zero, drop_nil, cons_append, nil_append, append_nil, Nat.reduceAdd, Nat.reduceMul, Nat.reduceLeDiff, Nat.reduceEqDiff, and_self, and_true, true_and, if_true, Nat.le_refl, Nat.zero_add, Nat.add_zero, Nat.zero_mul, reduceIte, if_false] <;> rfl))))
  refine s.r_mkSl (sz := 2) (cs := [.int .i64 2, .int .i64 2]) (by ((simp only [fillV, fill1, Value.cells, zeros_succ, zeros_zero, size_toArray, length_cons, length_nil, length_append, take_succ_cons, take_zero, take_nil, drop_succ_cons, drop_zero, drop_nil, cons_append, nil_append, append_nil, Nat.reduceAdd, Nat.reduceMul, Nat.reduceLeDiff, Nat.reduceEqDiff, and_self, and_true, true_and, if_true, Nat.le_refl, Nat.zero_add, Nat.add_zero, Nat.zero_mul, reduceIte, if_false] <;> rfl))) rfl fun t4 h s w4 => ?_
  ((apply r_build; ((simp only [fillV, fill1, Value.cells, zeros_succ, zeros_zero, size_toArray, length_cons, length_nil, length_append, take_succ_cons, take_zero, take_nil, drop_succ_cons, drop_zero, drop_nil, cons_append, nil_append, append_nil, Nat.reduceAdd, Nat.reduceMul, Nat.reduceLeDiff, Nat.reduceEqDiff, and_self, and_true, true_and, if_true, Nat.le_refl, Nat.zero_add, Nat.add_zero, Nat.zero_mul, reduceIte, if_false] <;> rfl))))
  ((apply r_build; ((simp only [fillV, fill1, Value.cells, zeros_succ, zeros_zero, size_toArray, length_cons, length_nil, length_append, take_succ_cons, take_zero, take_nil, drop_succ_cons, drop_zero, drop_nil, cons_append, nil_append, append_nil, Nat.reduceAdd, Nat.reduceMul, Nat.reduceLeDiff, Nat.reduceEqDiff, and_self, and_true, true_and, if_true, Nat.le_refl, Nat.zero_add, Nat.add_zero, Nat.zero_mul, reduceIte, if_false] <;> rfl))))
  refine s.r_mkSl (sz := 2) (cs := [.int .i64 6, .int .i64 3]) (by ((simp only [fillV, fill1, Value.cells, zeros_succ, zeros_zero, size_toArray, length_cons, length_nil, length_append, take_succ_cons, take_zero, take_nil, drop_succ_cons, drop_zero, drop_nil, cons_append, nil_append, append_nil, Nat.reduceAdd, Nat.reduceMul, Nat.reduceLeDiff, Nat.reduceEqDiff, and_self, and_true, true_and, if_true, Nat.le_refl, Nat.zero_add, Nat.add_zero, Nat.zero_mul, reduceIte, if_false] <;> rfl))) rfl fun t7 h s w7 => ?_
  ((apply r_build; ((simp only [fillV, fill1, Value.cells, zeros_succ, zeros_zero, size_toArray, length_cons, length_nil, length_append, take_succ_cons, take_zero, take_nil, drop_succ_cons, drop_zero, drop_nil, cons_append, nil_append, append_nil, Nat.reduceAdd, Nat.reduceMul, Nat.reduceLeDiff, Nat.reduceEqDiff, and_self, and_true, true_and, if_true, Nat.le_refl, Nat.zero_add, Nat.add_zero, Nat.zero_mul, reduceIte, if_false] <;> rfl))))
  refine s.r_mkSl (sz := 3) (cs := [.slice (some ⟨t4, 0, none⟩) 1 1, .slice none 0 0, .int .i64 0, .slice (some ⟨t7, 0, none⟩) 1 1, .slice none 0 0, .int .i64 0]) (by ((simp only [fillV, fill1, Value.cells, zeros_succ, zeros_zero, size_toArray, length_cons, length_nil, length_append, take_succ_cons, take_zero, take_nil, drop_succ_cons, drop_zero, drop_nil, cons_append, nil_append, append_nil, Nat.reduceAdd, Nat.reduceMul, Nat.reduceLeDiff, Nat.reduceEqDiff, and_self, and_true, true_and, if_true, Nat.le_refl, Nat.zero_add, Nat.add_zero, Nat.zero_mul, reduceIte, if_false] <;> rfl))) rfl fun t9 h s w9 => ?_
  ((apply r_build; ((simp only [fillV, fill1, Value.cells, zeros_succ, zeros_zero, size_toArray, length_cons, length_nil, length_append, take_succ_cons, take_zero, take_nil, drop_succ_cons, drop_zero, drop_nil, cons_append, nil_append, append_nil, Nat.reduceAdd, Nat.reduceMul, Nat.reduceLeDiff, Nat.reduceEqDiff, and_self, and_true, true_and, if_true, Nat.le_refl, Nat.zero_add, Nat.add_zero, Nat.zero_mul, reduceIte, if_false] <;> rfl))))
  refine St.r_storeN0 s 4 rfl rfl (by simp) (by simp [one1]) ?_; intro h s
  refine St.r_loadN0 s 4 rfl (by simp) ?_; refine H _ _ _ h s ⟨w2.rdl s 3 rfl, [(.slice (some ⟨t4, 0, none⟩) 1 1, .slice none 0 0, 0), (.slice (some ⟨t7, 0, none⟩) 1 1, .slice none 0 0, 0)], rfl, w9.rdl s 0 rfl, fun j h1 h2 => ?_⟩
  match j, h1, h2 with
  | 0, h1, h2 => exact ⟨w4.rdl s 2 rfl, [], rfl, Rdl.nil 3 _, fun j h => absurd h (Nat.not_lt_zero _)⟩
  | 1, h1, h2 => exact ⟨w7.rdl s 1 rfl, [], rfl, Rdl.nil 3 _, fun j h => absurd h (Nat.not_lt_zero _)⟩
end Go.Proofs.Ytljecmjdmdjldaa.Gi
end
section
namespace Go.Proofs.Ytljecmjdmdjldaa.Gi
open Go.Hp Go.Proofs.Ytljecmjdmdjldaa
variable {h0 h : Heap} {Z E : List Rg} {Q : Value → Heap → Prop} {lt : It → It → Bool} {lf : Value}
theorem exMake_ok (H : ∀ E' h', St h [] E' h' → Q (.agg #[.slice none 0 0, .int .i64 2, .bool false]) h') : l_exMake.call #[] h Q := by
  refine l_exMake.body _ _ ?_; unfold l_exMake.sh
  have s := St.start h
  refine s.r_alloc fun t0 h s => ?_
  ((apply r_build; ((simp only [fillV, fill1, Value.cells, zeros_succ, zeros_zero, size_toArray, length_cons, length_nil, length_append, take_succ_cons, take_zero, take_nil, drop_succ_cons, drop_zero, drop_nil, cons_append, nil_append, append_nil, Nat.reduceAdd, Nat.reduceMul, Nat.reduceLeDiff, Nat.reduceEqDiff, and_self, and_true, true_and, if_true, Nat.le_refl, Nat.zero_add, Nat.add_zero, Nat.zero_mul, reduceIte, if_false] <;> rfl))))
  (refine St.r_storeN0 s 0 rfl rfl (by simp) (by simp [one1]) ?_; intro h s; try simp only [List.set_cons_zero, List.set_cons_succ] at s)
  refine St.r_loadN0 s 0 rfl (by simp) ?_; exact H _ _ s
theorem exValid : validN [] 2 exDT := by
  refine .inr ⟨by decide, by decide, ?_⟩
  show Asc (ltO []) [(2, 2), (4, 1), (6, 3)]
  simp [Asc, ltO, rnk]
theorem l_aliveN_ok (H : ∀ E' h', St h [] E' h' → Q (.bool true) h') : l_aliveN.call #[] h Q := by
  refine l_aliveN.body _ _ ?_; unfold l_aliveN.sh
  have s := St.start h
  refine exMake_ok fun E1 h s1 => ?_
  have s := s.join s1
  refine l_exNode_ok fun vi vk E2 h s2 ha => ?_
  have s := s.join s2
  obtain ⟨m0, e1, e2, _, _, hst⟩ := stands_of (d := 2) (nl := false) (vc := .int .i64 0) (OwAt.nil _) ha (by decide) rfl (by decide) (by decide) exValid; refine i_NItems_ok (d := 2) rfl ha.one.1 ha.one.2 rfl hst (by rw [e1]; decide) (by rw [e2]; decide) fun v E3 h s3 hv => ?_
  have s := s.join s3
  refine r_ext rfl ?_; refine r_ext rfl ?_; refine r_ext rfl ?_; refine hv.lenV ?_; rw [e1, e2]; refine r_cmpI ?_; refine r_br (fun _ => ?_) (fun e => absurd e (by decide))
  refine r_cmpI ?_; refine r_br (fun _ => ?_) (fun e => absurd e (by decide))
  refine r_cmpI ?_; exact H _ _ s
theorem mv_stands {ow : List Int} {ov : Value} {nl : Bool} {d : Nat} {m0 : MT It} {vi vk vc : Value} {h1 h2 : Heap} {E : List Rg} (hst : ∀ h, Fr (fun _ _ => False) h1 h → Stands ow ov nl d m0 h vi vk vc) (s : St h1 [] E h2) : ∀ h, Fr (fun _ _ => False) h2 h → Stands ow ov nl d m0 h vi vk vc :=
  fun h f => hst h (s.fr.trans f (fun _ _ _ e => e))
end Go.Proofs.Ytljecmjdmdjldaa.Gi
end
section
namespace Go.Proofs.Ytljecmjdmdjldaa.Gi
open Go.Hp Go.Proofs.Ytljecmjdmdjldaa
variable {h0 h : Heap} {Z E : List Rg} {Q : Value → Heap → Prop} {lt : It → It → Bool} {lf : Value}
abbrev foundC (o : Option It) : List Value := match o with
  | some p => [.int .i64 p.1, .int .i64 p.2, .bool true]
  | none => [.int .i64 0, .int .i64 0, .bool false]
theorem foundC_len (o : Option It) : (foundC o).length = 3 := by cases o <;> rfl
theorem foundC_one (o : Option It) : ∀ y ∈ foundC o, one1 y = true := by cases o <;> simp [one1]
theorem found_ok {o : Option It} (H : ∀ E' h', St h [] E' h' → Q (.agg (foundC o).toArray) h') : i_found.call #[old o, .bool o.isSome] h Q := by
  refine i_found.body _ _ _ _ ?_; unfold i_found.sh
  have s := St.start h
  refine St.r_box (cs := enc (o.getD emp)) s fun t2 h s => ?_; refine s.r_alloc fun t4 h s => ?_; refine r_not ?_
  cases o with
  | none =>
    refine r_if (fun _ => ?_) (fun e => absurd e (by simp))
    ((apply r_build; ((simp only [fillV, fill1, Value.cells, zeros_succ, zeros_zero, size_toArray, length_cons, length_nil, length_append, take_succ_cons, take_zero, take_nil, drop_succ_cons, drop_zero, drop_nil, cons_append, nil_append, append_nil, Nat.reduceAdd, Nat.reduceMul, Nat.reduceLeDiff, Nat.reduceEqDiff, and_self, and_true, true_and, if_true, Nat.le_refl, Nat.zero_add, Nat.add_zero, Nat.zero_mul, reduceIte, if_false] <;> rfl))))
    (refine St.r_storeN0 s 0 rfl rfl (by simp) (by simp [one1]) ?_; intro h s; try simp only [List.set_cons_zero, List.set_cons_succ] at s)
    refine St.r_loadN0 s 0 rfl (by simp) ?_; exact H _ _ s
  | some p =>
    refine r_if (fun e => absurd e (by simp)) (fun _ => ?_)
    unfold i_found.j1; refine St.r_loadN0 s 1 rfl (by simp) ?_
    ((apply r_build; ((simp only [fillV, fill1, Value.cells, zeros_succ, zeros_zero, size_toArray, length_cons, length_nil, length_append, take_succ_cons, take_zero, take_nil, drop_succ_cons, drop_zero, drop_nil, cons_append, nil_append, append_nil, Nat.reduceAdd, Nat.reduceMul, Nat.reduceLeDiff, Nat.reduceEqDiff, and_self, and_true, true_and, if_true, Nat.le_refl, Nat.zero_add, Nat.add_zero, Nat.zero_mul, reduceIte, if_false] <;> rfl))))
    (refine St.r_storeN0 s 0 rfl rfl (by simp) (by simp [one1]) ?_; intro h s; try simp only [List.set_cons_zero, List.set_cons_succ] at s)
    refine St.r_loadN0 s 0 rfl (by simp) ?_; exact H _ _ s
end Go.Proofs.Ytljecmjdmdjldaa.Gi
end
section
namespace Go.Proofs.Ytljecmjdmdjldaa.Gi
open Go.Hp Go.Proofs.Ytljecmjdmdjldaa
variable {h0 h : Heap} {Z E : List Rg} {Q : Value → Heap → Prop} {lt : It → It → Bool} {lf : Value}
def ArgC (h : Heap) : {k : Nat} → PT It k → Value → Value → Prop
  | 0, its, vi, vk => Rdl 2 h vi (its : List It).length ((its : List It).flatMap enc) ∧ Rdl 3 h vk 0 []
  | k + 1, t, vi, vk => Rdl 2 h vi t.1.length (t.1.flatMap enc) ∧ ∃ cs : List (Value × Value × Int), cs.length = t.2.length ∧ Rdl 3 h vk cs.length (cs.flatMap encN) ∧
      ∀ j (h1 : j < t.2.length) (h2 : j < cs.length), ArgC h t.2[j] cs[j].1 cs[j].2.1 ∧ cs[j].2.2 = t.2[j].items.length
theorem ArgC.fr {h h' : Heap} (f : Fr (fun _ _ => False) h h') : ∀ {k : Nat} {x : PT It k} {vi vk : Value}, ArgC h x vi vk → ArgC h' x vi vk
  | 0, _, _, _, ⟨h1, h2⟩ => ⟨h1.fr f (fun _ _ e => e), h2.fr f (fun _ _ e => e)⟩
  | k + 1, _, _, _, ⟨h1, cs, h3, h4, h5⟩ => ⟨h1.fr f (fun _ _ e => e), cs, h3, h4.fr f (fun _ _ e => e), fun j j1 j2 => ⟨ArgC.fr f (h5 j j1 j2).1, (h5 j j1 j2).2⟩⟩
theorem ArgC.one {h : Heap} : ∀ {k : Nat} {x : PT It k} {vi vk : Value}, ArgC h x vi vk → one1 vi = true ∧ one1 vk = true
  | 0, _, _, _, ⟨h1, h2⟩ => ⟨h1.one, h2.one⟩
  | k + 1, _, _, _, ⟨h1, cs, h3, h4, h5⟩ => ⟨h1.one, h4.one⟩
theorem ArgC.its {h : Heap} : ∀ {k : Nat} {x : PT It k} {vi vk : Value}, ArgC h x vi vk → Rdl 2 h vi x.its.length (x.its.flatMap enc)
  | 0, _, _, _, r => r.1
  | _ + 1, _, _, _, r => r.1
def toD : {k : Nat} → PT It k → DT (k + 1)
  | 0, its => ((its : List It), [])
  | _ + 1, t => (t.1, t.2.map toD)
theorem ArgC.toD {h : Heap} : ∀ {k : Nat} {x : PT It k} {vi vk : Value}, ArgC h x vi vk → ArgD h (toD x) vi vk
  | 0, _, _, _, ⟨h1, h2⟩ => ⟨h1, [], rfl, h2, fun j j1 => absurd j1 (Nat.not_lt_zero _)⟩
  | k + 1, x, _, _, ⟨h1, cs, h3, h4, h5⟩ => ⟨h1, cs, by show cs.length = (x.2.map _).length; rw [List.length_map]; exact h3, h4, fun j j1 j2 => by
      have j1' : j < x.2.length := by have : j < (x.2.map Gi.toD).length := j1; rwa [List.length_map] at this
      have := ArgC.toD (h5 j j1' j2).1
      have e : (x.2.map Gi.toD)[j]'j1 = Gi.toD (x.2[j]'j1') := List.getElem_map ..
      show ArgD h ((x.2.map Gi.toD)[j]'j1) _ _
      rw [e]; exact this⟩
theorem DoorCount_ok {n : Nat} {v : Value} (hc : cl h n 1 = some v) (H : ∀ E' h', St h [] E' h' → Q v h') : DoorNode_I_DoorCount.call #[.agg #[ptr n 0]] h Q := by
  refine DoorNode_I_DoorCount.body _ _ _ ?_; unfold DoorNode_I_DoorCount.sh
  have s := St.start h
  refine St.r_box (cs := [ptr n 0]) s fun t1 h s => ?_; refine r_fld ?_; refine St.r_load0 s 0 rfl rfl ?_; refine r_nil ?_; refine r_fld ?_; refine s.r_loadB hc ?_; exact H _ _ s
theorem DoorIsLeaf_ok {n : Nat} {a : Option Addr} (hc : cl h n 3 = some (.pointer a)) (H : ∀ E' h', St h [] E' h' → Q (.bool a.isNone) h') : DoorNode_I_DoorIsLeaf.call #[.agg #[ptr n 0]] h Q := by
  refine DoorNode_I_DoorIsLeaf.body _ _ _ ?_; unfold DoorNode_I_DoorIsLeaf.sh
  have s := St.start h
  refine St.r_box (cs := [ptr n 0]) s fun t1 h s => ?_; refine r_fld ?_; refine St.r_load0 s 0 rfl rfl ?_; refine node_leaf_ok (s.base hc) ?_; exact H _ _ s
theorem DoorKids_ok {n kb len : Nat} {v : Value} {xs : List Value} (hc : cl h n 3 = some (ptr kb 0)) (hk : cl h kb 0 = some v) (hr : Rdl 1 h v len xs) (H : ∀ E' h', St h [] E' h' → Q (.int .i64 len) h') : DoorNode_I_DoorKids.call #[.agg #[ptr n 0]] h Q := by
  refine DoorNode_I_DoorKids.body _ _ _ ?_; unfold DoorNode_I_DoorKids.sh
  have s := St.start h
  refine St.r_box (cs := [ptr n 0]) s fun t1 h s => ?_; refine r_fld ?_; refine St.r_load0 s 0 rfl rfl ?_; refine r_nil ?_; refine r_fld ?_; refine s.r_loadB hc ?_; refine r_nil ?_; refine s.r_loadB hk ?_; refine hr.lenV ?_; exact H _ _ s
theorem DoorKid_ok {n kb i : Nat} {v : Value} {l : List Nat} (hc : cl h n 3 = some (ptr kb 0)) (hk : cl h kb 0 = some v) (hr : Rdl 1 h v l.length (l.map fun m => ptr m 0)) (hi : i < l.length) (H : ∀ E' h', St h [] E' h' → Q (.agg #[ptr l[i] 0]) h') : DoorNode_I_DoorKid.call #[.agg #[ptr n 0], .int .i64 i] h Q := by
  refine DoorNode_I_DoorKid.body _ _ _ _ ?_; unfold DoorNode_I_DoorKid.sh
  have s := St.start h
  refine St.r_box (cs := [ptr n 0]) s fun t2 h s => ?_; refine s.r_alloc fun t4 h s => ?_; refine r_fld ?_; refine St.r_load0 s 1 rfl rfl ?_; refine r_nil ?_; refine r_fld ?_; refine s.r_loadB hc ?_; refine r_nil ?_; refine s.r_loadB hk ?_; refine hr.at1 (n := i) rfl hi fun b o hb => ?_; refine (hb.st s).load0 rfl ?_
  ((apply r_build; ((simp only [fillV, fill1, Value.cells, zeros_succ, zeros_zero, size_toArray, length_cons, length_nil, length_append, take_succ_cons, take_zero, take_nil, drop_succ_cons, drop_zero, drop_nil, cons_append, nil_append, append_nil, Nat.reduceAdd, Nat.reduceMul, Nat.reduceLeDiff, Nat.reduceEqDiff, and_self, and_true, true_and, if_true, Nat.le_refl, Nat.zero_add, Nat.add_zero, Nat.zero_mul, reduceIte, if_false] <;> rfl))))
  refine St.r_storeN0 s 0 (ys := [ptr l[i] 0]) rfl rfl (by simp) (by simp [one1]) ?_; intro h s
  refine St.r_loadN0 s 0 rfl (by simp) ?_; exact H _ _ s
theorem DoorItems_ok {n : Nat} {v : Value} (hc : cl h n 2 = some v) (H : ∀ E' h', St h [] E' h' → Q v h') : DoorNode_I_DoorItems.call #[.agg #[ptr n 0]] h Q := by
  refine DoorNode_I_DoorItems.body _ _ _ ?_; unfold DoorNode_I_DoorItems.sh
  have s := St.start h
  refine St.r_box (cs := [ptr n 0]) s fun t1 h s => ?_; refine r_fld ?_; refine St.r_load0 s 0 rfl rfl ?_; refine r_nil ?_; refine r_fld ?_; refine s.r_loadB hc ?_; exact H _ _ s
theorem toD_items : ∀ {k : Nat} (x : PT It k), (toD x).items = x.items
  | 0, x => rfl
  | k + 1, x => by
    show inter x.1 ((x.2.map toD).map DT.items) = inter x.1 (x.2.map PT.items)
    rw [List.map_map]
    congr 1
    exact List.map_congr_left fun c _ => toD_items c
theorem toD_its : ∀ {k : Nat} (x : PT It k), (toD x).1 = x.its
  | 0, _ => rfl
  | _ + 1, _ => rfl
theorem toD_bulk {m : Nat} (hm : 3 ≤ m) : ∀ {k lo : Nat} {x : PT It k}, x.Fl m lo → 1 ≤ lo → (toD x).bulk ≤ 2 * x.items.length
  | 0, lo, x, f, h => by
    have f : lo ≤ List.length (α := It) x := f.1
    show 1 + List.length (α := It) x + 0 ≤ 2 * List.length (α := It) x
    omega
  | k + 1, lo, x, f, h => by
    have h1 := f.1
    have hs : ∀ l : List (PT It k), (∀ c ∈ l, c ∈ x.2) → ((l.map toD).map DT.bulk).sum ≤ 2 * ((l.map PT.items).map List.length).sum := fun l => by
      induction l with
      | nil => intro _; simp
      | cons a r ih =>
        intro hl
        have i1 := ih fun c hc => hl c (List.mem_cons_of_mem _ hc)
        have i2 := toD_bulk hm (f.2.2.2 a (hl a (by simp))) (by omega)
        simp only [List.map_cons, List.sum_cons]
        omega
    have := hs x.2 fun _ h => h
    show 1 + x.1.length + ((x.2.map toD).map DT.bulk).sum ≤ 2 * (inter x.1 (x.2.map PT.items)).length
    rw [inter_length]
    omega
end Go.Proofs.Ytljecmjdmdjldaa.Gi
end
section
namespace Go.Proofs.Ytljecmjdmdjldaa.Gi
open Go.Hp Go.Proofs.Ytljecmjdmdjldaa
variable {h0 h : Heap} {Z E : List Rg} {Q : Value → Heap → Prop} {lt : It → It → Bool} {lf : Value}
def liftTail (t1 t2 t3 : Value) (h : Heap) (Q : Value → Heap → Prop) : Prop :=
  loadN 1 t1 h fun t11 =>
    DoorNode_I_DoorIsLeaf.call #[t11] h fun t12 h =>
    notV t12 fun t13 =>
    ifV t13
    (loadN 1 t1 h fun t14 =>
    DoorNode_I_DoorKids.call #[t14] h fun t15 h =>
    loopC (fun c s h K1 => i_lifted.l2.b (c.getD 0 undef) (c.getD 1 undef) (c.getD 2 undef) (c.getD 3 undef) (s.getD 0 undef) h K1 Q) [t1, t2, t3, t15] [(.int .i64 0)] h)
    (i_lifted.j1 t2 t3 h Q)
theorem lift_orders {d : Nd It} (hnd : NdAt enc 2 h d) (hl : d.its.length ≤ 1073741823)
    (T : ∀ t1 t2 t3 b o vi sp R g, Own 2 vi d.its.length b o (d.its.flatMap enc) sp → (b, o, d.its.flatMap enc ++ sp) ∈ R →
        St h [] ((t1, 0, [ptr d.n 0]) :: (t2, 0, [.slice none 0 0, .slice none 0 0, .int .i64 0]) :: (t3, 0, [vi, .slice none 0 0, .int .i64 d.cnt]) :: R) g → liftTail (ptr t1 0) (ptr t2 0) (ptr t3 0) g Q) : i_lifted.call #[.agg #[ptr d.n 0]] h Q := by
  refine i_lifted.body _ _ _ ?_; unfold i_lifted.sh
  have s := St.start h
  refine St.r_box (cs := [ptr d.n 0]) s fun t1 h s => ?_; refine s.r_alloc fun t2 h s => ?_; refine St.r_loadN0 s 1 rfl (by simp) ?_; refine St.r_loadN0 s 1 rfl (by simp) ?_; refine ⟨?_, ?_⟩
  · refine DoorItems_ok (cl_fr s.fr hnd.iv) fun E2 h s2 => ?_
    have s := (s.join s2).perm List.perm_append_comm
    have s : St _ [] ((t2, 0, [.slice none 0 0, .slice none 0 0, .int .i64 0]) :: (t1, 0, [ptr d.n 0]) :: E2) h := s
    refine ⟨St.r_stillN0 s 1 (j := 0) rfl (by simp) rfl, ?_, ?_⟩
    · refine items_new s (hnd.its.st s) (by omega) fun vi b o sp h s w => ?_
      refine ⟨St.r_stillN0 s 2 (j := 0) rfl (by simp) rfl, ?_, ?_⟩
      · refine DoorCount_ok (cl_fr s.fr hnd.cnt) fun E3 h s3 => ?_
        have s := (s.join s3).perm List.perm_append_comm
        refine r_build (cs := [vi, .slice none 0 0, .int .i64 d.cnt]) (by obtain ⟨_, _, e0, _⟩ := w; subst e0; ((simp only [fillV, fill1, Value.cells, zeros_succ, zeros_zero, size_toArray, length_cons, length_nil, length_append, take_succ_cons, take_zero, take_nil, drop_succ_cons, drop_zero, drop_nil, cons_append, nil_append, append_nil, Nat.reduceAdd, Nat.reduceMul, Nat.reduceLeDiff, Nat.reduceEqDiff, and_self, and_true, true_and, if_true, Nat.le_refl, Nat.zero_add, Nat.add_zero, Nat.zero_mul, reduceIte, if_false] <;> rfl))) ?_; refine s.r_alloc fun t3 h s => ?_; refine St.r_storeN0 s 0 (ys := [vi, .slice none 0 0, .int .i64 d.cnt]) rfl rfl (by simp) (one3 w.one rfl rfl) ?_; intro h s
        have s : St _ [] ((t1, 0, [ptr d.n 0]) :: (t2, 0, [.slice none 0 0, .slice none 0 0, .int .i64 0]) :: (t3, 0, [vi, .slice none 0 0, .int .i64 d.cnt]) :: (b, o, d.its.flatMap enc ++ sp) :: (E2 ++ E3)) h := s.perm (by ((apply perm_rg; intro f; simp only [set_cons_zero, set_cons_succ, eraseIdx_cons_zero, eraseIdx_cons_succ, cons_append, nil_append, map_append, map_cons, map_nil, List.sum_append, List.sum_cons, List.sum_nil, map_flatMap, Nat.add_zero, Nat.zero_add]; ac_rfl)))
        exact T _ _ _ _ _ _ _ _ _ w (List.mem_cons_self ..) s
      · refine s.r_alloc fun t3 h s => ?_
        refine ⟨St.r_stillN0 s 3 (j := 0) rfl (by simp) rfl, ?_⟩
        refine DoorCount_ok (cl_fr s.fr hnd.cnt) fun E3 h s3 => ?_
        have s := (s.join s3).perm List.perm_append_comm
        refine r_build (cs := [vi, .slice none 0 0, .int .i64 d.cnt]) (by obtain ⟨_, _, e0, _⟩ := w; subst e0; ((simp only [fillV, fill1, Value.cells, zeros_succ, zeros_zero, size_toArray, length_cons, length_nil, length_append, take_succ_cons, take_zero, take_nil, drop_succ_cons, drop_zero, drop_nil, cons_append, nil_append, append_nil, Nat.reduceAdd, Nat.reduceMul, Nat.reduceLeDiff, Nat.reduceEqDiff, and_self, and_true, true_and, if_true, Nat.le_refl, Nat.zero_add, Nat.add_zero, Nat.zero_mul, reduceIte, if_false] <;> rfl))) ?_; refine St.r_storeN0 s 0 (ys := [vi, .slice none 0 0, .int .i64 d.cnt]) rfl rfl (by simp) (one3 w.one rfl rfl) ?_; intro h s
        have s : St _ [] ((t1, 0, [ptr d.n 0]) :: (t2, 0, [.slice none 0 0, .slice none 0 0, .int .i64 0]) :: (t3, 0, [vi, .slice none 0 0, .int .i64 d.cnt]) :: (b, o, d.its.flatMap enc ++ sp) :: (E2 ++ E3)) h := s.perm (by ((apply perm_rg; intro f; simp only [set_cons_zero, set_cons_succ, eraseIdx_cons_zero, eraseIdx_cons_succ, cons_append, nil_append, map_append, map_cons, map_nil, List.sum_append, List.sum_cons, List.sum_nil, map_flatMap, Nat.add_zero, Nat.zero_add]; ac_rfl)))
        exact T _ _ _ _ _ _ _ _ _ w (List.mem_cons_self ..) s
    · refine s.r_alloc fun t3 h s => ?_
      refine ⟨St.r_stillN0 s 2 (j := 0) rfl (by simp) rfl, ?_⟩
      refine items_new s (hnd.its.st s) (by omega) fun vi b o sp h s w => ?_; refine ⟨St.r_stillN0 s 3 (j := 0) rfl (by simp) rfl, ?_⟩
      refine DoorCount_ok (cl_fr s.fr hnd.cnt) fun E3 h s3 => ?_
      have s := (s.join s3).perm List.perm_append_comm
      refine r_build (cs := [vi, .slice none 0 0, .int .i64 d.cnt]) (by obtain ⟨_, _, e0, _⟩ := w; subst e0; ((simp only [fillV, fill1, Value.cells, zeros_succ, zeros_zero, size_toArray, length_cons, length_nil, length_append, take_succ_cons, take_zero, take_nil, drop_succ_cons, drop_zero, drop_nil, cons_append, nil_append, append_nil, Nat.reduceAdd, Nat.reduceMul, Nat.reduceLeDiff, Nat.reduceEqDiff, and_self, and_true, true_and, if_true, Nat.le_refl, Nat.zero_add, Nat.add_zero, Nat.zero_mul, reduceIte, if_false] <;> rfl))) ?_; refine St.r_storeN0 s 1 (ys := [vi, .slice none 0 0, .int .i64 d.cnt]) rfl rfl (by simp) (one3 w.one rfl rfl) ?_; intro h s
      have s : St _ [] ((t1, 0, [ptr d.n 0]) :: (t2, 0, [.slice none 0 0, .slice none 0 0, .int .i64 0]) :: (t3, 0, [vi, .slice none 0 0, .int .i64 d.cnt]) :: (b, o, d.its.flatMap enc ++ sp) :: (E2 ++ E3)) h := s.perm (by ((apply perm_rg; intro f; simp only [set_cons_zero, set_cons_succ, eraseIdx_cons_zero, eraseIdx_cons_succ, cons_append, nil_append, map_append, map_cons, map_nil, List.sum_append, List.sum_cons, List.sum_nil, map_flatMap, Nat.add_zero, Nat.zero_add]; ac_rfl)))
      exact T _ _ _ _ _ _ _ _ _ w (List.mem_cons_self ..) s
  · refine s.r_alloc fun t3 h s => ?_
    refine ⟨St.r_stillN0 s 2 (j := 0) rfl (by simp) rfl, St.r_stillN0 s 2 (j := 0) rfl (by simp) rfl, ?_⟩
    refine DoorItems_ok (cl_fr s.fr hnd.iv) fun E2 h s2 => ?_
    have s := (s.join s2).perm List.perm_append_comm
    have s : St _ [] ((t3, 0, [.slice none 0 0, .slice none 0 0, .int .i64 0]) :: (t2, 0, [.slice none 0 0, .slice none 0 0, .int .i64 0]) :: (t1, 0, [ptr d.n 0]) :: E2) h := s
    refine ⟨St.r_stillN0 s 2 (j := 0) rfl (by simp) rfl, ?_⟩
    refine items_new s (hnd.its.st s) (by omega) fun vi b o sp h s w => ?_; refine ⟨St.r_stillN0 s 3 (j := 0) rfl (by simp) rfl, ?_⟩
    refine DoorCount_ok (cl_fr s.fr hnd.cnt) fun E3 h s3 => ?_
    have s := (s.join s3).perm List.perm_append_comm
    refine r_build (cs := [vi, .slice none 0 0, .int .i64 d.cnt]) (by obtain ⟨_, _, e0, _⟩ := w; subst e0; ((simp only [fillV, fill1, Value.cells, zeros_succ, zeros_zero, size_toArray, length_cons, length_nil, length_append, take_succ_cons, take_zero, take_nil, drop_succ_cons, drop_zero, drop_nil, cons_append, nil_append, append_nil, Nat.reduceAdd, Nat.reduceMul, Nat.reduceLeDiff, Nat.reduceEqDiff, and_self, and_true, true_and, if_true, Nat.le_refl, Nat.zero_add, Nat.add_zero, Nat.zero_mul, reduceIte, if_false] <;> rfl))) ?_; refine St.r_storeN0 s 1 (ys := [vi, .slice none 0 0, .int .i64 d.cnt]) rfl rfl (by simp) (one3 w.one rfl rfl) ?_; intro h s
    have s : St _ [] ((t1, 0, [ptr d.n 0]) :: (t2, 0, [.slice none 0 0, .slice none 0 0, .int .i64 0]) :: (t3, 0, [vi, .slice none 0 0, .int .i64 d.cnt]) :: (b, o, d.its.flatMap enc ++ sp) :: (E2 ++ E3)) h := s.perm (by ((apply perm_rg; intro f; simp only [set_cons_zero, set_cons_succ, eraseIdx_cons_zero, eraseIdx_cons_succ, cons_append, nil_append, map_append, map_cons, map_nil, List.sum_append, List.sum_cons, List.sum_nil, map_flatMap, Nat.add_zero, Nat.zero_add]; ac_rfl)))
    exact T _ _ _ _ _ _ _ _ _ w (List.mem_cons_self ..) s
theorem lifted_ok : ∀ {k : Nat} (t : GT It k) {h : Heap} {Q : Value → Heap → Prop}, t.At enc 2 h → t.Cn → t.pt.Sh 1073741823 →
    (∀ vi vk A h', St h [] A h' → (∀ g, (∀ r ∈ A, r.Ok g) → ArgC g t.pt vi vk) → one1 vi = true → one1 vk = true → Q (.agg #[vi, vk, .int .i64 t.pt.items.length]) h') → i_lifted.call #[.agg #[ptr t.id 0]] h Q := by
  intro k
  induction k with
  | zero =>
    intro t h Q ha hc hs H
    have hnd := GT.At.nd ha
    have hs1 : t.nd.its.length ≤ 1073741823 := hs
    have tail : ∀ {g : Heap} {t1 t2 t3 b o : Nat} {vi : Value} {sp : List Value} {R : List Rg}, Own 2 vi t.nd.its.length b o (t.nd.its.flatMap enc) sp → (b, o, t.nd.its.flatMap enc ++ sp) ∈ R →
        St h [] ((t1, 0, [ptr t.id 0]) :: (t2, 0, [.slice none 0 0, .slice none 0 0, .int .i64 0]) :: (t3, 0, [vi, .slice none 0 0, .int .i64 t.nd.cnt]) :: R) g → liftTail (ptr t1 0) (ptr t2 0) (ptr t3 0) g Q := fun {g t1 t2 t3 b o vi sp R} w hm s => by
      unfold liftTail; refine St.r_loadN0 s 0 rfl (by simp) ?_; refine DoorIsLeaf_ok (a := none) (cl_fr s.fr ha.2) fun E4 h s4 => ?_
      have s := (s.join s4).perm List.perm_append_comm
      refine r_not ?_; refine r_if (fun e => absurd e (by simp)) (fun _ => ?_)
      unfold i_lifted.j1
      have s : St _ [] ((t1, 0, [ptr t.id 0]) :: (t2, 0, [.slice none 0 0, .slice none 0 0, .int .i64 0]) :: (t3, 0, [vi, .slice none 0 0, .int .i64 t.nd.cnt]) :: (R ++ E4)) h := s
      refine St.r_loadN0 s 2 rfl (by simp) ?_; refine St.r_storeN0 s 1 (ys := [vi, .slice none 0 0, .int .i64 t.nd.cnt]) rfl rfl (by simp) (one3 w.one rfl rfl) ?_; intro h s
      refine St.r_loadN0 s 1 rfl (by simp) ?_
      have ec : t.nd.cnt = t.pt.items.length := hc.cnt
      rw [ec] at s ⊢; refine H vi (.slice none 0 0) _ h s (fun g hg => ⟨?_, Rdl.nil 3 g⟩) w.one rfl
      exact w.rdlO (hg _ (List.mem_cons_of_mem _ (List.mem_cons_of_mem _ (List.mem_cons_of_mem _ (List.mem_append.2 (.inl hm))))))
    refine lift_orders hnd hs1 fun t1 t2 t3 b o vi sp R g w hm s => ?_; exact tail w hm s
  | succ k ih =>
    intro t h Q ha hc hs H
    have hnd := GT.At.nd ha
    obtain ⟨_, c1, c2, c3, c4, c5⟩ := ha
    have hs1 : t.1.its.length ≤ 1073741823 := hs.1
    have tail : ∀ {g : Heap} {t1 t2 t3 b o : Nat} {vi : Value} {sp : List Value} {R : List Rg}, Own 2 vi t.nd.its.length b o (t.nd.its.flatMap enc) sp → (b, o, t.nd.its.flatMap enc ++ sp) ∈ R →
        St h [] ((t1, 0, [ptr t.id 0]) :: (t2, 0, [.slice none 0 0, .slice none 0 0, .int .i64 0]) :: (t3, 0, [vi, .slice none 0 0, .int .i64 t.nd.cnt]) :: R) g → liftTail (ptr t1 0) (ptr t2 0) (ptr t3 0) g Q := fun {g t1 t2 t3 b o vi sp R} w hm s => by
      unfold liftTail; refine St.r_loadN0 s 0 rfl (by simp) ?_; refine DoorIsLeaf_ok (a := some ⟨t.1.kb, 0, none⟩) (cl_fr s.fr c1) fun E4 h s4 => ?_
      have s := (s.join s4).perm List.perm_append_comm
      refine r_not ?_; refine r_if (fun _ => ?_) (fun e => absurd e (by simp))
      have s : St _ [] ((t1, 0, [ptr t.id 0]) :: (t2, 0, [.slice none 0 0, .slice none 0 0, .int .i64 0]) :: (t3, 0, [vi, .slice none 0 0, .int .i64 t.nd.cnt]) :: (R ++ E4)) h := s
      refine St.r_loadN0 s 0 rfl (by simp) ?_
      have c3' : ∀ {g : Heap} {Z E : List Rg}, St _ Z E g → Rdl 1 g t.1.kv t.2.length (t.2.map fun k => ptr k.id 0) := fun s => c3.st s
      refine DoorKids_ok (cl_fr s.fr c1) (cl_fr s.fr c2) (c3' s) fun E5 h s5 => ?_
      have s := (s.join s5).perm List.perm_append_comm
      have hkl : t.2.length = t.1.its.length + 1 := c4
      refine loop_ghost (fun q st h' => ∃ (j : Nat) (cs : List (Value × Value × Int)) (vk : Value) (b2 o2 : Nat) (p2 : List Value) (R2 : List Rg), q = t.2.length - j ∧ j ≤ t.2.length ∧ st = [.int .i64 (j : Nat)] ∧ cs.length = j ∧ Own 3 vk cs.length b2 o2 (cs.flatMap encN) p2 ∧
          St _ [] ((t1, 0, [ptr t.id 0]) :: (t2, 0, [.slice none 0 0, .slice none 0 0, .int .i64 0]) :: (t3, 0, [vi, vk, .int .i64 t.nd.cnt]) :: (b2, o2, cs.flatMap encN ++ p2) :: (R ++ R2)) h' ∧
          (∀ c ∈ cs, one1 c.1 = true ∧ one1 c.2.1 = true) ∧
          (∀ g, (∀ r ∈ R2, r.Ok g) → ∀ i (h1 : i < t.2.length) (h2 : i < cs.length), ArgC g (t.2[i]).pt cs[i].1 cs[i].2.1 ∧ cs[i].2.2 = (t.2[i]).pt.items.length)) (n0 := t.2.length)
        ⟨0, [], .slice none 0 0, 0, 0, [], E4 ++ E5, rfl, Nat.zero_le _, rfl, rfl, Own.nil 3 0 0, (s.empty 0 0).perm (by ((apply perm_rg; intro f; simp only [set_cons_zero, set_cons_succ, eraseIdx_cons_zero, eraseIdx_cons_succ, cons_append, nil_append, map_append, map_cons, map_nil, List.sum_append, List.sum_cons, List.sum_nil, map_flatMap, Nat.add_zero, Nat.zero_add]; ac_rfl))), fun _ h => (List.not_mem_nil h).elim, fun g _ i _ h2 => absurd h2 (Nat.not_lt_zero _)⟩ ?_
      clear s s5 s4
      rintro q st h ⟨j, cs, vk, b2, o2, p2, R2, rfl, hj, rfl, hcs, w2, s, hone, harg⟩ K HK
      unfold i_lifted.l2.b; refine r_cmpI ?_; refine r_if (fun hlt => ?_) (fun hge => ?_)
      · have hlt : j < t.2.length := by simpa using hlt
        have hkm : t.2[j] ∈ t.2 := List.getElem_mem hlt
        unfold i_lifted.j3; refine r_fld ?_; refine St.r_load0 s 2 rfl rfl ?_; refine St.r_loadN0 s 0 rfl (by simp) ?_; refine DoorKid_ok (l := t.2.map fun k => k.id) (i := j) (cl_fr s.fr c1) (cl_fr s.fr c2) (by rw [List.map_map, List.length_map]; exact c3' s) (by rw [List.length_map]; exact hlt) fun E6 h s6 => ?_; rw [List.getElem_map]
        have s := (s.join s6).perm List.perm_append_comm
        have s : St _ [] ((t1, 0, [ptr t.id 0]) :: (t2, 0, [.slice none 0 0, .slice none 0 0, .int .i64 0]) :: (t3, 0, [vi, vk, .int .i64 t.nd.cnt]) :: (b2, o2, cs.flatMap encN ++ p2) :: ((R ++ R2) ++ E6)) h := s
        refine ⟨s.r_still0 2 rfl rfl, ?_⟩
        refine ih t.2[j] ((c5 _ hkm).fr s.fr) (hc.2 _ hkm) (hs.2.2 _ (List.mem_map.2 ⟨_, hkm, rfl⟩)) fun kvi kvk A h s7 hA hk1 hk2 => ?_
        have s := (s.join s7).perm List.perm_append_comm
        have s : St _ [] ((t1, 0, [ptr t.id 0]) :: (t2, 0, [.slice none 0 0, .slice none 0 0, .int .i64 0]) :: (t3, 0, [vi, vk, .int .i64 t.nd.cnt]) :: (b2, o2, cs.flatMap encN ++ p2) :: (((R ++ R2) ++ E6) ++ A)) h := s
        refine ⟨s.r_still0 2 rfl rfl, ?_⟩
        refine St.r_mkSl (sz := 3) (cs := encN (kvi, kvk, (t.2[j].pt.items.length : Nat))) s (by ((simp only [fillV, fill1, Value.cells, zeros_succ, zeros_zero, size_toArray, length_cons, length_nil, length_append, take_succ_cons, take_zero, take_nil, drop_succ_cons, drop_zero, drop_nil, cons_append, nil_append, append_nil, Nat.reduceAdd, Nat.reduceMul, Nat.reduceLeDiff, Nat.reduceEqDiff, and_self, and_true, true_and, if_true, Nat.le_refl, Nat.zero_add, Nat.add_zero, Nat.zero_mul, reduceIte, if_false] <;> rfl))) rfl fun q1 h s wq => ?_; refine ⟨s.r_still0 3 rfl rfl, ?_⟩
        refine s.r_appL (f := encN) (L := cs) (M := [(kvi, kvk, ((t.2[j].pt.items.length : Nat) : Int))]) 4 rfl w2 rfl (by have := wq.rdl s 0 rfl; simpa using this) (fun y hy => by rw [List.mem_singleton.1 hy]; exact one3 hk1 hk2 rfl) (by rw [List.length_singleton]; omega) (by rw [List.length_singleton]; omega) fun vk' b2' o2' p2' h s w2' => ?_; refine r_fld ?_; refine St.r_store0 s 3 rfl (by simp) w2'.one ?_; intro h s
        unfold i_lifted.j4; refine r_add1 (by omega) ?_; refine HK (t.2.length - (j + 1)) _ _ (by omega) ⟨j + 1, _, vk', b2', o2', p2', R2 ++ (E6 ++ A), rfl, hlt, rfl, by rw [List.length_append, hcs]; rfl, w2', (s.tail rfl).perm (by simp only [List.set_cons_succ, List.set_cons_zero]; ((apply perm_rg; intro f; simp only [set_cons_zero, set_cons_succ, eraseIdx_cons_zero, eraseIdx_cons_succ, cons_append, nil_append, map_append, map_cons, map_nil, List.sum_append, List.sum_cons, List.sum_nil, map_flatMap, Nat.add_zero, Nat.zero_add]; ac_rfl))), fun c hcm => ?_, fun g hg i h1 h2 => ?_⟩
        · rcases List.mem_append.1 hcm with e | e
          · exact hone c e
          · rw [List.mem_singleton.1 e]; exact ⟨hk1, hk2⟩
        · rcases Nat.lt_or_ge i cs.length with h3 | h3
          · rw [List.getElem_append_left h3]
            exact harg g (fun r hr => hg r (List.mem_append.2 (.inl hr))) i h1 h3
          · have : i = j := by rw [List.length_append, List.length_singleton] at h2; omega
            subst this; rw [List.getElem_append_right h3]
            simp only [hcs, Nat.sub_self, List.getElem_cons_zero]
            exact ⟨hA g fun r hr => hg r (List.mem_append.2 (.inr (List.mem_append.2 (.inr hr)))), trivial⟩
      · have hge : j = t.2.length := by have := of_decide_eq_false hge; omega
        unfold i_lifted.j1; refine St.r_loadN0 s 2 rfl (by simp) ?_; refine St.r_storeN0 s 1 (ys := [vi, vk, .int .i64 t.nd.cnt]) rfl rfl (by simp) (one3 w.one w2.one rfl) ?_; intro h s
        refine St.r_loadN0 s 1 rfl (by simp) ?_
        have ec : t.nd.cnt = t.pt.items.length := hc.cnt
        rw [ec] at s ⊢; refine H vi vk _ h s (fun g hg => ⟨w.rdlO (hg _ (List.mem_cons_of_mem _ (List.mem_cons_of_mem _ (List.mem_cons_of_mem _ (List.mem_cons_of_mem _ (List.mem_append.2 (.inl hm))))))), cs, by show cs.length = (t.2.map GT.pt).length; rw [List.length_map]; omega, w2.rdlO (hg _ (List.mem_cons_of_mem _ (List.mem_cons_of_mem _ (List.mem_cons_of_mem _ (List.mem_cons_self ..))))), fun i h1 h2 => ?_⟩) w.one w2.one
        have h1' : i < t.2.length := by have : i < (t.2.map GT.pt).length := h1; rwa [List.length_map] at this
        have := harg g (fun r hr => hg r (List.mem_cons_of_mem _ (List.mem_cons_of_mem _ (List.mem_cons_of_mem _ (List.mem_cons_of_mem _ (List.mem_append.2 (.inr hr))))))) i h1' h2
        have e : (t.2.map GT.pt)[i]'h1 = (t.2[i]'h1').pt := List.getElem_map ..
        show ArgC g ((t.2.map GT.pt)[i]'h1) _ _ ∧ _ = (((t.2.map GT.pt)[i]'h1).items.length : Int)
        rw [e]; exact this
    refine lift_orders hnd hs1 fun t1 t2 t3 b o vi sp R g w hm s => ?_; exact tail w hm s
theorem fell_ok {tb m : Nat} {cnt mn mx : Int} {ctr : Option Addr} {g : Rt} (M : TreeOk lt m 1 g) (hl : (rPt g).items.length ≤ 1073741822) (s : St h0 Z ((tb, 0, hdr 1 ctr (rA g) cnt lf mn mx) :: (rAll g ++ E)) h)
    (H : ∀ vi vk A h', St h0 Z (A ++ ((tb, 0, hdr 1 ctr (rA g) cnt lf mn mx) :: (rAll g ++ E))) h' → (∀ g', (∀ r ∈ A, r.Ok g') → ArgC g' (mt0 (rPt g)).2 vi vk) → one1 vi = true → one1 vk = true → Q (.agg #[vi, vk, .int .i64 (rPt g).items.length]) h') : i_fell.call #[ptr tb 0] h Q := by
  refine i_fell.body _ _ _ ?_; unfold i_fell.sh; refine s.r_alloc fun t2 h s => ?_; refine BTreeG_I_DoorRoot.body _ _ _ ?_; unfold BTreeG_I_DoorRoot.sh; refine s.r_alloc fun t9 h s => ?_; refine r_nil ?_; refine r_fld ?_; refine St.r_load0 s 2 rfl rfl ?_
  (apply r_build; (simp only [fillV, fill1, Value.cells, zeros_succ, zeros_zero, size_toArray, length_cons, length_nil, length_append, take_succ_cons, take_zero, take_nil, drop_succ_cons, drop_zero, drop_nil, cons_append, nil_append, append_nil, Nat.reduceAdd, Nat.reduceMul, Nat.reduceLeDiff, Nat.reduceEqDiff, and_self, and_true, true_and, if_true, Nat.le_refl, Nat.zero_add, Nat.add_zero, Nat.zero_mul, reduceIte, if_false] <;> rfl))
  refine r_nil ?_; refine r_fld ?_; refine St.r_load0 s 2 rfl rfl ?_; refine r_neNilP ?_; refine St.r_storeN0 s 0 (ys := [.pointer (rA g)]) rfl rfl (by simp) (by simp [one1]) ?_; intro h s
  refine ⟨St.r_still1 s 2 (j := 2) rfl rfl, ?_⟩
  refine St.r_loadN0 s 0 rfl (by simp) ?_; refine r_ext rfl ?_; refine r_ext rfl ?_; refine s.r_alloc fun t3 h s => ?_; refine St.r_storeN0 s 0 (ys := [.pointer (rA g)]) rfl rfl (by simp) (by simp [one1]) ?_; intro h s
  refine r_not ?_
  cases g with
  | none =>
    refine r_if (fun _ => ?_) (fun e => absurd e (by simp [rA]))
    have s : St h0 Z ((t3, 0, [.pointer none]) :: (t9, 0, [.pointer none]) :: (t2, 0, [.slice none 0 0, .slice none 0 0, .int .i64 0]) :: (tb, 0, hdr 1 ctr none cnt lf mn mx) :: E) h := s
    ((apply r_build; ((simp only [fillV, fill1, Value.cells, zeros_succ, zeros_zero, size_toArray, length_cons, length_nil, length_append, take_succ_cons, take_zero, take_nil, drop_succ_cons, drop_zero, drop_nil, cons_append, nil_append, append_nil, Nat.reduceAdd, Nat.reduceMul, Nat.reduceLeDiff, Nat.reduceEqDiff, and_self, and_true, true_and, if_true, Nat.le_refl, Nat.zero_add, Nat.add_zero, Nat.zero_mul, reduceIte, if_false] <;> rfl))))
    refine St.r_storeN0 s 2 (ys := [.slice none 0 0, .slice none 0 0, .int .i64 0]) rfl rfl (by simp) (by simp [one1]) ?_; intro h s
    refine St.r_loadN0 s 2 rfl (by simp) ?_; exact H (.slice none 0 0) (.slice none 0 0) [(t3, 0, [.pointer none]), (t9, 0, [.pointer none]), (t2, 0, [.slice none 0 0, .slice none 0 0, .int .i64 0])] h s (fun g' _ => ⟨Rdl.nil 2 g', Rdl.nil 3 g'⟩) rfl rfl
  | some t =>
    obtain ⟨k, t⟩ := t; refine r_if (fun e => absurd e (by simp [rA])) (fun _ => ?_)
    unfold i_fell.j1; refine St.r_loadN0 s 0 rfl (by simp) ?_
    have hat : t.At enc 2 h := GT.At.of M.gd.wf fun r hr => s.ok (List.mem_append.2 (.inl (by
      refine List.mem_cons_of_mem _ (List.mem_cons_of_mem _ (List.mem_cons_of_mem _ (List.mem_cons_of_mem _ (List.mem_append.2 (.inl hr)))))
      )))
    have hm1 := M.m1
    have hsh : t.pt.Sh 1073741823 := by
      have f : t.pt.Fl m 1 := M.fl
      exact Sh_mono (by omega) f.sh
    refine lifted_ok t hat M.gd.cn hsh fun vi vk A h s2 hA o1 o2 => ?_
    have s := (s.join s2).perm List.perm_append_comm
    have s : St h0 Z ((t3, 0, [ptr t.id 0]) :: (t9, 0, [ptr t.id 0]) :: (t2, 0, [.slice none 0 0, .slice none 0 0, .int .i64 0]) :: (((tb, 0, hdr 1 ctr (rA (some ⟨k, t⟩)) cnt lf mn mx) :: (rAll (some ⟨k, t⟩) ++ E)) ++ A)) h := s
    refine St.r_storeN0 s 2 (ys := [vi, vk, .int .i64 t.pt.items.length]) rfl rfl (by simp) (one3 o1 o2 rfl) ?_; intro h s
    refine St.r_loadN0 s 2 rfl (by simp) ?_; refine H vi vk ((t3, 0, [ptr t.id 0]) :: (t9, 0, [ptr t.id 0]) :: (t2, 0, [vi, vk, .int .i64 t.pt.items.length]) :: A) h (s.perm ?_) (fun g' hg => hA g' fun r hr => hg r (List.mem_cons_of_mem _ (List.mem_cons_of_mem _ (List.mem_cons_of_mem _ hr)))) o1 o2
    refine List.Perm.cons _ (List.Perm.cons _ (List.Perm.cons _ ?_))
    exact List.perm_append_comm
end Go.Proofs.Ytljecmjdmdjldaa.Gi
end
section
namespace Go.Proofs.Ytljecmjdmdjldaa.Gi
open Go.Hp Go.Proofs.Ytljecmjdmdjldaa
variable {h0 h : Heap} {Z E : List Rg} {Q : Value → Heap → Prop} {lt : It → It → Bool} {lf : Value}
theorem EqualItems_ok {l : List It} {v1 v2 : Value} (h1 : Rdl 2 h v1 l.length (l.flatMap enc)) (h2 : Rdl 2 h v2 l.length (l.flatMap enc)) (hl : l.length ≤ 4611686018427387903) (H : Q (.bool true) h) : s_EqualItems.call #[v1, v2] h Q := by
  refine s_EqualItems.body _ _ _ _ ?_; unfold s_EqualItems.sh; refine h1.lenV ?_; refine h2.lenV ?_; refine r_cmpI ?_; refine r_if (fun e => absurd e (by simp)) (fun _ => ?_)
  unfold s_EqualItems.j1; refine h1.lenV ?_; refine loop_up (n := l.length) (fun j => [.int .i64 j]) (fun j h' => h' = h) rfl ?_
  rintro j _ hj rfl K HK
  unfold s_EqualItems.l3.b; refine r_cmpI ?_; refine r_if (fun hlt => ?_) (fun hge => ?_)
  · have hlt : j < l.length := by simpa using hlt
    unfold s_EqualItems.j4; refine h1.at (n := j) rfl encl rfl rfl hlt fun b o hb => ?_; refine hb.loadN rfl ?_; refine h2.at (n := j) rfl encl rfl rfl hlt fun b2 o2 hb2 => ?_; refine hb2.loadN rfl ?_; refine ⟨_, _, true, rfl, rfl, eqItem _ _ 9998, ?_⟩
    refine r_if (fun e => absurd e (by simp)) (fun _ => ?_)
    unfold s_EqualItems.j5; refine r_add1 (by omega) ?_; exact HK _ hlt rfl
  · unfold s_EqualItems.j2
    exact H
theorem SameNodes_ok : ∀ {k : Nat} (x : PT It k) {g : Heap} {vi vk vi2 vk2 : Value} {Q : Value → Heap → Prop}, ArgC g x vi vk → ArgC g x vi2 vk2 → (toD x).bulk ≤ 1073741824 →
    (∀ E' h', St g [] E' h' → Q (.bool true) h') → s_SameNodes.call #[.agg #[vi, vk, .int .i64 x.items.length], .agg #[vi2, vk2, .int .i64 x.items.length]] g Q := by
  intro k
  induction k with
  | zero =>
    intro x g vi vk vi2 vk2 Q ha hb hbk H
    have hil := (toD x).kids_le
    have hx : (toD x).1.length = List.length (α := It) x := rfl
    refine s_SameNodes.body _ _ _ _ ?_; unfold s_SameNodes.sh
    have s := St.start g
    refine St.r_box (cs := [vi, vk, .int .i64 x.items.length]) s fun t2 h s => ?_; refine St.r_box (cs := [vi2, vk2, .int .i64 x.items.length]) s fun t3 h s => ?_; refine r_fld ?_; refine St.r_load0 s 1 rfl rfl ?_; refine r_fld ?_; refine St.r_load0 s 0 rfl rfl ?_; refine r_cmpI ?_; refine r_br (fun _ => ?_) (fun e => absurd e (by simp))
    refine r_fld ?_; refine St.r_load0 s 1 rfl rfl ?_; refine r_fld ?_; refine St.r_load0 s 0 rfl rfl ?_; refine EqualItems_ok (l := x) (ha.1.st s) (hb.1.st s) (by omega) ?_; refine r_br (fun _ => ?_) (fun e => absurd e (by simp))
    refine St.r_loadN0 s 1 rfl (by simp) ?_; refine St.r_loadN0 s 0 rfl (by simp) ?_; refine s_SameShapes.body _ _ _ _ _ ?_; unfold s_SameShapes.sh; refine St.r_box (cs := [vi, vk, .int .i64 x.items.length]) s fun t5 h s => ?_; refine St.r_box (cs := [vi2, vk2, .int .i64 x.items.length]) s fun t6 h s => ?_; refine r_fld ?_; refine St.r_load0 s 1 rfl rfl ?_; refine (ha.2.st s).lenV ?_; refine r_fld ?_; refine St.r_load0 s 0 rfl rfl ?_; refine (hb.2.st s).lenV ?_; refine r_cmpI ?_; refine r_if (fun e => absurd e (by simp)) (fun _ => ?_)
    unfold s_SameShapes.j1; refine r_fld ?_; refine St.r_load0 s 1 rfl rfl ?_; refine (ha.2.st s).lenV ?_; refine loop_ghost (fun q st h' => q = 0 ∧ st = [.int .i64 0] ∧ h' = h) (n0 := 0) ⟨rfl, rfl, rfl⟩ ?_
    rintro q st _ ⟨rfl, rfl, rfl⟩ K HK
    unfold s_SameShapes.l3.b; refine r_cmpI ?_; refine r_if (fun e => absurd e (by simp)) (fun _ => ?_)
    exact H _ _ s
  | succ k ih =>
    intro x g vi vk vi2 vk2 Q ha hb hbk H; obtain ⟨hr, cs, hcl, hrk, hks⟩ := ha; obtain ⟨hr2, cs2, hcl2, hrk2, hks2⟩ := hb
    have hil := (toD x).kids_le
    have hx : (toD x).1.length = x.1.length := rfl
    have hx2 : (toD x).2.length = x.2.length := List.length_map ..
    have hcc : cs2.length = cs.length := by omega
    refine s_SameNodes.body _ _ _ _ ?_; unfold s_SameNodes.sh
    have s := St.start g
    refine St.r_box (cs := [vi, vk, .int .i64 x.items.length]) s fun t2 h s => ?_; refine St.r_box (cs := [vi2, vk2, .int .i64 x.items.length]) s fun t3 h s => ?_; refine r_fld ?_; refine St.r_load0 s 1 rfl rfl ?_; refine r_fld ?_; refine St.r_load0 s 0 rfl rfl ?_; refine r_cmpI ?_; refine r_br (fun _ => ?_) (fun e => absurd e (by simp))
    refine r_fld ?_; refine St.r_load0 s 1 rfl rfl ?_; refine r_fld ?_; refine St.r_load0 s 0 rfl rfl ?_; refine EqualItems_ok (l := x.1) (hr.st s) (hr2.st s) (by omega) ?_; refine r_br (fun _ => ?_) (fun e => absurd e (by simp))
    refine St.r_loadN0 s 1 rfl (by simp) ?_; refine St.r_loadN0 s 0 rfl (by simp) ?_; refine s_SameShapes.body _ _ _ _ _ ?_; unfold s_SameShapes.sh; refine St.r_box (cs := [vi, vk, .int .i64 x.items.length]) s fun t5 h s => ?_; refine St.r_box (cs := [vi2, vk2, .int .i64 x.items.length]) s fun t6 h s => ?_; refine r_fld ?_; refine St.r_load0 s 1 rfl rfl ?_; refine (hrk.st s).lenV ?_; refine r_fld ?_; refine St.r_load0 s 0 rfl rfl ?_; refine (hrk2.st s).lenV ?_; refine r_cmpI ?_; refine r_if (fun e => absurd e (by simp [hcc])) (fun _ => ?_)
    unfold s_SameShapes.j1; refine r_fld ?_; refine St.r_load0 s 1 rfl rfl ?_; refine (hrk.st s).lenV ?_
    refine loop_ghost (fun q st h' => ∃ (j : Nat) (R : List Rg), q = cs.length - j ∧ j ≤ cs.length ∧ st = [.int .i64 (j : Nat)] ∧ St g [] ((t6, 0, [vi2, vk2, .int .i64 x.items.length]) :: (t5, 0, [vi, vk, .int .i64 x.items.length]) :: R) h') (n0 := cs.length)
      ⟨0, _, rfl, Nat.zero_le _, rfl, s⟩ ?_
    clear s
    rintro q st h ⟨j, R, rfl, hj, rfl, s⟩ K HK
    unfold s_SameShapes.l3.b; refine r_cmpI ?_; refine r_if (fun hlt => ?_) (fun hge => ?_)
    · have hlt : j < cs.length := by have := of_decide_eq_true hlt; omega
      have hlt2 : j < x.2.length := by omega
      obtain ⟨ka, kc⟩ := hks j hlt2 hlt; obtain ⟨ka2, kc2⟩ := hks2 j hlt2 (by omega); unfold s_SameShapes.j4; refine r_fld ?_; refine St.r_load0 s 1 rfl rfl ?_; refine (hrk.st s).at (n := j) (f := encN) rfl (fun _ => rfl) rfl rfl hlt fun b o hbb => ?_; refine hbb.loadN rfl ?_; refine r_fld ?_; refine St.r_load0 s 0 rfl rfl ?_; refine (hrk2.st s).at (n := j) (f := encN) rfl (fun _ => rfl) rfl rfl (by omega) fun b2 o2 hbb2 => ?_; refine hbb2.loadN rfl ?_; refine r_callV ⟨_, Try.func35, rfl, by kernel_rfl⟩ ?_
      have hkb2 : (toD x.2[j]).bulk ≤ 1073741824 := by
        have := (toD x).kid_le (q := toD x.2[j]) (by show toD x.2[j] ∈ x.2.map toD; exact List.mem_map.2 ⟨_, List.getElem_mem hlt2, rfl⟩)
        omega
      have key := ih x.2[j] (g := h) (vi := cs[j].1) (vk := cs[j].2.1) (vi2 := cs2[j].1) (vk2 := cs2[j].2.1) (Q := fun t32 h => notV t32 fun t33 => ifV t33 (Q (.bool false) h) (s_SameShapes.j5 (.func (.func 35) #[] #[]) (ptr t5 0) (ptr t6 0) (.int .i64 cs.length) (.int .i64 j) h K Q)) (ka.fr s.fr) (ka2.fr s.fr) hkb2 fun E2 h s2 => by
        have s := (s.join s2).perm List.perm_append_comm
        refine r_not ?_; refine r_if (fun e => absurd e (by simp)) (fun _ => ?_)
        unfold s_SameShapes.j5; refine r_add1 (by omega) ?_; exact HK (cs.length - (j + 1)) _ _ (by omega) ⟨j + 1, _, rfl, hlt, rfl, s⟩
      have e1 : encN cs[j] = [cs[j].1, cs[j].2.1, .int .i64 x.2[j].items.length] := by rw [← kc]
      have e2 : encN cs2[j] = [cs2[j].1, cs2[j].2.1, .int .i64 x.2[j].items.length] := by rw [← kc2]
      rw [e1, e2]; exact key
    · unfold s_SameShapes.j2
      exact H _ _ s
abbrev zF : List Value := [.int .i64 0, .int .i64 0, .bool false]
abbrev zN : List Value := [.slice none 0 0, .slice none 0 0, .int .i64 0]
theorem fc3 {o : Option It} {b : Nat} {R : List Rg} {g : Heap} (s : St h0 Z ((b, 0, List.take 0 zF ++ foundC o ++ List.drop (0 + 3) zF) :: R) h) : St h0 Z ((b, 0, foundC o) :: R) h := by
  have e : List.take 0 zF ++ foundC o ++ List.drop (0 + 3) zF = foundC o := by simp
  rw [e] at s; exact s
def ffTail (t8 t9 t11 t14 fv : Value) (h : Heap) (Q : Value → Heap → Prop) : Prop :=
  storeN 3 t11 fv h fun h =>
    loadN 3 t11 h fun t23 =>
    i_fell.call #[t14] h fun t25 h =>
    stillN 3 t11 t23 h ∧ storeN 3 t8 t23 h fun h =>
    storeN 3 t9 t25 h fun h =>
    loadN 3 t8 h fun r8 =>
    loadN 3 t9 h fun r9 =>
    Q (.tuple #[r8, r9]) h
theorem ff_ok {tb m t8 t9 t11 : Nat} {cnt mn mx : Int} {ctr : Option Addr} {g : Rt} {o : Option It} {b : Heap} (M : TreeOk lt m 1 g) (hl : (rPt g).items.length ≤ 1073741822)
    (s : St b [] ((t11, 0, zF) :: (t8, 0, zF) :: (t9, 0, zN) :: (tb, 0, hdr 1 ctr (rA g) cnt lf mn mx) :: (rAll g ++ E)) h)
    (H : ∀ vi vk E' h', St b [] E' h' → ArgC h' (mt0 (rPt g)).2 vi vk → Q (.tuple #[.agg (foundC o).toArray, .agg #[vi, vk, .int .i64 (rPt g).items.length]]) h') : ffTail (ptr t8 0) (ptr t9 0) (ptr t11 0) (ptr tb 0) (.agg (foundC o).toArray) h Q := by
  have eo : ((foundC o).drop 0).take 3 = foundC o := by cases o <;> rfl
  unfold ffTail; refine St.r_storeN0 s 0 rfl (foundC_len _) (by simp) (foundC_one _) ?_; intro h s
  have s := fc3 (g := h) s
  refine St.r_loadN0 s 0 rfl (by simp [foundC_len]) ?_; rw [eo]; refine fell_ok M hl (E := (t11, 0, foundC o) :: (t8, 0, zF) :: (t9, 0, zN) :: E) (s.perm (by ((apply perm_rg; intro f; simp only [set_cons_zero, set_cons_succ, eraseIdx_cons_zero, eraseIdx_cons_succ, cons_append, nil_append, map_append, map_cons, map_nil, List.sum_append, List.sum_cons, List.sum_nil, map_flatMap, Nat.add_zero, Nat.zero_add]; ac_rfl)))) fun vi vk A h s hA o1 o2 => ?_
  have s : St b [] ((t11, 0, foundC o) :: (t8, 0, zF) :: (t9, 0, zN) :: (A ++ ((tb, 0, hdr 1 ctr (rA g) cnt lf mn mx) :: (rAll g ++ E)))) h := s.perm (by ((apply perm_rg; intro f; simp only [set_cons_zero, set_cons_succ, eraseIdx_cons_zero, eraseIdx_cons_succ, cons_append, nil_append, map_append, map_cons, map_nil, List.sum_append, List.sum_cons, List.sum_nil, map_flatMap, Nat.add_zero, Nat.zero_add]; ac_rfl)))
  refine ⟨St.r_stillN0 s 0 (j := 0) rfl (by simp [foundC_len]) eo.symm, ?_⟩
  refine St.r_storeN0 s 1 rfl (foundC_len _) (by simp) (foundC_one _) ?_; intro h s
  refine St.r_storeN0 s 2 (ys := [vi, vk, .int .i64 (rPt g).items.length]) rfl rfl (by simp) (one3 o1 o2 rfl) ?_; intro h s
  have s : St b [] ((t11, 0, foundC o) :: (t8, 0, List.take 0 zF ++ foundC o ++ List.drop (0 + 3) zF) :: (t9, 0, [vi, vk, .int .i64 (rPt g).items.length]) :: (A ++ ((tb, 0, hdr 1 ctr (rA g) cnt lf mn mx) :: (rAll g ++ E)))) h := s
  have s : St b [] ((t8, 0, foundC o) :: (t11, 0, foundC o) :: (t9, 0, [vi, vk, .int .i64 (rPt g).items.length]) :: (A ++ ((tb, 0, hdr 1 ctr (rA g) cnt lf mn mx) :: (rAll g ++ E)))) h := fc3 (g := h) (s.perm (List.Perm.swap _ _ _))
  refine St.r_loadN0 s 0 rfl (by simp [foundC_len]) ?_; refine St.r_loadN0 s 2 rfl (by simp) ?_; rw [eo]; exact H vi vk _ h s (hA h fun r hr => s.ok (List.mem_append.2 (.inl (List.mem_cons_of_mem _ (List.mem_cons_of_mem _ (List.mem_cons_of_mem _ (List.mem_append.2 (.inl hr))))))))
end Go.Proofs.Ytljecmjdmdjldaa.Gi
end
section
namespace Go.Proofs.Ytljecmjdmdjldaa.Gi
open Go.Hp Go.Proofs.Ytljecmjdmdjldaa
variable {h0 h : Heap} {Z E : List Rg} {Q : Value → Heap → Prop} {lt : It → It → Bool} {lf : Value}
theorem bulk_mt {m : Nat} (hm : 3 ≤ m) {y : MT It} (f : y.Fl m) : (toD (mt0 y).2).bulk ≤ 2 * y.items.length + 1 := by
  cases y with
  | none => exact Nat.le_refl _
  | some t =>
    obtain ⟨k, x⟩ := t
    have f : x.Fl m 1 := f
    have := toD_bulk hm f (Nat.le_refl _)
    show (toD x).bulk ≤ 2 * x.items.length + 1
    omega
end Go.Proofs.Ytljecmjdmdjldaa.Gi
end
section
namespace Go.Proofs.Ytljecmjdmdjldaa.Gi
open Go.Hp Go.Proofs.Ytljecmjdmdjldaa
variable {h0 h : Heap} {Z E : List Rg} {Q : Value → Heap → Prop} {lt : It → It → Bool} {lf : Value}
theorem encNl (c : Value × Value × Int) : (encN c).length = 3 := rfl
def OneN (c : Value × Value × Int) : Prop := one1 c.1 = true ∧ one1 c.2.1 = true
theorem OneN.all {c : Value × Value × Int} (o : OneN c) : ∀ y ∈ encN c, one1 y = true := one3 o.1 o.2 rfl
theorem slcG0 {α : Type} {f : α → List Value} {sz : Nat} (hf : ∀ x, (f x).length = sz) {K : Value → Prop} {L : List α} {v : Value} (r : Rdl sz h v L.length (L.flatMap f)) {k' : IntKind} {z' : Int} {j : Nat} (hz' : z' = j) (hj : j ≤ L.length)
    (H : ∀ v', Rdl sz h v' (L.take j).length ((L.take j).flatMap f) → K v') : Hp.slc sz v none (some (.int k' z')) none K := by
  subst hz'; refine r.slc (l := 0) (m := j) rfl ⟨k', j, rfl, by omega, by omega, by simp⟩ (Nat.zero_le _) hj fun v' r' => H v' ?_; rw [Nat.zero_mul, List.drop_zero, Nat.sub_zero, flat_take hf L j hj] at r'; rw [List.length_take, Nat.min_eq_left hj]; exact r'
theorem slcG1 {α : Type} {f : α → List Value} {sz : Nat} (hf : ∀ x, (f x).length = sz) {K : Value → Prop} {L : List α} {v : Value} (r : Rdl sz h v L.length (L.flatMap f)) {k : IntKind} {z : Int} {i : Nat} (hz : z = i) (hi : i ≤ L.length)
    (H : ∀ v', Rdl sz h v' (L.drop i).length ((L.drop i).flatMap f) → K v') : Hp.slc sz v (some (.int k z)) none none K := by
  subst hz; refine r.slc (l := i) (m := L.length) ⟨k, i, rfl, by omega, by omega, by simp⟩ rfl hi (Nat.le_refl _) fun v' r' => H v' ?_
  have e : ((L.flatMap f).drop (i * sz)).take ((L.length - i) * sz) = (L.drop i).flatMap f := by
    rw [flat_drop hf, List.take_of_length_le (by rw [flat_len hf, List.length_drop]; exact Nat.le_refl _)]
  rw [e] at r'; rw [List.length_drop]; exact r'
theorem changedI_ok {L : List It} {v : Value} {i : Nat} {y : It} (hr : Rdl 2 h v L.length (L.flatMap enc)) (ho : ∀ x ∈ L, ∀ c ∈ enc x, one1 c = true) (hy : ∀ c ∈ enc y, one1 c = true) (hi : i < L.length) (hl : L.length ≤ 1073741824)
    (H : ∀ v' b o sp E' h', Own 2 v' (L.set i y).length b o ((L.set i y).flatMap enc) sp → St h [] ((b, o, (L.set i y).flatMap enc ++ sp) :: E') h' → Q v' h') : s_changed_I.call #[v, .int .i64 i, .agg (enc y).toArray] h Q := by
  refine s_changed_I.body _ _ _ _ _ ?_; unfold s_changed_I.sh
  have s := St.start h
  refine St.r_box (cs := enc y) s fun t5 h s => ?_; refine St.r_mkSl (sz := 2) (cs := []) s (by ((simp only [fillV, fill1, Value.cells, zeros_succ, zeros_zero, size_toArray, length_cons, length_nil, length_append, take_succ_cons, take_zero, take_nil, drop_succ_cons, drop_zero, drop_nil, cons_append, nil_append, append_nil, Nat.reduceAdd, Nat.reduceMul, Nat.reduceLeDiff, Nat.reduceEqDiff, and_self, and_true, true_and, if_true, Nat.le_refl, Nat.zero_add, Nat.add_zero, Nat.zero_mul, reduceIte, if_false] <;> rfl))) rfl fun q h s wq => ?_; refine s.r_appL (f := enc) (L := []) (M := L) 0 rfl wq rfl (hr.st s) ho (by simp; omega) (by simp; omega) fun v' b o sp h s w => ?_; rw [List.nil_append] at w
  have s : St _ [] ((b, o, L.flatMap enc ++ sp) :: (t5, 0, enc y) :: []) h := s
  refine St.r_loadN0 s 1 rfl (by simp) ?_; refine w.idx (n := i) rfl hi ?_; refine s.r_storeF encl 0 rfl hi hy ?_; intro h s
  exact H v' b o sp _ h (w.list encl (List.length_set ..)) s
theorem insertedI_ok {L : List It} {v : Value} {i : Nat} {y : It} (hr : Rdl 2 h v L.length (L.flatMap enc)) (ho : ∀ x ∈ L, ∀ c ∈ enc x, one1 c = true) (hy : ∀ c ∈ enc y, one1 c = true) (hi : i ≤ L.length) (hl : L.length ≤ 1073741824)
    (H : ∀ v' b o sp E' h', Own 2 v' (ins L i y).length b o ((ins L i y).flatMap enc) sp → St h [] ((b, o, (ins L i y).flatMap enc ++ sp) :: E') h' → Q v' h') : s_inserted_I.call #[v, .int .i64 i, .agg (enc y).toArray] h Q := by
  have hins : ins L i y = (L.take i ++ [y]) ++ L.drop i := by unfold ins; simp
  have ho1 : ∀ x ∈ L.take i, ∀ c ∈ enc x, one1 c = true := fun x hx => ho x (List.mem_of_mem_take hx)
  have ho2 : ∀ x ∈ L.drop i, ∀ c ∈ enc x, one1 c = true := fun x hx => ho x (List.mem_of_mem_drop hx)
  refine s_inserted_I.body _ _ _ _ _ ?_; unfold s_inserted_I.sh
  have s := St.start h
  refine St.r_box (cs := enc y) s fun t5 h1 s => ?_; refine slcG0 encl hr rfl hi fun v1 r1 => ?_; refine St.r_loadN0 s 0 rfl (by simp) ?_; refine slcG1 encl hr rfl hi fun v2 r2 => ?_
  have fin : ∀ {h1 : Heap} {va v3 : Value} {ba oa : Nat} {pa : List Value} {R : List Rg}, St h [] ((ba, oa, (L.take i).flatMap enc ++ pa) :: R) h1 → Own 2 va (L.take i).length ba oa ((L.take i).flatMap enc) pa → Rdl 2 h1 v3 [y].length ([y].flatMap enc) →
      app 27 2 16 [(.int .i64 0), (.int .i64 0)] va v3 h1 fun t14 h => app 27 2 16 [(.int .i64 0), (.int .i64 0)] t14 v2 h fun t18 h => Q t18 h := fun {h1 va v3 ba oa pa R} s wa w3 => by
    refine s.r_appL (f := enc) (L := L.take i) (M := [y]) 0 rfl wa rfl w3 (fun x hx => by rw [List.mem_singleton.1 hx]; exact hy) (by simp; omega) (by simp; omega) fun vb bb ob pb h2 s wb => ?_; refine s.r_appL (f := enc) (L := L.take i ++ [y]) (M := L.drop i) 0 rfl wb rfl (r2.st s) ho2 (by simp; omega) (by simp; omega) fun vc bc oc pc h3 s wc => ?_; rw [← hins] at s wc; exact H vc bc oc pc _ h3 wc s
  refine ⟨?_, ?_⟩
  · refine St.r_mkSl (sz := 2) (cs := []) s (by ((simp only [fillV, fill1, Value.cells, zeros_succ, zeros_zero, size_toArray, length_cons, length_nil, length_append, take_succ_cons, take_zero, take_nil, drop_succ_cons, drop_zero, drop_nil, cons_append, nil_append, append_nil, Nat.reduceAdd, Nat.reduceMul, Nat.reduceLeDiff, Nat.reduceEqDiff, and_self, and_true, true_and, if_true, Nat.le_refl, Nat.zero_add, Nat.add_zero, Nat.zero_mul, reduceIte, if_false] <;> rfl))) rfl fun q h1 s wq => ?_
    refine ⟨St.r_stillN0 s 1 (j := 0) rfl (by simp) rfl, ?_, ?_⟩
    · refine s.r_appL (f := enc) (L := []) (M := L.take i) 0 rfl wq rfl (r1.st s) ho1 (by simp; omega) (by simp; omega) fun va ba oa pa h1 s wa => ?_
      rw [List.nil_append] at wa
      have s : St h [] ((ba, oa, (L.take i).flatMap enc ++ pa) :: (t5, 0, enc y) :: []) h1 := s
      refine ⟨St.r_stillN0 s 1 (j := 0) rfl (by simp) rfl, ?_⟩
      refine St.r_mkSl (sz := 2) (cs := enc y) s (by ((simp only [fillV, fill1, Value.cells, zeros_succ, zeros_zero, size_toArray, length_cons, length_nil, length_append, take_succ_cons, take_zero, take_nil, drop_succ_cons, drop_zero, drop_nil, cons_append, nil_append, append_nil, Nat.reduceAdd, Nat.reduceMul, Nat.reduceLeDiff, Nat.reduceEqDiff, and_self, and_true, true_and, if_true, Nat.le_refl, Nat.zero_add, Nat.add_zero, Nat.zero_mul, reduceIte, if_false] <;> rfl))) rfl fun q2 h1 s w3 => ?_; exact fin (s.perm (E' := (ba, oa, (L.take i).flatMap enc ++ pa) :: (q2, 0, enc y) :: (t5, 0, enc y) :: []) (by ((apply perm_rg; intro f; simp only [set_cons_zero, set_cons_succ, eraseIdx_cons_zero, eraseIdx_cons_succ, cons_append, nil_append, map_append, map_cons, map_nil, List.sum_append, List.sum_cons, List.sum_nil, map_flatMap, Nat.add_zero, Nat.zero_add]; ac_rfl)))) wa (by have := w3.rdl s 0 rfl; simpa using this)
    · refine St.r_mkSl (sz := 2) (cs := enc y) s (by ((simp only [fillV, fill1, Value.cells, zeros_succ, zeros_zero, size_toArray, length_cons, length_nil, length_append, take_succ_cons, take_zero, take_nil, drop_succ_cons, drop_zero, drop_nil, cons_append, nil_append, append_nil, Nat.reduceAdd, Nat.reduceMul, Nat.reduceLeDiff, Nat.reduceEqDiff, and_self, and_true, true_and, if_true, Nat.le_refl, Nat.zero_add, Nat.add_zero, Nat.zero_mul, reduceIte, if_false] <;> rfl))) rfl fun q2 h1 s w3 => ?_
      have r3 := w3.rdl s 0 rfl
      refine s.r_appL (f := enc) (L := []) (M := L.take i) 1 rfl wq rfl (r1.st s) ho1 (by simp; omega) (by simp; omega) fun va ba oa pa h1 s wa => ?_; rw [List.nil_append] at wa
      have s : St h [] ((q2, 0, enc y) :: (ba, oa, (L.take i).flatMap enc ++ pa) :: (t5, 0, enc y) :: []) h1 := s
      exact fin (s.perm (E' := (ba, oa, (L.take i).flatMap enc ++ pa) :: (q2, 0, enc y) :: (t5, 0, enc y) :: []) (by ((apply perm_rg; intro f; simp only [set_cons_zero, set_cons_succ, eraseIdx_cons_zero, eraseIdx_cons_succ, cons_append, nil_append, map_append, map_cons, map_nil, List.sum_append, List.sum_cons, List.sum_nil, map_flatMap, Nat.add_zero, Nat.zero_add]; ac_rfl)))) wa (by have := w3.rdl s 0 (by rw [List.append_nil]; rfl); simpa using this)
  · refine St.r_mkSl (sz := 2) (cs := enc y) s (by ((simp only [fillV, fill1, Value.cells, zeros_succ, zeros_zero, size_toArray, length_cons, length_nil, length_append, take_succ_cons, take_zero, take_nil, drop_succ_cons, drop_zero, drop_nil, cons_append, nil_append, append_nil, Nat.reduceAdd, Nat.reduceMul, Nat.reduceLeDiff, Nat.reduceEqDiff, and_self, and_true, true_and, if_true, Nat.le_refl, Nat.zero_add, Nat.add_zero, Nat.zero_mul, reduceIte, if_false] <;> rfl))) rfl fun q2 h1 s w3 => ?_
    refine St.r_mkSl (sz := 2) (cs := []) s (by ((simp only [fillV, fill1, Value.cells, zeros_succ, zeros_zero, size_toArray, length_cons, length_nil, length_append, take_succ_cons, take_zero, take_nil, drop_succ_cons, drop_zero, drop_nil, cons_append, nil_append, append_nil, Nat.reduceAdd, Nat.reduceMul, Nat.reduceLeDiff, Nat.reduceEqDiff, and_self, and_true, true_and, if_true, Nat.le_refl, Nat.zero_add, Nat.add_zero, Nat.zero_mul, reduceIte, if_false] <;> rfl))) rfl fun q h1 s wq => ?_; refine s.r_appL (f := enc) (L := []) (M := L.take i) 0 rfl wq rfl (r1.st s) ho1 (by simp; omega) (by simp; omega) fun va ba oa pa h1 s wa => ?_; rw [List.nil_append] at wa
    have s : St h [] ((ba, oa, (L.take i).flatMap enc ++ pa) :: (q2, 0, enc y) :: (t5, 0, enc y) :: []) h1 := s
    exact fin s wa (by have := w3.rdl s 1 (by rw [List.append_nil]; rfl); simpa using this)
theorem changedN_ok {L : List (Value × Value × Int)} {v : Value} {i : Nat} {y : (Value × Value × Int)} (hr : Rdl 3 h v L.length (L.flatMap encN)) (ho : ∀ x ∈ L, ∀ c ∈ encN x, one1 c = true) (hy : ∀ c ∈ encN y, one1 c = true) (hi : i < L.length) (hl : L.length ≤ 1073741824)
    (H : ∀ v' b o sp E' h', Own 3 v' (L.set i y).length b o ((L.set i y).flatMap encN) sp → St h [] ((b, o, (L.set i y).flatMap encN ++ sp) :: E') h' → Q v' h') : s_changed_implNode.call #[v, .int .i64 i, .agg (encN y).toArray] h Q := by
  refine s_changed_implNode.body _ _ _ _ _ ?_; unfold s_changed_implNode.sh
  have s := St.start h
  refine St.r_box (cs := encN y) s fun t5 h s => ?_; refine St.r_mkSl (sz := 3) (cs := []) s (by ((simp only [fillV, fill1, Value.cells, zeros_succ, zeros_zero, size_toArray, length_cons, length_nil, length_append, take_succ_cons, take_zero, take_nil, drop_succ_cons, drop_zero, drop_nil, cons_append, nil_append, append_nil, Nat.reduceAdd, Nat.reduceMul, Nat.reduceLeDiff, Nat.reduceEqDiff, and_self, and_true, true_and, if_true, Nat.le_refl, Nat.zero_add, Nat.add_zero, Nat.zero_mul, reduceIte, if_false] <;> rfl))) rfl fun q h s wq => ?_; refine s.r_appL (f := encN) (L := []) (M := L) 0 rfl wq rfl (hr.st s) ho (by simp; omega) (by simp; omega) fun v' b o sp h s w => ?_; rw [List.nil_append] at w
  have s : St _ [] ((b, o, L.flatMap encN ++ sp) :: (t5, 0, encN y) :: []) h := s
  refine St.r_loadN0 s 1 rfl (by simp) ?_; refine w.idx (n := i) rfl hi ?_; refine s.r_storeF encNl 0 rfl hi hy ?_; intro h s
  exact H v' b o sp _ h (w.list encNl (List.length_set ..)) s
theorem insertedN_ok {L : List (Value × Value × Int)} {v : Value} {i : Nat} {y : (Value × Value × Int)} (hr : Rdl 3 h v L.length (L.flatMap encN)) (ho : ∀ x ∈ L, ∀ c ∈ encN x, one1 c = true) (hy : ∀ c ∈ encN y, one1 c = true) (hi : i ≤ L.length) (hl : L.length ≤ 1073741824)
    (H : ∀ v' b o sp E' h', Own 3 v' (ins L i y).length b o ((ins L i y).flatMap encN) sp → St h [] ((b, o, (ins L i y).flatMap encN ++ sp) :: E') h' → Q v' h') : s_inserted_implNode.call #[v, .int .i64 i, .agg (encN y).toArray] h Q := by
  have hins : ins L i y = (L.take i ++ [y]) ++ L.drop i := by unfold ins; simp
  have ho1 : ∀ x ∈ L.take i, ∀ c ∈ encN x, one1 c = true := fun x hx => ho x (List.mem_of_mem_take hx)
  have ho2 : ∀ x ∈ L.drop i, ∀ c ∈ encN x, one1 c = true := fun x hx => ho x (List.mem_of_mem_drop hx)
  refine s_inserted_implNode.body _ _ _ _ _ ?_; unfold s_inserted_implNode.sh
  have s := St.start h
  refine St.r_box (cs := encN y) s fun t5 h1 s => ?_; refine slcG0 encNl hr rfl hi fun v1 r1 => ?_; refine St.r_loadN0 s 0 rfl (by simp) ?_; refine slcG1 encNl hr rfl hi fun v2 r2 => ?_
  have fin : ∀ {h1 : Heap} {va v3 : Value} {ba oa : Nat} {pa : List Value} {R : List Rg}, St h [] ((ba, oa, (L.take i).flatMap encN ++ pa) :: R) h1 → Own 3 va (L.take i).length ba oa ((L.take i).flatMap encN) pa → Rdl 3 h1 v3 [y].length ([y].flatMap encN) →
      app 37 3 56 [(.slice none 0 0), (.slice none 0 0), (.int .i64 0)] va v3 h1 fun t14 h => app 37 3 56 [(.slice none 0 0), (.slice none 0 0), (.int .i64 0)] t14 v2 h fun t18 h => Q t18 h := fun {h1 va v3 ba oa pa R} s wa w3 => by
    refine s.r_appL (f := encN) (L := L.take i) (M := [y]) 0 rfl wa rfl w3 (fun x hx => by rw [List.mem_singleton.1 hx]; exact hy) (by simp; omega) (by simp; omega) fun vb bb ob pb h2 s wb => ?_; refine s.r_appL (f := encN) (L := L.take i ++ [y]) (M := L.drop i) 0 rfl wb rfl (r2.st s) ho2 (by simp; omega) (by simp; omega) fun vc bc oc pc h3 s wc => ?_; rw [← hins] at s wc; exact H vc bc oc pc _ h3 wc s
  refine ⟨?_, ?_⟩
  · refine St.r_mkSl (sz := 3) (cs := []) s (by ((simp only [fillV, fill1, Value.cells, zeros_succ, zeros_zero, size_toArray, length_cons, length_nil, length_append, take_succ_cons, take_zero, take_nil, drop_succ_cons, drop_zero, drop_nil, cons_append, nil_append, append_nil, Nat.reduceAdd, Nat.reduceMul, Nat.reduceLeDiff, Nat.reduceEqDiff, and_self, and_true, true_and, if_true, Nat.le_refl, Nat.zero_add, Nat.add_zero, Nat.zero_mul, reduceIte, if_false] <;> rfl))) rfl fun q h1 s wq => ?_
    refine ⟨St.r_stillN0 s 1 (j := 0) rfl (by simp) rfl, ?_, ?_⟩
    · refine s.r_appL (f := encN) (L := []) (M := L.take i) 0 rfl wq rfl (r1.st s) ho1 (by simp; omega) (by simp; omega) fun va ba oa pa h1 s wa => ?_
      rw [List.nil_append] at wa
      have s : St h [] ((ba, oa, (L.take i).flatMap encN ++ pa) :: (t5, 0, encN y) :: []) h1 := s
      refine ⟨St.r_stillN0 s 1 (j := 0) rfl (by simp) rfl, ?_⟩
      refine St.r_mkSl (sz := 3) (cs := encN y) s (by ((simp only [fillV, fill1, Value.cells, zeros_succ, zeros_zero, size_toArray, length_cons, length_nil, length_append, take_succ_cons, take_zero, take_nil, drop_succ_cons, drop_zero, drop_nil, cons_append, nil_append, append_nil, Nat.reduceAdd, Nat.reduceMul, Nat.reduceLeDiff, Nat.reduceEqDiff, and_self, and_true, true_and, if_true, Nat.le_refl, Nat.zero_add, Nat.add_zero, Nat.zero_mul, reduceIte, if_false] <;> rfl))) rfl fun q2 h1 s w3 => ?_; exact fin (s.perm (E' := (ba, oa, (L.take i).flatMap encN ++ pa) :: (q2, 0, encN y) :: (t5, 0, encN y) :: []) (by ((apply perm_rg; intro f; simp only [set_cons_zero, set_cons_succ, eraseIdx_cons_zero, eraseIdx_cons_succ, cons_append, nil_append, map_append, map_cons, map_nil, List.sum_append, List.sum_cons, List.sum_nil, map_flatMap, Nat.add_zero, Nat.zero_add]; ac_rfl)))) wa (by have := w3.rdl s 0 rfl; simpa using this)
    · refine St.r_mkSl (sz := 3) (cs := encN y) s (by ((simp only [fillV, fill1, Value.cells, zeros_succ, zeros_zero, size_toArray, length_cons, length_nil, length_append, take_succ_cons, take_zero, take_nil, drop_succ_cons, drop_zero, drop_nil, cons_append, nil_append, append_nil, Nat.reduceAdd, Nat.reduceMul, Nat.reduceLeDiff, Nat.reduceEqDiff, and_self, and_true, true_and, if_true, Nat.le_refl, Nat.zero_add, Nat.add_zero, Nat.zero_mul, reduceIte, if_false] <;> rfl))) rfl fun q2 h1 s w3 => ?_
      have r3 := w3.rdl s 0 rfl
      refine s.r_appL (f := encN) (L := []) (M := L.take i) 1 rfl wq rfl (r1.st s) ho1 (by simp; omega) (by simp; omega) fun va ba oa pa h1 s wa => ?_; rw [List.nil_append] at wa
      have s : St h [] ((q2, 0, encN y) :: (ba, oa, (L.take i).flatMap encN ++ pa) :: (t5, 0, encN y) :: []) h1 := s
      exact fin (s.perm (E' := (ba, oa, (L.take i).flatMap encN ++ pa) :: (q2, 0, encN y) :: (t5, 0, encN y) :: []) (by ((apply perm_rg; intro f; simp only [set_cons_zero, set_cons_succ, eraseIdx_cons_zero, eraseIdx_cons_succ, cons_append, nil_append, map_append, map_cons, map_nil, List.sum_append, List.sum_cons, List.sum_nil, map_flatMap, Nat.add_zero, Nat.zero_add]; ac_rfl)))) wa (by have := w3.rdl s 0 (by rw [List.append_nil]; rfl); simpa using this)
  · refine St.r_mkSl (sz := 3) (cs := encN y) s (by ((simp only [fillV, fill1, Value.cells, zeros_succ, zeros_zero, size_toArray, length_cons, length_nil, length_append, take_succ_cons, take_zero, take_nil, drop_succ_cons, drop_zero, drop_nil, cons_append, nil_append, append_nil, Nat.reduceAdd, Nat.reduceMul, Nat.reduceLeDiff, Nat.reduceEqDiff, and_self, and_true, true_and, if_true, Nat.le_refl, Nat.zero_add, Nat.add_zero, Nat.zero_mul, reduceIte, if_false] <;> rfl))) rfl fun q2 h1 s w3 => ?_
    refine St.r_mkSl (sz := 3) (cs := []) s (by ((simp only [fillV, fill1, Value.cells, zeros_succ, zeros_zero, size_toArray, length_cons, length_nil, length_append, take_succ_cons, take_zero, take_nil, drop_succ_cons, drop_zero, drop_nil, cons_append, nil_append, append_nil, Nat.reduceAdd, Nat.reduceMul, Nat.reduceLeDiff, Nat.reduceEqDiff, and_self, and_true, true_and, if_true, Nat.le_refl, Nat.zero_add, Nat.add_zero, Nat.zero_mul, reduceIte, if_false] <;> rfl))) rfl fun q h1 s wq => ?_; refine s.r_appL (f := encN) (L := []) (M := L.take i) 0 rfl wq rfl (r1.st s) ho1 (by simp; omega) (by simp; omega) fun va ba oa pa h1 s wa => ?_; rw [List.nil_append] at wa
    have s : St h [] ((ba, oa, (L.take i).flatMap encN ++ pa) :: (q2, 0, encN y) :: (t5, 0, encN y) :: []) h1 := s
    exact fin s wa (by have := w3.rdl s 1 (by rw [List.append_nil]; rfl); simpa using this)
end Go.Proofs.Ytljecmjdmdjldaa.Gi
end
section
namespace Go.Proofs.Ytljecmjdmdjldaa.Gi
open Go.Hp Go.Proofs.Ytljecmjdmdjldaa
variable {h0 h : Heap} {Z E : List Rg} {Q : Value → Heap → Prop} {lt : It → It → Bool} {lf : Value}
def VT : Nat → Type
  | 0 => List It × Value × Value
  | k + 1 => (List It × Value × Value) × List (VT k × Int)
def VT.hd : {k : Nat} → VT k → List It × Value × Value
  | 0, t => t
  | _ + 1, t => t.1
abbrev VT.vi {k : Nat} (t : VT k) : Value := t.hd.2.1
abbrev VT.vk {k : Nat} (t : VT k) : Value := t.hd.2.2
def tri {k : Nat} (c : VT k × Int) : Value × Value × Int := (c.1.vi, c.1.vk, c.2)
def VT.pt : {k : Nat} → VT k → PT It k
  | 0, t => (t.1 : List It)
  | _ + 1, t => (t.1.1, t.2.map fun c => VT.pt c.1)
theorem VT.pt_its : ∀ {k : Nat} (t : VT k), t.pt.its = t.hd.1
  | 0, _ => rfl
  | _ + 1, _ => rfl
def ArgV (h : Heap) : {k : Nat} → VT k → Prop
  | 0, t => Rdl 2 h t.2.1 t.1.length (t.1.flatMap enc) ∧ Rdl 3 h t.2.2 0 []
  | _ + 1, t => Rdl 2 h t.1.2.1 t.1.1.length (t.1.1.flatMap enc) ∧ Rdl 3 h t.1.2.2 t.2.length ((t.2.map tri).flatMap encN) ∧ ∀ c, c ∈ t.2 → ArgV h c.1
theorem ArgV.fr {h h' : Heap} (f : Fr (fun _ _ => False) h h') : ∀ {k : Nat} {t : VT k}, ArgV h t → ArgV h' t
  | 0, _, a => ⟨a.1.fr f (fun _ _ e => e), a.2.fr f (fun _ _ e => e)⟩
  | _ + 1, _, a => ⟨a.1.fr f (fun _ _ e => e), a.2.1.fr f (fun _ _ e => e), fun c hc => ArgV.fr f (a.2.2 c hc)⟩
theorem ArgV.one {h : Heap} : ∀ {k : Nat} {t : VT k}, ArgV h t → one1 t.vi = true ∧ one1 t.vk = true
  | 0, _, a => ⟨a.1.one, a.2.one⟩
  | _ + 1, _, a => ⟨a.1.one, a.2.1.one⟩
def VT.Cnt : {k : Nat} → VT k → Prop
  | 0, _ => True
  | _ + 1, t => ∀ c, c ∈ t.2 → c.2 = c.1.pt.items.length ∧ VT.Cnt c.1
theorem ArgV.toD {h : Heap} : ∀ {k : Nat} {t : VT k}, ArgV h t → ArgD h (Gi.toD t.pt) t.vi t.vk
  | 0, t, a => ⟨a.1, [], rfl, a.2, fun j j1 => absurd j1 (Nat.not_lt_zero _)⟩
  | k + 1, t, a => by
    refine ⟨a.1, t.2.map tri, ?_, by rw [List.length_map]; exact a.2.1, fun j j1 j2 => ?_⟩
    · show (t.2.map tri).length = ((t.2.map fun c => VT.pt c.1).map Gi.toD).length
      rw [List.length_map, List.length_map, List.length_map]
    · have hj : j < t.2.length := by rw [List.length_map] at j2; exact j2
      have e1 : ((t.2.map fun c => VT.pt c.1).map Gi.toD)[j]'(by rw [List.length_map, List.length_map]; exact hj) = Gi.toD (VT.pt (t.2[j]'hj).1) := by
        rw [List.getElem_map, List.getElem_map]
      have e2 : (t.2.map tri)[j]'j2 = tri (t.2[j]'hj) := List.getElem_map ..
      show ArgD h (((t.2.map fun c => VT.pt c.1).map Gi.toD)[j]'(by rw [List.length_map, List.length_map]; exact hj)) _ _
      rw [e1, e2]; exact ArgV.toD (a.2.2 _ (List.getElem_mem hj))
theorem ArgV.toC {h : Heap} : ∀ {k : Nat} {t : VT k}, ArgV h t → t.Cnt → ArgC h t.pt t.vi t.vk
  | 0, t, a, _ => ⟨a.1, a.2⟩
  | k + 1, t, a, n => by
    refine ⟨a.1, t.2.map tri, ?_, by rw [List.length_map]; exact a.2.1, fun j j1 j2 => ?_⟩
    · show (t.2.map tri).length = (t.2.map fun c => VT.pt c.1).length
      rw [List.length_map, List.length_map]
    · have hj : j < t.2.length := by rw [List.length_map] at j2; exact j2
      have e1 : (t.2.map fun c => VT.pt c.1)[j]'(by rw [List.length_map]; exact hj) = VT.pt (t.2[j]'hj).1 := List.getElem_map ..
      have e2 : (t.2.map tri)[j]'j2 = tri (t.2[j]'hj) := List.getElem_map ..
      show ArgC h ((t.2.map fun c => VT.pt c.1)[j]'(by rw [List.length_map]; exact hj)) _ _ ∧ _ = (((t.2.map fun c => VT.pt c.1)[j]'(by rw [List.length_map]; exact hj)).items.length : Int)
      rw [e1, e2]
      have hm := List.getElem_mem hj
      exact ⟨ArgV.toC (a.2.2 _ hm) (n _ hm).2, (n _ hm).1⟩
theorem vt_of {h : Heap} : ∀ {k : Nat} (x : PT It k) {vi vk : Value}, ArgD h (toD x) vi vk → ∃ t : VT k, t.pt = x ∧ t.vi = vi ∧ t.vk = vk ∧ ArgV h t
  | 0, x, vi, vk, ⟨hr, cs, hcl, hrk, _⟩ => by
    have hc0 : cs = [] := List.length_eq_zero_iff.1 hcl
    subst hc0; exact ⟨((x : List It), vi, vk), rfl, rfl, rfl, hr, hrk⟩
  | k + 1, x, vi, vk, ⟨hr, cs, hcl, hrk, hks⟩ => by
    have hx2 : (toD x).2.length = x.2.length := List.length_map ..
    have hcl : cs.length = x.2.length := by rw [← hx2]; exact hcl
    obtain ⟨ts, hl, hts⟩ := exists_list (R := fun (j : Fin x.2.length) (t : VT k × Int) => t.1.pt = x.2[j] ∧ tri t = cs[j.1]'(by omega) ∧ ArgV h t.1) (List.finRange x.2.length) fun j _ => by
      have h3 := hks j.1 (by rw [hx2]; exact j.2) (by omega)
      have e : (x.2.map toD)[j.1]'(by rw [List.length_map]; exact j.2) = toD (x.2[j.1]) := List.getElem_map ..
      have h4 : ArgD h ((x.2.map toD)[j.1]'(by rw [List.length_map]; exact j.2)) (cs[j.1]'(by omega)).1 (cs[j.1]'(by omega)).2.1 := h3
      rw [e] at h4; obtain ⟨t, t1, t2, t3, t4⟩ := vt_of (x.2[j.1]) h4; exact ⟨(t, (cs[j.1]'(by omega)).2.2), t1, by show (t.vi, t.vk, _) = _; rw [t2, t3], t4⟩
    have hl : ts.length = x.2.length := by rw [hl, List.length_finRange]
    have hts : ∀ j (h1 : j < x.2.length) (h2 : j < ts.length), ts[j].1.pt = x.2[j] ∧ tri ts[j] = cs[j]'(by omega) ∧ ArgV h ts[j].1 := fun j h1 h2 => by
      have := hts j (by rw [List.length_finRange]; exact h1) h2
      simpa using this
    have e1 : ts.map tri = cs := List.ext_getElem (by rw [List.length_map]; omega) fun j h1 h2 => by
      rw [List.getElem_map]; exact (hts j (by omega) (by omega)).2.1
    have e2 : (ts.map fun c => VT.pt c.1) = x.2 := List.ext_getElem (by rw [List.length_map]; omega) fun j h1 h2 => by
      rw [List.getElem_map]; exact (hts j (by omega) (by omega)).1
    refine ⟨((x.1, vi, vk), ts), ?_, rfl, rfl, hr, ?_, fun c hc => ?_⟩
    · exact congrArg (fun l => ((x.1, l) : List It × List (PT It k))) e2
    · show Rdl 3 h vk ts.length ((ts.map tri).flatMap encN)
      rw [e1, hl, ← hcl]; exact hrk
    · obtain ⟨j, hj, rfl⟩ := List.getElem_of_mem (show c ∈ ts from hc)
      exact (hts j (by omega) hj).2.2
end Go.Proofs.Ytljecmjdmdjldaa.Gi
end
section
namespace Go.Proofs.Ytljecmjdmdjldaa.Gi
open Go.Hp Go.Proofs.Ytljecmjdmdjldaa
variable {h0 h : Heap} {Z E : List Rg} {Q : Value → Heap → Prop} {lt : It → It → Bool} {lf : Value}
def wcTail (t1 t2 t3 : Value) (h : Heap) (Q : Value → Heap → Prop) : Prop :=
  fld 1 t1 fun t14 =>
    load1 t14 h fun t15 =>
    lenV t15 fun t16 =>
    loopC (fun c s h K1 => s_WithCounts.l2.b (c.getD 0 undef) (c.getD 1 undef) (c.getD 2 undef) (c.getD 3 undef) (s.getD 0 undef) h K1 Q) [t2, t3, t15, t16] [(.int .i64 0)] h
theorem wc_orders {k : Nat} (x : PT It k) {vi vk vc : Value} (ha : ArgD h (toD x) vi vk) (hb : (toD x).bulk ≤ 1073741824) (hvc : one1 vc = true)
    (T : ∀ t1 t2 t3 b o vi' sp R g, Own 2 vi' x.its.length b o (x.its.flatMap enc) sp → (b, o, x.its.flatMap enc ++ sp) ∈ R →
        St h [] ((t1, 0, [vi, vk, vc]) :: (t2, 0, zN) :: (t3, 0, [vi', .slice none 0 0, .int .i64 x.items.length]) :: R) g → wcTail (ptr t1 0) (ptr t2 0) (ptr t3 0) g Q) : s_WithCounts.call #[.agg #[vi, vk, vc]] h Q := by
  have hkl := (toD x).kids_le
  have hr : Rdl 2 h vi x.its.length (x.its.flatMap enc) := by
    have := ha.1
    rw [toD_its] at this; exact this
  have hil : x.its.length ≤ 1073741824 := by rw [← toD_its]; omega
  have fill : ∀ {v : Value} {n : Nat} {b o : Nat} {xs sp : List Value}, Own 2 v n b o xs sp → fillV [(0, 1, v), (2, 1, Value.int .i64 x.items.length)] [.slice none 0 0, .slice none 0 0, .int .i64 0] = some [v, .slice none 0 0, .int .i64 x.items.length] := fun {v n b o xs sp} w => by
    obtain ⟨_, _, e0, _⟩ := w; subst e0; ((simp only [fillV, fill1, Value.cells, zeros_succ, zeros_zero, size_toArray, length_cons, length_nil, length_append, take_succ_cons, take_zero, take_nil, drop_succ_cons, drop_zero, drop_nil, cons_append, nil_append, append_nil, Nat.reduceAdd, Nat.reduceMul, Nat.reduceLeDiff, Nat.reduceEqDiff, and_self, and_true, true_and, if_true, Nat.le_refl, Nat.zero_add, Nat.add_zero, Nat.zero_mul, reduceIte, if_false] <;> rfl))
  refine s_WithCounts.body _ _ _ ?_; unfold s_WithCounts.sh
  have s := St.start h
  refine St.r_box (cs := [vi, vk, vc]) s fun t1 h1 s => ?_; refine s.r_alloc fun t2 h1 s => ?_; refine r_fld (n := 0) ?_; refine St.r_load0 s 1 rfl rfl ?_; refine St.r_loadN0 s 1 rfl (by simp) ?_; refine ⟨?_, ?_⟩
  · refine St.r_mkSl (sz := 2) (cs := []) s (by ((simp only [fillV, fill1, Value.cells, zeros_succ, zeros_zero, size_toArray, length_cons, length_nil, length_append, take_succ_cons, take_zero, take_nil, drop_succ_cons, drop_zero, drop_nil, cons_append, nil_append, append_nil, Nat.reduceAdd, Nat.reduceMul, Nat.reduceLeDiff, Nat.reduceEqDiff, and_self, and_true, true_and, if_true, Nat.le_refl, Nat.zero_add, Nat.add_zero, Nat.zero_mul, reduceIte, if_false] <;> rfl))) rfl fun q h1 s wq => ?_
    refine ⟨St.r_still0 s 2 rfl rfl, St.r_stillN0 s 2 (j := 0) rfl (by simp) rfl, ?_, ?_⟩
    · refine s.r_appL (f := enc) (L := []) (M := x.its) 0 rfl wq rfl (hr.st s) (fun _ _ => enc1 _) (by simp; omega) (by simp; omega) fun vi' b o sp h1 s w => ?_
      rw [List.nil_append] at w
      have s : St h [] ((b, o, x.its.flatMap enc ++ sp) :: (t2, 0, zN) :: (t1, 0, [vi, vk, vc]) :: []) h1 := s
      refine ⟨St.r_stillN0 s 2 (j := 0) rfl (by simp) rfl, ?_, ?_⟩
      · refine s_NodeItems_ok (toD x) (ha.fr s.fr) hb hvc fun v E2 h1 s2 hv => ?_
        have s := (s.join s2).perm List.perm_append_comm
        rw [toD_items] at hv; refine hv.lenV ?_; refine r_build (cs := [vi', .slice none 0 0, .int .i64 x.items.length]) (fill w) ?_; refine s.r_alloc fun t3 h1 s => ?_; refine St.r_storeN0 s 0 (ys := [vi', .slice none 0 0, .int .i64 x.items.length]) rfl rfl (by simp) (one3 w.one rfl rfl) ?_; intro h1 s
        exact T _ _ _ _ _ _ _ ((b, o, x.its.flatMap enc ++ sp) :: E2) _ w (List.mem_cons_self ..) (s.perm (E' := (t1, 0, [vi, vk, vc]) :: (t2, 0, zN) :: (t3, 0, [vi', .slice none 0 0, .int .i64 x.items.length]) :: (b, o, x.its.flatMap enc ++ sp) :: E2) (by ((apply perm_rg; intro f; simp only [set_cons_zero, set_cons_succ, eraseIdx_cons_zero, eraseIdx_cons_succ, cons_append, nil_append, map_append, map_cons, map_nil, List.sum_append, List.sum_cons, List.sum_nil, map_flatMap, Nat.add_zero, Nat.zero_add]; ac_rfl))))
      · refine s.r_alloc fun t3 h1 s => ?_
        refine ⟨St.r_stillN0 s 3 (j := 0) rfl (by simp) rfl, ?_⟩
        refine s_NodeItems_ok (toD x) (ha.fr s.fr) hb hvc fun v E2 h1 s2 hv => ?_
        have s := (s.join s2).perm List.perm_append_comm
        rw [toD_items] at hv; refine hv.lenV ?_; refine r_build (cs := [vi', .slice none 0 0, .int .i64 x.items.length]) (fill w) ?_; refine St.r_storeN0 s 0 (ys := [vi', .slice none 0 0, .int .i64 x.items.length]) rfl rfl (by simp) (one3 w.one rfl rfl) ?_; intro h1 s
        exact T _ _ _ _ _ _ _ ((b, o, x.its.flatMap enc ++ sp) :: E2) _ w (List.mem_cons_self ..) (s.perm (E' := (t1, 0, [vi, vk, vc]) :: (t2, 0, zN) :: (t3, 0, [vi', .slice none 0 0, .int .i64 x.items.length]) :: (b, o, x.its.flatMap enc ++ sp) :: E2) (by ((apply perm_rg; intro f; simp only [set_cons_zero, set_cons_succ, eraseIdx_cons_zero, eraseIdx_cons_succ, cons_append, nil_append, map_append, map_cons, map_nil, List.sum_append, List.sum_cons, List.sum_nil, map_flatMap, Nat.add_zero, Nat.zero_add]; ac_rfl))))
    · refine s.r_alloc fun t3 h1 s => ?_
      refine ⟨St.r_still0 s 3 rfl rfl, St.r_stillN0 s 3 (j := 0) rfl (by simp) rfl, ?_⟩
      refine s.r_appL (f := enc) (L := []) (M := x.its) 1 rfl wq rfl (hr.st s) (fun _ _ => enc1 _) (by simp; omega) (by simp; omega) fun vi' b o sp h1 s w => ?_; rw [List.nil_append] at w
      have s : St h [] ((t3, 0, zN) :: (b, o, x.its.flatMap enc ++ sp) :: (t2, 0, zN) :: (t1, 0, [vi, vk, vc]) :: []) h1 := s
      refine ⟨St.r_stillN0 s 3 (j := 0) rfl (by simp) rfl, ?_⟩
      refine s_NodeItems_ok (toD x) (ha.fr s.fr) hb hvc fun v E2 h1 s2 hv => ?_
      have s := (s.join s2).perm List.perm_append_comm
      rw [toD_items] at hv; refine hv.lenV ?_; refine r_build (cs := [vi', .slice none 0 0, .int .i64 x.items.length]) (fill w) ?_; refine St.r_storeN0 s 0 (ys := [vi', .slice none 0 0, .int .i64 x.items.length]) rfl rfl (by simp) (one3 w.one rfl rfl) ?_; intro h1 s
      exact T _ _ _ _ _ _ _ ((b, o, x.its.flatMap enc ++ sp) :: E2) _ w (List.mem_cons_self ..) (s.perm (E' := (t1, 0, [vi, vk, vc]) :: (t2, 0, zN) :: (t3, 0, [vi', .slice none 0 0, .int .i64 x.items.length]) :: (b, o, x.its.flatMap enc ++ sp) :: E2) (by ((apply perm_rg; intro f; simp only [set_cons_zero, set_cons_succ, eraseIdx_cons_zero, eraseIdx_cons_succ, cons_append, nil_append, map_append, map_cons, map_nil, List.sum_append, List.sum_cons, List.sum_nil, map_flatMap, Nat.add_zero, Nat.zero_add]; ac_rfl))))
  · refine s.r_alloc fun t3 h1 s => ?_
    refine ⟨St.r_still0 s 2 rfl rfl, St.r_stillN0 s 2 (j := 0) rfl (by simp) rfl, ?_⟩
    refine St.r_mkSl (sz := 2) (cs := []) s (by ((simp only [fillV, fill1, Value.cells, zeros_succ, zeros_zero, size_toArray, length_cons, length_nil, length_append, take_succ_cons, take_zero, take_nil, drop_succ_cons, drop_zero, drop_nil, cons_append, nil_append, append_nil, Nat.reduceAdd, Nat.reduceMul, Nat.reduceLeDiff, Nat.reduceEqDiff, and_self, and_true, true_and, if_true, Nat.le_refl, Nat.zero_add, Nat.add_zero, Nat.zero_mul, reduceIte, if_false] <;> rfl))) rfl fun q h1 s wq => ?_; refine ⟨St.r_still0 s 3 rfl rfl, St.r_stillN0 s 3 (j := 0) rfl (by simp) rfl, ?_⟩
    refine s.r_appL (f := enc) (L := []) (M := x.its) 0 rfl wq rfl (hr.st s) (fun _ _ => enc1 _) (by simp; omega) (by simp; omega) fun vi' b o sp h1 s w => ?_; rw [List.nil_append] at w
    have s : St h [] ((b, o, x.its.flatMap enc ++ sp) :: (t3, 0, zN) :: (t2, 0, zN) :: (t1, 0, [vi, vk, vc]) :: []) h1 := s
    refine ⟨St.r_stillN0 s 3 (j := 0) rfl (by simp) rfl, ?_⟩
    refine s_NodeItems_ok (toD x) (ha.fr s.fr) hb hvc fun v E2 h1 s2 hv => ?_
    have s := (s.join s2).perm List.perm_append_comm
    rw [toD_items] at hv; refine hv.lenV ?_; refine r_build (cs := [vi', .slice none 0 0, .int .i64 x.items.length]) (fill w) ?_; refine St.r_storeN0 s 1 (ys := [vi', .slice none 0 0, .int .i64 x.items.length]) rfl rfl (by simp) (one3 w.one rfl rfl) ?_; intro h1 s
    exact T _ _ _ _ _ _ _ ((b, o, x.its.flatMap enc ++ sp) :: E2) _ w (List.mem_cons_self ..) (s.perm (E' := (t1, 0, [vi, vk, vc]) :: (t2, 0, zN) :: (t3, 0, [vi', .slice none 0 0, .int .i64 x.items.length]) :: (b, o, x.its.flatMap enc ++ sp) :: E2) (by ((apply perm_rg; intro f; simp only [set_cons_zero, set_cons_succ, eraseIdx_cons_zero, eraseIdx_cons_succ, cons_append, nil_append, map_append, map_cons, map_nil, List.sum_append, List.sum_cons, List.sum_nil, map_flatMap, Nat.add_zero, Nat.zero_add]; ac_rfl))))
theorem WithCountsV_ok : ∀ {k : Nat} (x : PT It k) {h : Heap} {Q : Value → Heap → Prop} {vi vk vc : Value}, ArgD h (toD x) vi vk → (toD x).bulk ≤ 1073741824 → one1 vc = true →
    (∀ (t : VT k) A h', t.pt = x → t.Cnt → St h [] A h' → (∀ g, (∀ r ∈ A, r.Ok g) → ArgV g t) → one1 t.vi = true → one1 t.vk = true → Q (.agg #[t.vi, t.vk, .int .i64 x.items.length]) h') → s_WithCounts.call #[.agg #[vi, vk, vc]] h Q := by
  intro k
  induction k with
  | zero =>
    intro x h Q vi vk vc ha hb hvc H; obtain ⟨_, cs, hcl, hrk, _⟩ := id ha
    have hc0 : cs.length = 0 := hcl
    refine wc_orders x ha hb hvc fun t1 t2 t3 b o vi' sp R g w hm s => ?_; unfold wcTail; refine r_fld (n := 1) ?_; refine St.r_load0 s 0 rfl rfl ?_; refine (hrk.st s).lenV ?_; refine loop_ghost (fun q st h' => q = 0 ∧ st = [.int .i64 0] ∧ h' = g) (n0 := 0) ⟨rfl, rfl, rfl⟩ ?_
    rintro q st _ ⟨rfl, rfl, rfl⟩ K HK
    show s_WithCounts.l2.b (ptr t2 0) (ptr t3 0) vk (.int .i64 cs.length) (.int .i64 0) _ K Q
    unfold s_WithCounts.l2.b; refine r_cmpI ?_; refine r_if (fun e => absurd (of_decide_eq_true e) (by omega)) (fun _ => ?_)
    unfold s_WithCounts.j1; refine St.r_loadN0 s 2 rfl (by simp) ?_; refine St.r_storeN0 s 1 (ys := [vi', .slice none 0 0, .int .i64 x.items.length]) rfl rfl (by simp) (one3 w.one rfl rfl) ?_; intro h1 s
    refine St.r_loadN0 s 1 rfl (by simp) ?_; refine H (((x : List It), vi', .slice none 0 0) : VT 0) _ h1 rfl trivial s (fun g hg => ⟨?_, Rdl.nil 3 g⟩) w.one rfl
    exact w.rdlO (hg _ (List.mem_cons_of_mem _ (List.mem_cons_of_mem _ (List.mem_cons_of_mem _ hm))))
  | succ k ih =>
    intro x h Q vi vk vc ha hb hvc H; obtain ⟨_, cs, hcl, hrk, hks⟩ := id ha
    have hkl := (toD x).kids_le
    have hx2 : (toD x).2.length = x.2.length := List.length_map ..
    have hcl : cs.length = x.2.length := by rw [← hx2]; exact hcl
    refine wc_orders x ha hb hvc fun t1 t2 t3 b o vi' sp R g w hm s => ?_; unfold wcTail; refine r_fld (n := 1) ?_; refine St.r_load0 s 0 rfl rfl ?_; refine (hrk.st s).lenV ?_
    refine loop_ghost (fun q st h' => ∃ (j : Nat) (ds : List (VT k × Int)) (vk' : Value) (b2 o2 : Nat) (p2 : List Value) (R2 : List Rg), q = cs.length - j ∧ j ≤ cs.length ∧ st = [.int .i64 (j : Nat)] ∧ (ds.map fun c => VT.pt c.1) = x.2.take j ∧ Own 3 vk' (ds.map tri).length b2 o2 ((ds.map tri).flatMap encN) p2 ∧
        St _ [] ((t1, 0, [vi, vk, vc]) :: (t2, 0, zN) :: (t3, 0, [vi', vk', .int .i64 x.items.length]) :: (b2, o2, (ds.map tri).flatMap encN ++ p2) :: (R ++ R2)) h' ∧
        (∀ c ∈ ds, c.2 = c.1.pt.items.length ∧ c.1.Cnt) ∧ (∀ g, (∀ r ∈ R2, r.Ok g) → ∀ c ∈ ds, ArgV g c.1)) (n0 := cs.length)
      ⟨0, [], .slice none 0 0, 0, 0, [], [], rfl, Nat.zero_le _, rfl, rfl, Own.nil 3 0 0, (s.empty 0 0).perm (by simp only [List.map_nil, List.flatMap_nil, List.append_nil]; ((apply perm_rg; intro f; simp only [set_cons_zero, set_cons_succ, eraseIdx_cons_zero, eraseIdx_cons_succ, cons_append, nil_append, map_append, map_cons, map_nil, List.sum_append, List.sum_cons, List.sum_nil, map_flatMap, Nat.add_zero, Nat.zero_add]; ac_rfl))), fun _ h => (List.not_mem_nil h).elim, fun g _ c h2 => (List.not_mem_nil h2).elim⟩ ?_
    clear s
    rintro q st h1 ⟨j, ds, vk', b2, o2, p2, R2, rfl, hj, rfl, hds, w2, s, hcnt, harg⟩ K HK
    have hdl : ds.length = j := by have := congrArg List.length hds; rw [List.length_map, List.length_take] at this; omega
    have hdl2 : (ds.map tri).length = j := by rw [List.length_map]; exact hdl
    show s_WithCounts.l2.b (ptr t2 0) (ptr t3 0) vk (.int .i64 cs.length) (.int .i64 (j : Nat)) h1 K Q
    unfold s_WithCounts.l2.b; refine r_cmpI ?_; refine r_if (fun hlt => ?_) (fun hge => ?_)
    · have hlt : j < cs.length := by have := of_decide_eq_true hlt; omega
      have hlt2 : j < x.2.length := by omega
      have hkj := hks j (by omega) hlt
      have hkj : ArgD h (toD x.2[j]) cs[j].1 cs[j].2.1 := by
        have e : (x.2.map toD)[j]'(by rw [List.length_map]; exact hlt2) = toD (x.2[j]) := List.getElem_map ..
        have h3 : ArgD h ((x.2.map toD)[j]'(by rw [List.length_map]; exact hlt2)) cs[j].1 cs[j].2.1 := hkj
        rwa [e] at h3
      have hkb2 : (toD x.2[j]).bulk ≤ 1073741824 := by
        have := (toD x).kid_le (q := toD x.2[j]) (by show toD x.2[j] ∈ x.2.map toD; exact List.mem_map.2 ⟨_, List.getElem_mem hlt2, rfl⟩)
        omega
      unfold s_WithCounts.j3; refine (hrk.st s).at (n := j) (f := encN) rfl (fun _ => rfl) rfl rfl hlt fun bb oo hbb => ?_; refine hbb.loadN rfl ?_; refine s.r_alloc fun t5 h1 s => ?_; refine St.r_storeN0 s 0 (ys := encN cs[j]) rfl rfl (by simp) (one3 hkj.one.1 hkj.one.2 rfl) ?_; intro h1 s
      have s : St _ [] ((t5, 0, encN cs[j]) :: (t1, 0, [vi, vk, vc]) :: (t2, 0, zN) :: (t3, 0, [vi', vk', .int .i64 x.items.length]) :: (b2, o2, (ds.map tri).flatMap encN ++ p2) :: (R ++ R2)) h1 := s
      refine r_fld (n := 1) ?_; refine St.r_load0 s 3 rfl rfl ?_; refine St.r_loadN0 s 0 rfl (by simp) ?_; refine ih x.2[j] (hkj.fr s.fr) hkb2 rfl fun t A h1 ht htc s7 hA hk1 hk2 => ?_
      have s := (s.join s7).perm List.perm_append_comm
      refine ⟨St.r_still0 s 3 rfl rfl, ?_⟩
      refine St.r_mkSl (sz := 3) (cs := encN (tri (t, (x.2[j].items.length : Nat)))) s (by ((simp only [fillV, fill1, Value.cells, zeros_succ, zeros_zero, size_toArray, length_cons, length_nil, length_append, take_succ_cons, take_zero, take_nil, drop_succ_cons, drop_zero, drop_nil, cons_append, nil_append, append_nil, Nat.reduceAdd, Nat.reduceMul, Nat.reduceLeDiff, Nat.reduceEqDiff, and_self, and_true, true_and, if_true, Nat.le_refl, Nat.zero_add, Nat.add_zero, Nat.zero_mul, reduceIte, if_false] <;> rfl))) rfl fun q1 h1 s wq => ?_; refine ⟨St.r_still0 s 4 rfl rfl, ?_⟩
      refine s.r_appL (f := encN) (L := ds.map tri) (M := [tri (t, ((x.2[j].items.length : Nat) : Int))]) 5 rfl w2 rfl (by have := wq.rdl s 0 rfl; simpa using this) (fun y hy => by rw [List.mem_singleton.1 hy]; exact one3 hk1 hk2 rfl) (by rw [List.length_singleton]; omega) (by rw [List.length_singleton]; omega) fun vk2 b2' o2' p2' h1 s w2' => ?_; refine r_fld (n := 1) ?_; refine St.r_store0 s 4 rfl (by simp) w2'.one ?_; intro h1 s
      unfold s_WithCounts.j4; refine r_add1 (by omega) ?_
      have em : (ds ++ [(t, ((x.2[j].items.length : Nat) : Int))]).map tri = ds.map tri ++ [tri (t, ((x.2[j].items.length : Nat) : Int))] := List.map_append ..
      refine HK (cs.length - (j + 1)) _ _ (by omega) ⟨j + 1, ds ++ [(t, ((x.2[j].items.length : Nat) : Int))], vk2, b2', o2', p2', R2 ++ A, rfl, hlt, rfl, ?_, by rw [em]; exact w2', ?_, fun c hcm => ?_, fun g hg c hcm => ?_⟩
      · rw [List.map_append, hds, List.take_succ_eq_append_getElem hlt2, List.map_cons, ht]; rfl
      · rw [em]
        exact (s.perm (E' := (q1, 0, encN (tri (t, (x.2[j].items.length : Nat)))) :: (t5, 0, encN cs[j]) :: (t1, 0, [vi, vk, vc]) :: (t2, 0, zN) :: (t3, 0, [vi', vk2, .int .i64 x.items.length]) :: (b2', o2', (ds.map tri ++ [tri (t, ((x.2[j].items.length : Nat) : Int))]).flatMap encN ++ p2') :: (R ++ (R2 ++ A))) (by simp only [List.set_cons_succ, List.set_cons_zero]; ((apply perm_rg; intro f; simp only [set_cons_zero, set_cons_succ, eraseIdx_cons_zero, eraseIdx_cons_succ, cons_append, nil_append, map_append, map_cons, map_nil, List.sum_append, List.sum_cons, List.sum_nil, map_flatMap, Nat.add_zero, Nat.zero_add]; ac_rfl)))).drop 2
      · rcases List.mem_append.1 hcm with e | e
        · exact hcnt c e
        · rw [List.mem_singleton.1 e]; exact ⟨by rw [ht], htc⟩
      · rcases List.mem_append.1 hcm with e | e
        · exact harg g (fun r hr => hg r (List.mem_append.2 (.inl hr))) c e
        · rw [List.mem_singleton.1 e]; exact hA g fun r hr => hg r (List.mem_append.2 (.inr hr))
    · have hge : j = cs.length := by have := of_decide_eq_false hge; omega
      have hall : (ds.map fun c => VT.pt c.1) = x.2 := by rw [hds, List.take_of_length_le (by omega)]
      unfold s_WithCounts.j1; refine St.r_loadN0 s 2 rfl (by simp) ?_; refine St.r_storeN0 s 1 (ys := [vi', vk', .int .i64 x.items.length]) rfl rfl (by simp) (one3 w.one w2.one rfl) ?_; intro h1 s
      refine St.r_loadN0 s 1 rfl (by simp) ?_; refine H (((x.1, vi', vk'), ds) : VT (k + 1)) _ h1 (congrArg (fun l => ((x.1, l) : List It × List (PT It k))) hall) hcnt s (fun g hg => ⟨w.rdlO (hg _ (List.mem_cons_of_mem _ (List.mem_cons_of_mem _ (List.mem_cons_of_mem _ (List.mem_cons_of_mem _ (List.mem_append.2 (.inl hm))))))), ?_, harg g fun r hr => hg r (List.mem_cons_of_mem _ (List.mem_cons_of_mem _ (List.mem_cons_of_mem _ (List.mem_cons_of_mem _ (List.mem_append.2 (.inr hr))))))⟩) w.one w2.one
      have := w2.rdlO (hg _ (List.mem_cons_of_mem _ (List.mem_cons_of_mem _ (List.mem_cons_of_mem _ (List.mem_cons_self ..)))))
      rw [List.length_map] at this; exact this
end Go.Proofs.Ytljecmjdmdjldaa.Gi
end
section
namespace Go.Proofs.Ytljecmjdmdjldaa.Gi
open Go.Hp Go.Proofs.Ytljecmjdmdjldaa
variable {h0 h : Heap} {Z E : List Rg} {Q : Value → Heap → Prop} {lt : It → It → Bool} {lf : Value}
theorem child_ok {ow : List Int} {ov vi vk vc : Value} {l : List It} {x : It} (ho : OwAt h ow ov) (hr : Rdl 2 h vi l.length (l.flatMap enc)) (h2 : one1 vk = true) (h3 : one1 vc = true) (hl : l.length ≤ 1073741824)
    (H : ∀ E' h', St h [] E' h' → Q (.tuple #[.int .i64 (pos (ltO ow) l x), .bool (lget (ltO ow) l x).isSome]) h') : s_child.call #[ov, .agg #[vi, vk, vc], av x] h Q := by
  refine s_child.body _ _ _ _ _ ?_; unfold s_child.sh
  have s := St.start h
  refine St.r_box (cs := [vi, vk, vc]) s fun t4 h1 s => ?_; refine St.r_box (cs := enc x) s fun t5 h1 s => ?_; refine r_fld (n := 0) ?_; refine St.r_load0 s 1 rfl rfl ?_; refine St.r_loadN0 s 0 rfl (by simp) ?_; refine s_Place_ok (x := x) (ho.st s) (hr.st s) (by omega) fun E2 h1 s2 => ?_; refine r_ext rfl ?_; refine r_ext rfl ?_; exact H _ _ (s.join s2)
theorem itsOne (l : List It) : ∀ x ∈ l, ∀ c ∈ enc x, one1 c = true := fun x _ => enc1 x
theorem grown_leaf {vi vk vc bv : Value} {L : List It} {i n : Nat} {y : It} {ys : List Value} (hr : Rdl 2 h vi L.length (L.flatMap enc)) (h2 : one1 vk = true) (h3 : one1 vc = true) (hb : Rdl 3 h bv n ys) (hn : n ≠ 2) (hi : i ≤ L.length) (hl : L.length ≤ 1073741823)
    (H : ∀ v' b o sp E' h', Own 2 v' (ins L i y).length b o ((ins L i y).flatMap enc) sp → St h [] ((b, o, (ins L i y).flatMap enc ++ sp) :: E') h' → Q (.agg #[v', .slice none 0 0, .int .i64 0]) h') : s_grown.call #[.agg #[vi, vk, vc], .int .i64 i, av y, bv] h Q := by
  refine s_grown.body _ _ _ _ _ _ ?_; unfold s_grown.sh
  have s := St.start h
  refine St.r_box (cs := [vi, vk, vc]) s fun t4 h1 s => ?_; refine St.r_box (cs := enc y) s fun t6 h1 s => ?_; refine s.r_alloc fun t8 h1 s => ?_; refine r_fld (n := 0) ?_; refine St.r_load0 s 2 rfl rfl ?_; refine St.r_loadN0 s 1 rfl (by simp) ?_; refine insertedI_ok (y := y) (hr.st s) (itsOne L) (enc1 y) hi (by omega) fun v' b o sp E2 h1 w s2 => ?_
  have s := (s.join s2).perm List.perm_append_comm
  refine r_build (cs := [v', .slice none 0 0, .int .i64 0]) (by obtain ⟨_, _, e0, _⟩ := w; subst e0; ((simp only [fillV, fill1, Value.cells, zeros_succ, zeros_zero, size_toArray, length_cons, length_nil, length_append, take_succ_cons, take_zero, take_nil, drop_succ_cons, drop_zero, drop_nil, cons_append, nil_append, append_nil, Nat.reduceAdd, Nat.reduceMul, Nat.reduceLeDiff, Nat.reduceEqDiff, and_self, and_true, true_and, if_true, Nat.le_refl, Nat.zero_add, Nat.add_zero, Nat.zero_mul, reduceIte, if_false] <;> rfl))) ?_; refine s.r_alloc fun t9 h1 s => ?_; refine St.r_storeN0 s 0 (ys := [v', .slice none 0 0, .int .i64 0]) rfl rfl (by simp) (one3 w.one rfl rfl) ?_; intro h1 s
  refine (hb.st s).lenV ?_; refine r_cmpI ?_; refine r_if (fun e => absurd (show (n : Int) = 2 by simpa using e) (by omega)) (fun _ => ?_)
  have s : St h [] ((t9, 0, [v', .slice none 0 0, .int .i64 0]) :: (t8, 0, zN) :: (t6, 0, enc y) :: (t4, 0, [vi, vk, vc]) :: (b, o, (ins L i y).flatMap enc ++ sp) :: E2) h1 := s
  unfold s_grown.j1; refine St.r_loadN0 s 0 rfl (by simp) ?_; refine St.r_storeN0 s 1 (ys := [v', .slice none 0 0, .int .i64 0]) rfl rfl (by simp) (one3 w.one rfl rfl) ?_; intro h1 s
  refine St.r_loadN0 s 1 rfl (by simp) ?_
  have s : St h [] ((t9, 0, [v', .slice none 0 0, .int .i64 0]) :: (t8, 0, [v', .slice none 0 0, .int .i64 0]) :: (t6, 0, enc y) :: (t4, 0, [vi, vk, vc]) :: (b, o, (ins L i y).flatMap enc ++ sp) :: E2) h1 := s
  exact H v' b o sp _ h1 w (s.drop 4)
theorem grown_inner {vi vk vc bv : Value} {L : List It} {cs : List (Value × Value × Int)} {cl cr : Value × Value × Int} {i : Nat} {y : It} (hr : Rdl 2 h vi L.length (L.flatMap enc)) (hk : Rdl 3 h vk cs.length (cs.flatMap encN)) (h3 : one1 vc = true) (hb : Rdl 3 h bv [cl, cr].length ([cl, cr].flatMap encN)) (hcs : ∀ c ∈ cs, OneN c) (hcl : OneN cl) (hcr : OneN cr) (hi : i ≤ L.length) (hik : i < cs.length) (hl : L.length ≤ 1073741823) (hkl : cs.length ≤ 1073741824)
    (H : ∀ v' b o sp v2 b2 o2 sp2 E' h', Own 2 v' (ins L i y).length b o ((ins L i y).flatMap enc) sp → Own 3 v2 (ins (cs.set i cr) i cl).length b2 o2 ((ins (cs.set i cr) i cl).flatMap encN) sp2 → St h [] ((b, o, (ins L i y).flatMap enc ++ sp) :: (b2, o2, (ins (cs.set i cr) i cl).flatMap encN ++ sp2) :: E') h' → Q (.agg #[v', v2, .int .i64 0]) h') : s_grown.call #[.agg #[vi, vk, vc], .int .i64 i, av y, bv] h Q := by
  refine s_grown.body _ _ _ _ _ _ ?_; unfold s_grown.sh
  have s := St.start h
  refine St.r_box (cs := [vi, vk, vc]) s fun t4 h1 s => ?_; refine St.r_box (cs := enc y) s fun t6 h1 s => ?_; refine s.r_alloc fun t8 h1 s => ?_; refine r_fld (n := 0) ?_; refine St.r_load0 s 2 rfl rfl ?_; refine St.r_loadN0 s 1 rfl (by simp) ?_; refine insertedI_ok (y := y) (hr.st s) (itsOne L) (enc1 y) hi (by omega) fun v' b o sp E2 h1 w s2 => ?_
  have s := (s.join s2).perm List.perm_append_comm
  refine r_build (cs := [v', .slice none 0 0, .int .i64 0]) (by obtain ⟨_, _, e0, _⟩ := w; subst e0; ((simp only [fillV, fill1, Value.cells, zeros_succ, zeros_zero, size_toArray, length_cons, length_nil, length_append, take_succ_cons, take_zero, take_nil, drop_succ_cons, drop_zero, drop_nil, cons_append, nil_append, append_nil, Nat.reduceAdd, Nat.reduceMul, Nat.reduceLeDiff, Nat.reduceEqDiff, and_self, and_true, true_and, if_true, Nat.le_refl, Nat.zero_add, Nat.add_zero, Nat.zero_mul, reduceIte, if_false] <;> rfl))) ?_; refine s.r_alloc fun t9 h1 s => ?_; refine St.r_storeN0 s 0 (ys := [v', .slice none 0 0, .int .i64 0]) rfl rfl (by simp) (one3 w.one rfl rfl) ?_; intro h1 s
  refine (hb.st s).lenV ?_; refine r_cmpI ?_; refine r_if (fun _ => ?_) (fun e => absurd e (by simp))
  have s : St h [] ((t9, 0, [v', .slice none 0 0, .int .i64 0]) :: (t8, 0, zN) :: (t6, 0, enc y) :: (t4, 0, [vi, vk, vc]) :: (b, o, (ins L i y).flatMap enc ++ sp) :: E2) h1 := s
  refine r_fld (n := 1) ?_; refine St.r_load0 s 3 rfl rfl ?_; refine hb.at (n := 1) (f := encN) rfl (fun _ => rfl) rfl rfl (by simp) fun b1 o1 hb1 => ?_; refine (hb1.st s).loadN rfl ?_; refine hb.at (n := 0) (f := encN) rfl (fun _ => rfl) rfl rfl (by simp) fun b0 o0 hb0 => ?_; refine (hb0.st s).loadN rfl ?_; refine changedN_ok (y := cr) (hk.st s) (fun c hc => (hcs c hc).all) hcr.all hik (by omega) fun v2 b2 o2 sp2 E3 h2 w2 s3 => ?_
  have s := (s.join s3).perm List.perm_append_comm
  refine ⟨(hb0.st s).stillN rfl, ?_⟩
  have hset : ∀ c ∈ cs.set i cr, OneN c := fun c hc => by
    rcases List.mem_or_eq_of_mem_set hc with e | e
    · exact hcs c e
    · rw [e]; exact hcr
  have s : St h [] ((b2, o2, (cs.set i cr).flatMap encN ++ sp2) :: (t9, 0, [v', .slice none 0 0, .int .i64 0]) :: (t8, 0, zN) :: (t6, 0, enc y) :: (t4, 0, [vi, vk, vc]) :: (b, o, (ins L i y).flatMap enc ++ sp) :: (E2 ++ E3)) h2 := s.perm (by ((apply perm_rg; intro f; simp only [set_cons_zero, set_cons_succ, eraseIdx_cons_zero, eraseIdx_cons_succ, cons_append, nil_append, map_append, map_cons, map_nil, List.sum_append, List.sum_cons, List.sum_nil, map_flatMap, Nat.add_zero, Nat.zero_add]; ac_rfl)))
  refine insertedN_ok (y := cl) (w2.rdl s 0 rfl) (fun c hc => (hset c hc).all) hcl.all (by rw [List.length_set]; omega) (by rw [List.length_set]; omega) fun v3 b3 o3 sp3 E4 h3 w3 s4 => ?_
  have s := (s.join s4).perm List.perm_append_comm
  refine r_fld (n := 1) ?_; refine St.r_store0 s 1 rfl (by simp) w3.one ?_; intro h3 s
  have s : St h [] ((b2, o2, (cs.set i cr).flatMap encN ++ sp2) :: (t9, 0, [v', v3, .int .i64 0]) :: (t8, 0, zN) :: (t6, 0, enc y) :: (t4, 0, [vi, vk, vc]) :: (b, o, (ins L i y).flatMap enc ++ sp) :: ((E2 ++ E3) ++ ((b3, o3, (ins (cs.set i cr) i cl).flatMap encN ++ sp3) :: E4))) h3 := s
  unfold s_grown.j1; refine St.r_loadN0 s 1 rfl (by simp) ?_; refine St.r_storeN0 s 2 (ys := [v', v3, .int .i64 0]) rfl rfl (by simp) (one3 w.one w3.one rfl) ?_; intro h3 s
  refine St.r_loadN0 s 2 rfl (by simp) ?_
  have s : St h [] ((b2, o2, (cs.set i cr).flatMap encN ++ sp2) :: (t9, 0, [v', v3, .int .i64 0]) :: (t8, 0, [v', v3, .int .i64 0]) :: (t6, 0, enc y) :: (t4, 0, [vi, vk, vc]) :: (b, o, (ins L i y).flatMap enc ++ sp) :: ((E2 ++ E3) ++ ((b3, o3, (ins (cs.set i cr) i cl).flatMap encN ++ sp3) :: E4))) h3 := s
  exact H v' b o sp v3 b3 o3 sp3 (E2 ++ E3 ++ E4) h3 w w3 ((s.perm (E' := (b2, o2, (cs.set i cr).flatMap encN ++ sp2) :: (t9, 0, [v', v3, .int .i64 0]) :: (t8, 0, [v', v3, .int .i64 0]) :: (t6, 0, enc y) :: (t4, 0, [vi, vk, vc]) :: (b, o, (ins L i y).flatMap enc ++ sp) :: (b3, o3, (ins (cs.set i cr) i cl).flatMap encN ++ sp3) :: (E2 ++ E3 ++ E4)) (by ((apply perm_rg; intro f; simp only [set_cons_zero, set_cons_succ, eraseIdx_cons_zero, eraseIdx_cons_succ, cons_append, nil_append, map_append, map_cons, map_nil, List.sum_append, List.sum_cons, List.sum_nil, map_flatMap, Nat.add_zero, Nat.zero_add]; ac_rfl)))).drop 5)
end Go.Proofs.Ytljecmjdmdjldaa.Gi
end
section
namespace Go.Proofs.Ytljecmjdmdjldaa.Gi
open Go.Hp Go.Proofs.Ytljecmjdmdjldaa
variable {h0 h : Heap} {Z E : List Rg} {Q : Value → Heap → Prop} {lt : It → It → Bool} {lf : Value}
theorem div_tail {k w : Nat} {xl xr : PT It k} {l : List It} {md : It} {vi vk vc v1 k1 v2 k2 : Value} {t3 t4 t5 t6 t7 t8 : Nat} {R : List Rg} {h1 : Heap} (hr : Rdl 2 h vi l.length (l.flatMap enc)) (hw : 1 ≤ w) (hw2 : w ≤ 1073741824) (hmd : l[w - 1]? = some md)
    (hl : ArgD h (toD xl) v1 k1) (hrr : ArgD h (toD xr) v2 k2) (hbl : (toD xl).bulk ≤ 1073741824) (hbr : (toD xr).bulk ≤ 1073741824)
    (s : St h [] ((t7, 0, [v1, k1, .int .i64 0]) :: (t8, 0, [v2, k2, .int .i64 0]) :: (t3, 0, [vi, vk, vc]) :: (t4, 0, zN) :: (t5, 0, enc emp) :: (t6, 0, zN) :: R) h1)
    (H : ∀ (tl tr : VT k) A E' h', tl.pt = xl → tr.pt = xr → St h [] (A ++ E') h' → (∀ g, (∀ r ∈ A, r.Ok g) → ArgV g tl ∧ ArgV g tr) → Q (.tuple #[.agg #[tl.vi, tl.vk, .int .i64 xl.items.length], av md, .agg #[tr.vi, tr.vk, .int .i64 xr.items.length]]) h') :
    s_Divide.j1 (.int .i64 (w : Nat)) (ptr t3 0) (ptr t4 0) (ptr t5 0) (ptr t6 0) (ptr t7 0) (ptr t8 0) h1 Q := by
  obtain ⟨hwl, _⟩ := List.getElem?_eq_some_iff.1 hmd; unfold s_Divide.j1; refine St.r_loadN0 s 0 rfl (by simp) ?_; refine r_fld (n := 0) ?_; refine St.r_load0 s 2 rfl rfl ?_; refine r_sub (z := ((w - 1 : Nat) : Int)) (by rw [i64w (by omega) (by omega)]; omega) ?_; refine hr.at (n := w - 1) (f := enc) rfl (fun _ => rfl) rfl rfl hwl fun bm om hbm => ?_
  have hme : l[w - 1] = md := (List.getElem?_eq_some_iff.1 hmd).2
  rw [hme] at hbm; refine (hbm.st s).loadN rfl ?_; refine St.r_loadN0 s 1 rfl (by simp) ?_; refine WithCountsV_ok xl (hl.fr s.fr) hbl rfl fun tl A1 h2 el _ s2 hA1 o1 o2 => ?_
  have s := (s.join s2).perm List.perm_append_comm
  refine ⟨St.r_still0 s 2 rfl rfl, (hbm.st s).stillN rfl, St.r_stillN0 s 1 (j := 0) rfl (by simp) rfl, ?_⟩
  refine WithCountsV_ok xr (hrr.fr s.fr) hbr rfl fun tr A2 h3 er _ s3 hA2 o3 o4 => ?_
  have s := (s.join s3).perm List.perm_append_comm
  have s : St h [] ((t7, 0, [v1, k1, .int .i64 0]) :: (t8, 0, [v2, k2, .int .i64 0]) :: (t3, 0, [vi, vk, vc]) :: (t4, 0, zN) :: (t5, 0, enc emp) :: (t6, 0, zN) :: (R ++ A1 ++ A2)) h3 := s
  refine ⟨St.r_still0 s 2 rfl rfl, (hbm.st s).stillN rfl, ?_⟩
  refine St.r_storeN0 s 3 (ys := [tl.vi, tl.vk, .int .i64 xl.items.length]) rfl rfl (by simp) (one3 o1 o2 rfl) ?_; intro h3 s
  refine ⟨St.r_still0 s 2 rfl rfl, (hbm.st s).stillN rfl, ?_⟩
  refine St.r_storeN0 s 4 (ys := enc md) rfl rfl (by simp) (enc1 md) ?_; intro h3 s
  refine St.r_storeN0 s 5 (ys := [tr.vi, tr.vk, .int .i64 xr.items.length]) rfl rfl (by simp) (one3 o3 o4 rfl) ?_; intro h3 s
  have s : St h [] ((t7, 0, [v1, k1, .int .i64 0]) :: (t8, 0, [v2, k2, .int .i64 0]) :: (t3, 0, [vi, vk, vc]) :: (t4, 0, [tl.vi, tl.vk, .int .i64 xl.items.length]) :: (t5, 0, enc md) :: (t6, 0, [tr.vi, tr.vk, .int .i64 xr.items.length]) :: (R ++ A1 ++ A2)) h3 := s
  refine St.r_loadN0 s 3 rfl (by simp) ?_; refine St.r_loadN0 s 4 rfl (by simp) ?_; refine St.r_loadN0 s 5 rfl (by simp) ?_; refine H tl tr (A1 ++ A2) _ h3 el er (s.perm (E' := (A1 ++ A2) ++ ((t7, 0, [v1, k1, .int .i64 0]) :: (t8, 0, [v2, k2, .int .i64 0]) :: (t3, 0, [vi, vk, vc]) :: (t4, 0, [tl.vi, tl.vk, .int .i64 xl.items.length]) :: (t5, 0, enc md) :: (t6, 0, [tr.vi, tr.vk, .int .i64 xr.items.length]) :: R)) (by ((apply perm_rg; intro f; simp only [set_cons_zero, set_cons_succ, eraseIdx_cons_zero, eraseIdx_cons_succ, cons_append, nil_append, map_append, map_cons, map_nil, List.sum_append, List.sum_cons, List.sum_nil, map_flatMap, Nat.add_zero, Nat.zero_add]; ac_rfl)))) (fun g hg => ⟨hA1 g fun r hr => hg r (List.mem_append_left _ hr), hA2 g fun r hr => hg r (List.mem_append_right _ hr)⟩)
theorem half_bulk {k n : Nat} (x : PT It k) : (toD (x.lo n)).bulk ≤ (toD x).bulk ∧ (toD (x.hi n)).bulk ≤ (toD x).bulk := by
  cases k with
  | zero =>
    have key : ∀ l : List It, 1 + (l.take n).length + 0 ≤ 1 + l.length + 0 ∧ 1 + (l.drop (n + 1)).length + 0 ≤ 1 + l.length + 0 := fun l => by
      rw [List.length_take, List.length_drop]; omega
    exact key x
  | succ k =>
    have h1 : ∀ (l : List (PT It k)) (m : Nat), (((l.take m).map toD).map DT.bulk).sum ≤ ((l.map toD).map DT.bulk).sum ∧ (((l.drop m).map toD).map DT.bulk).sum ≤ ((l.map toD).map DT.bulk).sum := fun l m => by
      have e : ((l.map toD).map DT.bulk).sum = (((l.take m).map toD).map DT.bulk).sum + (((l.drop m).map toD).map DT.bulk).sum := by
        conv => lhs; rw [← List.take_append_drop m l]
        rw [List.map_append, List.map_append, List.sum_append]
      omega
    have := h1 x.2 (n + 1)
    show 1 + (x.1.take n).length + (((x.2.take (n + 1)).map toD).map DT.bulk).sum ≤ 1 + x.1.length + ((x.2.map toD).map DT.bulk).sum ∧ 1 + (x.1.drop (n + 1)).length + (((x.2.drop (n + 1)).map toD).map DT.bulk).sum ≤ 1 + x.1.length + ((x.2.map toD).map DT.bulk).sum
    rw [List.length_take, List.length_drop]; omega
theorem Divide_ok {k w : Nat} {x : PT It k} {md : It} {vi vk vc : Value} (ha : ArgD h (toD x) vi vk) (hb : (toD x).bulk ≤ 1073741824) (hvc : one1 vc = true) (hw : 1 ≤ w) (hw2 : w ≤ 1073741824) (hmd : x.its[w - 1]? = some md) (hkl : ∀ (e : Nat) (y : PT It (e + 1)), HEq x y → k = e + 1 → w ≤ y.2.length)
    (H : ∀ (tl tr : VT k) A E' h', tl.pt = x.lo (w - 1) → tr.pt = x.hi (w - 1) → St h [] (A ++ E') h' → (∀ g, (∀ r ∈ A, r.Ok g) → ArgV g tl ∧ ArgV g tr) → Q (.tuple #[.agg #[tl.vi, tl.vk, .int .i64 (x.lo (w - 1)).items.length], av md, .agg #[tr.vi, tr.vk, .int .i64 (x.hi (w - 1)).items.length]]) h') :
    s_Divide.call #[.int .i64 (w : Nat), .agg #[vi, vk, vc]] h Q := by
  have hr : Rdl 2 h vi x.its.length (x.its.flatMap enc) := by
    have := ha.1
    rw [toD_its] at this; exact this
  obtain ⟨hwl, _⟩ := List.getElem?_eq_some_iff.1 hmd; obtain ⟨hbl, hbr⟩ := half_bulk (n := w - 1) x; refine s_Divide.body _ _ _ _ ?_; unfold s_Divide.sh
  have s := St.start h
  refine St.r_box (cs := [vi, vk, vc]) s fun t3 h1 s => ?_; refine s.r_alloc fun t4 h1 s => ?_; refine s.r_alloc fun t5 h1 s => ?_; refine s.r_alloc fun t6 h1 s => ?_; refine r_fld (n := 0) ?_; refine St.r_load0 s 3 rfl rfl ?_; refine r_sub (z := ((w - 1 : Nat) : Int)) (by rw [i64w (by omega) (by omega)]; omega) ?_; refine slcG0 encl hr rfl (by omega) fun v1 r1 => ?_; refine r_build (cs := [v1, .slice none 0 0, .int .i64 0]) (by obtain ⟨_, _, e0, _⟩ := r1; subst e0; ((simp only [fillV, fill1, Value.cells, zeros_succ, zeros_zero, size_toArray, length_cons, length_nil, length_append, take_succ_cons, take_zero, take_nil, drop_succ_cons, drop_zero, drop_nil, cons_append, nil_append, append_nil, Nat.reduceAdd, Nat.reduceMul, Nat.reduceLeDiff, Nat.reduceEqDiff, and_self, and_true, true_and, if_true, Nat.le_refl, Nat.zero_add, Nat.add_zero, Nat.zero_mul, reduceIte, if_false] <;> rfl))) ?_; refine r_fld (n := 0) ?_; refine St.r_load0 s 3 rfl rfl ?_; refine slcG1 encl hr rfl (i := w) (by omega) fun v2 r2 => ?_; refine r_build (cs := [v2, .slice none 0 0, .int .i64 0]) (by obtain ⟨_, _, e0, _⟩ := r2; subst e0; ((simp only [fillV, fill1, Value.cells, zeros_succ, zeros_zero, size_toArray, length_cons, length_nil, length_append, take_succ_cons, take_zero, take_nil, drop_succ_cons, drop_zero, drop_nil, cons_append, nil_append, append_nil, Nat.reduceAdd, Nat.reduceMul, Nat.reduceLeDiff, Nat.reduceEqDiff, and_self, and_true, true_and, if_true, Nat.le_refl, Nat.zero_add, Nat.add_zero, Nat.zero_mul, reduceIte, if_false] <;> rfl))) ?_
  have rest : ∀ {h1 : Heap} {t7 t8 : Nat}, St h [] ((t7, 0, [v1, .slice none 0 0, .int .i64 0]) :: (t8, 0, [v2, .slice none 0 0, .int .i64 0]) :: (t3, 0, [vi, vk, vc]) :: (t4, 0, zN) :: (t5, 0, enc emp) :: (t6, 0, zN) :: []) h1 →
      fld 1 (ptr t3 0) fun t20 => load1 t20 h1 fun t21 => lenV t21 fun t22 => cmpI (fun a b => decide (a > b)) t22 (.int .i64 0) fun t23 => ifV t23
        (fld 1 (ptr t3 0) fun t24 => load1 t24 h1 fun t25 => slc 3 t25 none (some (.int .i64 (w : Nat))) none fun t27 => fld 1 (ptr t3 0) fun t28 => load1 t28 h1 fun t29 => slc 3 t29 (some (.int .i64 (w : Nat))) none none fun t31 =>
          fld 1 (ptr t7 0) fun t32 => store1 t32 t27 h1 fun h => still1 t28 t29 h ∧ fld 1 (ptr t8 0) fun t33 => store1 t33 t31 h fun h => s_Divide.j1 (.int .i64 (w : Nat)) (ptr t3 0) (ptr t4 0) (ptr t5 0) (ptr t6 0) (ptr t7 0) (ptr t8 0) h Q)
        (s_Divide.j1 (.int .i64 (w : Nat)) (ptr t3 0) (ptr t4 0) (ptr t5 0) (ptr t6 0) (ptr t7 0) (ptr t8 0) h1 Q) := fun {h1 t7 t8} s => by
    have e1 : w - 1 + 1 = w := by omega
    refine r_fld (n := 1) ?_; refine St.r_load0 s 2 rfl rfl ?_
    cases k with
    | zero =>
      obtain ⟨_, cs, hcl, hrk, _⟩ := id ha
      have hc0 : cs.length = 0 := hcl
      refine (hrk.st s).lenV ?_; refine r_cmpI ?_; refine r_if (fun e => absurd (of_decide_eq_true e) (by omega)) (fun _ => ?_)
      refine div_tail (xl := x.lo (w - 1)) (xr := x.hi (w - 1)) hr hw hw2 hmd ⟨r1, [], rfl, Rdl.nil 3 h, fun j j1 => absurd j1 (Nat.not_lt_zero _)⟩ ?_ (by omega) (by omega) s H
      have r2' : Rdl 2 h v2 (List.drop (w - 1 + 1) x).length ((List.drop (w - 1 + 1) x).flatMap enc) := by rw [e1]; exact r2
      exact ⟨r2', [], rfl, Rdl.nil 3 h, fun j j1 => absurd j1 (Nat.not_lt_zero _)⟩
    | succ k =>
      have hwk : w ≤ x.2.length := hkl k x HEq.rfl rfl
      obtain ⟨_, cs, hcl, hrk, hks⟩ := id ha
      have hx2 : (toD x).2.length = x.2.length := List.length_map ..
      have hcl : cs.length = x.2.length := by rw [← hx2]; exact hcl
      have hks : ∀ j (h1 : j < x.2.length) (h2 : j < cs.length), ArgD h (toD x.2[j]) cs[j].1 cs[j].2.1 := fun j h1 h2 => by
        have e : (x.2.map toD)[j]'(by rw [List.length_map]; exact h1) = toD (x.2[j]) := List.getElem_map ..
        have h3 : ArgD h ((x.2.map toD)[j]'(by rw [List.length_map]; exact h1)) cs[j].1 cs[j].2.1 := hks j (by rw [hx2]; exact h1) h2
        rwa [e] at h3
      refine (hrk.st s).lenV ?_; refine r_cmpI ?_; refine r_if (fun _ => ?_) (fun e => absurd (of_decide_eq_false e) (by omega))
      refine r_fld (n := 1) ?_; refine St.r_load0 s 2 rfl rfl ?_; refine slcG0 encNl hrk rfl (j := w) (by omega) fun k1 q1 => ?_; refine r_fld (n := 1) ?_; refine St.r_load0 s 2 rfl rfl ?_; refine slcG1 encNl hrk rfl (i := w) (by omega) fun k2 q2 => ?_; refine r_fld (n := 1) ?_; refine St.r_store0 s 0 rfl (by simp) q1.one ?_; intro h1 s
      refine ⟨St.r_still0 s 2 rfl rfl, ?_⟩
      refine r_fld (n := 1) ?_; refine St.r_store0 s 1 rfl (by simp) q2.one ?_; intro h1 s
      refine div_tail (xl := x.lo (w - 1)) (xr := x.hi (w - 1)) hr hw hw2 hmd ⟨r1, cs.take w, ?_, q1, fun j j1 j2 => ?_⟩ ⟨?_, cs.drop w, ?_, q2, fun j j1 j2 => ?_⟩ (by omega) (by omega) s H
      · show (cs.take w).length = ((x.2.take (w - 1 + 1)).map toD).length
        rw [List.length_take, List.length_map, List.length_take, e1, hcl]
      · have j2' : j < w ∧ j < cs.length := by rw [List.length_take] at j2; omega
        have hj : j < (x.2.take (w - 1 + 1)).length := by rw [List.length_take]; omega
        have e : ((x.2.take (w - 1 + 1)).map toD)[j]'(by rw [List.length_map]; exact hj) = toD ((x.2.take (w - 1 + 1))[j]'hj) := List.getElem_map ..
        have e2 : (x.2.take (w - 1 + 1))[j]'hj = x.2[j]'(by omega) := List.getElem_take ..
        have e3 : (cs.take w)[j]'j2 = cs[j]'(by omega) := List.getElem_take ..
        show ArgD h (((x.2.take (w - 1 + 1)).map toD)[j]'(by rw [List.length_map]; exact hj)) _ _
        rw [e, e2, e3]; exact hks j (by omega) (by omega)
      · have r2' : Rdl 2 h v2 (x.1.drop (w - 1 + 1)).length ((x.1.drop (w - 1 + 1)).flatMap enc) := by rw [e1]; exact r2
        exact r2'
      · show (cs.drop w).length = ((x.2.drop (w - 1 + 1)).map toD).length
        rw [List.length_drop, List.length_map, List.length_drop, e1, hcl]
      · have j2' : w + j < cs.length := by rw [List.length_drop] at j2; omega
        have hj : j < (x.2.drop (w - 1 + 1)).length := by rw [List.length_drop]; omega
        have e : ((x.2.drop (w - 1 + 1)).map toD)[j]'(by rw [List.length_map]; exact hj) = toD ((x.2.drop (w - 1 + 1))[j]'hj) := List.getElem_map ..
        have e2 : (x.2.drop (w - 1 + 1))[j]'hj = x.2[w + j]'(by omega) := by
          have h1 : (x.2.drop (w - 1 + 1))[j]'hj = x.2[w - 1 + 1 + j]'(by omega) := List.getElem_drop ..
          rw [h1]; congr 1; omega
        have e3 : (cs.drop w)[j]'j2 = cs[w + j]'j2' := List.getElem_drop ..
        show ArgD h (((x.2.drop (w - 1 + 1)).map toD)[j]'(by rw [List.length_map]; exact hj)) _ _
        rw [e, e2, e3]; exact hks (w + j) (by omega) j2'
  refine ⟨?_, ?_⟩
  · refine s.r_alloc fun t7 h1 s => ?_
    refine ⟨St.r_still0 s 4 rfl rfl, St.r_still0 s 4 rfl rfl, ?_⟩
    refine s.r_alloc fun t8 h1 s => ?_; refine ⟨St.r_still0 s 5 rfl rfl, St.r_still0 s 5 rfl rfl, ?_⟩
    refine St.r_storeN0 s 1 (ys := [v1, .slice none 0 0, .int .i64 0]) rfl rfl (by simp) (one3 r1.one rfl rfl) ?_; intro h1 s
    refine ⟨St.r_still0 s 5 rfl rfl, ?_⟩
    refine St.r_storeN0 s 0 (ys := [v2, .slice none 0 0, .int .i64 0]) rfl rfl (by simp) (one3 r2.one rfl rfl) ?_; intro h1 s
    have s : St h [] ((t8, 0, [v2, .slice none 0 0, .int .i64 0]) :: (t7, 0, [v1, .slice none 0 0, .int .i64 0]) :: (t6, 0, zN) :: (t5, 0, enc emp) :: (t4, 0, zN) :: (t3, 0, [vi, vk, vc]) :: []) h1 := s
    exact rest (s.perm (by ((apply perm_rg; intro f; simp only [set_cons_zero, set_cons_succ, eraseIdx_cons_zero, eraseIdx_cons_succ, cons_append, nil_append, map_append, map_cons, map_nil, List.sum_append, List.sum_cons, List.sum_nil, map_flatMap, Nat.add_zero, Nat.zero_add]; ac_rfl))))
  · refine s.r_alloc fun t8 h1 s => ?_
    refine ⟨St.r_still0 s 4 rfl rfl, St.r_still0 s 4 rfl rfl, ?_⟩
    refine s.r_alloc fun t7 h1 s => ?_; refine ⟨St.r_still0 s 5 rfl rfl, St.r_still0 s 5 rfl rfl, ?_⟩
    refine St.r_storeN0 s 0 (ys := [v1, .slice none 0 0, .int .i64 0]) rfl rfl (by simp) (one3 r1.one rfl rfl) ?_; intro h1 s
    refine ⟨St.r_still0 s 5 rfl rfl, ?_⟩
    refine St.r_storeN0 s 1 (ys := [v2, .slice none 0 0, .int .i64 0]) rfl rfl (by simp) (one3 r2.one rfl rfl) ?_; intro h1 s
    have s : St h [] ((t7, 0, [v1, .slice none 0 0, .int .i64 0]) :: (t8, 0, [v2, .slice none 0 0, .int .i64 0]) :: (t6, 0, zN) :: (t5, 0, enc emp) :: (t4, 0, zN) :: (t3, 0, [vi, vk, vc]) :: []) h1 := s
    exact rest (s.perm (by ((apply perm_rg; intro f; simp only [set_cons_zero, set_cons_succ, eraseIdx_cons_zero, eraseIdx_cons_succ, cons_append, nil_append, map_append, map_cons, map_nil, List.sum_append, List.sum_cons, List.sum_nil, map_flatMap, Nat.add_zero, Nat.zero_add]; ac_rfl))))
end Go.Proofs.Ytljecmjdmdjldaa.Gi
end
section
namespace Go.Proofs.Ytljecmjdmdjldaa.Gi
open Go.Hp Go.Proofs.Ytljecmjdmdjldaa
variable {h0 h : Heap} {Z E : List Rg} {Q : Value → Heap → Prop} {lt : It → It → Bool} {lf : Value}
abbrev RO {k : Nat} (o : Option (It × VT k)) (cr : Int) : List Value := match o with
  | none => zN
  | some p => [p.2.vi, p.2.vk, .int .i64 cr]
abbrev PutRes {k : Nat} (tl : VT k) (cl : Int) (o : Option (It × VT k)) (cr : Int) : Value := .tuple #[.agg #[tl.vi, tl.vk, .int .i64 cl], av ((o.map Prod.fst).getD emp), .agg (RO o cr).toArray, .bool o.isSome]
def Grows {k : Nat} (gp : PT It k → Nat → PT It k) (y : It) (bv : Value) (Bd : Heap → Prop) : Prop := ∀ (u : VT k) {g : Heap} {vc : Value} {i : Nat} {K : Value → Heap → Prop}, ArgV g u → Bd g → one1 vc = true → i ≤ u.hd.1.length → u.pt.Sh 1073741823 →
  (∀ (u' : VT k) A E' h', u'.pt = gp u.pt i → St g [] (A ++ E') h' → (∀ g', ArgV g' u → Bd g' → (∀ r ∈ A, r.Ok g') → ArgV g' u') → one1 u'.vi = true → one1 u'.vk = true → K (.agg #[u'.vi, u'.vk, .int .i64 0]) h') → s_grown.call #[.agg #[u.vi, u.vk, vc], .int .i64 i, av y, bv] g K
theorem put_tail {k w : Nat} {t : VT k} {gp : PT It k → Nat → PT It k} {y : It} {bv vc s12 : Value} {Bd : Heap → Prop} (G : Grows gp y bv Bd) {i t6 t8 t9 t10 t14 : Nat} {A0 R : List Rg} {h1 : Heap} (ha : ArgV h t) (hB : ∀ g, ArgV g t → (∀ r ∈ A0, r.Ok g) → Bd g) (hvc : one1 vc = true) (hw : 2 ≤ w) (hw2 : w ≤ 512) (hi : i ≤ t.hd.1.length) (hl : t.hd.1.length ≤ 2 * w - 1) (hsh : t.pt.Sh 1073741823) (hsl : ∀ n, n < t.hd.1.length → (t.pt.lo n).Sh 1073741823 ∧ (t.pt.hi n).Sh 1073741823) (hb : (toD t.pt).bulk ≤ 1073741824)
    (s : St h [] ((t6, 0, [t.vi, t.vk, vc]) :: (t8, 0, zN) :: (t9, 0, enc emp) :: (t10, 0, zN) :: (t14, 0, enc y) :: (A0 ++ R)) h1)
    (H : ∀ (tl : VT k) (cl : Int) (o : Option (It × VT k)) (cr : Int) A E' h', (if t.hd.1.length < 2 * w - 1 then tl.pt = gp t.pt i ∧ o = none else ∃ md tr, t.hd.1[w - 1]? = some md ∧ o = some (md, tr) ∧ (if i < w then tl.pt = gp (t.pt.lo (w - 1)) i ∧ tr.pt = t.pt.hi (w - 1) else tl.pt = t.pt.lo (w - 1) ∧ tr.pt = gp (t.pt.hi (w - 1)) (i - w))) →
      St h [] (A ++ E') h' → (∀ g, ArgV g t → (∀ r ∈ A, r.Ok g) → ArgV g tl ∧ ∀ p, o = some p → ArgV g p.2) → Q (PutRes tl cl o cr) h') :
    s_put.j2 (.int .i64 (w : Nat)) (ptr t6 0) (ptr t8 0) (ptr t9 0) (ptr t10 0) (.int .i64 (i : Nat)) (ptr t14 0) bv h1 Q := by
  have hrd : ∀ g, ArgV g t → Rdl 2 g t.vi t.hd.1.length (t.hd.1.flatMap enc) := fun g a => by cases k <;> exact a.1
  have hat : ∀ {g : Heap} {R' : List Rg}, St h [] (A0 ++ R') g → Bd g := fun s => hB _ (ha.fr s.fr) fun r hr => s.ok (List.mem_append_left _ (List.mem_append_left _ hr))
  unfold s_put.j2; refine r_fld (n := 0) ?_; refine St.r_load0 s 0 rfl rfl ?_; refine ((hrd _ ha).st s).lenV ?_; refine ⟨_, _, _, rfl, rfl, ?_⟩
  rw [i64w (n := 2 * (w : Int)) (by omega) (by omega)]; refine r_sub (z := ((2 * w - 1 : Nat) : Int)) (by rw [i64w (by omega) (by omega)]; omega) ?_; refine r_cmpI ?_
  have s0 : St h [] (A0 ++ ((t6, 0, [t.vi, t.vk, vc]) :: (t8, 0, zN) :: (t9, 0, enc emp) :: (t10, 0, zN) :: (t14, 0, enc y) :: R)) h1 := s.perm (by ((apply perm_rg; intro f; simp only [set_cons_zero, set_cons_succ, eraseIdx_cons_zero, eraseIdx_cons_succ, cons_append, nil_append, map_append, map_cons, map_nil, List.sum_append, List.sum_cons, List.sum_nil, map_flatMap, Nat.add_zero, Nat.zero_add]; ac_rfl)))
  refine r_if (fun e => ?_) (fun e => ?_)
  · have e : t.hd.1.length < 2 * w - 1 := by have := of_decide_eq_true e; omega
    refine St.r_loadN0 s 0 rfl (by simp) ?_; refine St.r_loadN0 s 4 rfl (by simp) ?_; refine G t (ha.fr s.fr) (hat s0) hvc hi hsh fun u' A E2 h2 hu s2 hA o1 o2 => ?_
    have s := (s.join s2).perm List.perm_append_comm
    ((apply r_build; ((simp only [fillV, fill1, Value.cells, zeros_succ, zeros_zero, size_toArray, length_cons, length_nil, length_append, take_succ_cons, take_zero, take_nil, drop_succ_cons, drop_zero, drop_nil, cons_append, nil_append, append_nil, Nat.reduceAdd, Nat.reduceMul, Nat.reduceLeDiff, Nat.reduceEqDiff, and_self, and_true, true_and, if_true, Nat.le_refl, Nat.zero_add, Nat.add_zero, Nat.zero_mul, reduceIte, if_false] <;> rfl))))
    ((apply r_build; ((simp only [fillV, fill1, Value.cells, zeros_succ, zeros_zero, size_toArray, length_cons, length_nil, length_append, take_succ_cons, take_zero, take_nil, drop_succ_cons, drop_zero, drop_nil, cons_append, nil_append, append_nil, Nat.reduceAdd, Nat.reduceMul, Nat.reduceLeDiff, Nat.reduceEqDiff, and_self, and_true, true_and, if_true, Nat.le_refl, Nat.zero_add, Nat.add_zero, Nat.zero_mul, reduceIte, if_false] <;> rfl))))
    have s : St h [] ((t6, 0, [t.vi, t.vk, vc]) :: (t8, 0, zN) :: (t9, 0, enc emp) :: (t10, 0, zN) :: (t14, 0, enc y) :: ((A0 ++ R) ++ (A ++ E2))) h2 := s
    refine St.r_storeN0 s 1 (ys := [u'.vi, u'.vk, .int .i64 0]) rfl rfl (by simp) (one3 o1 o2 rfl) ?_; intro h2 s
    refine St.r_storeN0 s 2 (ys := enc emp) rfl rfl (by simp) (enc1 emp) ?_; intro h2 s
    refine St.r_storeN0 s 3 (ys := zN) rfl rfl (by simp) (one3 rfl rfl rfl) ?_; intro h2 s
    have s : St h [] ((t6, 0, [t.vi, t.vk, vc]) :: (t8, 0, [u'.vi, u'.vk, .int .i64 0]) :: (t9, 0, enc emp) :: (t10, 0, zN) :: (t14, 0, enc y) :: ((A0 ++ R) ++ (A ++ E2))) h2 := s
    refine St.r_loadN0 s 1 rfl (by simp) ?_; refine St.r_loadN0 s 2 rfl (by simp) ?_; refine St.r_loadN0 s 3 rfl (by simp) ?_; refine H u' 0 none 0 (A0 ++ A) ((t6, 0, [t.vi, t.vk, vc]) :: (t8, 0, [u'.vi, u'.vk, .int .i64 0]) :: (t9, 0, enc emp) :: (t10, 0, zN) :: (t14, 0, enc y) :: (R ++ E2)) h2 (by rw [if_pos e]; exact ⟨hu, rfl⟩) (s.perm (by ((apply perm_rg; intro f; simp only [set_cons_zero, set_cons_succ, eraseIdx_cons_zero, eraseIdx_cons_succ, cons_append, nil_append, map_append, map_cons, map_nil, List.sum_append, List.sum_cons, List.sum_nil, map_flatMap, Nat.add_zero, Nat.zero_add]; ac_rfl)))) fun g a hg => ⟨hA g a (hB g a fun r hr => hg r (List.mem_append_left _ hr)) fun r hr => hg r (List.mem_append_right _ hr), fun p hp => by cases hp⟩
  · have e : t.hd.1.length = 2 * w - 1 := by have := of_decide_eq_false e; omega
    obtain ⟨md, hmd⟩ : ∃ md, t.hd.1[w - 1]? = some md := ⟨t.hd.1[w - 1]'(by omega), List.getElem?_eq_getElem (by omega)⟩; obtain ⟨sh1, sh2⟩ := hsl (w - 1) (by omega)
    have hlo : ∀ u : VT k, u.pt = t.pt.lo (w - 1) → u.hd.1.length = w - 1 := fun u hu => by
      have h3 := VT.pt_its u
      rw [hu] at h3; rw [← h3]
      have h4 := VT.pt_its t
      cases k with
      | zero => show (List.take (w - 1) (VT.pt t : List It)).length = _; have h5 : (VT.pt t : List It) = t.hd.1 := h4; rw [h5, List.length_take]; omega
      | succ k => show (List.take (w - 1) (VT.pt t).1).length = _; have h5 : (VT.pt t).1 = t.hd.1 := h4; rw [h5, List.length_take]; omega
    have hhi : ∀ u : VT k, u.pt = t.pt.hi (w - 1) → u.hd.1.length = w - 1 := fun u hu => by
      have h3 := VT.pt_its u
      rw [hu] at h3; rw [← h3]
      have h4 := VT.pt_its t
      cases k with
      | zero => show (List.drop (w - 1 + 1) (VT.pt t : List It)).length = _; have h5 : (VT.pt t : List It) = t.hd.1 := h4; rw [h5, List.length_drop]; omega
      | succ k => show (List.drop (w - 1 + 1) (VT.pt t).1).length = _; have h5 : (VT.pt t).1 = t.hd.1 := h4; rw [h5, List.length_drop]; omega
    unfold s_put.j3; refine St.r_loadN0 s 0 rfl (by simp) ?_; refine Divide_ok (x := t.pt) (w := w) (md := md) ((ha.fr s.fr).toD) hb hvc (by omega) (by omega) (by rw [VT.pt_its]; exact hmd) (fun e' y' hxy hke => ?_) fun tl tr A E2 h2 el er s2 hA => ?_
    · subst hke
      have hy := eq_of_heq hxy
      subst hy
      have h1 := hsh.2.1
      have h2 : (VT.pt t).1.length = t.hd.1.length := congrArg List.length (VT.pt_its t)
      omega
    have al := (hA h2 fun r hr => s2.ok (List.mem_append_left _ (List.mem_append_left _ hr))).1
    have ar := (hA h2 fun r hr => s2.ok (List.mem_append_left _ (List.mem_append_left _ hr))).2
    have s := (s.join s2).perm List.perm_append_comm
    refine r_ext rfl ?_; refine r_ext rfl ?_; refine r_ext rfl ?_; refine s.r_alloc fun t20 h2 s => ?_; refine s.r_alloc fun t21 h2 s => ?_; refine s.r_alloc fun t22 h2 s => ?_; refine St.r_storeN0 s 2 (ys := [tl.vi, tl.vk, .int .i64 (t.pt.lo (w - 1)).items.length]) rfl rfl (by simp) (one3 al.one.1 al.one.2 rfl) ?_; intro h2 s
    refine St.r_storeN0 s 1 (ys := enc md) rfl rfl (by simp) (enc1 md) ?_; intro h2 s
    refine St.r_storeN0 s 0 (ys := [tr.vi, tr.vk, .int .i64 (t.pt.hi (w - 1)).items.length]) rfl rfl (by simp) (one3 ar.one.1 ar.one.2 rfl) ?_; intro h2 s
    have s : St h [] ((t22, 0, [tr.vi, tr.vk, .int .i64 (t.pt.hi (w - 1)).items.length]) :: (t21, 0, enc md) :: (t20, 0, [tl.vi, tl.vk, .int .i64 (t.pt.lo (w - 1)).items.length]) :: (t6, 0, [t.vi, t.vk, vc]) :: (t8, 0, zN) :: (t9, 0, enc emp) :: (t10, 0, zN) :: (t14, 0, enc y) :: ((A0 ++ R) ++ (A ++ E2))) h2 := s
    have hok : ∀ r ∈ A, r.Ok h2 := fun r hr => s.ok (List.mem_append_left _ (List.mem_cons_of_mem _ (List.mem_cons_of_mem _ (List.mem_cons_of_mem _ (List.mem_cons_of_mem _ (List.mem_cons_of_mem _ (List.mem_cons_of_mem _ (List.mem_cons_of_mem _ (List.mem_cons_of_mem _ (List.mem_append_right _ (List.mem_append_left _ hr)))))))))))
    have hb2 : Bd h2 := hat (s.perm (E' := A0 ++ ((t22, 0, [tr.vi, tr.vk, .int .i64 (t.pt.hi (w - 1)).items.length]) :: (t21, 0, enc md) :: (t20, 0, [tl.vi, tl.vk, .int .i64 (t.pt.lo (w - 1)).items.length]) :: (t6, 0, [t.vi, t.vk, vc]) :: (t8, 0, zN) :: (t9, 0, enc emp) :: (t10, 0, zN) :: (t14, 0, enc y) :: (R ++ (A ++ E2)))) (by ((apply perm_rg; intro f; simp only [set_cons_zero, set_cons_succ, eraseIdx_cons_zero, eraseIdx_cons_succ, cons_append, nil_append, map_append, map_cons, map_nil, List.sum_append, List.sum_cons, List.sum_nil, map_flatMap, Nat.add_zero, Nat.zero_add]; ac_rfl))))
    refine r_cmpI ?_; refine r_if (fun e2 => ?_) (fun e2 => ?_)
    · have e2 : i < w := by have := of_decide_eq_true e2; omega
      refine St.r_loadN0 s 2 rfl (by simp) ?_; refine St.r_loadN0 s 7 rfl (by simp) ?_; refine St.r_loadN0 s 1 rfl (by simp) ?_; refine St.r_loadN0 s 0 rfl (by simp) ?_; refine G tl (hA h2 hok).1 hb2 rfl (by rw [hlo tl el]; omega) (by rw [el]; exact sh1) fun u' A2 E3 h3 hu s3 hA2 o1 o2 => ?_
      have s := (s.join s3).perm List.perm_append_comm
      refine ⟨St.r_stillN0 s 1 (j := 0) rfl (by simp) rfl, St.r_stillN0 s 0 (j := 0) rfl (by simp) rfl, ?_⟩
      refine St.r_storeN0 s 4 (ys := [u'.vi, u'.vk, .int .i64 0]) rfl rfl (by simp) (one3 o1 o2 rfl) ?_; intro h3 s
      refine ⟨St.r_stillN0 s 1 (j := 0) rfl (by simp) rfl, St.r_stillN0 s 0 (j := 0) rfl (by simp) rfl, ?_⟩
      refine St.r_storeN0 s 5 (ys := enc md) rfl rfl (by simp) (enc1 md) ?_; intro h3 s
      refine ⟨St.r_stillN0 s 0 (j := 0) rfl (by simp) rfl, ?_⟩
      refine St.r_storeN0 s 6 (ys := [tr.vi, tr.vk, .int .i64 (t.pt.hi (w - 1)).items.length]) rfl rfl (by simp) (one3 ar.one.1 ar.one.2 rfl) ?_; intro h3 s
      have s : St h [] ((t22, 0, [tr.vi, tr.vk, .int .i64 (t.pt.hi (w - 1)).items.length]) :: (t21, 0, enc md) :: (t20, 0, [tl.vi, tl.vk, .int .i64 (t.pt.lo (w - 1)).items.length]) :: (t6, 0, [t.vi, t.vk, vc]) :: (t8, 0, [u'.vi, u'.vk, .int .i64 0]) :: (t9, 0, enc md) :: (t10, 0, [tr.vi, tr.vk, .int .i64 (t.pt.hi (w - 1)).items.length]) :: (t14, 0, enc y) :: (((A0 ++ R) ++ (A ++ E2)) ++ (A2 ++ E3))) h3 := s
      refine St.r_loadN0 s 4 rfl (by simp) ?_; refine St.r_loadN0 s 5 rfl (by simp) ?_; refine St.r_loadN0 s 6 rfl (by simp) ?_; refine H u' 0 (some (md, tr)) (t.pt.hi (w - 1)).items.length (A0 ++ (A ++ A2)) ((t22, 0, [tr.vi, tr.vk, .int .i64 (t.pt.hi (w - 1)).items.length]) :: (t21, 0, enc md) :: (t20, 0, [tl.vi, tl.vk, .int .i64 (t.pt.lo (w - 1)).items.length]) :: (t6, 0, [t.vi, t.vk, vc]) :: (t8, 0, [u'.vi, u'.vk, .int .i64 0]) :: (t9, 0, enc md) :: (t10, 0, [tr.vi, tr.vk, .int .i64 (t.pt.hi (w - 1)).items.length]) :: (t14, 0, enc y) :: (R ++ E2 ++ E3)) h3 ?_ (s.perm (by ((apply perm_rg; intro f; simp only [set_cons_zero, set_cons_succ, eraseIdx_cons_zero, eraseIdx_cons_succ, cons_append, nil_append, map_append, map_cons, map_nil, List.sum_append, List.sum_cons, List.sum_nil, map_flatMap, Nat.add_zero, Nat.zero_add]; ac_rfl)))) fun g a hg => ?_
      · rw [if_neg (by omega)]
        exact ⟨md, tr, hmd, rfl, by rw [if_pos e2, ← el]; exact ⟨hu, er⟩⟩
      · have h4 := hA g fun r hr => hg r (List.mem_append_right _ (List.mem_append_left _ hr))
        exact ⟨hA2 g h4.1 (hB g a fun r hr => hg r (List.mem_append_left _ hr)) fun r hr => hg r (List.mem_append_right _ (List.mem_append_right _ hr)), fun p hp => by cases hp; exact h4.2⟩
    · have e2 : w ≤ i := by have := of_decide_eq_false e2; omega
      unfold s_put.j4; refine St.r_loadN0 s 2 rfl (by simp) ?_; refine St.r_loadN0 s 1 rfl (by simp) ?_; refine St.r_loadN0 s 0 rfl (by simp) ?_; refine r_sub (z := ((i - w : Nat) : Int)) (by rw [i64w (by omega) (by omega)]; omega) ?_; refine St.r_loadN0 s 7 rfl (by simp) ?_; refine G tr (hA h2 hok).2 hb2 rfl (by rw [hhi tr er]; omega) (by rw [er]; exact sh2) fun u' A2 E3 h3 hu s3 hA2 o1 o2 => ?_
      have s := (s.join s3).perm List.perm_append_comm
      refine ⟨St.r_stillN0 s 2 (j := 0) rfl (by simp) rfl, St.r_stillN0 s 1 (j := 0) rfl (by simp) rfl, ?_⟩
      refine St.r_storeN0 s 4 (ys := [tl.vi, tl.vk, .int .i64 (t.pt.lo (w - 1)).items.length]) rfl rfl (by simp) (one3 al.one.1 al.one.2 rfl) ?_; intro h3 s
      refine ⟨St.r_stillN0 s 1 (j := 0) rfl (by simp) rfl, ?_⟩
      refine St.r_storeN0 s 5 (ys := enc md) rfl rfl (by simp) (enc1 md) ?_; intro h3 s
      refine St.r_storeN0 s 6 (ys := [u'.vi, u'.vk, .int .i64 0]) rfl rfl (by simp) (one3 o1 o2 rfl) ?_; intro h3 s
      have s : St h [] ((t22, 0, [tr.vi, tr.vk, .int .i64 (t.pt.hi (w - 1)).items.length]) :: (t21, 0, enc md) :: (t20, 0, [tl.vi, tl.vk, .int .i64 (t.pt.lo (w - 1)).items.length]) :: (t6, 0, [t.vi, t.vk, vc]) :: (t8, 0, [tl.vi, tl.vk, .int .i64 (t.pt.lo (w - 1)).items.length]) :: (t9, 0, enc md) :: (t10, 0, [u'.vi, u'.vk, .int .i64 0]) :: (t14, 0, enc y) :: (((A0 ++ R) ++ (A ++ E2)) ++ (A2 ++ E3))) h3 := s
      refine St.r_loadN0 s 4 rfl (by simp) ?_; refine St.r_loadN0 s 5 rfl (by simp) ?_; refine St.r_loadN0 s 6 rfl (by simp) ?_; refine H tl (t.pt.lo (w - 1)).items.length (some (md, u')) 0 (A0 ++ (A ++ A2)) ((t22, 0, [tr.vi, tr.vk, .int .i64 (t.pt.hi (w - 1)).items.length]) :: (t21, 0, enc md) :: (t20, 0, [tl.vi, tl.vk, .int .i64 (t.pt.lo (w - 1)).items.length]) :: (t6, 0, [t.vi, t.vk, vc]) :: (t8, 0, [tl.vi, tl.vk, .int .i64 (t.pt.lo (w - 1)).items.length]) :: (t9, 0, enc md) :: (t10, 0, [u'.vi, u'.vk, .int .i64 0]) :: (t14, 0, enc y) :: (R ++ E2 ++ E3)) h3 ?_ (s.perm (by ((apply perm_rg; intro f; simp only [set_cons_zero, set_cons_succ, eraseIdx_cons_zero, eraseIdx_cons_succ, cons_append, nil_append, map_append, map_cons, map_nil, List.sum_append, List.sum_cons, List.sum_nil, map_flatMap, Nat.add_zero, Nat.zero_add]; ac_rfl)))) fun g a hg => ?_
      · rw [if_neg (by omega)]
        exact ⟨md, u', hmd, rfl, by rw [if_neg (by omega), ← er]; exact ⟨el, hu⟩⟩
      · have h4 := hA g fun r hr => hg r (List.mem_append_right _ (List.mem_append_left _ hr))
        exact ⟨h4.1, fun p hp => by cases hp; exact hA2 g h4.2 (hB g a fun r hr => hg r (List.mem_append_left _ hr)) fun r hr => hg r (List.mem_append_right _ (List.mem_append_right _ hr))⟩
end Go.Proofs.Ytljecmjdmdjldaa.Gi
end
section
namespace Go.Proofs.Ytljecmjdmdjldaa.Gi
open Go.Hp Go.Proofs.Ytljecmjdmdjldaa
variable {h0 h : Heap} {Z E : List Rg} {Q : Value → Heap → Prop} {lt : It → It → Bool} {lf : Value}
theorem grows_leaf {y : It} {bv : Value} {a : Option Addr} {cap : Nat} (hbv : bv = .slice a 0 cap) : Grows (k := 0) (fun l i => (ins (l : List It) i y : List It)) y bv (fun _ => True) := by
  intro u g vc i K ha _ hvc hi hsh H
  have hl : u.hd.1.length ≤ 1073741823 := by
    have := VT.pt_its u
    have h2 : (VT.pt u : List It).length ≤ 1073741823 := hsh
    have h3 : (VT.pt u : List It) = u.hd.1 := this
    rw [h3] at h2; exact h2
  refine grown_leaf (L := u.hd.1) ha.1 ha.one.2 hvc (n := 0) (ys := []) (by subst hbv; exact ⟨a, cap, rfl, rfl, fun h => absurd rfl h, Nat.zero_le _⟩) (by omega) hi hl fun v' b o sp E' h' w s => ?_; refine H ((ins u.hd.1 i y, v', .slice none 0 0) : VT 0) [(b, o, (ins u.hd.1 i y).flatMap enc ++ sp)] E' h' rfl s (fun g' _ _ hr => ⟨w.rdlO (hr _ (List.mem_cons_self ..)), Rdl.nil 3 g'⟩) w.one rfl
theorem grows_inner {k : Nat} {y : It} {bv : Value} {cl cr : VT k × Int} {Bd : Heap → Prop} (hB : ∀ g, Bd g → Rdl 3 g bv 2 ([tri cl, tri cr].flatMap encN) ∧ ArgV g cl.1 ∧ ArgV g cr.1) : Grows (k := k + 1) (fun t i => PT.grw t i y cl.1.pt cr.1.pt) y bv Bd := by
  intro u g vc i K ha hbd hvc hi hsh H; obtain ⟨b1, b2, b3⟩ := hB g hbd; obtain ⟨⟨its, vi, vk⟩, ks⟩ : (List It × Value × Value) × List (VT k × Int) := u
  have hl : its.length ≤ 1073741823 := hsh.1
  have hkl : (ks.map fun c => VT.pt c.1).length = its.length + 1 := hsh.2.1
  rw [List.length_map] at hkl
  have hi : i ≤ its.length := hi
  have ha : Rdl 2 g vi its.length (its.flatMap enc) ∧ Rdl 3 g vk ks.length ((ks.map tri).flatMap encN) ∧ ∀ c, c ∈ ks → ArgV g c.1 := ha
  refine grown_inner (L := its) (cs := ks.map tri) (cl := tri cl) (cr := tri cr) ha.1 (by rw [List.length_map]; exact ha.2.1) hvc b1 (fun c hc => ?_) b2.one b3.one hi (by rw [List.length_map]; omega) hl (by rw [List.length_map]; omega) fun v' b o sp v2 b2' o2 sp2 E' h' w w2 s => ?_
  · obtain ⟨d, hd, rfl⟩ := List.mem_map.1 hc
    exact (ha.2.2 d hd).one
  · have em : (ins (ks.set i cr) i cl).map tri = ins ((ks.map tri).set i (tri cr)) i (tri cl) := by
      unfold ins; rw [List.map_append, List.map_cons, List.map_take, List.map_drop, List.map_set]
    rw [← em] at w2 s; refine H ((((ins its i y, v', v2) : List It × Value × Value), ins (ks.set i cr) i cl) : VT (k + 1)) [(b, o, (ins its i y).flatMap enc ++ sp), (b2', o2, ((ins (ks.set i cr) i cl).map tri).flatMap encN ++ sp2)] E' h' ?_ s (fun g' hu hb hr => ⟨w.rdlO (hr _ (List.mem_cons_self ..)), ?_, fun c hc => ?_⟩) w.one w2.one
    · show (ins its i y, (ins (ks.set i cr) i cl).map fun c => VT.pt c.1) = (ins its i y, (ks.map fun c => VT.pt c.1).take i ++ cl.1.pt :: cr.1.pt :: (ks.map fun c => VT.pt c.1).drop (i + 1))
      have hik : i < ks.length := by omega
      have e : ins (ks.set i cr) i cl = ks.take i ++ cl :: cr :: ks.drop (i + 1) := by
        unfold ins; rw [List.take_set_of_le (Nat.le_refl _), List.drop_set, if_neg (by omega), Nat.sub_self, List.drop_eq_getElem_cons hik, List.set_cons_zero]
      rw [e, List.map_append, List.map_cons, List.map_cons, List.map_take, List.map_drop]
    · have := w2.rdlO (hr _ (List.mem_cons_of_mem _ (List.mem_cons_self ..)))
      rw [List.length_map] at this; exact this
    · obtain ⟨_, c2, c3⟩ := hB g' hb
      unfold ins at hc
      rcases List.mem_append.1 (show c ∈ (ks.set i cr).take i ++ cl :: (ks.set i cr).drop i from hc) with e | e
      · rcases List.mem_or_eq_of_mem_set (List.mem_of_mem_take e) with e | e
        · exact (show ∀ c, c ∈ ks → ArgV g' c.1 from hu.2.2) c e
        · rw [e]; exact c3
      · rcases List.mem_cons.1 e with e | e
        · rw [e]; exact c2
        · rcases List.mem_or_eq_of_mem_set (List.mem_of_mem_drop e) with e | e
          · exact (show ∀ c, c ∈ ks → ArgV g' c.1 from hu.2.2) c e
          · rw [e]; exact c3
end Go.Proofs.Ytljecmjdmdjldaa.Gi
end
section
namespace Go.Proofs.Ytljecmjdmdjldaa.Gi
open Go.Hp Go.Proofs.Ytljecmjdmdjldaa
variable {h0 h : Heap} {Z E : List Rg} {Q : Value → Heap → Prop} {lt : It → It → Bool} {lf : Value}
theorem lput_set {l : List It} {x y : It} (hg : lget lt l x = some y) : lput lt l x = l.set (pos lt l x) x := by
  obtain ⟨hp, _⟩ := lget_some hg
  have : lput lt l x = l.take (pos lt l x) ++ x :: l.drop (pos lt l x + if (lget lt l x).isSome then 1 else 0) := rfl
  rw [this, hg, List.set_eq_take_append_cons_drop, if_pos hp]; rfl
theorem put0_eqG {α : Type} {lt : α → α → Bool} {m : Nat} : ∀ {l : List α} {x : α}, PT.put lt m (h := 0) l x = (match lget lt l x with
    | some _ => ((lput lt l x : PT α 0), none)
    | none => if l.length < m then ((ins l (pos lt l x) x : PT α 0), none) else
      match l[m / 2]? with
      | none => ((l : PT α 0), none)
      | some md => if pos lt l x ≤ m / 2 then ((ins (l.take (m / 2)) (pos lt l x) x : PT α 0), some (md, (l.drop (m / 2 + 1) : PT α 0))) else ((l.take (m / 2) : PT α 0), some (md, (ins (l.drop (m / 2 + 1)) (pos lt l x - (m / 2 + 1)) x : PT α 0)))) := by
  intro l x; kernel_rfl
theorem put1_eqG {α : Type} {lt : α → α → Bool} {m k : Nat} : ∀ {t : PT α (k + 1)} {x : α}, PT.put lt m t x = (match lget lt t.1 x with
    | some _ => (((lput lt t.1 x, t.2) : PT α (k + 1)), none)
    | none => match t.2[pos lt t.1 x]? with
      | none => (t, none)
      | some c => match PT.put lt m c x with
        | (l, none) => (((t.1, t.2.set (pos lt t.1 x) l) : PT α (k + 1)), none)
        | (l, some (md, r)) => if t.1.length < m then (t.grw (pos lt t.1 x) md l r, none) else
          match t.1[m / 2]? with
          | none => (t, none)
          | some md2 => if pos lt t.1 x ≤ m / 2 then (PT.grw (t.lo (m / 2)) (pos lt t.1 x) md l r, some (md2, t.hi (m / 2))) else (t.lo (m / 2), some (md2, PT.grw (t.hi (m / 2)) (pos lt t.1 x - (m / 2 + 1)) md l r))) := by
  intro t x; kernel_rfl
theorem put0_some {m : Nat} {l : List It} {x y : It} (hg : lget lt l x = some y) : PT.put lt m (h := 0) l x = (lput lt l x, none) := by
  refine put0_eqG.trans ?_; rw [hg]; first | rfl | kernel_rfl
theorem put0_lt {m : Nat} {l : List It} {x : It} (hg : lget lt l x = none) (hl : l.length < m) : PT.put lt m (h := 0) l x = (ins l (pos lt l x) x, none) := by
  refine put0_eqG.trans ?_; rw [hg]; exact if_pos hl
theorem put0_ge {m : Nat} {l : List It} {x md : It} (hg : lget lt l x = none) (hl : ¬ l.length < m) (hm : l[m / 2]? = some md) : PT.put lt m (h := 0) l x = if pos lt l x ≤ m / 2 then (ins (l.take (m / 2)) (pos lt l x) x, some (md, (l.drop (m / 2 + 1) : List It))) else ((l.take (m / 2) : List It), some (md, ins (l.drop (m / 2 + 1)) (pos lt l x - (m / 2 + 1)) x)) := by
  refine put0_eqG.trans ?_; rw [hg, hm]; exact if_neg hl
def PutOk (ow : List Int) (ov : Value) (w k : Nat) : Prop := ∀ (t : VT k) {lo : Nat} {h : Heap} {Q : Value → Heap → Prop} {vc : Value} {x : It}, OwAt h ow ov → ArgV h t → one1 vc = true → t.pt.Fl (2 * w - 1) lo → (toD t.pt).bulk ≤ 1073741823 →
  (∀ (tl : VT k) (cl : Int) (o : Option (It × VT k)) (cr : Int) A E' h', t.pt.put (ltO ow) (2 * w - 1) x = (tl.pt, o.map fun p => (p.1, p.2.pt)) → St h [] (A ++ E') h' → (∀ g, ArgV g t → (∀ r ∈ A, r.Ok g) → ArgV g tl ∧ ∀ p, o = some p → ArgV g p.2) → Q (PutRes tl cl o cr) h') →
  s_put.call #[ov, .int .i64 (w : Nat), .agg #[t.vi, t.vk, vc], av x] h Q
theorem put_leaf {ow : List Int} {ov : Value} {w : Nat} (hw : 2 ≤ w) (hw2 : w ≤ 512) : PutOk ow ov w 0 := by
  intro t lo h Q vc x ho ha hvc fl hb H; obtain ⟨its, vi, vk⟩ : List It × Value × Value := t; obtain ⟨hr, hk⟩ : Rdl 2 h vi its.length (its.flatMap enc) ∧ Rdl 3 h vk 0 [] := ha
  have hl : its.length ≤ 2 * w - 1 := fl.2
  have e2 : (2 * w - 1) / 2 = w - 1 := by omega
  have hpl := pos_le (lt := ltO ow) its x
  refine s_put.body _ _ _ _ _ _ ?_; unfold s_put.sh
  have s := St.start h
  refine St.r_box (cs := [vi, vk, vc]) s fun t6 h1 s => ?_; refine St.r_box (cs := enc x) s fun t7 h1 s => ?_; refine s.r_alloc fun t8 h1 s => ?_; refine s.r_alloc fun t9 h1 s => ?_; refine s.r_alloc fun t10 h1 s => ?_; refine St.r_loadN0 s 4 rfl (by simp) ?_; refine St.r_loadN0 s 3 rfl (by simp) ?_; refine child_ok (x := x) (ho.st s) (hr.st s) hk.one hvc (by omega) fun E1 h1 s1 => ?_
  have s := (s.join s1).perm List.perm_append_comm
  have s : St h [] ((t10, 0, zN) :: (t9, 0, enc emp) :: (t8, 0, zN) :: (t7, 0, enc x) :: (t6, 0, [vi, vk, vc]) :: E1) h1 := s
  refine r_ext rfl ?_; refine r_ext rfl ?_
  cases hg : lget (ltO ow) its x with
  | some y =>
    have ep := put0_some (m := 2 * w - 1) hg
    obtain ⟨hp, _⟩ := lget_some hg; refine r_if (fun _ => ?_) (fun e => absurd e (by simp))
    refine r_fld (n := 0) ?_; refine St.r_load0 s 4 rfl rfl ?_; refine St.r_loadN0 s 3 rfl (by simp) ?_; refine r_fld (n := 1) ?_; refine St.r_load0 s 4 rfl rfl ?_
    ((apply r_build; ((simp only [fillV, fill1, Value.cells, zeros_succ, zeros_zero, size_toArray, length_cons, length_nil, length_append, take_succ_cons, take_zero, take_nil, drop_succ_cons, drop_zero, drop_nil, cons_append, nil_append, append_nil, Nat.reduceAdd, Nat.reduceMul, Nat.reduceLeDiff, Nat.reduceEqDiff, and_self, and_true, true_and, if_true, Nat.le_refl, Nat.zero_add, Nat.add_zero, Nat.zero_mul, reduceIte, if_false] <;> rfl))))
    ((apply r_build; ((simp only [fillV, fill1, Value.cells, zeros_succ, zeros_zero, size_toArray, length_cons, length_nil, length_append, take_succ_cons, take_zero, take_nil, drop_succ_cons, drop_zero, drop_nil, cons_append, nil_append, append_nil, Nat.reduceAdd, Nat.reduceMul, Nat.reduceLeDiff, Nat.reduceEqDiff, and_self, and_true, true_and, if_true, Nat.le_refl, Nat.zero_add, Nat.add_zero, Nat.zero_mul, reduceIte, if_false] <;> rfl))))
    refine changedI_ok (y := x) (hr.st s) (itsOne its) (enc1 x) hp (by omega) fun v' b o sp E2 h2 w2 s2 => ?_
    have s := (s.join s2).perm List.perm_append_comm
    refine ⟨St.r_still0 s 4 rfl rfl, ?_⟩
    refine r_build (cs := [v', vk, .int .i64 0]) (by obtain ⟨_, _, e0, _⟩ := w2; subst e0; obtain ⟨_, _, e1, _⟩ := hk; subst e1; ((simp only [fillV, fill1, Value.cells, zeros_succ, zeros_zero, size_toArray, length_cons, length_nil, length_append, take_succ_cons, take_zero, take_nil, drop_succ_cons, drop_zero, drop_nil, cons_append, nil_append, append_nil, Nat.reduceAdd, Nat.reduceMul, Nat.reduceLeDiff, Nat.reduceEqDiff, and_self, and_true, true_and, if_true, Nat.le_refl, Nat.zero_add, Nat.add_zero, Nat.zero_mul, reduceIte, if_false] <;> rfl))) ?_; refine St.r_storeN0 s 2 (ys := [v', vk, .int .i64 0]) rfl rfl (by simp) (one3 w2.one hk.one rfl) ?_; intro h2 s
    refine St.r_storeN0 s 1 (ys := enc emp) rfl rfl (by simp) (enc1 emp) ?_; intro h2 s
    refine St.r_storeN0 s 0 (ys := zN) rfl rfl (by simp) (one3 rfl rfl rfl) ?_; intro h2 s
    have s : St h [] ((t10, 0, zN) :: (t9, 0, enc emp) :: (t8, 0, [v', vk, .int .i64 0]) :: (t7, 0, enc x) :: (t6, 0, [vi, vk, vc]) :: (E1 ++ ((b, o, (its.set (pos (ltO ow) its x) x).flatMap enc ++ sp) :: E2))) h2 := s
    refine St.r_loadN0 s 2 rfl (by simp) ?_; refine St.r_loadN0 s 1 rfl (by simp) ?_; refine St.r_loadN0 s 0 rfl (by simp) ?_; refine H ((its.set (pos (ltO ow) its x) x, v', vk) : VT 0) 0 none 0 [(b, o, (its.set (pos (ltO ow) its x) x).flatMap enc ++ sp)] ((t10, 0, zN) :: (t9, 0, enc emp) :: (t8, 0, [v', vk, .int .i64 0]) :: (t7, 0, enc x) :: (t6, 0, [vi, vk, vc]) :: (E1 ++ E2)) h2 (ep.trans (by rw [lput_set hg]; rfl)) (s.perm (by ((apply perm_rg; intro f; simp only [set_cons_zero, set_cons_succ, eraseIdx_cons_zero, eraseIdx_cons_succ, cons_append, nil_append, map_append, map_cons, map_nil, List.sum_append, List.sum_cons, List.sum_nil, map_flatMap, Nat.add_zero, Nat.zero_add]; ac_rfl)))) fun g a hg => ⟨⟨w2.rdlO (hg _ (List.mem_cons_self ..)), a.2⟩, fun p hp => by cases hp⟩
  | none =>
    refine r_if (fun e => absurd e (by simp)) (fun _ => ?_)
    unfold s_put.j1; refine St.r_loadN0 s 3 rfl (by simp) ?_; refine St.r_mkSl (sz := 3) (cs := []) s (by ((simp only [fillV, fill1, Value.cells, zeros_succ, zeros_zero, size_toArray, length_cons, length_nil, length_append, take_succ_cons, take_zero, take_nil, drop_succ_cons, drop_zero, drop_nil, cons_append, nil_append, append_nil, Nat.reduceAdd, Nat.reduceMul, Nat.reduceLeDiff, Nat.reduceEqDiff, and_self, and_true, true_and, if_true, Nat.le_refl, Nat.zero_add, Nat.add_zero, Nat.zero_mul, reduceIte, if_false] <;> rfl))) rfl fun q h1 s wq => ?_; refine s.r_alloc fun t14 h1 s => ?_; refine St.r_storeN0 s 0 (ys := enc x) rfl rfl (by simp) (enc1 x) ?_; intro h1 s
    refine r_fld (n := 1) ?_; refine St.r_load0 s 6 rfl rfl ?_; refine (hk.st s).lenV ?_; refine r_cmpI ?_; refine r_if (fun e => absurd e (by simp)) (fun _ => ?_)
    have s : St h [] ((t14, 0, enc x) :: (q, 0, []) :: (t10, 0, zN) :: (t9, 0, enc emp) :: (t8, 0, zN) :: (t7, 0, enc x) :: (t6, 0, [vi, vk, vc]) :: E1) h1 := s
    refine put_tail (k := 0) (s12 := .int .i64 0) (t := ((its, vi, vk) : VT 0)) (A0 := []) (R := (q, 0, []) :: (t7, 0, enc x) :: E1) (grows_leaf (y := x) rfl) ⟨hr, hk⟩ (fun _ _ _ => trivial) hvc hw hw2 hpl hl (Nat.le_trans hl (by omega)) (fun n hn => ⟨?_, ?_⟩) (Nat.le_trans hb (by omega)) (s.perm (by ((apply perm_rg; intro f; simp only [set_cons_zero, set_cons_succ, eraseIdx_cons_zero, eraseIdx_cons_succ, cons_append, nil_append, map_append, map_cons, map_nil, List.sum_append, List.sum_cons, List.sum_nil, map_flatMap, Nat.add_zero, Nat.zero_add]; ac_rfl)))) fun tl cl o cr A E' h' hcase s hA => H tl cl o cr A E' h' ?_ s hA
    · show (List.take n its).length ≤ _; rw [List.length_take]; omega
    · show (List.drop (n + 1) its).length ≤ _; rw [List.length_drop]; omega
    · by_cases e : its.length < 2 * w - 1
      · obtain ⟨h1, rfl⟩ : tl.pt = (ins its (pos (ltO ow) its x) x : List It) ∧ o = none := (if_pos (c := its.length < 2 * w - 1) e).mp hcase
        refine (put0_lt (m := 2 * w - 1) hg e).trans ?_; rw [h1]; rfl
      · have hcase : ∃ md tr, its[w - 1]? = some md ∧ o = some (md, tr) ∧ (if pos (ltO ow) its x < w then tl.pt = (ins (its.take (w - 1)) (pos (ltO ow) its x) x : List It) ∧ tr.pt = (its.drop (w - 1 + 1) : List It) else tl.pt = (its.take (w - 1) : List It) ∧ tr.pt = (ins (its.drop (w - 1 + 1)) (pos (ltO ow) its x - w) x : List It)) := by
          exact (if_neg (c := its.length < 2 * w - 1) e).mp hcase
        obtain ⟨md, tr, h1, rfl, h2⟩ := hcase; refine (put0_ge (m := 2 * w - 1) hg e (by rw [e2]; exact h1)).trans ?_; rw [e2]
        by_cases e3 : pos (ltO ow) its x < w
        · rw [if_pos e3] at h2
          rw [if_pos (by omega)]
          show _ = (tl.pt, some (md, tr.pt))
          rw [h2.1, h2.2]; first | rfl | kernel_rfl
        · rw [if_neg e3] at h2
          rw [if_neg (by omega), show w - 1 + 1 = w by omega]; rw [show w - 1 + 1 = w by omega] at h2
          show _ = (tl.pt, some (md, tr.pt))
          rw [h2.1, h2.2]; first | rfl | kernel_rfl
end Go.Proofs.Ytljecmjdmdjldaa.Gi
end
section
namespace Go.Proofs.Ytljecmjdmdjldaa.Gi
open Go.Hp Go.Proofs.Ytljecmjdmdjldaa
variable {h0 h : Heap} {Z E : List Rg} {Q : Value → Heap → Prop} {lt : It → It → Bool} {lf : Value}
abbrev mkP {k : Nat} (its : List It) (ks : List (PT It k)) : PT It (k + 1) := (its, ks)
theorem put1_some {m k : Nat} {t : PT It (k + 1)} {x y : It} (hg : lget lt t.1 x = some y) : PT.put lt m t x = ((lput lt t.1 x, t.2), none) := by
  refine put1_eqG.trans ?_; simp only [hg]; rfl
theorem put1_kid {m k : Nat} {t : PT It (k + 1)} {x : It} {c l : PT It k} (hg : lget lt t.1 x = none) (hc : t.2[pos lt t.1 x]? = some c) (hp : PT.put lt m c x = (l, none)) : PT.put lt m t x = ((t.1, t.2.set (pos lt t.1 x) l), none) := by
  refine put1_eqG.trans ?_; simp only [hg, hc, hp]; rfl
theorem put1_lt {m k : Nat} {t : PT It (k + 1)} {x md : It} {c l r : PT It k} (hg : lget lt t.1 x = none) (hc : t.2[pos lt t.1 x]? = some c) (hp : PT.put lt m c x = (l, some (md, r))) (hl : t.1.length < m) : PT.put lt m t x = (t.grw (pos lt t.1 x) md l r, none) := by
  refine put1_eqG.trans ?_; simp only [hg, hc, hp, hl, if_true]
theorem put1_ge {m k : Nat} {t : PT It (k + 1)} {x md md2 : It} {c l r : PT It k} (hg : lget lt t.1 x = none) (hc : t.2[pos lt t.1 x]? = some c) (hp : PT.put lt m c x = (l, some (md, r))) (hl : ¬ t.1.length < m) (hm : t.1[m / 2]? = some md2) :
    PT.put lt m t x = if pos lt t.1 x ≤ m / 2 then (PT.grw (t.lo (m / 2)) (pos lt t.1 x) md l r, some (md2, t.hi (m / 2))) else (t.lo (m / 2), some (md2, PT.grw (t.hi (m / 2)) (pos lt t.1 x - (m / 2 + 1)) md l r)) := by
  refine put1_eqG.trans ?_; simp only [hg, hc, hp, hl, hm, if_false]
def putTail (s1 s6 s8 s9 s10 s12 s14 t57 t58 t59 t60 t16 t17 t18 : Value) (h : Heap) (Q : Value → Heap → Prop) : Prop :=
  storeN 3 t16 t57 h fun h =>
    storeN 2 t17 t58 h fun h =>
    storeN 3 t18 t59 h fun h =>
    notV t60 fun t62 =>
    ifV t62
    (fld 0 s6 fun t63 =>
    load1 t63 h fun t64 =>
    fld 1 s6 fun t65 =>
    load1 t65 h fun t66 =>
    loadN 3 t16 h fun t68 =>
    buildV [(.int .i64 0), (.int .i64 0)] [] fun t71 =>
    buildV [(.slice none 0 0), (.slice none 0 0), (.int .i64 0)] [] fun t72 =>
    s_changed_implNode.call #[t66, s12, t68] h fun t69 h =>
    still1 t63 t64 h ∧ buildV [(.slice none 0 0), (.slice none 0 0), (.int .i64 0)] [(0, 1, t64), (1, 1, t69)] fun t70 =>
    storeN 3 s8 t70 h fun h =>
    storeN 2 s9 t71 h fun h =>
    storeN 3 s10 t72 h fun h =>
    loadN 3 s8 h fun r8 =>
    loadN 2 s9 h fun r9 =>
    loadN 3 s10 h fun r10 =>
    Q (.tuple #[r8, r9, r10, (.bool false)]) h)
    (s_put.j5 s1 s6 s8 s9 s10 s12 s14 t16 t17 t18 h Q)
theorem RO_len {k : Nat} (o : Option (It × VT k)) (cr : Int) : (RO o cr).length = 3 := by cases o <;> rfl
theorem RO_one {k : Nat} {o : Option (It × VT k)} {cr : Int} (h : ∀ p, o = some p → one1 p.2.vi = true ∧ one1 p.2.vk = true) : ∀ y ∈ RO o cr, one1 y = true := by
  cases o with
  | none => exact one3 rfl rfl rfl
  | some p => exact one3 (h p rfl).1 (h p rfl).2 rfl
theorem sh_halves {k n : Nat} {t : PT It (k + 1)} {m : Nat} (h : t.Sh m) (hn : n < t.1.length) : (t.lo n).Sh m ∧ (t.hi n).Sh m := by
  obtain ⟨h1, h2, h3⟩ : t.1.length ≤ m ∧ t.2.length = t.1.length + 1 ∧ ∀ c, c ∈ t.2 → PT.Sh m c := h; refine ⟨⟨?_, ?_, fun c hc => h3 c (List.mem_of_mem_take hc)⟩, ⟨?_, ?_, fun c hc => h3 c (List.mem_of_mem_drop hc)⟩⟩
  · show (t.1.take n).length ≤ m; rw [List.length_take]; omega
  · show (t.2.take (n + 1)).length = (t.1.take n).length + 1; rw [List.length_take, List.length_take]; omega
  · show (t.1.drop (n + 1)).length ≤ m; rw [List.length_drop]; omega
  · show (t.2.drop (n + 1)).length = (t.1.drop (n + 1)).length + 1; rw [List.length_drop, List.length_drop]; omega
theorem putTail_ok {k w : Nat} {ow : List Int} {t : VT (k + 1)} {vc : Value} {x : It} {c : VT k × Int} {t6 t7 t8 t9 t10 t14 t16 t17 t18 lo : Nat} {A R : List Rg} {h2 : Heap} {tl : VT k} {cl cr : Int} {o : Option (It × VT k)} (ha : ArgV h t) (hvc : one1 vc = true) (hw : 2 ≤ w) (hw2 : w ≤ 512) (fl : t.pt.Fl (2 * w - 1) lo) (hb : (toD t.pt).bulk ≤ 1073741823)
    (hg : lget (ltO ow) t.hd.1 x = none) (hc : t.2[pos (ltO ow) t.hd.1 x]? = some c)
    (hput : c.1.pt.put (ltO ow) (2 * w - 1) x = (tl.pt, o.map fun p => (p.1, p.2.pt))) (hA : ∀ g, ArgV g c.1 → (∀ r ∈ A, r.Ok g) → ArgV g tl ∧ ∀ p, o = some p → ArgV g p.2)
    (s : St h [] ((t16, 0, zN) :: (t17, 0, enc emp) :: (t18, 0, zN) :: (t14, 0, enc x) :: (t10, 0, zN) :: (t9, 0, enc emp) :: (t8, 0, zN) :: (t7, 0, enc x) :: (t6, 0, [t.vi, t.vk, vc]) :: (A ++ R)) h2)
    (H : ∀ (tl : VT (k + 1)) (cl : Int) (o : Option (It × VT (k + 1))) (cr : Int) A E' h', t.pt.put (ltO ow) (2 * w - 1) x = (tl.pt, o.map fun p => (p.1, p.2.pt)) → St h [] (A ++ E') h' → (∀ g, ArgV g t → (∀ r ∈ A, r.Ok g) → ArgV g tl ∧ ∀ p, o = some p → ArgV g p.2) → Q (PutRes tl cl o cr) h') :
    putTail (.int .i64 (w : Nat)) (ptr t6 0) (ptr t8 0) (ptr t9 0) (ptr t10 0) (.int .i64 (pos (ltO ow) t.hd.1 x : Nat)) (ptr t14 0) (.agg #[tl.vi, tl.vk, .int .i64 cl]) (av ((o.map Prod.fst).getD emp)) (.agg (RO o cr).toArray) (.bool o.isSome) (ptr t16 0) (ptr t17 0) (ptr t18 0) h2 Q := by
  obtain ⟨⟨its, vi, vk⟩, ks⟩ : (List It × Value × Value) × List (VT k × Int) := t; obtain ⟨hr, hk, hkids⟩ : Rdl 2 h vi its.length (its.flatMap enc) ∧ Rdl 3 h vk ks.length ((ks.map tri).flatMap encN) ∧ ∀ c, c ∈ ks → ArgV h c.1 := ha
  have hg : lget (ltO ow) its x = none := hg
  have hc : ks[pos (ltO ow) its x]? = some c := hc
  obtain ⟨hpk, hce⟩ := List.getElem?_eq_some_iff.1 hc
  have hcm : c ∈ ks := List.mem_of_getElem? hc
  have hpl := pos_le (lt := ltO ow) its x
  obtain ⟨f1, f2, f3, f4⟩ : lo ≤ its.length ∧ its.length ≤ 2 * w - 1 ∧ (ks.map fun c : VT k × Int => VT.pt c.1).length = its.length + 1 ∧ ∀ c, c ∈ (ks.map fun c : VT k × Int => VT.pt c.1) → PT.Fl (2 * w - 1) ((2 * w - 1) / 2) c := id fl; rw [List.length_map] at f3
  have ek : ∀ i, (ks.map fun c : VT k × Int => VT.pt c.1)[i]? = (ks[i]?).map fun c : VT k × Int => VT.pt c.1 := fun i => List.getElem?_map ..
  have hck : (ks.map fun c : VT k × Int => VT.pt c.1)[pos (ltO ow) its x]? = some c.1.pt := by rw [ek, hc]; rfl
  have e2 : (2 * w - 1) / 2 = w - 1 := by omega
  have okA : ∀ {E3 : List Rg} {g : Heap}, St h [] (A ++ E3) g → ∀ r ∈ A, r.Ok g := fun s r hr => s.ok (List.mem_append_left _ (List.mem_append_left _ hr))
  have s0 : St h [] (A ++ ((t16, 0, zN) :: (t17, 0, enc emp) :: (t18, 0, zN) :: (t14, 0, enc x) :: (t10, 0, zN) :: (t9, 0, enc emp) :: (t8, 0, zN) :: (t7, 0, enc x) :: (t6, 0, [vi, vk, vc]) :: R)) h2 := s.perm (by ((apply perm_rg; intro f; simp only [set_cons_zero, set_cons_succ, eraseIdx_cons_zero, eraseIdx_cons_succ, cons_append, nil_append, map_append, map_cons, map_nil, List.sum_append, List.sum_cons, List.sum_nil, map_flatMap, Nat.add_zero, Nat.zero_add]; ac_rfl)))
  have akid := hA h2 ((hkids c hcm).fr s.fr) (okA s0)
  have s : St h [] ((t16, 0, zN) :: (t17, 0, enc emp) :: (t18, 0, zN) :: (t14, 0, enc x) :: (t10, 0, zN) :: (t9, 0, enc emp) :: (t8, 0, zN) :: (t7, 0, enc x) :: (t6, 0, [vi, vk, vc]) :: (A ++ R)) h2 := s
  unfold putTail; refine St.r_storeN0 s 0 (ys := [tl.vi, tl.vk, .int .i64 cl]) rfl rfl (by simp) (one3 akid.1.one.1 akid.1.one.2 rfl) ?_; intro h2 s
  refine St.r_storeN0 s 1 (ys := enc ((o.map Prod.fst).getD emp)) rfl rfl (by simp) (enc1 _) ?_; intro h2 s
  refine St.r_storeN0 s 2 (ys := RO o cr) rfl (RO_len o cr) (by simp) (RO_one fun p hp => (akid.2 p hp).one) ?_; intro h2 s
  have s : St h [] ((t16, 0, [tl.vi, tl.vk, .int .i64 cl]) :: (t17, 0, enc ((o.map Prod.fst).getD emp)) :: (t18, 0, List.take 0 zN ++ RO o cr ++ List.drop (0 + 3) zN) :: (t14, 0, enc x) :: (t10, 0, zN) :: (t9, 0, enc emp) :: (t8, 0, zN) :: (t7, 0, enc x) :: (t6, 0, [vi, vk, vc]) :: (A ++ R)) h2 := s
  rw [show List.take 0 zN ++ RO o cr ++ List.drop (0 + 3) zN = RO o cr by cases o <;> rfl] at s; refine r_not ?_
  cases o with
  | none =>
    have hput : c.1.pt.put (ltO ow) (2 * w - 1) x = (tl.pt, none) := hput
    refine r_if (fun _ => ?_) (fun e => absurd e (by simp))
    refine r_fld (n := 0) ?_; refine St.r_load0 s 8 rfl rfl ?_; refine r_fld (n := 1) ?_; refine St.r_load0 s 8 rfl rfl ?_; refine St.r_loadN0 s 0 rfl (by simp) ?_
    ((apply r_build; ((simp only [fillV, fill1, Value.cells, zeros_succ, zeros_zero, size_toArray, length_cons, length_nil, length_append, take_succ_cons, take_zero, take_nil, drop_succ_cons, drop_zero, drop_nil, cons_append, nil_append, append_nil, Nat.reduceAdd, Nat.reduceMul, Nat.reduceLeDiff, Nat.reduceEqDiff, and_self, and_true, true_and, if_true, Nat.le_refl, Nat.zero_add, Nat.add_zero, Nat.zero_mul, reduceIte, if_false] <;> rfl))))
    ((apply r_build; ((simp only [fillV, fill1, Value.cells, zeros_succ, zeros_zero, size_toArray, length_cons, length_nil, length_append, take_succ_cons, take_zero, take_nil, drop_succ_cons, drop_zero, drop_nil, cons_append, nil_append, append_nil, Nat.reduceAdd, Nat.reduceMul, Nat.reduceLeDiff, Nat.reduceEqDiff, and_self, and_true, true_and, if_true, Nat.le_refl, Nat.zero_add, Nat.add_zero, Nat.zero_mul, reduceIte, if_false] <;> rfl))))
    have hkm : (ks.map tri).length = ks.length := List.length_map ..
    refine changedN_ok (i := pos (ltO ow) its x) (y := tri (tl, cl)) (by rw [hkm]; exact hk.st s) (fun y hy => ?_) (one3 akid.1.one.1 akid.1.one.2 rfl) (by rw [hkm]; exact hpk) (by omega) fun v' b off sp E2 h3 w2 s2 => ?_
    · obtain ⟨d, hd, rfl⟩ := List.mem_map.1 hy
      exact one3 (hkids d hd).one.1 (hkids d hd).one.2 rfl
    have em : (ks.map tri).set (pos (ltO ow) its x) (tri (tl, cl)) = (ks.set (pos (ltO ow) its x) (tl, cl)).map tri := by rw [List.map_set]
    rw [em] at w2 s2
    have s := (s.join s2).perm List.perm_append_comm
    refine ⟨St.r_still0 s 8 rfl rfl, ?_⟩
    refine r_build (cs := [vi, v', .int .i64 0]) (by obtain ⟨_, _, e0, _⟩ := w2; subst e0; obtain ⟨_, _, e1, _⟩ := hr; subst e1; ((simp only [fillV, fill1, Value.cells, zeros_succ, zeros_zero, size_toArray, length_cons, length_nil, length_append, take_succ_cons, take_zero, take_nil, drop_succ_cons, drop_zero, drop_nil, cons_append, nil_append, append_nil, Nat.reduceAdd, Nat.reduceMul, Nat.reduceLeDiff, Nat.reduceEqDiff, and_self, and_true, true_and, if_true, Nat.le_refl, Nat.zero_add, Nat.add_zero, Nat.zero_mul, reduceIte, if_false] <;> rfl))) ?_; refine St.r_storeN0 s 6 (ys := [vi, v', .int .i64 0]) rfl rfl (by simp) (one3 hr.one w2.one rfl) ?_; intro h3 s
    refine St.r_storeN0 s 5 (ys := enc emp) rfl rfl (by simp) (enc1 emp) ?_; intro h3 s
    refine St.r_storeN0 s 4 (ys := zN) rfl rfl (by simp) (one3 rfl rfl rfl) ?_; intro h3 s
    have s : St h [] ((t16, 0, [tl.vi, tl.vk, .int .i64 cl]) :: (t17, 0, enc emp) :: (t18, 0, zN) :: (t14, 0, enc x) :: (t10, 0, zN) :: (t9, 0, enc emp) :: (t8, 0, [vi, v', .int .i64 0]) :: (t7, 0, enc x) :: (t6, 0, [vi, vk, vc]) :: ((A ++ R) ++ ((b, off, ((ks.set (pos (ltO ow) its x) (tl, cl)).map tri).flatMap encN ++ sp) :: E2))) h3 := s
    refine St.r_loadN0 s 6 rfl (by simp) ?_; refine St.r_loadN0 s 5 rfl (by simp) ?_; refine St.r_loadN0 s 4 rfl (by simp) ?_; refine H (((its, vi, v'), ks.set (pos (ltO ow) its x) (tl, cl)) : VT (k + 1)) 0 none 0 ((b, off, ((ks.set (pos (ltO ow) its x) (tl, cl)).map tri).flatMap encN ++ sp) :: A) ((t16, 0, [tl.vi, tl.vk, .int .i64 cl]) :: (t17, 0, enc emp) :: (t18, 0, zN) :: (t14, 0, enc x) :: (t10, 0, zN) :: (t9, 0, enc emp) :: (t8, 0, [vi, v', .int .i64 0]) :: (t7, 0, enc x) :: (t6, 0, [vi, vk, vc]) :: (R ++ E2)) h3 ?_ (s.perm (by ((apply perm_rg; intro f; simp only [set_cons_zero, set_cons_succ, eraseIdx_cons_zero, eraseIdx_cons_succ, cons_append, nil_append, map_append, map_cons, map_nil, List.sum_append, List.sum_cons, List.sum_nil, map_flatMap, Nat.add_zero, Nat.zero_add]; ac_rfl)))) fun g a hok => ⟨⟨a.1, ?_, fun d hd => ?_⟩, fun p hp => by cases hp⟩
    · refine (put1_kid (m := 2 * w - 1) (t := (mkP its (ks.map fun c : VT k × Int => VT.pt c.1))) hg hck hput).trans ?_
      show ((its, (ks.map fun c : VT k × Int => VT.pt c.1).set _ tl.pt), none) = ((its, (ks.set _ (tl, cl)).map fun c : VT k × Int => VT.pt c.1), none)
      rw [List.map_set]
    · have := w2.rdlO (hok _ (List.mem_cons_self ..))
      rw [List.length_map] at this; exact this
    · rcases List.mem_or_eq_of_mem_set (show d ∈ ks.set (pos (ltO ow) its x) (tl, cl) from hd) with e | e
      · exact (show ∀ c, c ∈ ks → ArgV g c.1 from a.2.2) d e
      · rw [e]; exact (hA g ((show ∀ c, c ∈ ks → ArgV g c.1 from a.2.2) c hcm) fun r hr => hok r (List.mem_cons_of_mem _ hr)).1
  | some p =>
    obtain ⟨md, r⟩ := p
    have hput : c.1.pt.put (ltO ow) (2 * w - 1) x = (tl.pt, some (md, r.pt)) := hput
    refine r_if (fun e => absurd e (by simp)) (fun _ => ?_)
    have s : St h [] ((t16, 0, [tl.vi, tl.vk, .int .i64 cl]) :: (t17, 0, enc md) :: (t18, 0, [r.vi, r.vk, .int .i64 cr]) :: (t14, 0, enc x) :: (t10, 0, zN) :: (t9, 0, enc emp) :: (t8, 0, zN) :: (t7, 0, enc x) :: (t6, 0, [vi, vk, vc]) :: (A ++ R)) h2 := s
    have ar := akid.2 (md, r) rfl
    have oo : ∀ y ∈ encN (tri (tl, cl)) ++ encN (tri (r, cr)), one1 y = true := fun y hy => by
      rcases List.mem_append.1 hy with e | e
      · exact one3 akid.1.one.1 akid.1.one.2 rfl y e
      · exact one3 ar.one.1 ar.one.2 rfl y e
    have go : ∀ {q : Nat} {bv : Value} {h3 : Heap} {sp : List Value}, St h [] ((t6, 0, [vi, vk, vc]) :: (t8, 0, zN) :: (t9, 0, enc emp) :: (t10, 0, zN) :: (t14, 0, enc md) :: (((q, 0, (encN (tri (tl, cl)) ++ encN (tri (r, cr))) ++ sp) :: A) ++ ((t16, 0, [tl.vi, tl.vk, .int .i64 cl]) :: (t17, 0, enc md) :: (t18, 0, [r.vi, r.vk, .int .i64 cr]) :: (t7, 0, enc x) :: R))) h3 → Own 3 bv 2 q 0 (encN (tri (tl, cl)) ++ encN (tri (r, cr))) sp →
        s_put.j2 (.int .i64 (w : Nat)) (ptr t6 0) (ptr t8 0) (ptr t9 0) (ptr t10 0) (.int .i64 (pos (ltO ow) its x : Nat)) (ptr t14 0) bv h3 Q := fun {q bv h3 sp} s wq => by
      have shm : PT.Sh 1073741823 (mkP its (ks.map fun c : VT k × Int => VT.pt c.1)) := Sh_mono (m := 2 * w - 1) (by omega) (show PT.Fl (2 * w - 1) lo (mkP its (ks.map fun c : VT k × Int => VT.pt c.1)) from fl).sh
      refine put_tail (k := k + 1) (s12 := .int .i64 0) (t := ((its, vi, vk), ks)) (y := md) (bv := bv) (A0 := (q, 0, (encN (tri (tl, cl)) ++ encN (tri (r, cr))) ++ sp) :: A) (R := (t16, 0, [tl.vi, tl.vk, .int .i64 cl]) :: (t17, 0, enc md) :: (t18, 0, [r.vi, r.vk, .int .i64 cr]) :: (t7, 0, enc x) :: R)
        (grows_inner (cl := (tl, cl)) (cr := (r, cr)) (Bd := fun g => Rdl 3 g bv 2 ([tri (tl, cl), tri (r, cr)].flatMap encN) ∧ ArgV g tl ∧ ArgV g r) fun g hg => hg) ⟨hr, hk, hkids⟩ (fun g a hok => ?_) hvc hw hw2 hpl f2 shm (fun n hn => sh_halves shm hn) (Nat.le_trans hb (by omega)) s fun tl2 cl2 o2 cr2 A2 E2 h4 hcase s4 hA2 => H tl2 cl2 o2 cr2 A2 E2 h4 ?_ s4 hA2
      · have hkk := hA g ((show ∀ c, c ∈ ks → ArgV g c.1 from a.2.2) c hcm) fun r hr => hok r (List.mem_cons_of_mem _ hr)
        refine ⟨?_, hkk.1, hkk.2 _ rfl⟩
        have := wq.rdlO (hok _ (List.mem_cons_self ..))
        exact this
      · by_cases e : its.length < 2 * w - 1
        · obtain ⟨h1, rfl⟩ : tl2.pt = PT.grw (mkP its (ks.map fun c : VT k × Int => VT.pt c.1)) (pos (ltO ow) its x) md tl.pt r.pt ∧ o2 = none := (if_pos (c := its.length < 2 * w - 1) e).mp hcase
          refine (put1_lt (m := 2 * w - 1) (t := (mkP its (ks.map fun c : VT k × Int => VT.pt c.1))) hg hck hput e).trans ?_; rw [h1]; rfl
        · have hcase : ∃ md2 tr, its[w - 1]? = some md2 ∧ o2 = some (md2, tr) ∧ (if pos (ltO ow) its x < w then tl2.pt = PT.grw (PT.lo (w - 1) (mkP its (ks.map fun c : VT k × Int => VT.pt c.1))) (pos (ltO ow) its x) md tl.pt r.pt ∧ tr.pt = PT.hi (w - 1) (mkP its (ks.map fun c : VT k × Int => VT.pt c.1)) else tl2.pt = PT.lo (w - 1) (mkP its (ks.map fun c : VT k × Int => VT.pt c.1)) ∧ tr.pt = PT.grw (PT.hi (w - 1) (mkP its (ks.map fun c : VT k × Int => VT.pt c.1))) (pos (ltO ow) its x - w) md tl.pt r.pt) := (if_neg (c := its.length < 2 * w - 1) e).mp hcase
          obtain ⟨md2, tr, h1, rfl, h2⟩ := hcase; refine (put1_ge (m := 2 * w - 1) (t := (mkP its (ks.map fun c : VT k × Int => VT.pt c.1))) (md2 := md2) hg hck hput e (by rw [e2]; exact h1)).trans ?_; rw [e2, show w - 1 + 1 = w by omega]
          by_cases e3 : pos (ltO ow) its x < w
          · rw [if_pos e3] at h2
            rw [if_pos (show pos (ltO ow) its x ≤ w - 1 by omega)]
            show _ = (tl2.pt, some (md2, tr.pt))
            rw [h2.1, h2.2]
          · rw [if_neg e3] at h2
            rw [if_neg (show ¬ pos (ltO ow) its x ≤ w - 1 by omega)]
            show _ = (tl2.pt, some (md2, tr.pt))
            rw [h2.1, h2.2]
    unfold s_put.j5; refine St.r_loadN0 s 1 rfl (by simp) ?_; refine St.r_loadN0 s 0 rfl (by simp) ?_; refine St.r_loadN0 s 2 rfl (by simp) ?_; refine ⟨?_, ?_⟩
    · refine St.r_mkSl (sz := 3) (cs := encN (tri (tl, cl)) ++ encN (tri (r, cr))) s (by obtain ⟨_, _⟩ := akid.1.one; obtain ⟨_, _⟩ := ar.one; ((simp only [fillV, fill1, Value.cells, zeros_succ, zeros_zero, size_toArray, length_cons, length_nil, length_append, take_succ_cons, take_zero, take_nil, drop_succ_cons, drop_zero, drop_nil, cons_append, nil_append, append_nil, Nat.reduceAdd, Nat.reduceMul, Nat.reduceLeDiff, Nat.reduceEqDiff, and_self, and_true, true_and, if_true, Nat.le_refl, Nat.zero_add, Nat.add_zero, Nat.zero_mul, reduceIte, if_false] <;> rfl))) rfl fun q h3 s wq => ?_
      refine ⟨St.r_stillN0 s 2 (j := 0) rfl (by simp) rfl, ?_⟩
      refine St.r_storeN0 s 4 (ys := enc md) rfl rfl (by simp) (enc1 md) ?_; intro h3 s
      have s : St h [] ((q, 0, (encN (tri (tl, cl)) ++ encN (tri (r, cr))) ++ []) :: (t16, 0, [tl.vi, tl.vk, .int .i64 cl]) :: (t17, 0, enc md) :: (t18, 0, [r.vi, r.vk, .int .i64 cr]) :: (t14, 0, enc md) :: (t10, 0, zN) :: (t9, 0, enc emp) :: (t8, 0, zN) :: (t7, 0, enc x) :: (t6, 0, [vi, vk, vc]) :: (A ++ R)) h3 := s
      exact go (s.perm (by ((apply perm_rg; intro f; simp only [set_cons_zero, set_cons_succ, eraseIdx_cons_zero, eraseIdx_cons_succ, cons_append, nil_append, map_append, map_cons, map_nil, List.sum_append, List.sum_cons, List.sum_nil, map_flatMap, Nat.add_zero, Nat.zero_add]; ac_rfl)))) wq
    · refine St.r_storeN0 s 3 (ys := enc md) rfl rfl (by simp) (enc1 md) ?_; intro h3 s
      have s : St h [] ((t16, 0, [tl.vi, tl.vk, .int .i64 cl]) :: (t17, 0, enc md) :: (t18, 0, [r.vi, r.vk, .int .i64 cr]) :: (t14, 0, enc md) :: (t10, 0, zN) :: (t9, 0, enc emp) :: (t8, 0, zN) :: (t7, 0, enc x) :: (t6, 0, [vi, vk, vc]) :: (A ++ R)) h3 := s
      refine ⟨St.r_stillN0 s 0 (j := 0) rfl (by simp) rfl, St.r_stillN0 s 2 (j := 0) rfl (by simp) rfl, ?_⟩
      refine St.r_mkSl (sz := 3) (cs := encN (tri (tl, cl)) ++ encN (tri (r, cr))) s (by obtain ⟨_, _⟩ := akid.1.one; obtain ⟨_, _⟩ := ar.one; ((simp only [fillV, fill1, Value.cells, zeros_succ, zeros_zero, size_toArray, length_cons, length_nil, length_append, take_succ_cons, take_zero, take_nil, drop_succ_cons, drop_zero, drop_nil, cons_append, nil_append, append_nil, Nat.reduceAdd, Nat.reduceMul, Nat.reduceLeDiff, Nat.reduceEqDiff, and_self, and_true, true_and, if_true, Nat.le_refl, Nat.zero_add, Nat.add_zero, Nat.zero_mul, reduceIte, if_false] <;> rfl))) rfl fun q h3 s wq => ?_; exact go (s.perm (by ((apply perm_rg; intro f; simp only [set_cons_zero, set_cons_succ, eraseIdx_cons_zero, eraseIdx_cons_succ, cons_append, nil_append, map_append, map_cons, map_nil, List.sum_append, List.sum_cons, List.sum_nil, map_flatMap, Nat.add_zero, Nat.zero_add]; ac_rfl)))) wq
theorem put_inner {k : Nat} {ow : List Int} {ov : Value} {w : Nat} (hw : 2 ≤ w) (hw2 : w ≤ 512) (ih : PutOk ow ov w k) : PutOk ow ov w (k + 1) := by
  intro t lo h Q vc x ho ha hvc fl hb H
  have ha0 := ha
  have fl0 := fl
  obtain ⟨⟨its, vi, vk⟩, ks⟩ : (List It × Value × Value) × List (VT k × Int) := t; obtain ⟨hr, hk, hkids⟩ : Rdl 2 h vi its.length (its.flatMap enc) ∧ Rdl 3 h vk ks.length ((ks.map tri).flatMap encN) ∧ ∀ c, c ∈ ks → ArgV h c.1 := ha; obtain ⟨f1, f2, f3, f4⟩ : lo ≤ its.length ∧ its.length ≤ 2 * w - 1 ∧ (ks.map fun c : VT k × Int => VT.pt c.1).length = its.length + 1 ∧ ∀ c, c ∈ (ks.map fun c : VT k × Int => VT.pt c.1) → PT.Fl (2 * w - 1) ((2 * w - 1) / 2) c := id fl; rw [List.length_map] at f3
  have hpl := pos_le (lt := ltO ow) its x
  refine s_put.body _ _ _ _ _ _ ?_; unfold s_put.sh
  have s := St.start h
  refine St.r_box (cs := [vi, vk, vc]) s fun t6 h1 s => ?_; refine St.r_box (cs := enc x) s fun t7 h1 s => ?_; refine s.r_alloc fun t8 h1 s => ?_; refine s.r_alloc fun t9 h1 s => ?_; refine s.r_alloc fun t10 h1 s => ?_; refine St.r_loadN0 s 4 rfl (by simp) ?_; refine St.r_loadN0 s 3 rfl (by simp) ?_; refine child_ok (x := x) (ho.st s) (hr.st s) hk.one hvc (by omega) fun E1 h1 s1 => ?_
  have s := (s.join s1).perm List.perm_append_comm
  have s : St h [] ((t10, 0, zN) :: (t9, 0, enc emp) :: (t8, 0, zN) :: (t7, 0, enc x) :: (t6, 0, [vi, vk, vc]) :: E1) h1 := s
  refine r_ext rfl ?_; refine r_ext rfl ?_
  cases hg : lget (ltO ow) its x with
  | some y =>
    have ep := put1_some (m := 2 * w - 1) (t := (mkP its (ks.map fun c : VT k × Int => VT.pt c.1))) hg
    obtain ⟨hp, _⟩ := lget_some hg; refine r_if (fun _ => ?_) (fun e => absurd e (by simp))
    refine r_fld (n := 0) ?_; refine St.r_load0 s 4 rfl rfl ?_; refine St.r_loadN0 s 3 rfl (by simp) ?_; refine r_fld (n := 1) ?_; refine St.r_load0 s 4 rfl rfl ?_
    ((apply r_build; ((simp only [fillV, fill1, Value.cells, zeros_succ, zeros_zero, size_toArray, length_cons, length_nil, length_append, take_succ_cons, take_zero, take_nil, drop_succ_cons, drop_zero, drop_nil, cons_append, nil_append, append_nil, Nat.reduceAdd, Nat.reduceMul, Nat.reduceLeDiff, Nat.reduceEqDiff, and_self, and_true, true_and, if_true, Nat.le_refl, Nat.zero_add, Nat.add_zero, Nat.zero_mul, reduceIte, if_false] <;> rfl))))
    ((apply r_build; ((simp only [fillV, fill1, Value.cells, zeros_succ, zeros_zero, size_toArray, length_cons, length_nil, length_append, take_succ_cons, take_zero, take_nil, drop_succ_cons, drop_zero, drop_nil, cons_append, nil_append, append_nil, Nat.reduceAdd, Nat.reduceMul, Nat.reduceLeDiff, Nat.reduceEqDiff, and_self, and_true, true_and, if_true, Nat.le_refl, Nat.zero_add, Nat.add_zero, Nat.zero_mul, reduceIte, if_false] <;> rfl))))
    refine changedI_ok (y := x) (hr.st s) (itsOne its) (enc1 x) hp (by omega) fun v' b o sp E2 h2 w2 s2 => ?_
    have s := (s.join s2).perm List.perm_append_comm
    refine ⟨St.r_still0 s 4 rfl rfl, ?_⟩
    refine r_build (cs := [v', vk, .int .i64 0]) (by obtain ⟨_, _, e0, _⟩ := w2; subst e0; obtain ⟨_, _, e1, _⟩ := hk; subst e1; ((simp only [fillV, fill1, Value.cells, zeros_succ, zeros_zero, size_toArray, length_cons, length_nil, length_append, take_succ_cons, take_zero, take_nil, drop_succ_cons, drop_zero, drop_nil, cons_append, nil_append, append_nil, Nat.reduceAdd, Nat.reduceMul, Nat.reduceLeDiff, Nat.reduceEqDiff, and_self, and_true, true_and, if_true, Nat.le_refl, Nat.zero_add, Nat.add_zero, Nat.zero_mul, reduceIte, if_false] <;> rfl))) ?_; refine St.r_storeN0 s 2 (ys := [v', vk, .int .i64 0]) rfl rfl (by simp) (one3 w2.one hk.one rfl) ?_; intro h2 s
    refine St.r_storeN0 s 1 (ys := enc emp) rfl rfl (by simp) (enc1 emp) ?_; intro h2 s
    refine St.r_storeN0 s 0 (ys := zN) rfl rfl (by simp) (one3 rfl rfl rfl) ?_; intro h2 s
    have s : St h [] ((t10, 0, zN) :: (t9, 0, enc emp) :: (t8, 0, [v', vk, .int .i64 0]) :: (t7, 0, enc x) :: (t6, 0, [vi, vk, vc]) :: (E1 ++ ((b, o, (its.set (pos (ltO ow) its x) x).flatMap enc ++ sp) :: E2))) h2 := s
    refine St.r_loadN0 s 2 rfl (by simp) ?_; refine St.r_loadN0 s 1 rfl (by simp) ?_; refine St.r_loadN0 s 0 rfl (by simp) ?_; refine H (((its.set (pos (ltO ow) its x) x, v', vk), ks) : VT (k + 1)) 0 none 0 [(b, o, (its.set (pos (ltO ow) its x) x).flatMap enc ++ sp)] ((t10, 0, zN) :: (t9, 0, enc emp) :: (t8, 0, [v', vk, .int .i64 0]) :: (t7, 0, enc x) :: (t6, 0, [vi, vk, vc]) :: (E1 ++ E2)) h2 (ep.trans (by rw [lput_set hg]; rfl)) (s.perm (by ((apply perm_rg; intro f; simp only [set_cons_zero, set_cons_succ, eraseIdx_cons_zero, eraseIdx_cons_succ, cons_append, nil_append, map_append, map_cons, map_nil, List.sum_append, List.sum_cons, List.sum_nil, map_flatMap, Nat.add_zero, Nat.zero_add]; ac_rfl)))) fun g a hg => ⟨⟨w2.rdlO (hg _ (List.mem_cons_self ..)), a.2⟩, fun p hp => by cases hp⟩
  | none =>
    have hpk : pos (ltO ow) its x < ks.length := by omega
    have hc : ks[pos (ltO ow) its x]? = some (ks[pos (ltO ow) its x]'hpk) := List.getElem?_eq_getElem hpk
    have hcm : ks[pos (ltO ow) its x]'hpk ∈ ks := List.getElem_mem hpk
    have hkm : (ks.map tri).length = ks.length := List.length_map ..
    refine r_if (fun e => absurd e (by simp)) (fun _ => ?_)
    unfold s_put.j1; refine St.r_loadN0 s 3 rfl (by simp) ?_; refine St.r_mkSl (sz := 3) (cs := []) s (by ((simp only [fillV, fill1, Value.cells, zeros_succ, zeros_zero, size_toArray, length_cons, length_nil, length_append, take_succ_cons, take_zero, take_nil, drop_succ_cons, drop_zero, drop_nil, cons_append, nil_append, append_nil, Nat.reduceAdd, Nat.reduceMul, Nat.reduceLeDiff, Nat.reduceEqDiff, and_self, and_true, true_and, if_true, Nat.le_refl, Nat.zero_add, Nat.add_zero, Nat.zero_mul, reduceIte, if_false] <;> rfl))) rfl fun q h1 s wq => ?_; refine s.r_alloc fun t14 h1 s => ?_; refine St.r_storeN0 s 0 (ys := enc x) rfl rfl (by simp) (enc1 x) ?_; intro h1 s
    refine r_fld (n := 1) ?_; refine St.r_load0 s 6 rfl rfl ?_; refine (hk.st s).lenV ?_; refine r_cmpI ?_; refine r_if (fun _ => ?_) (fun e => absurd (of_decide_eq_false e) (by omega))
    refine r_fld (n := 1) ?_; refine St.r_load0 s 6 rfl rfl ?_; refine Rdl.at (l := ks.map tri) hk rfl encNl (n := pos (ltO ow) its x) rfl hkm.symm (by omega) fun bb bo hbb => ?_
    have hbe : (ks.map tri)[pos (ltO ow) its x]'(by omega) = tri (ks[pos (ltO ow) its x]'hpk) := List.getElem_map ..
    rw [hbe] at hbb; refine (hbb.st s).loadN rfl ?_; refine St.r_loadN0 s 5 rfl (by simp) ?_
    have s : St h [] ((t14, 0, enc x) :: (t10, 0, zN) :: (t9, 0, enc emp) :: (t8, 0, zN) :: (t7, 0, enc x) :: (t6, 0, [vi, vk, vc]) :: (q, 0, []) :: E1) h1 := s.perm (by ((apply perm_rg; intro f; simp only [set_cons_zero, set_cons_succ, eraseIdx_cons_zero, eraseIdx_cons_succ, cons_append, nil_append, map_append, map_cons, map_nil, List.sum_append, List.sum_cons, List.sum_nil, map_flatMap, Nat.add_zero, Nat.zero_add]; ac_rfl)))
    have hfc : (ks[pos (ltO ow) its x]'hpk).1.pt.Fl (2 * w - 1) ((2 * w - 1) / 2) := f4 _ (List.mem_map.2 ⟨_, hcm, rfl⟩)
    have hcb : (toD (ks[pos (ltO ow) its x]'hpk).1.pt).bulk ≤ 1073741823 := by
      have h1 := DT.kid_le (toD (VT.pt (k := k + 1) ((its, vi, vk), ks))) (q := toD (ks[pos (ltO ow) its x]'hpk).1.pt) (List.mem_map.2 ⟨_, List.mem_map.2 ⟨_, hcm, rfl⟩, rfl⟩)
      omega
    have ac := hkids _ hcm
    have tail : ∀ {tl : VT k} {cl : Int} {o : Option (It × VT k)} {cr : Int} {A E2 : List Rg} {t16 t17 t18 : Nat} {h2 : Heap}, (ks[pos (ltO ow) its x]'hpk).1.pt.put (ltO ow) (2 * w - 1) x = (tl.pt, o.map fun p => (p.1, p.2.pt)) → (∀ g, ArgV g (ks[pos (ltO ow) its x]'hpk).1 → (∀ r ∈ A, r.Ok g) → ArgV g tl ∧ ∀ p, o = some p → ArgV g p.2) →
        St h [] ((t16, 0, zN) :: (t17, 0, enc emp) :: (t18, 0, zN) :: (t14, 0, enc x) :: (t10, 0, zN) :: (t9, 0, enc emp) :: (t8, 0, zN) :: (t7, 0, enc x) :: (t6, 0, [vi, vk, vc]) :: (A ++ (E2 ++ ((q, 0, []) :: E1)))) h2 →
        putTail (.int .i64 (w : Nat)) (ptr t6 0) (ptr t8 0) (ptr t9 0) (ptr t10 0) (.int .i64 (pos (ltO ow) its x : Nat)) (ptr t14 0) (.agg #[tl.vi, tl.vk, .int .i64 cl]) (av ((o.map Prod.fst).getD emp)) (.agg (RO o cr).toArray) (.bool o.isSome) (ptr t16 0) (ptr t17 0) (ptr t18 0) h2 Q := fun {tl cl o cr A E2 t16 t17 t18 h2} hput hA s =>
      putTail_ok (t := (((its, vi, vk), ks) : VT (k + 1))) ha0 hvc hw hw2 fl0 hb hg hc hput hA s H
    clear H; refine ⟨?_, ?_, ?_, ?_⟩
    · refine ih (ks[pos (ltO ow) its x]'hpk).1 (ho.st s) (ac.fr s.fr) rfl hfc hcb fun tl cl o cr A E2 h2 hput s2 hA => ?_
      have s := (s.join s2).perm List.perm_append_comm
      refine r_ext rfl ?_; refine r_ext rfl ?_; refine r_ext rfl ?_; refine r_ext rfl ?_; refine ⟨?_, ?_, ?_⟩
      · refine s.r_alloc fun t16 h2 s => ?_
        refine ⟨?_, ?_⟩
        · refine s.r_alloc fun t17 h2 s => ?_
          refine s.r_alloc fun t18 h2 s => ?_; exact tail (A := A) (E2 := E2) hput hA (s.perm (by ((apply perm_rg; intro f; simp only [set_cons_zero, set_cons_succ, eraseIdx_cons_zero, eraseIdx_cons_succ, cons_append, nil_append, map_append, map_cons, map_nil, List.sum_append, List.sum_cons, List.sum_nil, map_flatMap, Nat.add_zero, Nat.zero_add]; ac_rfl))))
        · refine s.r_alloc fun t18 h2 s => ?_
          refine s.r_alloc fun t17 h2 s => ?_; exact tail (A := A) (E2 := E2) hput hA (s.perm (by ((apply perm_rg; intro f; simp only [set_cons_zero, set_cons_succ, eraseIdx_cons_zero, eraseIdx_cons_succ, cons_append, nil_append, map_append, map_cons, map_nil, List.sum_append, List.sum_cons, List.sum_nil, map_flatMap, Nat.add_zero, Nat.zero_add]; ac_rfl))))
      · refine s.r_alloc fun t17 h2 s => ?_
        refine ⟨?_, ?_⟩
        · refine s.r_alloc fun t16 h2 s => ?_
          refine s.r_alloc fun t18 h2 s => ?_; exact tail (A := A) (E2 := E2) hput hA (s.perm (by ((apply perm_rg; intro f; simp only [set_cons_zero, set_cons_succ, eraseIdx_cons_zero, eraseIdx_cons_succ, cons_append, nil_append, map_append, map_cons, map_nil, List.sum_append, List.sum_cons, List.sum_nil, map_flatMap, Nat.add_zero, Nat.zero_add]; ac_rfl))))
        · refine s.r_alloc fun t18 h2 s => ?_
          refine s.r_alloc fun t16 h2 s => ?_; exact tail (A := A) (E2 := E2) hput hA (s.perm (by ((apply perm_rg; intro f; simp only [set_cons_zero, set_cons_succ, eraseIdx_cons_zero, eraseIdx_cons_succ, cons_append, nil_append, map_append, map_cons, map_nil, List.sum_append, List.sum_cons, List.sum_nil, map_flatMap, Nat.add_zero, Nat.zero_add]; ac_rfl))))
      · refine s.r_alloc fun t18 h2 s => ?_
        refine ⟨?_, ?_⟩
        · refine s.r_alloc fun t16 h2 s => ?_
          refine s.r_alloc fun t17 h2 s => ?_; exact tail (A := A) (E2 := E2) hput hA (s.perm (by ((apply perm_rg; intro f; simp only [set_cons_zero, set_cons_succ, eraseIdx_cons_zero, eraseIdx_cons_succ, cons_append, nil_append, map_append, map_cons, map_nil, List.sum_append, List.sum_cons, List.sum_nil, map_flatMap, Nat.add_zero, Nat.zero_add]; ac_rfl))))
        · refine s.r_alloc fun t17 h2 s => ?_
          refine s.r_alloc fun t16 h2 s => ?_; exact tail (A := A) (E2 := E2) hput hA (s.perm (by ((apply perm_rg; intro f; simp only [set_cons_zero, set_cons_succ, eraseIdx_cons_zero, eraseIdx_cons_succ, cons_append, nil_append, map_append, map_cons, map_nil, List.sum_append, List.sum_cons, List.sum_nil, map_flatMap, Nat.add_zero, Nat.zero_add]; ac_rfl))))
    · refine s.r_alloc fun t16 h2 s => ?_
      refine ⟨St.r_still0 s 6 rfl rfl, (hbb.st s).stillN rfl, St.r_stillN0 s 5 (j := 0) rfl (by simp) rfl, ?_⟩
      refine ⟨?_, ?_, ?_⟩
      · refine ih (ks[pos (ltO ow) its x]'hpk).1 (ho.st s) (ac.fr s.fr) rfl hfc hcb fun tl cl o cr A E2 h2 hput s2 hA => ?_
        have s := (s.join s2).perm List.perm_append_comm
        refine r_ext rfl ?_; refine r_ext rfl ?_; refine r_ext rfl ?_; refine r_ext rfl ?_; refine ⟨?_, ?_⟩
        · refine s.r_alloc fun t17 h2 s => ?_
          refine s.r_alloc fun t18 h2 s => ?_; exact tail (A := A) (E2 := E2) hput hA (s.perm (by ((apply perm_rg; intro f; simp only [set_cons_zero, set_cons_succ, eraseIdx_cons_zero, eraseIdx_cons_succ, cons_append, nil_append, map_append, map_cons, map_nil, List.sum_append, List.sum_cons, List.sum_nil, map_flatMap, Nat.add_zero, Nat.zero_add]; ac_rfl))))
        · refine s.r_alloc fun t18 h2 s => ?_
          refine s.r_alloc fun t17 h2 s => ?_; exact tail (A := A) (E2 := E2) hput hA (s.perm (by ((apply perm_rg; intro f; simp only [set_cons_zero, set_cons_succ, eraseIdx_cons_zero, eraseIdx_cons_succ, cons_append, nil_append, map_append, map_cons, map_nil, List.sum_append, List.sum_cons, List.sum_nil, map_flatMap, Nat.add_zero, Nat.zero_add]; ac_rfl))))
      · refine s.r_alloc fun t17 h2 s => ?_
        refine ⟨St.r_still0 s 7 rfl rfl, (hbb.st s).stillN rfl, St.r_stillN0 s 6 (j := 0) rfl (by simp) rfl, ?_⟩
        refine ⟨?_, ?_⟩
        · refine ih (ks[pos (ltO ow) its x]'hpk).1 (ho.st s) (ac.fr s.fr) rfl hfc hcb fun tl cl o cr A E2 h2 hput s2 hA => ?_
          have s := (s.join s2).perm List.perm_append_comm
          refine r_ext rfl ?_; refine r_ext rfl ?_; refine r_ext rfl ?_; refine r_ext rfl ?_; refine s.r_alloc fun t18 h2 s => ?_; exact tail (A := A) (E2 := E2) hput hA (s.perm (by ((apply perm_rg; intro f; simp only [set_cons_zero, set_cons_succ, eraseIdx_cons_zero, eraseIdx_cons_succ, cons_append, nil_append, map_append, map_cons, map_nil, List.sum_append, List.sum_cons, List.sum_nil, map_flatMap, Nat.add_zero, Nat.zero_add]; ac_rfl))))
        · refine s.r_alloc fun t18 h2 s => ?_
          refine ⟨St.r_still0 s 8 rfl rfl, (hbb.st s).stillN rfl, St.r_stillN0 s 7 (j := 0) rfl (by simp) rfl, ?_⟩
          refine ih (ks[pos (ltO ow) its x]'hpk).1 (ho.st s) (ac.fr s.fr) rfl hfc hcb fun tl cl o cr A E2 h2 hput s2 hA => ?_
          have s := (s.join s2).perm List.perm_append_comm
          refine r_ext rfl ?_; refine r_ext rfl ?_; refine r_ext rfl ?_; refine r_ext rfl ?_; exact tail (A := A) (E2 := E2) hput hA (s.perm (by ((apply perm_rg; intro f; simp only [set_cons_zero, set_cons_succ, eraseIdx_cons_zero, eraseIdx_cons_succ, cons_append, nil_append, map_append, map_cons, map_nil, List.sum_append, List.sum_cons, List.sum_nil, map_flatMap, Nat.add_zero, Nat.zero_add]; ac_rfl))))
      · refine s.r_alloc fun t18 h2 s => ?_
        refine ⟨St.r_still0 s 7 rfl rfl, (hbb.st s).stillN rfl, St.r_stillN0 s 6 (j := 0) rfl (by simp) rfl, ?_⟩
        refine ⟨?_, ?_⟩
        · refine ih (ks[pos (ltO ow) its x]'hpk).1 (ho.st s) (ac.fr s.fr) rfl hfc hcb fun tl cl o cr A E2 h2 hput s2 hA => ?_
          have s := (s.join s2).perm List.perm_append_comm
          refine r_ext rfl ?_; refine r_ext rfl ?_; refine r_ext rfl ?_; refine r_ext rfl ?_; refine s.r_alloc fun t17 h2 s => ?_; exact tail (A := A) (E2 := E2) hput hA (s.perm (by ((apply perm_rg; intro f; simp only [set_cons_zero, set_cons_succ, eraseIdx_cons_zero, eraseIdx_cons_succ, cons_append, nil_append, map_append, map_cons, map_nil, List.sum_append, List.sum_cons, List.sum_nil, map_flatMap, Nat.add_zero, Nat.zero_add]; ac_rfl))))
        · refine s.r_alloc fun t17 h2 s => ?_
          refine ⟨St.r_still0 s 8 rfl rfl, (hbb.st s).stillN rfl, St.r_stillN0 s 7 (j := 0) rfl (by simp) rfl, ?_⟩
          refine ih (ks[pos (ltO ow) its x]'hpk).1 (ho.st s) (ac.fr s.fr) rfl hfc hcb fun tl cl o cr A E2 h2 hput s2 hA => ?_
          have s := (s.join s2).perm List.perm_append_comm
          refine r_ext rfl ?_; refine r_ext rfl ?_; refine r_ext rfl ?_; refine r_ext rfl ?_; exact tail (A := A) (E2 := E2) hput hA (s.perm (by ((apply perm_rg; intro f; simp only [set_cons_zero, set_cons_succ, eraseIdx_cons_zero, eraseIdx_cons_succ, cons_append, nil_append, map_append, map_cons, map_nil, List.sum_append, List.sum_cons, List.sum_nil, map_flatMap, Nat.add_zero, Nat.zero_add]; ac_rfl))))
    · refine s.r_alloc fun t17 h2 s => ?_
      refine ⟨St.r_still0 s 6 rfl rfl, (hbb.st s).stillN rfl, St.r_stillN0 s 5 (j := 0) rfl (by simp) rfl, ?_⟩
      refine ⟨?_, ?_, ?_⟩
      · refine ih (ks[pos (ltO ow) its x]'hpk).1 (ho.st s) (ac.fr s.fr) rfl hfc hcb fun tl cl o cr A E2 h2 hput s2 hA => ?_
        have s := (s.join s2).perm List.perm_append_comm
        refine r_ext rfl ?_; refine r_ext rfl ?_; refine r_ext rfl ?_; refine r_ext rfl ?_; refine ⟨?_, ?_⟩
        · refine s.r_alloc fun t16 h2 s => ?_
          refine s.r_alloc fun t18 h2 s => ?_; exact tail (A := A) (E2 := E2) hput hA (s.perm (by ((apply perm_rg; intro f; simp only [set_cons_zero, set_cons_succ, eraseIdx_cons_zero, eraseIdx_cons_succ, cons_append, nil_append, map_append, map_cons, map_nil, List.sum_append, List.sum_cons, List.sum_nil, map_flatMap, Nat.add_zero, Nat.zero_add]; ac_rfl))))
        · refine s.r_alloc fun t18 h2 s => ?_
          refine s.r_alloc fun t16 h2 s => ?_; exact tail (A := A) (E2 := E2) hput hA (s.perm (by ((apply perm_rg; intro f; simp only [set_cons_zero, set_cons_succ, eraseIdx_cons_zero, eraseIdx_cons_succ, cons_append, nil_append, map_append, map_cons, map_nil, List.sum_append, List.sum_cons, List.sum_nil, map_flatMap, Nat.add_zero, Nat.zero_add]; ac_rfl))))
      · refine s.r_alloc fun t16 h2 s => ?_
        refine ⟨St.r_still0 s 7 rfl rfl, (hbb.st s).stillN rfl, St.r_stillN0 s 6 (j := 0) rfl (by simp) rfl, ?_⟩
        refine ⟨?_, ?_⟩
        · refine ih (ks[pos (ltO ow) its x]'hpk).1 (ho.st s) (ac.fr s.fr) rfl hfc hcb fun tl cl o cr A E2 h2 hput s2 hA => ?_
          have s := (s.join s2).perm List.perm_append_comm
          refine r_ext rfl ?_; refine r_ext rfl ?_; refine r_ext rfl ?_; refine r_ext rfl ?_; refine s.r_alloc fun t18 h2 s => ?_; exact tail (A := A) (E2 := E2) hput hA (s.perm (by ((apply perm_rg; intro f; simp only [set_cons_zero, set_cons_succ, eraseIdx_cons_zero, eraseIdx_cons_succ, cons_append, nil_append, map_append, map_cons, map_nil, List.sum_append, List.sum_cons, List.sum_nil, map_flatMap, Nat.add_zero, Nat.zero_add]; ac_rfl))))
        · refine s.r_alloc fun t18 h2 s => ?_
          refine ⟨St.r_still0 s 8 rfl rfl, (hbb.st s).stillN rfl, St.r_stillN0 s 7 (j := 0) rfl (by simp) rfl, ?_⟩
          refine ih (ks[pos (ltO ow) its x]'hpk).1 (ho.st s) (ac.fr s.fr) rfl hfc hcb fun tl cl o cr A E2 h2 hput s2 hA => ?_
          have s := (s.join s2).perm List.perm_append_comm
          refine r_ext rfl ?_; refine r_ext rfl ?_; refine r_ext rfl ?_; refine r_ext rfl ?_; exact tail (A := A) (E2 := E2) hput hA (s.perm (by ((apply perm_rg; intro f; simp only [set_cons_zero, set_cons_succ, eraseIdx_cons_zero, eraseIdx_cons_succ, cons_append, nil_append, map_append, map_cons, map_nil, List.sum_append, List.sum_cons, List.sum_nil, map_flatMap, Nat.add_zero, Nat.zero_add]; ac_rfl))))
      · refine s.r_alloc fun t18 h2 s => ?_
        refine ⟨St.r_still0 s 7 rfl rfl, (hbb.st s).stillN rfl, St.r_stillN0 s 6 (j := 0) rfl (by simp) rfl, ?_⟩
        refine ⟨?_, ?_⟩
        · refine ih (ks[pos (ltO ow) its x]'hpk).1 (ho.st s) (ac.fr s.fr) rfl hfc hcb fun tl cl o cr A E2 h2 hput s2 hA => ?_
          have s := (s.join s2).perm List.perm_append_comm
          refine r_ext rfl ?_; refine r_ext rfl ?_; refine r_ext rfl ?_; refine r_ext rfl ?_; refine s.r_alloc fun t16 h2 s => ?_; exact tail (A := A) (E2 := E2) hput hA (s.perm (by ((apply perm_rg; intro f; simp only [set_cons_zero, set_cons_succ, eraseIdx_cons_zero, eraseIdx_cons_succ, cons_append, nil_append, map_append, map_cons, map_nil, List.sum_append, List.sum_cons, List.sum_nil, map_flatMap, Nat.add_zero, Nat.zero_add]; ac_rfl))))
        · refine s.r_alloc fun t16 h2 s => ?_
          refine ⟨St.r_still0 s 8 rfl rfl, (hbb.st s).stillN rfl, St.r_stillN0 s 7 (j := 0) rfl (by simp) rfl, ?_⟩
          refine ih (ks[pos (ltO ow) its x]'hpk).1 (ho.st s) (ac.fr s.fr) rfl hfc hcb fun tl cl o cr A E2 h2 hput s2 hA => ?_
          have s := (s.join s2).perm List.perm_append_comm
          refine r_ext rfl ?_; refine r_ext rfl ?_; refine r_ext rfl ?_; refine r_ext rfl ?_; exact tail (A := A) (E2 := E2) hput hA (s.perm (by ((apply perm_rg; intro f; simp only [set_cons_zero, set_cons_succ, eraseIdx_cons_zero, eraseIdx_cons_succ, cons_append, nil_append, map_append, map_cons, map_nil, List.sum_append, List.sum_cons, List.sum_nil, map_flatMap, Nat.add_zero, Nat.zero_add]; ac_rfl))))
    · refine s.r_alloc fun t18 h2 s => ?_
      refine ⟨St.r_still0 s 6 rfl rfl, (hbb.st s).stillN rfl, St.r_stillN0 s 5 (j := 0) rfl (by simp) rfl, ?_⟩
      refine ⟨?_, ?_, ?_⟩
      · refine ih (ks[pos (ltO ow) its x]'hpk).1 (ho.st s) (ac.fr s.fr) rfl hfc hcb fun tl cl o cr A E2 h2 hput s2 hA => ?_
        have s := (s.join s2).perm List.perm_append_comm
        refine r_ext rfl ?_; refine r_ext rfl ?_; refine r_ext rfl ?_; refine r_ext rfl ?_; refine ⟨?_, ?_⟩
        · refine s.r_alloc fun t16 h2 s => ?_
          refine s.r_alloc fun t17 h2 s => ?_; exact tail (A := A) (E2 := E2) hput hA (s.perm (by ((apply perm_rg; intro f; simp only [set_cons_zero, set_cons_succ, eraseIdx_cons_zero, eraseIdx_cons_succ, cons_append, nil_append, map_append, map_cons, map_nil, List.sum_append, List.sum_cons, List.sum_nil, map_flatMap, Nat.add_zero, Nat.zero_add]; ac_rfl))))
        · refine s.r_alloc fun t17 h2 s => ?_
          refine s.r_alloc fun t16 h2 s => ?_; exact tail (A := A) (E2 := E2) hput hA (s.perm (by ((apply perm_rg; intro f; simp only [set_cons_zero, set_cons_succ, eraseIdx_cons_zero, eraseIdx_cons_succ, cons_append, nil_append, map_append, map_cons, map_nil, List.sum_append, List.sum_cons, List.sum_nil, map_flatMap, Nat.add_zero, Nat.zero_add]; ac_rfl))))
      · refine s.r_alloc fun t16 h2 s => ?_
        refine ⟨St.r_still0 s 7 rfl rfl, (hbb.st s).stillN rfl, St.r_stillN0 s 6 (j := 0) rfl (by simp) rfl, ?_⟩
        refine ⟨?_, ?_⟩
        · refine ih (ks[pos (ltO ow) its x]'hpk).1 (ho.st s) (ac.fr s.fr) rfl hfc hcb fun tl cl o cr A E2 h2 hput s2 hA => ?_
          have s := (s.join s2).perm List.perm_append_comm
          refine r_ext rfl ?_; refine r_ext rfl ?_; refine r_ext rfl ?_; refine r_ext rfl ?_; refine s.r_alloc fun t17 h2 s => ?_; exact tail (A := A) (E2 := E2) hput hA (s.perm (by ((apply perm_rg; intro f; simp only [set_cons_zero, set_cons_succ, eraseIdx_cons_zero, eraseIdx_cons_succ, cons_append, nil_append, map_append, map_cons, map_nil, List.sum_append, List.sum_cons, List.sum_nil, map_flatMap, Nat.add_zero, Nat.zero_add]; ac_rfl))))
        · refine s.r_alloc fun t17 h2 s => ?_
          refine ⟨St.r_still0 s 8 rfl rfl, (hbb.st s).stillN rfl, St.r_stillN0 s 7 (j := 0) rfl (by simp) rfl, ?_⟩
          refine ih (ks[pos (ltO ow) its x]'hpk).1 (ho.st s) (ac.fr s.fr) rfl hfc hcb fun tl cl o cr A E2 h2 hput s2 hA => ?_
          have s := (s.join s2).perm List.perm_append_comm
          refine r_ext rfl ?_; refine r_ext rfl ?_; refine r_ext rfl ?_; refine r_ext rfl ?_; exact tail (A := A) (E2 := E2) hput hA (s.perm (by ((apply perm_rg; intro f; simp only [set_cons_zero, set_cons_succ, eraseIdx_cons_zero, eraseIdx_cons_succ, cons_append, nil_append, map_append, map_cons, map_nil, List.sum_append, List.sum_cons, List.sum_nil, map_flatMap, Nat.add_zero, Nat.zero_add]; ac_rfl))))
      · refine s.r_alloc fun t17 h2 s => ?_
        refine ⟨St.r_still0 s 7 rfl rfl, (hbb.st s).stillN rfl, St.r_stillN0 s 6 (j := 0) rfl (by simp) rfl, ?_⟩
        refine ⟨?_, ?_⟩
        · refine ih (ks[pos (ltO ow) its x]'hpk).1 (ho.st s) (ac.fr s.fr) rfl hfc hcb fun tl cl o cr A E2 h2 hput s2 hA => ?_
          have s := (s.join s2).perm List.perm_append_comm
          refine r_ext rfl ?_; refine r_ext rfl ?_; refine r_ext rfl ?_; refine r_ext rfl ?_; refine s.r_alloc fun t16 h2 s => ?_; exact tail (A := A) (E2 := E2) hput hA (s.perm (by ((apply perm_rg; intro f; simp only [set_cons_zero, set_cons_succ, eraseIdx_cons_zero, eraseIdx_cons_succ, cons_append, nil_append, map_append, map_cons, map_nil, List.sum_append, List.sum_cons, List.sum_nil, map_flatMap, Nat.add_zero, Nat.zero_add]; ac_rfl))))
        · refine s.r_alloc fun t16 h2 s => ?_
          refine ⟨St.r_still0 s 8 rfl rfl, (hbb.st s).stillN rfl, St.r_stillN0 s 7 (j := 0) rfl (by simp) rfl, ?_⟩
          refine ih (ks[pos (ltO ow) its x]'hpk).1 (ho.st s) (ac.fr s.fr) rfl hfc hcb fun tl cl o cr A E2 h2 hput s2 hA => ?_
          have s := (s.join s2).perm List.perm_append_comm
          refine r_ext rfl ?_; refine r_ext rfl ?_; refine r_ext rfl ?_; refine r_ext rfl ?_; exact tail (A := A) (E2 := E2) hput hA (s.perm (by ((apply perm_rg; intro f; simp only [set_cons_zero, set_cons_succ, eraseIdx_cons_zero, eraseIdx_cons_succ, cons_append, nil_append, map_append, map_cons, map_nil, List.sum_append, List.sum_cons, List.sum_nil, map_flatMap, Nat.add_zero, Nat.zero_add]; ac_rfl))))
theorem put_ok {ow : List Int} {ov : Value} {w : Nat} (hw : 2 ≤ w) (hw2 : w ≤ 512) : ∀ k, PutOk ow ov w k
  | 0 => put_leaf hw hw2
  | k + 1 => put_inner hw hw2 (put_ok hw hw2 k)
end Go.Proofs.Ytljecmjdmdjldaa.Gi
end
