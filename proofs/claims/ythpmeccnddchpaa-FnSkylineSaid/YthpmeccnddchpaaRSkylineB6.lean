/-
  Texts of this claim, laid together: Gy P0 Ra Rb Rc R8 P4 P6 Rv Gh Rd P7 Rs.
  Conditions: as each of them tells.
-/
import Derived.Test.YthpmeccnddchpaaRSkylineB5
set_option linter.unusedVariables false
set_option linter.unusedSimpArgs false
open List (set_cons_zero set_cons_succ eraseIdx_cons_zero eraseIdx_cons_succ cons_append nil_append map_append map_cons map_flatMap map_nil flatMap_cons flatMap_append flatMap_nil append_nil append_assoc length_cons length_nil length_append take_succ_cons drop_succ_cons take_zero drop_zero take_nil drop_nil size_toArray length_map)
section
namespace Go.Proofs.Ythpmeccnddchpaa.Gi
open Go.Hp Go.Proofs.Ythpmeccnddchpaa
variable {h0 h : Heap} {Z E : List Rg} {Q : Value → Heap → Prop} {lt : It → It → Bool} {lf : Value}
theorem Own.slcAll {α : Type} {f : α → List Value} {sz : Nat} (hf : ∀ x, (f x).length = sz) {K : Value → Prop} {v : Value} {b o : Nat} {L : List α} {sp : List Value} (w : Own sz v L.length b o (L.flatMap f) sp)
    (H : ∀ v', Own sz v' (L.drop 0).length b (o + 0 * sz) ((L.drop 0).flatMap f) sp → K v') : slc sz v none none none K := by
  have w0 := w
  obtain ⟨a, cap, e, h1, h2, h3, h4⟩ := w.ex; subst e; refine ⟨a, L.length, cap, 0, L.length, cap, rfl, rfl, rfl, rfl, H _ ?_⟩
  have ea : (if cap = 0 then a else a.map (·.add (0 * sz))) = a := by
    split
    · rfl
    · rw [Nat.zero_mul]; cases a <;> rfl
  rw [ea, List.drop_zero, Nat.zero_mul, Nat.add_zero, Nat.sub_zero, Nat.sub_zero]; exact w0
def bmp {It : Type} (sd : Bool) (δ : Int) : {h : Nat} → GT It h → GT It h
  | 0, d => ({ (d : Nd It) with cnt := Nd.cnt d + δ } : Nd It)
  | _ + 1, t => ({ t.1 with cnt := t.1.cnt + δ }, t.2.modify (if sd then t.2.length - 1 else 0) (bmp sd δ))
theorem bmp_id {It : Type} {sd : Bool} {δ : Int} : ∀ {h : Nat} (t : GT It h), (bmp sd δ t).id = t.id
  | 0, _ => rfl
  | _ + 1, _ => rfl
theorem modify_at {β : Type} {l : List β} {f : β → β} {c : β} {i : Nat} (hc : l[i]? = some c) : l.modify i f = l.set i (f c) := by
  obtain ⟨hi, rfl⟩ := List.getElem?_eq_some_iff.1 hc
  apply List.ext_getElem?
  intro j; rw [List.getElem?_modify, List.getElem?_set]
  by_cases e : i = j
  · subst e; simp [hi, List.getElem?_eq_getElem hi]
  · simp [e]
def Ends (sd : Bool) (x : It) (R l : List It) : Prop := if sd then l = R ++ [x] else l = x :: R
theorem Ends.len {sd : Bool} {x : It} {R l : List It} (e : Ends sd x R l) : l.length = R.length + 1 := by
  unfold Ends at e; split at e <;> rw [e] <;> simp
theorem items_set {m lo k : Nat} {its : List It} {kids : List (PT It k)} {i : Nat} {c c' : PT It k} (fl : PT.Fl m lo (h := k + 1) (its, kids)) (hi : i ≤ its.length) (hc : kids[i]? = some c) (hc' : PT.Fl m (m / 2) c') :
    PT.Fl m lo (h := k + 1) (its, kids.set i c') ∧ ∃ A B, PT.items (h := k + 1) (its, kids) = A ++ (c.items ++ B) ∧ PT.items (h := k + 1) (its, kids.set i c') = A ++ (c'.items ++ B) ∧ (i = 0 → A = []) ∧ (i = its.length → B = []) := by
  have hkl : kids.length = its.length + 1 := fl.2.2.1
  have f' : PT.Fl m lo (h := k + 1) (its, kids.set i c') := by
    refine ⟨fl.1, fl.2.1, ?_, fun q hq => ?_⟩
    · show (kids.set i c').length = its.length + 1
      rw [List.length_set]; exact hkl
    · rcases List.mem_or_eq_of_mem_set (show q ∈ kids.set i c' from hq) with e | e
      · exact fl.2.2.2 q e
      · rw [e]; exact hc'
  refine ⟨f', lz (its.take i) ((kids.take i).map PT.items), rz (its.drop i) ((kids.drop (i + 1)).map PT.items), ?_, ?_, fun e => ?_, fun e => ?_⟩
  · obtain ⟨c0, h0, _, e⟩ := PT.around (t := ((its, kids) : PT It (k + 1))) fl hi
    have h0 : kids[i]? = some c0 := h0
    rw [hc] at h0; rw [← Option.some.inj h0] at e; exact e
  · obtain ⟨c0, h0, _, e⟩ := PT.around (t := ((its, kids.set i c') : PT It (k + 1))) f' hi
    have h0 : (kids.set i c')[i]? = some c0 := h0
    rw [List.getElem?_set_self (by omega)] at h0; rw [← Option.some.inj h0] at e
    have e1 : (kids.set i c').take i = kids.take i := List.take_set_of_le (Nat.le_refl _)
    have e2 : (kids.set i c').drop (i + 1) = kids.drop (i + 1) := List.drop_set_of_lt (by omega)
    have e : PT.items (h := k + 1) (its, kids.set i c') = lz (its.take i) (((kids.set i c').take i).map PT.items) ++ (c'.items ++ rz (its.drop i) (((kids.set i c').drop (i + 1)).map PT.items)) := e
    rw [e1, e2] at e; exact e
  · subst e; rfl
  · subst e; rw [List.drop_length]; rfl
theorem ends_del (o : Swo lt) {sd : Bool} {x : It} {R l : List It} (e : Ends sd x R l) (ha : Asc lt l) : lget lt l x = some x ∧ ldel lt l x = R := by
  obtain ⟨i, hi, hx, he⟩ : ∃ i, ∃ hi : i < l.length, l[i] = x ∧ l.eraseIdx i = R := by
    unfold Ends at e
    split at e
    · subst e; exact ⟨R.length, by simp, by simp, by rw [eraseIdx_at (P := R) (S := []) (y := x) rfl, List.append_nil]⟩
    · subst e; exact ⟨0, by simp, rfl, rfl⟩
  obtain ⟨p1, p2⟩ := found_at o ha hi (x := x) (by rw [hx]; exact o.irr x) (by rw [hx]; exact o.irr x); obtain ⟨y, hy⟩ := Option.isSome_iff_exists.1 p2; obtain ⟨hp, h1, _, _⟩ := lget_some hy
  have h2 : l[pos lt l x]? = some x := by rw [p1, List.getElem?_eq_getElem hi, hx]
  rw [List.getElem?_eq_getElem hp, h1] at h2; refine ⟨by rw [hy]; exact h2, ?_⟩
  rw [ldel_some hy, ← List.eraseIdx_eq_take_drop_succ, p1, he]
def Popped (sd : Bool) (r : Option It) (l l' : List It) : Prop := match r with
  | none => l = [] ∧ l' = []
  | some x => Ends sd x l' l
def popEnd (tb : Nat) (t2 t5 : Value) (h : Heap) (Q : Value → Heap → Prop) : Prop :=
  nilck (ptr tb 0) fun a => fld 3 a fun t90 => load1 t90 h fun t91 => arith (· - ·) t91 (.int .i64 1) fun t92 => nilck (ptr tb 0) fun b => fld 3 b fun t94 => store1 t94 t92 h fun h => nilck (ptr tb 0) fun c => fld 3 c fun t97 => load1 t97 h fun t98 =>
    cmpI (fun a b => a == b) t98 (.int .i64 0) fun t99 => ifV t99
      (nilck (ptr tb 0) fun d => fld 2 d fun t102 => store1 t102 (.pointer none) h fun h => loadN 2 t5 h fun t103 => storeN 2 t2 t103 h fun h => loadN 2 t2 h fun r2 => Q (.tuple #[r2, (.bool true)]) h)
      (loadN 2 t5 h fun t103 => storeN 2 t2 t103 h fun h => loadN 2 t2 h fun r2 => Q (.tuple #[r2, (.bool true)]) h)
namespace PopMin
theorem up_pop {tr t2 t5 : Value} {iso : Int} {m : Nat} (hm : m ≤ 1024) : ∀ {k : Nat} (c : GT It k) {lo : Nat} {E : List Rg} {h : Heap}, c.pt.Fl m lo → Gd iso c → c.pt.items.length ≤ 4611686018427387903 → St h0 Z ((bmp false (-1) c).all enc ++ E) h → (∀ h', St h0 Z (c.all enc ++ E) h' → BTreeG_I_PopMin.j4 tr t2 t5 h' Q) →
    LoopOk (fun c s h K1 => BTreeG_I_PopMin.l5.b (c.getD 0 undef) (c.getD 1 undef) (c.getD 2 undef) (s.getD 0 undef) h K1 Q) [tr, t2, t5] k [ptr c.id 0] h
  | 0, (d : Nd It), lo, E, h, fl, g, hsz, s, H => by
    obtain ⟨own, n, is', cnt, its, iv, ib, io, isp, kb, kv', krb, kro, ksp⟩ := d; intro K
    have s : St h0 Z ((n, 0, [.int .u64 is', .int .i64 (cnt + -1), iv, .pointer none]) :: (ib, io, its.flatMap enc ++ isp) :: E) h := s
    have hcn : cnt = its.length := g.cn
    have hsz : its.length ≤ 4611686018427387903 := hsz
    show BTreeG_I_PopMin.l5.b tr t2 t5 (ptr n 0) h K Q
    unfold BTreeG_I_PopMin.l5.b; refine r_nil ?_; refine r_fld ?_; refine St.r_load0 s 0 rfl rfl ?_; refine r_add (z := cnt) (by rw [i64w (by omega) (by omega)]; omega) ?_; refine r_nil ?_; refine r_fld ?_; refine St.r_store0 s 0 rfl (by simp) rfl ?_; intro h s
    try simp only [List.set_cons_zero, List.set_cons_succ] at s
    refine node_leaf_ok (a := none) (s.get (k := 0) (j := 3) rfl (by simp)) ?_; refine r_if (fun _ => ?_) (fun e => absurd e (by simp))
    exact H h s
  | k + 1, t, lo, E, h, fl, g, hsz, s, H => by
    obtain ⟨d, ts⟩ := t; obtain ⟨own, n, is', cnt, its, iv, ib, io, isp, kb, kv', krb, kro, ksp⟩ := d; intro K HK
    have hkl : ts.length = its.length + 1 := g.wf.2.2.1
    have wK : Own 1 kv' ts.length krb kro ((ts.map GT.id).map fun m => ptr m 0) ksp := g.wf.2.1
    have hcn : cnt = (PT.items (h := k + 1) (its, ts.map GT.pt)).length := g.cn.1
    have hsz : (PT.items (h := k + 1) (its, ts.map GT.pt)).length ≤ 4611686018427387903 := hsz
    obtain ⟨c, hc⟩ : ∃ c, ts[0]? = some c := ⟨ts[0]'(by omega), List.getElem?_eq_getElem (by omega)⟩
    have hcm := List.mem_of_getElem? hc
    have hcm2 : c.pt ∈ ts.map GT.pt := List.mem_map.2 ⟨c, hcm, rfl⟩
    have hfc : PT.Fl m (m / 2) c.pt := fl.2.2.2 _ hcm2
    have hlm : its.length ≤ m := fl.2.1
    have hcsz : c.pt.items.length ≤ 4611686018427387903 := by
      have h1 : (inter its ((ts.map GT.pt).map PT.items)).length = _ := inter_length _ _
      have h2 : (inter its ((ts.map GT.pt).map PT.items)).length ≤ 4611686018427387903 := hsz
      have h3 : c.pt.items.length ≤ (((ts.map GT.pt).map PT.items).map List.length).sum := mem_le_sum (by
        rw [List.map_map, List.map_map]; exact List.mem_map.2 ⟨c, hcm, rfl⟩)
      omega
    have s : St h0 Z ((n, 0, [.int .u64 is', .int .i64 (cnt + -1), iv, ptr kb 0]) :: (ib, io, its.flatMap enc ++ isp) :: (kb, 0, [kv']) :: (krb, kro, (((ts.modify (0) (bmp false (-1))).map GT.id).map fun m => ptr m 0) ++ ksp) :: ((ts.modify (0) (bmp false (-1))).flatMap (GT.all enc) ++ E)) h := s
    rw [modify_at hc, mfp] at s
    have hi := (List.getElem?_eq_some_iff.1 hc).1
    have hc' : (ts.set (0) (bmp false (-1) c))[0]? = some (bmp false (-1) c) := List.getElem?_set_self hi
    have etake : (ts.set (0) (bmp false (-1) c)).take (0) = ts.take (0) := List.take_set_of_le (Nat.le_refl _)
    have edrop : (ts.set (0) (bmp false (-1) c)).drop (0 + 1) = ts.drop (0 + 1) := List.drop_set_of_lt (by omega)
    rw [flat_at3 (GT.all enc) hc', etake, edrop, set_ids hc (bmp_id c)] at s
    show BTreeG_I_PopMin.l5.b tr t2 t5 (ptr n 0) h K Q
    unfold BTreeG_I_PopMin.l5.b; refine r_nil ?_; refine r_fld ?_; refine St.r_load0 s 0 rfl rfl ?_; refine r_add (z := cnt) (by rw [i64w (by omega) (by omega)]; omega) ?_; refine r_nil ?_; refine r_fld ?_; refine St.r_store0 s 0 rfl (by simp) rfl ?_; intro h s
    try simp only [List.set_cons_zero, List.set_cons_succ] at s
    refine node_leaf_ok (a := some ⟨kb, 0, Option.none⟩) (s.get (k := 0) (j := 3) rfl (by simp)) ?_; refine r_if (fun e => absurd e (by simp)) (fun _ => ?_)
    unfold BTreeG_I_PopMin.j6; refine r_nil ?_; refine r_fld ?_; refine St.r_load0 s 0 rfl rfl ?_; refine r_nil ?_; refine St.r_load0 s 2 rfl rfl ?_; refine wK.idx (n := 0) rfl (by omega) ?_; refine r_loadM1 s 3 rfl hc ?_
    have := up_pop (tr := tr) (t2 := t2) (t5 := t5) hm c (E := (n, 0, [.int .u64 is', .int .i64 cnt, iv, ptr kb 0]) :: (ib, io, its.flatMap enc ++ isp) :: (kb, 0, [kv']) :: (krb, kro, (ts.map GT.id).flatMap fp ++ ksp) :: ((ts.take (0)).flatMap (GT.all enc) ++ ((ts.drop (0 + 1)).flatMap (GT.all enc) ++ E))) hfc (g.kid hcm) hcsz (s.perm (by ((apply perm_rg; intro f; simp only [set_cons_zero, set_cons_succ, eraseIdx_cons_zero, eraseIdx_cons_succ, cons_append, nil_append, map_append, map_cons, map_nil, List.sum_append, List.sum_cons, List.sum_nil, map_flatMap, Nat.add_zero, Nat.zero_add]; ac_rfl)))) fun h' s => ?_
    · exact HK _ _ this
    · refine H h' ?_
      have s1 : St h0 Z ((n, 0, [.int .u64 is', .int .i64 cnt, iv, ptr kb 0]) :: (ib, io, its.flatMap enc ++ isp) :: (kb, 0, [kv']) :: (krb, kro, (ts.map GT.id).flatMap fp ++ ksp) :: (ts.flatMap (GT.all enc) ++ E)) h' := s.perm (by rw [flat_at3 (GT.all enc) hc]; ((apply perm_rg; intro f; simp only [set_cons_zero, set_cons_succ, eraseIdx_cons_zero, eraseIdx_cons_succ, cons_append, nil_append, map_append, map_cons, map_nil, List.sum_append, List.sum_cons, List.sum_nil, map_flatMap, Nat.add_zero, Nat.zero_add]; ac_rfl)))
      rw [← mfp] at s1; exact s1
theorem down_pop {t2 : Value} {tb t5 m : Nat} {iso : Int} {ctr : Option Addr} (hT0 : (tb, 0, hd0 iso ctr) ∈ Z) (hT4 : (tb, 4, hd4 lf ((m / 2 : Nat) : Int) m) ∈ Z) (hm : m ≤ 1024) (hm3 : 3 ≤ m) : ∀ {k : Nat} (c : GT It k) {lo : Nat} {E : List Rg} {h : Heap}, 1 ≤ lo → (lo = m / 2 ∨ lo = 1) → c.pt.Fl m lo → Gd iso c → c.pt.items.length ≤ 4611686018427387903 → St h0 Z (c.all enc ++ ((t5, 0, enc emp) :: E)) h →
    (∀ (c' : GT It k) h' x R, Ends false x R c.pt.items → c'.pt.items = R → (c'.pt.Fl m lo ∨ (lo ≠ m / 2 ∧ R = [])) → c'.id = c.id → Gd iso c' → St h0 Z (c'.all enc ++ ((t5, 0, enc x) :: E)) h' → popEnd tb t2 (ptr t5 0) h' Q) →
    (∀ h' x R, Ends false x R c.pt.items → St h0 Z ((bmp false (-1) c).all enc ++ ((t5, 0, enc x) :: E)) h' → BTreeG_I_PopMin.j3 (ptr tb 0) t2 (ptr t5 0) h' Q) →
    LoopOk (fun c s h K1 => BTreeG_I_PopMin.l7.b (c.getD 0 undef) (c.getD 1 undef) (c.getD 2 undef) (s.getD 0 undef) h K1 Q) [ptr tb 0, t2, ptr t5 0] k [ptr c.id 0] h
  | 0, (d : Nd It), lo, E, h, hlo, hlo2, fl, g, hsz, s, H1, H2 => by
    obtain ⟨own, n, is', cnt, its, iv, ib, io, isp, kb, kv', krb, kro, ksp⟩ := d; intro K
    have hw : own = true := g.mine
    have hiso : is' = iso := g.wf.2.1 hw
    subst hiso; subst hw
    have w : Own 2 iv its.length ib io (its.flatMap enc) isp := g.wf.1
    have s : St h0 Z ((n, 0, [.int .u64 is', .int .i64 cnt, iv, .pointer none]) :: (ib, io, its.flatMap enc ++ isp) :: (t5, 0, enc emp) :: E) h := s
    have hcn : cnt = its.length := g.cn
    have hl1 : lo ≤ its.length := fl.1
    have hl2 : its.length ≤ m := fl.2
    have hE : Ends false (its[0]'(by omega)) (its.eraseIdx (0)) its := by
      cases its with
      | nil => simp at hl1; omega
      | cons a r => rfl
    have hx : its[0]? = some (its[0]'(by omega)) := List.getElem?_eq_getElem (by omega)
    generalize hxg : its[0]'(by omega) = x at *
    show BTreeG_I_PopMin.l7.b (ptr tb 0) t2 (ptr t5 0) (ptr n 0) h K Q
    unfold BTreeG_I_PopMin.l7.b; refine r_nil ?_; refine r_fld ?_; refine St.r_load0 s 0 rfl rfl ?_; refine r_sub (z := cnt + -1) (by rw [i64w (by omega) (by omega)]; omega) ?_; refine r_nil ?_; refine r_fld ?_; refine St.r_store0 s 0 rfl (by simp) rfl ?_; intro h s
    try simp only [List.set_cons_zero, List.set_cons_succ] at s
    refine node_leaf_ok (a := none) (s.get (k := 0) (j := 3) rfl (by simp)) ?_; refine r_if (fun _ => ?_) (fun e => absurd e (by simp))
    refine r_nil ?_; refine r_fld ?_; refine St.r_load0 s 0 rfl rfl ?_; refine w.idx (n := 0) rfl (by omega) ?_; refine s.r_loadF encl 1 rfl hx ?_; refine St.r_storeN0 s 2 rfl rfl (by simp) (enc1 x) ?_; intro h s
    have s : St h0 Z ((n, 0, [.int .u64 is', .int .i64 (cnt + -1), iv, .pointer none]) :: (ib, io, its.flatMap enc ++ isp) :: (t5, 0, enc x) :: E) h := s
    refine r_nil ?_; refine r_fld ?_; refine St.r_load0 s 0 rfl rfl ?_; refine w.lenV ?_; refine r_nil ?_; refine r_fld ?_; refine s.r_lz hT4 6 rfl rfl ?_; refine r_cmpI ?_; refine r_if (fun _ => H2 h x _ hE s) (fun hne => ?_)
    have hne : its.length ≠ m / 2 := by have := hne; simp at this; omega
    have hel : (its.eraseIdx (0)).length = its.length - 1 := by rw [List.length_eraseIdx, if_pos (by omega)]
    unfold BTreeG_I_PopMin.j9; refine r_nil ?_; refine r_fld ?_; refine St.r_load0 s 0 rfl rfl ?_; refine Own.slcAll encl w fun dd wd => ?_; refine r_nil ?_; refine r_fld ?_; refine St.r_load0 s 0 rfl rfl ?_; refine (w.rdl s 1 rfl).slcLo encl (i := 1) rfl (by omega) fun src rs => ?_; refine s.r_cpyF encl 1 (i := 0) (L := its) (M := its.drop 1) rfl wd (by simp) rs rfl (fun y _ => enc1 y) fun h s => ?_; refine r_nil ?_; refine r_fld ?_; refine St.r_load0 s 0 rfl rfl ?_; refine r_nil ?_; refine r_fld ?_; refine St.r_load0 s 0 rfl rfl ?_; refine w.lenV ?_; refine r_sub (z := ((its.length - 1 : Nat) : Int)) (by rw [i64w (by omega) (by omega)]; omega) ?_; refine r_nil ?_; refine r_fld ?_; refine s.r_lzE hT4 3 (enc emp) rfl (by simp) rfl ?_
    have hdl := del_len its emp (i := 0) (by omega)
    have hX := hdl
    rw [List.length_set] at hX
    have her := del_erase its emp (i := 0) (by omega)
    refine w.idx (n := its.length - 1) rfl (by omega) ?_; refine s.r_storeF encl 1 rfl (by rw [hX]; omega) (enc1 emp) ?_; intro h s
    refine r_nil ?_; refine r_fld ?_; refine St.r_load0 s 0 rfl rfl ?_; refine r_nil ?_; refine r_fld ?_; refine St.r_load0 s 0 rfl rfl ?_; refine w.lenV ?_; refine r_sub (z := ((its.length - 1 : Nat) : Int)) (by rw [i64w (by omega) (by omega)]; omega) ?_; refine (w.list encl hdl).slcHi encl rfl (by rw [hdl]; omega) fun iv2 w2 => ?_
    have s := s.del (f := enc) 1 rfl _ her
    rw [her] at w2; refine r_nil ?_; refine r_fld ?_; refine St.r_store0 s 0 rfl (by simp) w2.one ?_; intro h s
    refine H1 (⟨true, n, is', cnt + -1, its.eraseIdx (0), iv2, ib, io, _, kb, kv', krb, kro, ksp⟩ : Nd It) h x _ hE rfl ?_ rfl (Gd.leaf w2 rfl rfl (by show cnt + -1 = ((its.eraseIdx (0)).length : Int); rw [hel, hcn]; omega)) s
    rcases Nat.lt_or_ge lo its.length with e | e
    · left
      show lo ≤ (its.eraseIdx (0)).length ∧ (its.eraseIdx (0)).length ≤ m
      rw [hel]; omega
    · right
      exact ⟨by omega, List.length_eq_zero_iff.1 (by rw [hel]; omega)⟩
  | k + 1, t, lo, E, h, hlo, hlo2, fl, g, hsz, s, H1, H2 => by
    obtain ⟨d, ts⟩ := t; obtain ⟨own, n, is', cnt, its, iv, ib, io, isp, kb, kv', krb, kro, ksp⟩ := d; intro K HK
    have hw : own = true := g.mine.1
    have hiso : is' = iso := g.wf.1.2.1 hw
    subst hiso; subst hw
    have hkl : ts.length = its.length + 1 := g.wf.2.2.1
    have wK : Own 1 kv' ts.length krb kro ((ts.map GT.id).map fun m => ptr m 0) ksp := g.wf.2.1
    have hcn : cnt = (PT.items (h := k + 1) (its, ts.map GT.pt)).length := g.cn.1
    have hsz : (PT.items (h := k + 1) (its, ts.map GT.pt)).length ≤ 4611686018427387903 := hsz
    have hlm : its.length ≤ m := fl.2.1
    have hl1 : lo ≤ its.length := fl.1
    obtain ⟨c, hc⟩ : ∃ c, ts[0]? = some c := ⟨ts[0]'(by omega), List.getElem?_eq_getElem (by omega)⟩
    have hcm := List.mem_of_getElem? hc
    have hcm2 : c.pt ∈ ts.map GT.pt := List.mem_map.2 ⟨c, hcm, rfl⟩
    have hfc : PT.Fl m (m / 2) c.pt := fl.2.2.2 _ hcm2
    have fl : PT.Fl m lo (h := k + 1) (its, ts.map GT.pt) := fl
    have hcsz : c.pt.items.length ≤ 4611686018427387903 := by
      have h1 : (inter its ((ts.map GT.pt).map PT.items)).length = _ := inter_length _ _
      have h2 : (inter its ((ts.map GT.pt).map PT.items)).length ≤ 4611686018427387903 := hsz
      have h3 : c.pt.items.length ≤ (((ts.map GT.pt).map PT.items).map List.length).sum := mem_le_sum (by
        rw [List.map_map, List.map_map]; exact List.mem_map.2 ⟨c, hcm, rfl⟩)
      omega
    have hc2 : ts[0]? = some c := by
      exact hc
    have hcp : (ts.map GT.pt)[0]? = some c.pt := by rw [List.getElem?_map, hc]; rfl
    have up : ∀ {x : It} {R0 : List It} (c' : PT It k), Ends false x R0 c.pt.items → c'.items = R0 → PT.Fl m (m / 2) c' → ∃ R, Ends false x R (PT.items (h := k + 1) (its, ts.map GT.pt)) ∧ PT.items (h := k + 1) (its, (ts.map GT.pt).set (0) c') = R ∧ PT.Fl m lo (h := k + 1) (its, (ts.map GT.pt).set (0) c') := fun {x R0} c' he hr hf => by
      obtain ⟨f', A, B, e1, e2, e3, e4⟩ := items_set fl (by omega : 0 ≤ its.length) hcp hf; refine ⟨_, ?_, rfl, f'⟩
      rw [e1, e2, hr]
      have he : c.pt.items = x :: R0 := he
      show _ = x :: _
      rw [e3 rfl, he]; rfl
    have up0 : ∀ {x : It} {R0 : List It}, Ends false x R0 c.pt.items → ∃ R, Ends false x R (PT.items (h := k + 1) (its, ts.map GT.pt)) := fun {x R0} he => by
      obtain ⟨_, A, B, e1, _, e3, e4⟩ := items_set fl (by omega : 0 ≤ its.length) hcp hfc; rw [e1]
      have he : c.pt.items = x :: R0 := he
      exact ⟨R0 ++ B, by rw [e3 rfl, he]; rfl⟩
    have s : St h0 Z ((n, 0, [.int .u64 is', .int .i64 cnt, iv, ptr kb 0]) :: (ib, io, its.flatMap enc ++ isp) :: (kb, 0, [kv']) :: (krb, kro, ((ts.map GT.id).map fun m => ptr m 0) ++ ksp) :: (ts.flatMap (GT.all enc) ++ ((t5, 0, enc emp) :: E))) h := s
    rw [mfp, flat_at3 (GT.all enc) hc] at s
    show BTreeG_I_PopMin.l7.b (ptr tb 0) t2 (ptr t5 0) (ptr n 0) h K Q
    unfold BTreeG_I_PopMin.l7.b; refine r_nil ?_; refine r_fld ?_; refine St.r_load0 s 0 rfl rfl ?_; refine r_sub (z := cnt + -1) (by rw [i64w (by omega) (by omega)]; omega) ?_; refine r_nil ?_; refine r_fld ?_; refine St.r_store0 s 0 rfl (by simp) rfl ?_; intro h s
    try simp only [List.set_cons_zero, List.set_cons_succ] at s
    refine node_leaf_ok (a := some ⟨kb, 0, Option.none⟩) (s.get (k := 0) (j := 3) rfl (by simp)) ?_; refine r_if (fun e => absurd e (by simp)) (fun _ => ?_)
    unfold BTreeG_I_PopMin.j8; refine r_nil ?_; refine r_fld ?_; refine St.r_load0 s 0 rfl rfl ?_; refine r_nil ?_; refine St.r_load0 s 2 rfl rfl ?_; refine wK.idx (n := 0) rfl (by omega) ?_
    have hcell : cl h krb (kro + 0 * 1) = some (ptr c.id 0) := by
      have hid : (ts.map GT.id)[0]? = some c.id := by rw [List.getElem?_map, hc]; rfl
      obtain ⟨hi, he⟩ := List.getElem?_eq_some_iff.1 hid
      have := s.get (k := 3) (j := 0 * 1) rfl (by rw [List.length_append, flat_len fpl]; omega)
      rw [this, List.getElem?_append_left (by rw [flat_len fpl]; omega)]
      have h2 := flat_get (f := fp) fpl (ts.map GT.id) (0) hi 0 (by decide)
      rw [Nat.add_zero] at h2; rw [h2, he]; rfl
    have hciso : cl h c.id 0 = some (.int .u64 is') := by
      have hown : c.nd.own = true := (g.kid hcm).mine.nd
      obtain ⟨a2, a3, a4, hmem⟩ := topIso (t := c)
      have hci : c.nd.iso = is' := by
        have := (g.kid hcm).wf
        cases k with
        | zero => exact this.2.1 hown
        | succ k => exact this.1.2.1 hown
      rw [hci] at hmem
      have hmm : (c.id, 0, [.int .u64 is', a2, a3, a4]) ∈ c.all enc ++ (ts.drop (0 + 1)).flatMap (GT.all enc) := List.mem_append.2 (.inl hmem)
      have hmm := List.mem_append.2 (.inr hmm : _ ∈ (ts.take (0)).flatMap (GT.all enc) ∨ _)
      have hmm := List.mem_append.2 (.inl hmm : _ ∨ _ ∈ (t5, 0, enc emp) :: E)
      have := (s.e _ (List.mem_cons_of_mem _ (List.mem_cons_of_mem _ (List.mem_cons_of_mem _ (List.mem_cons_of_mem _ hmm))))).1.at0 0 rfl
      exact this
    refine isoLoad_ok (n := c.id) (iso := is') (by have := s.getZ hT0 (j := 0) (by simp); simpa using this) hcell (fun _ => hciso) ?_
    have := down_pop (t2 := t2) (t5 := t5) hT0 hT4 hm hm3 c (E := (n, 0, [.int .u64 is', .int .i64 (cnt + -1), iv, ptr kb 0]) :: (ib, io, its.flatMap enc ++ isp) :: (kb, 0, [kv']) :: (krb, kro, (ts.map GT.id).flatMap fp ++ ksp) :: ((ts.take (0)).flatMap (GT.all enc) ++ ((ts.drop (0 + 1)).flatMap (GT.all enc) ++ E))) (by omega) (.inl rfl) hfc (g.kid hcm) hcsz (s.perm (by ((apply perm_rg; intro f; simp only [set_cons_zero, set_cons_succ, eraseIdx_cons_zero, eraseIdx_cons_succ, cons_append, nil_append, map_append, map_cons, map_nil, List.sum_append, List.sum_cons, List.sum_nil, map_flatMap, Nat.add_zero, Nat.zero_add]; ac_rfl)))) (fun c' h' x R0 a1 a2 a3 a4 a5 s => ?_) (fun h' x R0 a1 s => ?_)
    · exact HK _ _ this
    · have hf' : PT.Fl m (m / 2) c'.pt := by
        rcases a3 with e | e
        · exact e
        · exact absurd rfl e.1
      obtain ⟨R, u1, u2, u3⟩ := up c'.pt a1 a2 hf'
      have ept : (ts.set (0) c').map GT.pt = (ts.map GT.pt).set (0) c'.pt := by rw [List.map_set]
      have hi := (List.getElem?_eq_some_iff.1 hc).1
      have hc' : (ts.set (0) c')[0]? = some c' := List.getElem?_set_self hi
      have etake : (ts.set (0) c').take (0) = ts.take (0) := List.take_set_of_le (Nat.le_refl _)
      have edrop : (ts.set (0) c').drop (0 + 1) = ts.drop (0 + 1) := List.drop_set_of_lt (by omega)
      have hlen := u1.len
      refine H1 ((⟨true, n, is', cnt + -1, its, iv, ib, io, isp, kb, kv', krb, kro, ksp⟩ : Nd It), ts.set (0) c') h' x R u1 (by show PT.items (h := k + 1) (its, (ts.set (0) c').map GT.pt) = _; rw [ept]; exact u2) (.inl (by show PT.Fl m lo (h := k + 1) (its, (ts.set (0) c').map GT.pt); rw [ept]; exact u3)) rfl
        (Gd.setKid (d := ⟨true, n, is', cnt, its, iv, ib, io, isp, kb, kv', krb, kro, ksp⟩) g hc a4 a5 (by
          show cnt + -1 = ((PT.items (h := k + 1) (its, (ts.set (0) c').map GT.pt)).length : Int); rw [ept, u2]; omega)) ?_
      have s1 : St h0 Z ((n, 0, [.int .u64 is', .int .i64 (cnt + -1), iv, ptr kb 0]) :: (ib, io, its.flatMap enc ++ isp) :: (kb, 0, [kv']) :: (krb, kro, ((ts.set (0) c').map GT.id).flatMap fp ++ ksp) :: ((ts.set (0) c').flatMap (GT.all enc) ++ ((t5, 0, enc x) :: E))) h' :=
        s.perm (by rw [set_ids hc a4, flat_at3 (GT.all enc) hc', etake, edrop]; ((apply perm_rg; intro f; simp only [set_cons_zero, set_cons_succ, eraseIdx_cons_zero, eraseIdx_cons_succ, cons_append, nil_append, map_append, map_cons, map_nil, List.sum_append, List.sum_cons, List.sum_nil, map_flatMap, Nat.add_zero, Nat.zero_add]; ac_rfl)))
      rw [← mfp] at s1; exact s1
    · obtain ⟨R, u1⟩ := up0 a1
      refine H2 h' x R u1 ?_
      have hi := (List.getElem?_eq_some_iff.1 hc2).1
      have hc' : (ts.set (0) (bmp false (-1) c))[0]? = some (bmp false (-1) c) := List.getElem?_set_self hi
      have etake : (ts.set (0) (bmp false (-1) c)).take (0) = ts.take (0) := by rw [List.take_set_of_le (Nat.le_refl _)]
      have edrop : (ts.set (0) (bmp false (-1) c)).drop (0 + 1) = ts.drop (0 + 1) := by rw [List.drop_set_of_lt (by omega)]
      have s1 : St h0 Z ((n, 0, [.int .u64 is', .int .i64 (cnt + -1), iv, ptr kb 0]) :: (ib, io, its.flatMap enc ++ isp) :: (kb, 0, [kv']) :: (krb, kro, ((ts.modify (0) (bmp false (-1))).map GT.id).flatMap fp ++ ksp) :: ((ts.modify (0) (bmp false (-1))).flatMap (GT.all enc) ++ ((t5, 0, enc x) :: E))) h' :=
        s.perm (by rw [modify_at hc2, set_ids hc2 (bmp_id c), flat_at3 (GT.all enc) hc', etake, edrop]; ((apply perm_rg; intro f; simp only [set_cons_zero, set_cons_succ, eraseIdx_cons_zero, eraseIdx_cons_succ, cons_append, nil_append, map_append, map_cons, map_nil, List.sum_append, List.sum_cons, List.sum_nil, map_flatMap, Nat.add_zero, Nat.zero_add]; ac_rfl)))
      rw [← mfp] at s1; exact s1
theorem ok (o : Swo lt) {A : List Rg} (hO : OrdA A lf lt) {tb m : Nat} {iso : Int} {ctr : Option Addr} {g : Rt} (M : TreeOk lt m iso g) (hsz : (rPt g).items.length ≤ 4611686018427387903)
    (s : St h0 Z ((tb, 0, hdr iso ctr (rA g) (rPt g).items.length lf ((m / 2 : Nat) : Int) m) :: (rAll g ++ (A ++ E))) h)
    (H : ∀ (r : Option It) (g' : Rt) h', Popped false r (rPt g).items (rPt g').items → TreeOk lt m iso g' → (rH g' = rH g ∨ rH g' + 1 = rH g) → St h0 Z ((tb, 0, hdr iso ctr (rA g') (rPt g').items.length lf ((m / 2 : Nat) : Int) m) :: (rAll g' ++ (A ++ E))) h' → Q (.tuple #[old r, .bool r.isSome]) h') :
    BTreeG_I_PopMin.call #[ptr tb 0] h Q := by
  refine BTreeG_I_PopMin.body _ _ _ ?_; unfold BTreeG_I_PopMin.sh; refine s.r_alloc fun t2 h s => ?_; refine lock_ok ?_; refine r_if (fun e => absurd e (by simp)) (fun _ => ?_)
  unfold BTreeG_I_PopMin.j1; refine r_nil ?_; refine r_fld ?_; refine St.r_load0 s 1 rfl rfl ?_; refine r_eqNilP ?_
  cases g with
  | none =>
    refine r_if (fun _ => ?_) (fun e => absurd e (by simp [rA]))
    refine r_nil ?_; refine r_fld ?_; refine St.r_loadN0 s 1 rfl (by simp) ?_; refine St.r_storeN0 s 0 rfl rfl (by simp) (enc1 emp) ?_; intro h s
    refine St.r_loadN0 s 0 rfl (by simp) ?_; exact H none none h ⟨rfl, rfl⟩ M (.inl rfl) (s.drop 1)
  | some t =>
    obtain ⟨k, t⟩ := t; refine r_if (fun e => absurd e (by simp [rA])) (fun _ => ?_)
    unfold BTreeG_I_PopMin.j2
    have hkk : k < t.pt.items.length := PT.height_le M.m3 (t := t.pt) M.fl (Nat.le_refl _)
    have s := hdr_cut (s.front 1 rfl)
    have s0 : St h0 Z (([(tb, 0, hd0 iso ctr), (tb, 4, hd4 lf ((m / 2 : Nat) : Int) m)] ++ A) ++ ((tb, 2, [ptr t.id 0]) :: (tb, 3, [.int .i64 t.pt.items.length]) :: (t2, 0, enc emp) :: (t.all enc ++ E))) h := s.perm (by
      show ((tb, 0, hd0 iso ctr) :: (tb, 4, hd4 lf ((m / 2 : Nat) : Int) m) :: (A ++ ((tb, 2, [ptr t.id 0]) :: (tb, 3, [.int .i64 t.pt.items.length]) :: (t2, 0, enc emp) :: (t.all enc ++ E)))).Perm ((tb, 0, hd0 iso ctr) :: (tb, 4, hd4 lf ((m / 2 : Nat) : Int) m) :: (tb, 2, [ptr t.id 0]) :: (tb, 3, [.int .i64 t.pt.items.length]) :: (t2, 0, enc emp) :: (t.all enc ++ (A ++ E)))
      ((apply perm_rg; intro f; simp only [set_cons_zero, set_cons_succ, eraseIdx_cons_zero, eraseIdx_cons_succ, cons_append, nil_append, map_append, map_cons, map_nil, List.sum_append, List.sum_cons, List.sum_nil, map_flatMap, Nat.add_zero, Nat.zero_add]; ac_rfl)))
    obtain ⟨s1, back⟩ := s0.borrow
    have z0 : (tb, 0, hd0 iso ctr) ∈ ([(tb, 0, hd0 iso ctr), (tb, 4, hd4 lf ((m / 2 : Nat) : Int) m)] ++ A) ++ Z := List.mem_cons_self ..
    have z4 : (tb, 4, hd4 lf ((m / 2 : Nat) : Int) m) ∈ ([(tb, 0, hd0 iso ctr), (tb, 4, hd4 lf ((m / 2 : Nat) : Int) m)] ++ A) ++ Z := List.mem_cons_of_mem _ (List.mem_cons_self ..)
    have hgd : Gd iso t := M.gd
    have hfl : t.pt.Fl m 1 := M.fl
    have hasc : Asc lt t.pt.items := M.asc
    have hszt : t.pt.items.length ≤ 4611686018427387903 := hsz
    have hiso : ∀ {Z' E' : List Rg} {h : Heap}, St h0 Z' (t.all enc ++ E') h → cl h t.id 0 = some (.int .u64 iso) := fun s => by
      obtain ⟨a2, a3, a4, hmem⟩ := topIso (t := t)
      have hown := hgd.mine.nd
      have hci : t.nd.iso = iso := by
        have := hgd.wf
        cases k with
        | zero => exact this.2.1 hown
        | succ k => exact this.1.2.1 hown
      rw [hci] at hmem; exact (s.e _ (List.mem_append.2 (.inl hmem))).1.at0 0 rfl
    refine r_nil ?_; refine r_fld ?_; refine isoLoad_ok (n := t.id) (iso := iso) (by have := s1.getZ z0 (j := 0) (by simp); simpa using this) (by have := s1.get (k := 0) (j := 0) rfl (by simp); simpa using this) (fun _ => hiso (s1.perm (E' := t.all enc ++ ((tb, 2, [ptr t.id 0]) :: (tb, 3, [.int .i64 t.pt.items.length]) :: (t2, 0, enc emp) :: E)) (by ((apply perm_rg; intro f; simp only [set_cons_zero, set_cons_succ, eraseIdx_cons_zero, eraseIdx_cons_succ, cons_append, nil_append, map_append, map_cons, map_nil, List.sum_append, List.sum_cons, List.sum_nil, map_flatMap, Nat.add_zero, Nat.zero_add]; ac_rfl))))) ?_; refine s1.r_alloc fun t5 h s1 => ?_; refine (down_pop (t2 := ptr t2 0) (t5 := t5) z0 z4 M.m1 M.m3 t (E := (tb, 2, [ptr t.id 0]) :: (tb, 3, [.int .i64 t.pt.items.length]) :: (t2, 0, enc emp) :: E) (Nat.le_refl 1) (.inr rfl) hfl hgd hszt (s1.perm (by ((apply perm_rg; intro f; simp only [set_cons_zero, set_cons_succ, eraseIdx_cons_zero, eraseIdx_cons_succ, cons_append, nil_append, map_append, map_cons, map_nil, List.sum_append, List.sum_cons, List.sum_nil, map_flatMap, Nat.add_zero, Nat.zero_add]; ac_rfl)))) (fun c' h' x R a1 a2 a3 a4 a5 s => ?_) (fun h' x R a1 s => ?_)).loop
    · have hlen := a1.len
      unfold popEnd
      have s : St h0 (([(tb, 0, hd0 iso ctr), (tb, 4, hd4 lf ((m / 2 : Nat) : Int) m)] ++ A) ++ Z) ((tb, 3, [.int .i64 t.pt.items.length]) :: (tb, 2, [ptr t.id 0]) :: (t2, 0, enc emp) :: (t5, 0, enc x) :: (c'.all enc ++ E)) h' := s.perm (by ((apply perm_rg; intro f; simp only [set_cons_zero, set_cons_succ, eraseIdx_cons_zero, eraseIdx_cons_succ, cons_append, nil_append, map_append, map_cons, map_nil, List.sum_append, List.sum_cons, List.sum_nil, map_flatMap, Nat.add_zero, Nat.zero_add]; ac_rfl)))
      refine r_nil ?_; refine r_fld ?_; refine s.r_load1 0 (o := 3) (j := 0) rfl rfl ?_; refine r_sub (z := (R.length : Int)) (by rw [i64w (by omega) (by omega)]; omega) ?_; refine r_nil ?_; refine r_fld ?_; refine St.r_store1 s 0 (o := 3) (j := 0) rfl (by simp) rfl ?_; intro h s
      refine r_nil ?_; refine r_fld ?_; refine s.r_load1 0 (o := 3) (j := 0) rfl rfl ?_; refine r_cmpI ?_; refine r_if (fun e => ?_) (fun e => ?_)
      · have hR : R = [] := by simpa using e
        subst hR; refine r_nil ?_; refine r_fld ?_; refine St.r_store1 s 1 (o := 2) (j := 0) rfl (by simp) rfl ?_; intro h s
        refine St.r_loadN0 s 3 rfl (by simp) ?_; refine St.r_storeN0 s 2 rfl rfl (by simp) (enc1 x) ?_; intro h s
        refine St.r_loadN0 s 2 rfl (by simp) ?_
        have hk0 : k = 0 := by rw [hlen] at hkk; simp at hkk; exact hkk
        refine H (some x) none h a1 (TreeOk.none M.m3 M.m1 M.odd) (.inr (by show 0 + 1 = k + 1; rw [hk0])) ?_
        have s2 := back _ h s
        refine hdr_glue ?_; exact (s2.perm (E' := (c'.all enc) ++ ((t2, 0, enc x) :: (t5, 0, enc x) :: (tb, 0, hd0 iso ctr) :: (tb, 4, hd4 lf ((m / 2 : Nat) : Int) m) :: (tb, 2, [.pointer none]) :: (tb, 3, [.int .i64 (([] : List It).length : Nat)]) :: (A ++ E))) (by ((apply perm_rg; intro f; simp only [set_cons_zero, set_cons_succ, eraseIdx_cons_zero, eraseIdx_cons_succ, cons_append, nil_append, map_append, map_cons, map_nil, List.sum_append, List.sum_cons, List.sum_nil, map_flatMap, Nat.add_zero, Nat.zero_add]; ac_rfl)))).sub (List.Sublist.trans (List.sublist_cons_self ..) (List.Sublist.trans (List.sublist_cons_self ..) (List.sublist_append_right _ _)))
      · have hR : R ≠ [] := fun hR => by subst hR; simp at e
        refine St.r_loadN0 s 3 rfl (by simp) ?_; refine St.r_storeN0 s 2 rfl rfl (by simp) (enc1 x) ?_; intro h s
        refine St.r_loadN0 s 2 rfl (by simp) ?_
        have hf : c'.pt.Fl m 1 := by
          rcases a3 with e | e
          · exact e
          · exact absurd e.2 hR
        have hsub : Asc lt R := by
          have := (ends_del o a1 hasc).2
          rw [← this]; exact asc_of_sub hasc (ldel_sub _ _)
        refine H (some x) (some ⟨k, c'⟩) h (by show Ends false x c'.pt.items t.pt.items; rw [a2]; exact a1) ⟨a5, hf, by show Asc lt c'.pt.items; rw [a2]; exact hsub, M.m3, M.m1, M.odd⟩ (.inl rfl) ?_
        have s2 := back _ h s
        show St h0 Z ((tb, 0, hdr iso ctr (some ⟨c'.id, 0, Option.none⟩) c'.pt.items.length lf ((m / 2 : Nat) : Int) m) :: (c'.all enc ++ (A ++ E))) h
        refine hdr_glue ?_; rw [a2, a4]; exact (s2.perm (E' := (t2, 0, enc x) :: (t5, 0, enc x) :: (tb, 0, hd0 iso ctr) :: (tb, 4, hd4 lf ((m / 2 : Nat) : Int) m) :: (tb, 2, [ptr t.id 0]) :: (tb, 3, [.int .i64 (R.length : Nat)]) :: (c'.all enc ++ (A ++ E))) (by ((apply perm_rg; intro f; simp only [set_cons_zero, set_cons_succ, eraseIdx_cons_zero, eraseIdx_cons_succ, cons_append, nil_append, map_append, map_cons, map_nil, List.sum_append, List.sum_cons, List.sum_nil, map_flatMap, Nat.add_zero, Nat.zero_add]; ac_rfl)))).drop 2
    · obtain ⟨d1, d2⟩ := ends_del o a1 hasc
      unfold BTreeG_I_PopMin.j3
      have s : St h0 (([(tb, 0, hd0 iso ctr), (tb, 4, hd4 lf ((m / 2 : Nat) : Int) m)] ++ A) ++ Z) ((tb, 2, [ptr t.id 0]) :: (tb, 3, [.int .i64 t.pt.items.length]) :: (t2, 0, enc emp) :: (t5, 0, enc x) :: ((bmp false (-1) t).all enc ++ E)) h' := s.perm (by ((apply perm_rg; intro f; simp only [set_cons_zero, set_cons_succ, eraseIdx_cons_zero, eraseIdx_cons_succ, cons_append, nil_append, map_append, map_cons, map_nil, List.sum_append, List.sum_cons, List.sum_nil, map_flatMap, Nat.add_zero, Nat.zero_add]; ac_rfl)))
      refine r_nil ?_; refine r_fld ?_; refine s.r_load1 0 (o := 2) (j := 0) rfl rfl ?_; refine (up_pop M.m1 t (E := (tb, 2, [ptr t.id 0]) :: (tb, 3, [.int .i64 t.pt.items.length]) :: (t2, 0, enc emp) :: (t5, 0, enc x) :: E) hfl hgd hszt (s.perm (by ((apply perm_rg; intro f; simp only [set_cons_zero, set_cons_succ, eraseIdx_cons_zero, eraseIdx_cons_succ, cons_append, nil_append, map_append, map_cons, map_nil, List.sum_append, List.sum_cons, List.sum_nil, map_flatMap, Nat.add_zero, Nat.zero_add]; ac_rfl)))) fun h' s => ?_).loop
      have s2 := back ((tb, 2, [ptr t.id 0]) :: (tb, 3, [.int .i64 t.pt.items.length]) :: (t2, 0, enc emp) :: (t5, 0, enc x) :: (t.all enc ++ E)) h' (s.perm (by ((apply perm_rg; intro f; simp only [set_cons_zero, set_cons_succ, eraseIdx_cons_zero, eraseIdx_cons_succ, cons_append, nil_append, map_append, map_cons, map_nil, List.sum_append, List.sum_cons, List.sum_nil, map_flatMap, Nat.add_zero, Nat.zero_add]; ac_rfl))))
      have s4 : St h0 Z ((tb, 0, hd0 iso ctr) :: (tb, 4, hd4 lf ((m / 2 : Nat) : Int) m) :: (tb, 2, [ptr t.id 0]) :: (tb, 3, [.int .i64 t.pt.items.length]) :: (t2, 0, enc emp) :: (t5, 0, enc x) :: (t.all enc ++ (A ++ E))) h' := s2.perm (by ((apply perm_rg; intro f; simp only [set_cons_zero, set_cons_succ, eraseIdx_cons_zero, eraseIdx_cons_succ, cons_append, nil_append, map_append, map_cons, map_nil, List.sum_append, List.sum_cons, List.sum_nil, map_flatMap, Nat.add_zero, Nat.zero_add]; ac_rfl)))
      have s5 : St h0 Z ((tb, 0, hdr iso ctr (rA (some ⟨k, t⟩)) (rPt (some ⟨k, t⟩)).items.length lf ((m / 2 : Nat) : Int) m) :: (t2, 0, enc emp) :: (t5, 0, enc x) :: (rAll (some ⟨k, t⟩) ++ (A ++ E))) h' := hdr_glue s4
      unfold BTreeG_I_PopMin.j4; refine St.r_loadN0 s5 2 rfl (by simp) ?_; refine deleteHint_ok o hO M hsz Hn.none (x := x) (E := (t2, 0, enc emp) :: (t5, 0, enc x) :: E) ((s5.empty 0 0).perm (by ((apply perm_rg; intro f; simp only [set_cons_zero, set_cons_succ, eraseIdx_cons_zero, eraseIdx_cons_succ, cons_append, nil_append, map_append, map_cons, map_nil, List.sum_append, List.sum_cons, List.sum_nil, map_flatMap, Nat.add_zero, Nat.zero_add]; ac_rfl)))) fun g' hc' h e1 e2 M' hH hh s => ?_
      have s : St h0 Z ((t2, 0, enc emp) :: (t5, 0, enc x) :: (0, 0, hc') :: (tb, 0, hdr iso ctr (rA g') (rPt g').items.length lf ((m / 2 : Nat) : Int) m) :: (rAll g' ++ (A ++ E))) h := s.perm (by ((apply perm_rg; intro f; simp only [set_cons_zero, set_cons_succ, eraseIdx_cons_zero, eraseIdx_cons_succ, cons_append, nil_append, map_append, map_cons, map_nil, List.sum_append, List.sum_cons, List.sum_nil, map_flatMap, Nat.add_zero, Nat.zero_add]; ac_rfl)))
      have hl : lget lt (rPt (some ⟨k, t⟩)).items x = some x := d1
      rw [hl]; refine r_ext rfl ?_; refine r_ext rfl ?_; refine St.r_storeN0 s 0 rfl rfl (by simp) (enc1 x) ?_; intro h s
      refine St.r_loadN0 s 0 rfl (by simp) ?_; refine H (some x) g' h ?_ M' hH (s.drop 3)
      show Ends false x (rPt g').items t.pt.items
      rw [e1]
      have : ldel lt (rPt (some ⟨k, t⟩)).items x = R := d2
      rw [this]; exact a1
end PopMin
namespace PopMax
theorem up_pop {tr t2 t5 : Value} {iso : Int} {m : Nat} (hm : m ≤ 1024) : ∀ {k : Nat} (c : GT It k) {lo : Nat} {E : List Rg} {h : Heap}, c.pt.Fl m lo → Gd iso c → c.pt.items.length ≤ 4611686018427387903 → St h0 Z ((bmp true (-1) c).all enc ++ E) h → (∀ h', St h0 Z (c.all enc ++ E) h' → BTreeG_I_PopMax.j4 tr t2 t5 h' Q) →
    LoopOk (fun c s h K1 => BTreeG_I_PopMax.l5.b (c.getD 0 undef) (c.getD 1 undef) (c.getD 2 undef) (s.getD 0 undef) h K1 Q) [tr, t2, t5] k [ptr c.id 0] h
  | 0, (d : Nd It), lo, E, h, fl, g, hsz, s, H => by
    obtain ⟨own, n, is', cnt, its, iv, ib, io, isp, kb, kv', krb, kro, ksp⟩ := d; intro K
    have s : St h0 Z ((n, 0, [.int .u64 is', .int .i64 (cnt + -1), iv, .pointer none]) :: (ib, io, its.flatMap enc ++ isp) :: E) h := s
    have hcn : cnt = its.length := g.cn
    have hsz : its.length ≤ 4611686018427387903 := hsz
    show BTreeG_I_PopMax.l5.b tr t2 t5 (ptr n 0) h K Q
    unfold BTreeG_I_PopMax.l5.b; refine r_nil ?_; refine r_fld ?_; refine St.r_load0 s 0 rfl rfl ?_; refine r_add (z := cnt) (by rw [i64w (by omega) (by omega)]; omega) ?_; refine r_nil ?_; refine r_fld ?_; refine St.r_store0 s 0 rfl (by simp) rfl ?_; intro h s
    try simp only [List.set_cons_zero, List.set_cons_succ] at s
    refine node_leaf_ok (a := none) (s.get (k := 0) (j := 3) rfl (by simp)) ?_; refine r_if (fun _ => ?_) (fun e => absurd e (by simp))
    exact H h s
  | k + 1, t, lo, E, h, fl, g, hsz, s, H => by
    obtain ⟨d, ts⟩ := t; obtain ⟨own, n, is', cnt, its, iv, ib, io, isp, kb, kv', krb, kro, ksp⟩ := d; intro K HK
    have hkl : ts.length = its.length + 1 := g.wf.2.2.1
    have wK : Own 1 kv' ts.length krb kro ((ts.map GT.id).map fun m => ptr m 0) ksp := g.wf.2.1
    have hcn : cnt = (PT.items (h := k + 1) (its, ts.map GT.pt)).length := g.cn.1
    have hsz : (PT.items (h := k + 1) (its, ts.map GT.pt)).length ≤ 4611686018427387903 := hsz
    obtain ⟨c, hc⟩ : ∃ c, ts[ts.length - 1]? = some c := ⟨ts[ts.length - 1]'(by omega), List.getElem?_eq_getElem (by omega)⟩
    have hcm := List.mem_of_getElem? hc
    have hcm2 : c.pt ∈ ts.map GT.pt := List.mem_map.2 ⟨c, hcm, rfl⟩
    have hfc : PT.Fl m (m / 2) c.pt := fl.2.2.2 _ hcm2
    have hlm : its.length ≤ m := fl.2.1
    have hcsz : c.pt.items.length ≤ 4611686018427387903 := by
      have h1 : (inter its ((ts.map GT.pt).map PT.items)).length = _ := inter_length _ _
      have h2 : (inter its ((ts.map GT.pt).map PT.items)).length ≤ 4611686018427387903 := hsz
      have h3 : c.pt.items.length ≤ (((ts.map GT.pt).map PT.items).map List.length).sum := mem_le_sum (by
        rw [List.map_map, List.map_map]; exact List.mem_map.2 ⟨c, hcm, rfl⟩)
      omega
    have s : St h0 Z ((n, 0, [.int .u64 is', .int .i64 (cnt + -1), iv, ptr kb 0]) :: (ib, io, its.flatMap enc ++ isp) :: (kb, 0, [kv']) :: (krb, kro, (((ts.modify (ts.length - 1) (bmp true (-1))).map GT.id).map fun m => ptr m 0) ++ ksp) :: ((ts.modify (ts.length - 1) (bmp true (-1))).flatMap (GT.all enc) ++ E)) h := s
    rw [modify_at hc, mfp] at s
    have hi := (List.getElem?_eq_some_iff.1 hc).1
    have hc' : (ts.set (ts.length - 1) (bmp true (-1) c))[ts.length - 1]? = some (bmp true (-1) c) := List.getElem?_set_self hi
    have etake : (ts.set (ts.length - 1) (bmp true (-1) c)).take (ts.length - 1) = ts.take (ts.length - 1) := List.take_set_of_le (Nat.le_refl _)
    have edrop : (ts.set (ts.length - 1) (bmp true (-1) c)).drop (ts.length - 1 + 1) = ts.drop (ts.length - 1 + 1) := List.drop_set_of_lt (by omega)
    rw [flat_at3 (GT.all enc) hc', etake, edrop, set_ids hc (bmp_id c)] at s
    show BTreeG_I_PopMax.l5.b tr t2 t5 (ptr n 0) h K Q
    unfold BTreeG_I_PopMax.l5.b; refine r_nil ?_; refine r_fld ?_; refine St.r_load0 s 0 rfl rfl ?_; refine r_add (z := cnt) (by rw [i64w (by omega) (by omega)]; omega) ?_; refine r_nil ?_; refine r_fld ?_; refine St.r_store0 s 0 rfl (by simp) rfl ?_; intro h s
    try simp only [List.set_cons_zero, List.set_cons_succ] at s
    refine node_leaf_ok (a := some ⟨kb, 0, Option.none⟩) (s.get (k := 0) (j := 3) rfl (by simp)) ?_; refine r_if (fun e => absurd e (by simp)) (fun _ => ?_)
    unfold BTreeG_I_PopMax.j6; refine r_nil ?_; refine r_fld ?_; refine St.r_load0 s 0 rfl rfl ?_; refine r_nil ?_; refine St.r_load0 s 2 rfl rfl ?_; refine r_nil ?_; refine r_fld ?_; refine St.r_load0 s 0 rfl rfl ?_; refine r_nil ?_; refine St.r_load0 s 2 rfl rfl ?_; refine wK.lenV ?_; refine r_sub (z := ((ts.length - 1 : Nat) : Int)) (by rw [i64w (by omega) (by omega)]; omega) ?_; refine wK.idx (n := ts.length - 1) rfl (by omega) ?_; refine r_loadM1 s 3 rfl hc ?_
    have := up_pop (tr := tr) (t2 := t2) (t5 := t5) hm c (E := (n, 0, [.int .u64 is', .int .i64 cnt, iv, ptr kb 0]) :: (ib, io, its.flatMap enc ++ isp) :: (kb, 0, [kv']) :: (krb, kro, (ts.map GT.id).flatMap fp ++ ksp) :: ((ts.take (ts.length - 1)).flatMap (GT.all enc) ++ ((ts.drop (ts.length - 1 + 1)).flatMap (GT.all enc) ++ E))) hfc (g.kid hcm) hcsz (s.perm (by ((apply perm_rg; intro f; simp only [set_cons_zero, set_cons_succ, eraseIdx_cons_zero, eraseIdx_cons_succ, cons_append, nil_append, map_append, map_cons, map_nil, List.sum_append, List.sum_cons, List.sum_nil, map_flatMap, Nat.add_zero, Nat.zero_add]; ac_rfl)))) fun h' s => ?_
    · exact HK _ _ this
    · refine H h' ?_
      have s1 : St h0 Z ((n, 0, [.int .u64 is', .int .i64 cnt, iv, ptr kb 0]) :: (ib, io, its.flatMap enc ++ isp) :: (kb, 0, [kv']) :: (krb, kro, (ts.map GT.id).flatMap fp ++ ksp) :: (ts.flatMap (GT.all enc) ++ E)) h' := s.perm (by rw [flat_at3 (GT.all enc) hc]; ((apply perm_rg; intro f; simp only [set_cons_zero, set_cons_succ, eraseIdx_cons_zero, eraseIdx_cons_succ, cons_append, nil_append, map_append, map_cons, map_nil, List.sum_append, List.sum_cons, List.sum_nil, map_flatMap, Nat.add_zero, Nat.zero_add]; ac_rfl)))
      rw [← mfp] at s1; exact s1
theorem down_pop {t2 : Value} {tb t5 m : Nat} {iso : Int} {ctr : Option Addr} (hT0 : (tb, 0, hd0 iso ctr) ∈ Z) (hT4 : (tb, 4, hd4 lf ((m / 2 : Nat) : Int) m) ∈ Z) (hm : m ≤ 1024) (hm3 : 3 ≤ m) : ∀ {k : Nat} (c : GT It k) {lo : Nat} {E : List Rg} {h : Heap}, 1 ≤ lo → (lo = m / 2 ∨ lo = 1) → c.pt.Fl m lo → Gd iso c → c.pt.items.length ≤ 4611686018427387903 → St h0 Z (c.all enc ++ ((t5, 0, enc emp) :: E)) h →
    (∀ (c' : GT It k) h' x R, Ends true x R c.pt.items → c'.pt.items = R → (c'.pt.Fl m lo ∨ (lo ≠ m / 2 ∧ R = [])) → c'.id = c.id → Gd iso c' → St h0 Z (c'.all enc ++ ((t5, 0, enc x) :: E)) h' → popEnd tb t2 (ptr t5 0) h' Q) →
    (∀ h' x R, Ends true x R c.pt.items → St h0 Z ((bmp true (-1) c).all enc ++ ((t5, 0, enc x) :: E)) h' → BTreeG_I_PopMax.j3 (ptr tb 0) t2 (ptr t5 0) h' Q) →
    LoopOk (fun c s h K1 => BTreeG_I_PopMax.l7.b (c.getD 0 undef) (c.getD 1 undef) (c.getD 2 undef) (s.getD 0 undef) h K1 Q) [ptr tb 0, t2, ptr t5 0] k [ptr c.id 0] h
  | 0, (d : Nd It), lo, E, h, hlo, hlo2, fl, g, hsz, s, H1, H2 => by
    obtain ⟨own, n, is', cnt, its, iv, ib, io, isp, kb, kv', krb, kro, ksp⟩ := d; intro K
    have hw : own = true := g.mine
    have hiso : is' = iso := g.wf.2.1 hw
    subst hiso; subst hw
    have w : Own 2 iv its.length ib io (its.flatMap enc) isp := g.wf.1
    have s : St h0 Z ((n, 0, [.int .u64 is', .int .i64 cnt, iv, .pointer none]) :: (ib, io, its.flatMap enc ++ isp) :: (t5, 0, enc emp) :: E) h := s
    have hcn : cnt = its.length := g.cn
    have hl1 : lo ≤ its.length := fl.1
    have hl2 : its.length ≤ m := fl.2
    have hE : Ends true (its[its.length - 1]'(by omega)) (its.eraseIdx (its.length - 1)) its := by
      show its = its.eraseIdx (its.length - 1) ++ [its[its.length - 1]'(by omega)]
      obtain ⟨R, z, e⟩ := last_of (l := its) (by omega); subst e
      have := eraseIdx_at (P := R) (S := []) (y := z) rfl
      simp only [List.length_append, List.length_singleton, Nat.add_sub_cancel, this]
      simp
    have hx : its[its.length - 1]? = some (its[its.length - 1]'(by omega)) := List.getElem?_eq_getElem (by omega)
    generalize hxg : its[its.length - 1]'(by omega) = x at *
    show BTreeG_I_PopMax.l7.b (ptr tb 0) t2 (ptr t5 0) (ptr n 0) h K Q
    unfold BTreeG_I_PopMax.l7.b; refine r_nil ?_; refine r_fld ?_; refine St.r_load0 s 0 rfl rfl ?_; refine r_sub (z := cnt + -1) (by rw [i64w (by omega) (by omega)]; omega) ?_; refine r_nil ?_; refine r_fld ?_; refine St.r_store0 s 0 rfl (by simp) rfl ?_; intro h s
    try simp only [List.set_cons_zero, List.set_cons_succ] at s
    refine node_leaf_ok (a := none) (s.get (k := 0) (j := 3) rfl (by simp)) ?_; refine r_if (fun _ => ?_) (fun e => absurd e (by simp))
    refine r_nil ?_; refine r_fld ?_; refine St.r_load0 s 0 rfl rfl ?_; refine r_nil ?_; refine r_fld ?_; refine St.r_load0 s 0 rfl rfl ?_; refine w.lenV ?_; refine r_sub (z := ((its.length - 1 : Nat) : Int)) (by rw [i64w (by omega) (by omega)]; omega) ?_; refine w.idx (n := its.length - 1) rfl (by omega) ?_; refine s.r_loadF encl 1 rfl hx ?_; refine St.r_storeN0 s 2 rfl rfl (by simp) (enc1 x) ?_; intro h s
    have s : St h0 Z ((n, 0, [.int .u64 is', .int .i64 (cnt + -1), iv, .pointer none]) :: (ib, io, its.flatMap enc ++ isp) :: (t5, 0, enc x) :: E) h := s
    refine r_nil ?_; refine r_fld ?_; refine St.r_load0 s 0 rfl rfl ?_; refine w.lenV ?_; refine r_nil ?_; refine r_fld ?_; refine s.r_lz hT4 6 rfl rfl ?_; refine r_cmpI ?_; refine r_if (fun _ => H2 h x _ hE s) (fun hne => ?_)
    have hne : its.length ≠ m / 2 := by have := hne; simp at this; omega
    have hel : (its.eraseIdx (its.length - 1)).length = its.length - 1 := by rw [List.length_eraseIdx, if_pos (by omega)]
    unfold BTreeG_I_PopMax.j9; refine r_nil ?_; refine r_fld ?_; refine St.r_load0 s 0 rfl rfl ?_; refine r_nil ?_; refine r_fld ?_; refine St.r_load0 s 0 rfl rfl ?_; refine w.lenV ?_; refine r_sub (z := ((its.length - 1 : Nat) : Int)) (by rw [i64w (by omega) (by omega)]; omega) ?_; refine r_nil ?_; refine r_fld ?_; refine s.r_lzE hT4 3 (enc emp) rfl (by simp) rfl ?_
    have hX : its.length = its.length := rfl
    have hdl : (its.set (its.length - 1) emp).length = its.length := List.length_set ..
    have her : (its.set (its.length - 1) emp).take (its.length - 1) = its.eraseIdx (its.length - 1) := by
      rw [List.take_set_of_le (Nat.le_refl _), List.eraseIdx_eq_take_drop_succ, List.drop_of_length_le (by omega), List.append_nil]
    refine w.idx (n := its.length - 1) rfl (by omega) ?_; refine s.r_storeF encl 1 rfl (by rw [hX]; omega) (enc1 emp) ?_; intro h s
    refine r_nil ?_; refine r_fld ?_; refine St.r_load0 s 0 rfl rfl ?_; refine r_nil ?_; refine r_fld ?_; refine St.r_load0 s 0 rfl rfl ?_; refine w.lenV ?_; refine r_sub (z := ((its.length - 1 : Nat) : Int)) (by rw [i64w (by omega) (by omega)]; omega) ?_; refine (w.list encl hdl).slcHi encl rfl (by rw [hdl]; omega) fun iv2 w2 => ?_
    have s := s.del (f := enc) 1 rfl _ her
    rw [her] at w2; refine r_nil ?_; refine r_fld ?_; refine St.r_store0 s 0 rfl (by simp) w2.one ?_; intro h s
    refine H1 (⟨true, n, is', cnt + -1, its.eraseIdx (its.length - 1), iv2, ib, io, _, kb, kv', krb, kro, ksp⟩ : Nd It) h x _ hE rfl ?_ rfl (Gd.leaf w2 rfl rfl (by show cnt + -1 = ((its.eraseIdx (its.length - 1)).length : Int); rw [hel, hcn]; omega)) s
    rcases Nat.lt_or_ge lo its.length with e | e
    · left
      show lo ≤ (its.eraseIdx (its.length - 1)).length ∧ (its.eraseIdx (its.length - 1)).length ≤ m
      rw [hel]; omega
    · right
      exact ⟨by omega, List.length_eq_zero_iff.1 (by rw [hel]; omega)⟩
  | k + 1, t, lo, E, h, hlo, hlo2, fl, g, hsz, s, H1, H2 => by
    obtain ⟨d, ts⟩ := t; obtain ⟨own, n, is', cnt, its, iv, ib, io, isp, kb, kv', krb, kro, ksp⟩ := d; intro K HK
    have hw : own = true := g.mine.1
    have hiso : is' = iso := g.wf.1.2.1 hw
    subst hiso; subst hw
    have hkl : ts.length = its.length + 1 := g.wf.2.2.1
    have wK : Own 1 kv' ts.length krb kro ((ts.map GT.id).map fun m => ptr m 0) ksp := g.wf.2.1
    have hcn : cnt = (PT.items (h := k + 1) (its, ts.map GT.pt)).length := g.cn.1
    have hsz : (PT.items (h := k + 1) (its, ts.map GT.pt)).length ≤ 4611686018427387903 := hsz
    have hlm : its.length ≤ m := fl.2.1
    have hl1 : lo ≤ its.length := fl.1
    obtain ⟨c, hc⟩ : ∃ c, ts[its.length]? = some c := ⟨ts[its.length]'(by omega), List.getElem?_eq_getElem (by omega)⟩
    have hcm := List.mem_of_getElem? hc
    have hcm2 : c.pt ∈ ts.map GT.pt := List.mem_map.2 ⟨c, hcm, rfl⟩
    have hfc : PT.Fl m (m / 2) c.pt := fl.2.2.2 _ hcm2
    have fl : PT.Fl m lo (h := k + 1) (its, ts.map GT.pt) := fl
    have hcsz : c.pt.items.length ≤ 4611686018427387903 := by
      have h1 : (inter its ((ts.map GT.pt).map PT.items)).length = _ := inter_length _ _
      have h2 : (inter its ((ts.map GT.pt).map PT.items)).length ≤ 4611686018427387903 := hsz
      have h3 : c.pt.items.length ≤ (((ts.map GT.pt).map PT.items).map List.length).sum := mem_le_sum (by
        rw [List.map_map, List.map_map]; exact List.mem_map.2 ⟨c, hcm, rfl⟩)
      omega
    have hc2 : ts[ts.length - 1]? = some c := by
      rw [show ts.length - 1 = its.length by omega]; exact hc
    have hcp : (ts.map GT.pt)[its.length]? = some c.pt := by rw [List.getElem?_map, hc]; rfl
    have up : ∀ {x : It} {R0 : List It} (c' : PT It k), Ends true x R0 c.pt.items → c'.items = R0 → PT.Fl m (m / 2) c' → ∃ R, Ends true x R (PT.items (h := k + 1) (its, ts.map GT.pt)) ∧ PT.items (h := k + 1) (its, (ts.map GT.pt).set (its.length) c') = R ∧ PT.Fl m lo (h := k + 1) (its, (ts.map GT.pt).set (its.length) c') := fun {x R0} c' he hr hf => by
      obtain ⟨f', A, B, e1, e2, e3, e4⟩ := items_set fl (by omega : its.length ≤ its.length) hcp hf; refine ⟨_, ?_, rfl, f'⟩
      rw [e1, e2, hr]
      have he : c.pt.items = R0 ++ [x] := he
      show _ = _ ++ [x]
      rw [e4 rfl, he, List.append_nil, List.append_nil, List.append_assoc]
    have up0 : ∀ {x : It} {R0 : List It}, Ends true x R0 c.pt.items → ∃ R, Ends true x R (PT.items (h := k + 1) (its, ts.map GT.pt)) := fun {x R0} he => by
      obtain ⟨_, A, B, e1, _, e3, e4⟩ := items_set fl (by omega : its.length ≤ its.length) hcp hfc; rw [e1]
      have he : c.pt.items = R0 ++ [x] := he
      exact ⟨A ++ R0, by rw [e4 rfl, he, List.append_nil]; exact (List.append_assoc ..).symm⟩
    have s : St h0 Z ((n, 0, [.int .u64 is', .int .i64 cnt, iv, ptr kb 0]) :: (ib, io, its.flatMap enc ++ isp) :: (kb, 0, [kv']) :: (krb, kro, ((ts.map GT.id).map fun m => ptr m 0) ++ ksp) :: (ts.flatMap (GT.all enc) ++ ((t5, 0, enc emp) :: E))) h := s
    rw [mfp, flat_at3 (GT.all enc) hc] at s
    show BTreeG_I_PopMax.l7.b (ptr tb 0) t2 (ptr t5 0) (ptr n 0) h K Q
    unfold BTreeG_I_PopMax.l7.b; refine r_nil ?_; refine r_fld ?_; refine St.r_load0 s 0 rfl rfl ?_; refine r_sub (z := cnt + -1) (by rw [i64w (by omega) (by omega)]; omega) ?_; refine r_nil ?_; refine r_fld ?_; refine St.r_store0 s 0 rfl (by simp) rfl ?_; intro h s
    try simp only [List.set_cons_zero, List.set_cons_succ] at s
    refine node_leaf_ok (a := some ⟨kb, 0, Option.none⟩) (s.get (k := 0) (j := 3) rfl (by simp)) ?_; refine r_if (fun e => absurd e (by simp)) (fun _ => ?_)
    unfold BTreeG_I_PopMax.j8; refine r_nil ?_; refine r_fld ?_; refine St.r_load0 s 0 rfl rfl ?_; refine r_nil ?_; refine St.r_load0 s 2 rfl rfl ?_; refine r_nil ?_; refine r_fld ?_; refine St.r_load0 s 0 rfl rfl ?_; refine r_nil ?_; refine St.r_load0 s 2 rfl rfl ?_; refine wK.lenV ?_; refine r_sub (z := ((its.length : Nat) : Int)) (by rw [i64w (by omega) (by omega)]; omega) ?_; refine wK.idx (n := its.length) rfl (by omega) ?_
    have hcell : cl h krb (kro + its.length * 1) = some (ptr c.id 0) := by
      have hid : (ts.map GT.id)[its.length]? = some c.id := by rw [List.getElem?_map, hc]; rfl
      obtain ⟨hi, he⟩ := List.getElem?_eq_some_iff.1 hid
      have := s.get (k := 3) (j := its.length * 1) rfl (by rw [List.length_append, flat_len fpl]; omega)
      rw [this, List.getElem?_append_left (by rw [flat_len fpl]; omega)]
      have h2 := flat_get (f := fp) fpl (ts.map GT.id) (its.length) hi 0 (by decide)
      rw [Nat.add_zero] at h2; rw [h2, he]; rfl
    have hciso : cl h c.id 0 = some (.int .u64 is') := by
      have hown : c.nd.own = true := (g.kid hcm).mine.nd
      obtain ⟨a2, a3, a4, hmem⟩ := topIso (t := c)
      have hci : c.nd.iso = is' := by
        have := (g.kid hcm).wf
        cases k with
        | zero => exact this.2.1 hown
        | succ k => exact this.1.2.1 hown
      rw [hci] at hmem
      have hmm : (c.id, 0, [.int .u64 is', a2, a3, a4]) ∈ c.all enc ++ (ts.drop (its.length + 1)).flatMap (GT.all enc) := List.mem_append.2 (.inl hmem)
      have hmm := List.mem_append.2 (.inr hmm : _ ∈ (ts.take (its.length)).flatMap (GT.all enc) ∨ _)
      have hmm := List.mem_append.2 (.inl hmm : _ ∨ _ ∈ (t5, 0, enc emp) :: E)
      have := (s.e _ (List.mem_cons_of_mem _ (List.mem_cons_of_mem _ (List.mem_cons_of_mem _ (List.mem_cons_of_mem _ hmm))))).1.at0 0 rfl
      exact this
    refine isoLoad_ok (n := c.id) (iso := is') (by have := s.getZ hT0 (j := 0) (by simp); simpa using this) hcell (fun _ => hciso) ?_
    have := down_pop (t2 := t2) (t5 := t5) hT0 hT4 hm hm3 c (E := (n, 0, [.int .u64 is', .int .i64 (cnt + -1), iv, ptr kb 0]) :: (ib, io, its.flatMap enc ++ isp) :: (kb, 0, [kv']) :: (krb, kro, (ts.map GT.id).flatMap fp ++ ksp) :: ((ts.take (its.length)).flatMap (GT.all enc) ++ ((ts.drop (its.length + 1)).flatMap (GT.all enc) ++ E))) (by omega) (.inl rfl) hfc (g.kid hcm) hcsz (s.perm (by ((apply perm_rg; intro f; simp only [set_cons_zero, set_cons_succ, eraseIdx_cons_zero, eraseIdx_cons_succ, cons_append, nil_append, map_append, map_cons, map_nil, List.sum_append, List.sum_cons, List.sum_nil, map_flatMap, Nat.add_zero, Nat.zero_add]; ac_rfl)))) (fun c' h' x R0 a1 a2 a3 a4 a5 s => ?_) (fun h' x R0 a1 s => ?_)
    · exact HK _ _ this
    · have hf' : PT.Fl m (m / 2) c'.pt := by
        rcases a3 with e | e
        · exact e
        · exact absurd rfl e.1
      obtain ⟨R, u1, u2, u3⟩ := up c'.pt a1 a2 hf'
      have ept : (ts.set (its.length) c').map GT.pt = (ts.map GT.pt).set (its.length) c'.pt := by rw [List.map_set]
      have hi := (List.getElem?_eq_some_iff.1 hc).1
      have hc' : (ts.set (its.length) c')[its.length]? = some c' := List.getElem?_set_self hi
      have etake : (ts.set (its.length) c').take (its.length) = ts.take (its.length) := List.take_set_of_le (Nat.le_refl _)
      have edrop : (ts.set (its.length) c').drop (its.length + 1) = ts.drop (its.length + 1) := List.drop_set_of_lt (by omega)
      have hlen := u1.len
      refine H1 ((⟨true, n, is', cnt + -1, its, iv, ib, io, isp, kb, kv', krb, kro, ksp⟩ : Nd It), ts.set (its.length) c') h' x R u1 (by show PT.items (h := k + 1) (its, (ts.set (its.length) c').map GT.pt) = _; rw [ept]; exact u2) (.inl (by show PT.Fl m lo (h := k + 1) (its, (ts.set (its.length) c').map GT.pt); rw [ept]; exact u3)) rfl
        (Gd.setKid (d := ⟨true, n, is', cnt, its, iv, ib, io, isp, kb, kv', krb, kro, ksp⟩) g hc a4 a5 (by
          show cnt + -1 = ((PT.items (h := k + 1) (its, (ts.set (its.length) c').map GT.pt)).length : Int); rw [ept, u2]; omega)) ?_
      have s1 : St h0 Z ((n, 0, [.int .u64 is', .int .i64 (cnt + -1), iv, ptr kb 0]) :: (ib, io, its.flatMap enc ++ isp) :: (kb, 0, [kv']) :: (krb, kro, ((ts.set (its.length) c').map GT.id).flatMap fp ++ ksp) :: ((ts.set (its.length) c').flatMap (GT.all enc) ++ ((t5, 0, enc x) :: E))) h' :=
        s.perm (by rw [set_ids hc a4, flat_at3 (GT.all enc) hc', etake, edrop]; ((apply perm_rg; intro f; simp only [set_cons_zero, set_cons_succ, eraseIdx_cons_zero, eraseIdx_cons_succ, cons_append, nil_append, map_append, map_cons, map_nil, List.sum_append, List.sum_cons, List.sum_nil, map_flatMap, Nat.add_zero, Nat.zero_add]; ac_rfl)))
      rw [← mfp] at s1; exact s1
    · obtain ⟨R, u1⟩ := up0 a1
      refine H2 h' x R u1 ?_
      have hi := (List.getElem?_eq_some_iff.1 hc2).1
      have hc' : (ts.set (ts.length - 1) (bmp true (-1) c))[ts.length - 1]? = some (bmp true (-1) c) := List.getElem?_set_self hi
      have etake : (ts.set (ts.length - 1) (bmp true (-1) c)).take (ts.length - 1) = ts.take (its.length) := by rw [List.take_set_of_le (Nat.le_refl _)]; congr 1; omega
      have edrop : (ts.set (ts.length - 1) (bmp true (-1) c)).drop (ts.length - 1 + 1) = ts.drop (its.length + 1) := by rw [List.drop_set_of_lt (by omega)]; congr 1; omega
      have s1 : St h0 Z ((n, 0, [.int .u64 is', .int .i64 (cnt + -1), iv, ptr kb 0]) :: (ib, io, its.flatMap enc ++ isp) :: (kb, 0, [kv']) :: (krb, kro, ((ts.modify (ts.length - 1) (bmp true (-1))).map GT.id).flatMap fp ++ ksp) :: ((ts.modify (ts.length - 1) (bmp true (-1))).flatMap (GT.all enc) ++ ((t5, 0, enc x) :: E))) h' :=
        s.perm (by rw [modify_at hc2, set_ids hc2 (bmp_id c), flat_at3 (GT.all enc) hc', etake, edrop]; ((apply perm_rg; intro f; simp only [set_cons_zero, set_cons_succ, eraseIdx_cons_zero, eraseIdx_cons_succ, cons_append, nil_append, map_append, map_cons, map_nil, List.sum_append, List.sum_cons, List.sum_nil, map_flatMap, Nat.add_zero, Nat.zero_add]; ac_rfl)))
      rw [← mfp] at s1; exact s1
theorem ok (o : Swo lt) {A : List Rg} (hO : OrdA A lf lt) {tb m : Nat} {iso : Int} {ctr : Option Addr} {g : Rt} (M : TreeOk lt m iso g) (hsz : (rPt g).items.length ≤ 4611686018427387903)
    (s : St h0 Z ((tb, 0, hdr iso ctr (rA g) (rPt g).items.length lf ((m / 2 : Nat) : Int) m) :: (rAll g ++ (A ++ E))) h)
    (H : ∀ (r : Option It) (g' : Rt) h', Popped true r (rPt g).items (rPt g').items → TreeOk lt m iso g' → (rH g' = rH g ∨ rH g' + 1 = rH g) → St h0 Z ((tb, 0, hdr iso ctr (rA g') (rPt g').items.length lf ((m / 2 : Nat) : Int) m) :: (rAll g' ++ (A ++ E))) h' → Q (.tuple #[old r, .bool r.isSome]) h') :
    BTreeG_I_PopMax.call #[ptr tb 0] h Q := by
  refine BTreeG_I_PopMax.body _ _ _ ?_; unfold BTreeG_I_PopMax.sh; refine s.r_alloc fun t2 h s => ?_; refine lock_ok ?_; refine r_if (fun e => absurd e (by simp)) (fun _ => ?_)
  unfold BTreeG_I_PopMax.j1; refine r_nil ?_; refine r_fld ?_; refine St.r_load0 s 1 rfl rfl ?_; refine r_eqNilP ?_
  cases g with
  | none =>
    refine r_if (fun _ => ?_) (fun e => absurd e (by simp [rA]))
    refine r_nil ?_; refine r_fld ?_; refine St.r_loadN0 s 1 rfl (by simp) ?_; refine St.r_storeN0 s 0 rfl rfl (by simp) (enc1 emp) ?_; intro h s
    refine St.r_loadN0 s 0 rfl (by simp) ?_; exact H none none h ⟨rfl, rfl⟩ M (.inl rfl) (s.drop 1)
  | some t =>
    obtain ⟨k, t⟩ := t; refine r_if (fun e => absurd e (by simp [rA])) (fun _ => ?_)
    unfold BTreeG_I_PopMax.j2
    have hkk : k < t.pt.items.length := PT.height_le M.m3 (t := t.pt) M.fl (Nat.le_refl _)
    have s := hdr_cut (s.front 1 rfl)
    have s0 : St h0 Z (([(tb, 0, hd0 iso ctr), (tb, 4, hd4 lf ((m / 2 : Nat) : Int) m)] ++ A) ++ ((tb, 2, [ptr t.id 0]) :: (tb, 3, [.int .i64 t.pt.items.length]) :: (t2, 0, enc emp) :: (t.all enc ++ E))) h := s.perm (by
      show ((tb, 0, hd0 iso ctr) :: (tb, 4, hd4 lf ((m / 2 : Nat) : Int) m) :: (A ++ ((tb, 2, [ptr t.id 0]) :: (tb, 3, [.int .i64 t.pt.items.length]) :: (t2, 0, enc emp) :: (t.all enc ++ E)))).Perm ((tb, 0, hd0 iso ctr) :: (tb, 4, hd4 lf ((m / 2 : Nat) : Int) m) :: (tb, 2, [ptr t.id 0]) :: (tb, 3, [.int .i64 t.pt.items.length]) :: (t2, 0, enc emp) :: (t.all enc ++ (A ++ E)))
      ((apply perm_rg; intro f; simp only [set_cons_zero, set_cons_succ, eraseIdx_cons_zero, eraseIdx_cons_succ, cons_append, nil_append, map_append, map_cons, map_nil, List.sum_append, List.sum_cons, List.sum_nil, map_flatMap, Nat.add_zero, Nat.zero_add]; ac_rfl)))
    obtain ⟨s1, back⟩ := s0.borrow
    have z0 : (tb, 0, hd0 iso ctr) ∈ ([(tb, 0, hd0 iso ctr), (tb, 4, hd4 lf ((m / 2 : Nat) : Int) m)] ++ A) ++ Z := List.mem_cons_self ..
    have z4 : (tb, 4, hd4 lf ((m / 2 : Nat) : Int) m) ∈ ([(tb, 0, hd0 iso ctr), (tb, 4, hd4 lf ((m / 2 : Nat) : Int) m)] ++ A) ++ Z := List.mem_cons_of_mem _ (List.mem_cons_self ..)
    have hgd : Gd iso t := M.gd
    have hfl : t.pt.Fl m 1 := M.fl
    have hasc : Asc lt t.pt.items := M.asc
    have hszt : t.pt.items.length ≤ 4611686018427387903 := hsz
    have hiso : ∀ {Z' E' : List Rg} {h : Heap}, St h0 Z' (t.all enc ++ E') h → cl h t.id 0 = some (.int .u64 iso) := fun s => by
      obtain ⟨a2, a3, a4, hmem⟩ := topIso (t := t)
      have hown := hgd.mine.nd
      have hci : t.nd.iso = iso := by
        have := hgd.wf
        cases k with
        | zero => exact this.2.1 hown
        | succ k => exact this.1.2.1 hown
      rw [hci] at hmem; exact (s.e _ (List.mem_append.2 (.inl hmem))).1.at0 0 rfl
    refine r_nil ?_; refine r_fld ?_; refine isoLoad_ok (n := t.id) (iso := iso) (by have := s1.getZ z0 (j := 0) (by simp); simpa using this) (by have := s1.get (k := 0) (j := 0) rfl (by simp); simpa using this) (fun _ => hiso (s1.perm (E' := t.all enc ++ ((tb, 2, [ptr t.id 0]) :: (tb, 3, [.int .i64 t.pt.items.length]) :: (t2, 0, enc emp) :: E)) (by ((apply perm_rg; intro f; simp only [set_cons_zero, set_cons_succ, eraseIdx_cons_zero, eraseIdx_cons_succ, cons_append, nil_append, map_append, map_cons, map_nil, List.sum_append, List.sum_cons, List.sum_nil, map_flatMap, Nat.add_zero, Nat.zero_add]; ac_rfl))))) ?_; refine s1.r_alloc fun t5 h s1 => ?_; refine (down_pop (t2 := ptr t2 0) (t5 := t5) z0 z4 M.m1 M.m3 t (E := (tb, 2, [ptr t.id 0]) :: (tb, 3, [.int .i64 t.pt.items.length]) :: (t2, 0, enc emp) :: E) (Nat.le_refl 1) (.inr rfl) hfl hgd hszt (s1.perm (by ((apply perm_rg; intro f; simp only [set_cons_zero, set_cons_succ, eraseIdx_cons_zero, eraseIdx_cons_succ, cons_append, nil_append, map_append, map_cons, map_nil, List.sum_append, List.sum_cons, List.sum_nil, map_flatMap, Nat.add_zero, Nat.zero_add]; ac_rfl)))) (fun c' h' x R a1 a2 a3 a4 a5 s => ?_) (fun h' x R a1 s => ?_)).loop
    · have hlen := a1.len
      unfold popEnd
      have s : St h0 (([(tb, 0, hd0 iso ctr), (tb, 4, hd4 lf ((m / 2 : Nat) : Int) m)] ++ A) ++ Z) ((tb, 3, [.int .i64 t.pt.items.length]) :: (tb, 2, [ptr t.id 0]) :: (t2, 0, enc emp) :: (t5, 0, enc x) :: (c'.all enc ++ E)) h' := s.perm (by ((apply perm_rg; intro f; simp only [set_cons_zero, set_cons_succ, eraseIdx_cons_zero, eraseIdx_cons_succ, cons_append, nil_append, map_append, map_cons, map_nil, List.sum_append, List.sum_cons, List.sum_nil, map_flatMap, Nat.add_zero, Nat.zero_add]; ac_rfl)))
      refine r_nil ?_; refine r_fld ?_; refine s.r_load1 0 (o := 3) (j := 0) rfl rfl ?_; refine r_sub (z := (R.length : Int)) (by rw [i64w (by omega) (by omega)]; omega) ?_; refine r_nil ?_; refine r_fld ?_; refine St.r_store1 s 0 (o := 3) (j := 0) rfl (by simp) rfl ?_; intro h s
      refine r_nil ?_; refine r_fld ?_; refine s.r_load1 0 (o := 3) (j := 0) rfl rfl ?_; refine r_cmpI ?_; refine r_if (fun e => ?_) (fun e => ?_)
      · have hR : R = [] := by simpa using e
        subst hR; refine r_nil ?_; refine r_fld ?_; refine St.r_store1 s 1 (o := 2) (j := 0) rfl (by simp) rfl ?_; intro h s
        refine St.r_loadN0 s 3 rfl (by simp) ?_; refine St.r_storeN0 s 2 rfl rfl (by simp) (enc1 x) ?_; intro h s
        refine St.r_loadN0 s 2 rfl (by simp) ?_
        have hk0 : k = 0 := by rw [hlen] at hkk; simp at hkk; exact hkk
        refine H (some x) none h a1 (TreeOk.none M.m3 M.m1 M.odd) (.inr (by show 0 + 1 = k + 1; rw [hk0])) ?_
        have s2 := back _ h s
        refine hdr_glue ?_; exact (s2.perm (E' := (c'.all enc) ++ ((t2, 0, enc x) :: (t5, 0, enc x) :: (tb, 0, hd0 iso ctr) :: (tb, 4, hd4 lf ((m / 2 : Nat) : Int) m) :: (tb, 2, [.pointer none]) :: (tb, 3, [.int .i64 (([] : List It).length : Nat)]) :: (A ++ E))) (by ((apply perm_rg; intro f; simp only [set_cons_zero, set_cons_succ, eraseIdx_cons_zero, eraseIdx_cons_succ, cons_append, nil_append, map_append, map_cons, map_nil, List.sum_append, List.sum_cons, List.sum_nil, map_flatMap, Nat.add_zero, Nat.zero_add]; ac_rfl)))).sub (List.Sublist.trans (List.sublist_cons_self ..) (List.Sublist.trans (List.sublist_cons_self ..) (List.sublist_append_right _ _)))
      · have hR : R ≠ [] := fun hR => by subst hR; simp at e
        refine St.r_loadN0 s 3 rfl (by simp) ?_; refine St.r_storeN0 s 2 rfl rfl (by simp) (enc1 x) ?_; intro h s
        refine St.r_loadN0 s 2 rfl (by simp) ?_
        have hf : c'.pt.Fl m 1 := by
          rcases a3 with e | e
          · exact e
          · exact absurd e.2 hR
        have hsub : Asc lt R := by
          have := (ends_del o a1 hasc).2
          rw [← this]; exact asc_of_sub hasc (ldel_sub _ _)
        refine H (some x) (some ⟨k, c'⟩) h (by show Ends true x c'.pt.items t.pt.items; rw [a2]; exact a1) ⟨a5, hf, by show Asc lt c'.pt.items; rw [a2]; exact hsub, M.m3, M.m1, M.odd⟩ (.inl rfl) ?_
        have s2 := back _ h s
        show St h0 Z ((tb, 0, hdr iso ctr (some ⟨c'.id, 0, Option.none⟩) c'.pt.items.length lf ((m / 2 : Nat) : Int) m) :: (c'.all enc ++ (A ++ E))) h
        refine hdr_glue ?_; rw [a2, a4]; exact (s2.perm (E' := (t2, 0, enc x) :: (t5, 0, enc x) :: (tb, 0, hd0 iso ctr) :: (tb, 4, hd4 lf ((m / 2 : Nat) : Int) m) :: (tb, 2, [ptr t.id 0]) :: (tb, 3, [.int .i64 (R.length : Nat)]) :: (c'.all enc ++ (A ++ E))) (by ((apply perm_rg; intro f; simp only [set_cons_zero, set_cons_succ, eraseIdx_cons_zero, eraseIdx_cons_succ, cons_append, nil_append, map_append, map_cons, map_nil, List.sum_append, List.sum_cons, List.sum_nil, map_flatMap, Nat.add_zero, Nat.zero_add]; ac_rfl)))).drop 2
    · obtain ⟨d1, d2⟩ := ends_del o a1 hasc
      unfold BTreeG_I_PopMax.j3
      have s : St h0 (([(tb, 0, hd0 iso ctr), (tb, 4, hd4 lf ((m / 2 : Nat) : Int) m)] ++ A) ++ Z) ((tb, 2, [ptr t.id 0]) :: (tb, 3, [.int .i64 t.pt.items.length]) :: (t2, 0, enc emp) :: (t5, 0, enc x) :: ((bmp true (-1) t).all enc ++ E)) h' := s.perm (by ((apply perm_rg; intro f; simp only [set_cons_zero, set_cons_succ, eraseIdx_cons_zero, eraseIdx_cons_succ, cons_append, nil_append, map_append, map_cons, map_nil, List.sum_append, List.sum_cons, List.sum_nil, map_flatMap, Nat.add_zero, Nat.zero_add]; ac_rfl)))
      refine r_nil ?_; refine r_fld ?_; refine s.r_load1 0 (o := 2) (j := 0) rfl rfl ?_; refine (up_pop M.m1 t (E := (tb, 2, [ptr t.id 0]) :: (tb, 3, [.int .i64 t.pt.items.length]) :: (t2, 0, enc emp) :: (t5, 0, enc x) :: E) hfl hgd hszt (s.perm (by ((apply perm_rg; intro f; simp only [set_cons_zero, set_cons_succ, eraseIdx_cons_zero, eraseIdx_cons_succ, cons_append, nil_append, map_append, map_cons, map_nil, List.sum_append, List.sum_cons, List.sum_nil, map_flatMap, Nat.add_zero, Nat.zero_add]; ac_rfl)))) fun h' s => ?_).loop
      have s2 := back ((tb, 2, [ptr t.id 0]) :: (tb, 3, [.int .i64 t.pt.items.length]) :: (t2, 0, enc emp) :: (t5, 0, enc x) :: (t.all enc ++ E)) h' (s.perm (by ((apply perm_rg; intro f; simp only [set_cons_zero, set_cons_succ, eraseIdx_cons_zero, eraseIdx_cons_succ, cons_append, nil_append, map_append, map_cons, map_nil, List.sum_append, List.sum_cons, List.sum_nil, map_flatMap, Nat.add_zero, Nat.zero_add]; ac_rfl))))
      have s4 : St h0 Z ((tb, 0, hd0 iso ctr) :: (tb, 4, hd4 lf ((m / 2 : Nat) : Int) m) :: (tb, 2, [ptr t.id 0]) :: (tb, 3, [.int .i64 t.pt.items.length]) :: (t2, 0, enc emp) :: (t5, 0, enc x) :: (t.all enc ++ (A ++ E))) h' := s2.perm (by ((apply perm_rg; intro f; simp only [set_cons_zero, set_cons_succ, eraseIdx_cons_zero, eraseIdx_cons_succ, cons_append, nil_append, map_append, map_cons, map_nil, List.sum_append, List.sum_cons, List.sum_nil, map_flatMap, Nat.add_zero, Nat.zero_add]; ac_rfl)))
      have s5 : St h0 Z ((tb, 0, hdr iso ctr (rA (some ⟨k, t⟩)) (rPt (some ⟨k, t⟩)).items.length lf ((m / 2 : Nat) : Int) m) :: (t2, 0, enc emp) :: (t5, 0, enc x) :: (rAll (some ⟨k, t⟩) ++ (A ++ E))) h' := hdr_glue s4
      unfold BTreeG_I_PopMax.j4; refine St.r_loadN0 s5 2 rfl (by simp) ?_; refine deleteHint_ok o hO M hsz Hn.none (x := x) (E := (t2, 0, enc emp) :: (t5, 0, enc x) :: E) ((s5.empty 0 0).perm (by ((apply perm_rg; intro f; simp only [set_cons_zero, set_cons_succ, eraseIdx_cons_zero, eraseIdx_cons_succ, cons_append, nil_append, map_append, map_cons, map_nil, List.sum_append, List.sum_cons, List.sum_nil, map_flatMap, Nat.add_zero, Nat.zero_add]; ac_rfl)))) fun g' hc' h e1 e2 M' hH hh s => ?_
      have s : St h0 Z ((t2, 0, enc emp) :: (t5, 0, enc x) :: (0, 0, hc') :: (tb, 0, hdr iso ctr (rA g') (rPt g').items.length lf ((m / 2 : Nat) : Int) m) :: (rAll g' ++ (A ++ E))) h := s.perm (by ((apply perm_rg; intro f; simp only [set_cons_zero, set_cons_succ, eraseIdx_cons_zero, eraseIdx_cons_succ, cons_append, nil_append, map_append, map_cons, map_nil, List.sum_append, List.sum_cons, List.sum_nil, map_flatMap, Nat.add_zero, Nat.zero_add]; ac_rfl)))
      have hl : lget lt (rPt (some ⟨k, t⟩)).items x = some x := d1
      rw [hl]; refine r_ext rfl ?_; refine r_ext rfl ?_; refine St.r_storeN0 s 0 rfl rfl (by simp) (enc1 x) ?_; intro h s
      refine St.r_loadN0 s 0 rfl (by simp) ?_; refine H (some x) g' h ?_ M' hH (s.drop 3)
      show Ends true x (rPt g').items t.pt.items
      rw [e1]
      have : ldel lt (rPt (some ⟨k, t⟩)).items x = R := d2
      rw [this]; exact a1
end PopMax
end Go.Proofs.Ythpmeccnddchpaa.Gi
end
section
namespace Go.Hp
abbrev KI : Type := Int × Int
def ltK (a b : KI) : Bool := decide (a.1 < b.1)
theorem ltK_t {a b : KI} : ltK a b = true ↔ a.1 < b.1 := by simp [ltK]
theorem ltK_f {a b : KI} : ltK a b = false ↔ b.1 ≤ a.1 := by simp [ltK]
theorem swoK : Swo ltK where
  irr a := by simp [ltK]
  tr a b c h k := by rw [ltK_t] at *; omega
  ntr a b c h k := by rw [ltK_f] at *; omega
theorem ascK_split {l : List KI} {y : KI} (ha : Asc ltK l) (hy : y ∈ l) : ∃ p s, l = p ++ y :: s ∧ (∀ z ∈ p, z.1 < y.1) ∧ ∀ z ∈ s, y.1 < z.1 := by
  obtain ⟨p, s, rfl⟩ := List.append_of_mem hy; obtain ⟨h1, h2, h3⟩ := asc_app ha; exact ⟨p, s, rfl, fun z hz => ltK_t.1 (h3 z hz y (List.mem_cons_self ..)), fun z hz => ltK_t.1 ((List.pairwise_cons.1 h2).1 z hz)⟩
theorem lgetK_mem {l : List KI} {x y : KI} (ha : Asc ltK l) (hy : y ∈ l) (e : y.1 = x.1) : lget ltK l x = some y := by
  obtain ⟨p, s, rfl, h1, h2⟩ := ascK_split ha hy; exact lget_at (fun z hz => ltK_t.2 (by have := h1 z hz; omega)) (ltK_f.2 (by omega)) (ltK_f.2 (by omega))
theorem lgetK_key {l : List KI} {x y : KI} (h : lget ltK l x = some y) : y ∈ l ∧ y.1 = x.1 := by
  obtain ⟨hp, e, h1, h2⟩ := lget_some h; rw [ltK_f] at h1 h2; exact ⟨e ▸ List.getElem_mem hp, by omega⟩
theorem lgetK_none {l : List KI} {x : KI} (hn : ∀ y ∈ l, y.1 ≠ x.1) : lget ltK l x = none := by
  cases h : lget ltK l x with
  | none => rfl
  | some y => exact absurd (lgetK_key h).2 (hn y (lgetK_key h).1)
theorem lgetK_nk {l : List KI} {x : KI} (ha : Asc ltK l) (h : lget ltK l x = none) : ∀ y ∈ l, y.1 ≠ x.1 := fun y hy e => by
  rw [lgetK_mem ha hy e] at h; cases h
theorem lputK_perm {l : List KI} {x : KI} (hn : ∀ y ∈ l, y.1 ≠ x.1) : (lput ltK l x).Perm (x :: l) := by
  unfold lput; rw [lgetK_none hn]
  simp only [Option.isSome_none, Bool.false_eq_true, if_false, Nat.add_zero]
  refine List.perm_middle.trans ?_; rw [List.take_append_drop]
theorem lputK_asc {l : List KI} {x : KI} (ha : Asc ltK l) : Asc ltK (lput ltK l x) := asc_lput swoK ha
theorem ldelK_asc {l : List KI} {x : KI} (ha : Asc ltK l) : Asc ltK (ldel ltK l x) := ha.sublist (ldel_sub l x)
theorem mem_lputK {l : List KI} {x z : KI} (ha : Asc ltK l) : z ∈ lput ltK l x ↔ z = x ∨ (z ∈ l ∧ z.1 ≠ x.1) := by
  cases h : lget ltK l x with
  | none =>
    have hn := lgetK_nk ha h
    rw [(lputK_perm hn).mem_iff, List.mem_cons]; exact ⟨fun h => h.imp id fun h => ⟨h, hn z h⟩, fun h => h.imp id fun h => h.1⟩
  | some y =>
    obtain ⟨hy, e⟩ := lgetK_key h; obtain ⟨p, s, rfl, h1, h2⟩ := ascK_split ha hy; rw [lput_at (fun z hz => ltK_t.2 (by have := h1 z hz; omega)) (ltK_f.2 (by omega)) (ltK_f.2 (by omega))]
    simp only [List.mem_append, List.mem_cons]
    constructor
    · rintro (h | h | h)
      · exact .inr ⟨.inl h, by have := h1 z h; omega⟩
      · exact .inl h
      · exact .inr ⟨.inr (.inr h), by have := h2 z h; omega⟩
    · rintro (h | ⟨h | h | h, e2⟩)
      · exact .inr (.inl h)
      · exact .inl h
      · subst h; exact absurd e e2
      · exact .inr (.inr h)
theorem mem_ldelK {l : List KI} {x z : KI} (ha : Asc ltK l) : z ∈ ldel ltK l x ↔ z ∈ l ∧ z.1 ≠ x.1 := by
  cases h : lget ltK l x with
  | none =>
    rw [ldel_none h]; exact ⟨fun hz => ⟨hz, lgetK_nk ha h z hz⟩, fun h => h.1⟩
  | some y =>
    obtain ⟨hy, e⟩ := lgetK_key h; obtain ⟨p, s, rfl, h1, h2⟩ := ascK_split ha hy; rw [ldel_at (fun z hz => ltK_t.2 (by have := h1 z hz; omega)) (ltK_f.2 (by omega)) (ltK_f.2 (by omega))]
    simp only [List.mem_append, List.mem_cons]
    constructor
    · rintro (h | h)
      · exact ⟨.inl h, by have := h1 z h; omega⟩
      · exact ⟨.inr (.inr h), by have := h2 z h; omega⟩
    · rintro ⟨h | h | h, e2⟩
      · exact .inl h
      · subst h; exact absurd e e2
      · exact .inr h
theorem ascK_ext : ∀ {l r : List KI}, Asc ltK l → Asc ltK r → (∀ z, z ∈ l ↔ z ∈ r) → l = r
  | [], [], _, _, _ => rfl
  | [], y :: r, _, _, h => absurd ((h y).2 (List.mem_cons_self ..)) (List.not_mem_nil)
  | x :: l, [], _, _, h => absurd ((h x).1 (List.mem_cons_self ..)) (List.not_mem_nil)
  | x :: l, y :: r, h1, h2, h => by
    obtain ⟨a1, a2⟩ := List.pairwise_cons.1 h1; obtain ⟨b1, b2⟩ := List.pairwise_cons.1 h2
    have e : x = y := by
      rcases List.mem_cons.1 ((h x).1 (List.mem_cons_self ..)) with e | e
      · exact e
      · rcases List.mem_cons.1 ((h y).2 (List.mem_cons_self ..)) with e2 | e2
        · exact e2.symm
        · have := ltK_t.1 (b1 x e); have := ltK_t.1 (a1 y e2); omega
    subst e
    congr 1
    refine ascK_ext a2 b2 fun z => ⟨fun hz => ?_, fun hz => ?_⟩
    · rcases List.mem_cons.1 ((h z).1 (List.mem_cons_of_mem _ hz)) with e | e
      · subst e; have := ltK_t.1 (a1 z hz); omega
      · exact e
    · rcases List.mem_cons.1 ((h z).2 (List.mem_cons_of_mem _ hz)) with e | e
      · subst e; have := ltK_t.1 (b1 z hz); omega
      · exact e
def setK (l : List KI) : List KI := l.foldl (lput ltK) []
theorem setK_snoc (l : List KI) (x : KI) : setK (l ++ [x]) = lput ltK (setK l) x := by unfold setK; rw [List.foldl_append]; rfl
theorem asc_rev {P : List KI → Prop} (h0 : P []) (h1 : ∀ l x, P l → P (l ++ [x])) : ∀ l, P l := fun l => by
  have : ∀ r : List KI, P r.reverse := fun r => by
    induction r with
    | nil => exact h0
    | cons x r ih => rw [List.reverse_cons]; exact h1 _ _ ih
  have h := this l.reverse
  rwa [List.reverse_reverse] at h
theorem setK_asc (l : List KI) : Asc ltK (setK l) := by
  refine asc_rev (P := fun l => Asc ltK (setK l)) List.Pairwise.nil (fun l x h => ?_) l
  rw [setK_snoc]; exact lputK_asc h
theorem lputK_last {l : List KI} {x : KI} (h : ∀ y ∈ l, y.1 < x.1) : lput ltK l x = l ++ [x] := by
  have hp : pos ltK l x = l.length := pos_uni (Nat.le_refl _) (fun j hj _ => ltK_t.2 (h _ (List.getElem_mem hj))) (fun hl => absurd hl (Nat.lt_irrefl _))
  have hg : lget ltK l x = none := lgetK_none fun y hy => by have := h y hy; omega
  unfold lput; rw [hg, hp, List.take_length]
  simp
theorem setK_self (l : List KI) : Asc ltK l → setK l = l := by
  refine asc_rev (P := fun l => Asc ltK l → setK l = l) (fun _ => rfl) (fun l x ih h => ?_) l
  obtain ⟨h1, _, h3⟩ := asc_app h; rw [setK_snoc, ih h1]; exact lputK_last fun y hy => ltK_t.1 (h3 y hy x (List.mem_cons_self ..))
theorem setK_put {l : List KI} {x : KI} (h : Asc ltK l) : setK (l ++ [x]) = lput ltK l x := by rw [setK_snoc, setK_self l h]
theorem setK_perm (l : List KI) : (l.map Prod.fst).Nodup → (setK l).Perm l := by
  refine asc_rev (P := fun l => (l.map Prod.fst).Nodup → (setK l).Perm l) (fun _ => List.Perm.nil) (fun l x ih h => ?_) l
  rw [List.map_append, List.nodup_append] at h; obtain ⟨h1, _, h3⟩ := h
  have ih := ih h1
  rw [setK_snoc]; refine (lputK_perm fun y hy e => ?_).trans ((List.Perm.cons x ih).trans (List.perm_append_singleton x l).symm)
  exact h3 y.1 (List.mem_map_of_mem (ih.mem_iff.1 hy)) x.1 (by simp) e
theorem setK_len (l : List KI) : (setK l).length ≤ l.length := by
  refine asc_rev (P := fun l => (setK l).length ≤ l.length) (Nat.le_refl _) (fun l x ih => ?_) l
  rw [setK_snoc, lput_length, List.length_append, List.length_singleton]
  split <;> omega
end Go.Hp
end
section
namespace Go.Proofs.Ythpmeccnddchpaa.Gi
open Go.Hp Go.Proofs.Ythpmeccnddchpaa
section
variable {h0 h : Heap} {Z E : List Rg} {Q : Value → Heap → Prop} {lt : It → It → Bool} {lf : Value} {ow : List Int} {ov : Value}
structure OwAt (h : Heap) (ow : List Int) (ov : Value) : Prop where
  rd : Rdl 1 h ov ow.length (ow.flatMap fi)
  le : ow.length ≤ 2147483647
theorem OwAt.st {h' : Heap} {E' : List Rg} (o : OwAt h ow ov) (s : St h [] E' h') : OwAt h' ow ov := ⟨o.rd.st s, o.le⟩
theorem OwAt.fr {h' : Heap} (o : OwAt h ow ov) (s : Fr (fun _ _ => False) h h') : OwAt h' ow ov := ⟨o.rd.fr s (fun _ _ e => e), o.le⟩
theorem OwAt.nil (h : Heap) : OwAt h [] (.slice none 0 0) := ⟨Rdl.nil 1 h, by decide⟩
theorem OwAt.one (o : OwAt h ow ov) : one1 ov = true := o.rd.one
end
variable {h0 h : Heap} {Z E : List Rg} {Q : Value → Heap → Prop} {lt : It → It → Bool} {lf : Value}
theorem join2 {r : Rg} {E' : List Rg} {h' : Heap} (s : St h0 Z E h) (k : St h [] (r :: E') h') : St h0 Z (r :: (E' ++ E)) h' := s.join k
theorem one3 {a b c : Value} (h1 : one1 a = true) (h2 : one1 b = true) (h3 : one1 c = true) : ∀ y ∈ [a, b, c], one1 y = true := by
  intro y hy
  simp only [List.mem_cons, List.not_mem_nil, or_false] at hy
  rcases hy with rfl | rfl | rfl <;> assumption
theorem options_ok {ov : Value} {d : Int} {nl : Bool} (h1 : one1 ov = true) (H : ∀ E' h', St h [] E' h' → Q (.agg #[.int .i64 d, .bool nl]) h') : i_options.call #[.agg #[ov, .int .i64 d, .bool nl]] h Q := by
  refine i_options.body _ _ _ ?_; unfold i_options.sh
  have s := St.start h
  refine St.r_box (cs := [ov, .int .i64 d, .bool nl]) s fun t1 h s => ?_; refine s.r_alloc fun t2 h s => ?_; refine r_fld ?_; refine St.r_load0 s 1 rfl rfl ?_; refine r_fld ?_; refine St.r_load0 s 1 rfl rfl ?_
  ((apply r_build; ((simp only [fillV, fill1, Value.cells, zeros_succ, zeros_zero, size_toArray, length_cons, length_nil, length_append, take_succ_cons, take_zero, take_nil, drop_succ_cons, drop_zero, drop_nil, cons_append, nil_append, append_nil, Nat.reduceAdd, Nat.reduceMul, Nat.reduceLeDiff, Nat.reduceEqDiff, and_self, and_true, true_and, if_true, Nat.le_refl, Nat.zero_add, Nat.add_zero, Nat.zero_mul, reduceIte, if_false] <;> rfl))))
  (refine St.r_storeN0 s 0 rfl rfl (by simp) (by simp [one1]) ?_; intro h s; try simp only [List.set_cons_zero, List.set_cons_succ] at s)
  refine St.r_loadN0 s 0 rfl (by simp) ?_; exact H _ _ s
structure Tr (b : Heap) (Z : List Rg) (ow : List Int) (d : Nat) (tb : Nat) (g : Rt) (A E : List Rg) (lf : Value) (cb : Nat) (h : Heap) : Prop where
  ord : OrdA A lf (ltO ow)
  ok : TreeOk (ltO ow) (dmax d) 1 g
  st : St b Z ((tb, 0, hdr 1 (some ⟨cb, 0, none⟩) (rA g) (rPt g).items.length lf (dmin d : Nat) (dmax d : Nat)) :: (rAll g ++ (A ++ E))) h
theorem grow_ok {ow : List Int} {ov v : Value} {d : Nat} {nl : Bool} {l : List It} (ho : OwAt h ow ov) (hd : d = 0 ∨ 2 ≤ d) (hd2 : d ≤ 512) (hr : Rdl 2 h v l.length (l.flatMap enc)) (hl : l.length ≤ 1073741824)
    (H : ∀ tb g lf cb A E' h', rPt g = l.foldl (MT.set (ltO ow) (dmax d)) none → Tr h [] ow d tb g A E' lf cb h' → Q (ptr tb 0) h') : i_grow.call #[.agg #[ov, .int .i64 d, .bool nl], v] h Q := by
  obtain ⟨m3, m1, mo, _, mn0⟩ := dmax_ok hd hd2; refine i_grow.body _ _ _ _ ?_; unfold i_grow.sh
  have s := St.start h
  refine St.r_box (cs := [ov, .int .i64 d, .bool nl]) s fun t2 h1 s => ?_; refine r_fld ?_; refine St.r_load0 s 0 rfl rfl ?_; refine St.r_loadN0 s 0 rfl (by simp) ?_; refine before_ok (ho.st s).rd ho.le fun lf A E1 h1 hA s1 => ?_
  have s := (s.join s1).perm List.perm_append_comm
  refine ⟨St.r_stillN0 s 0 (j := 0) rfl (by simp) rfl, ?_⟩
  refine options_ok ho.one fun E2 h1 s2 => ?_
  have s := (s.join s2).perm List.perm_append_comm
  refine New_ok s hd hd2 ((hA A fun _ h => h).one) fun tb cb h1 s => ?_; refine (hr.st s).lenV ?_
  refine loop_intro (fun t h' => ∃ (j : Nat) (g : Rt) (R : List Rg), t = [.int .i64 j] ∧ j ≤ l.length ∧ rPt g = (l.take j).foldl (MT.set (ltO ow) (dmax d)) none ∧ (rPt g).items.length ≤ j ∧ Tr h [] ow d tb g A R lf cb h') (fun t _ => l.length - (Hp.iv (t.getD 0 undef)).toNat)
    ⟨0, none, ((cb, 0, [.int .u64 1]) :: (t2, 0, [ov, .int .i64 d, .bool nl]) :: (E1 ++ E2)), rfl, by omega, rfl, Nat.le_refl _, hA, TreeOk.none m3 m1 mo, s.perm (by simp only [rAll]; ((apply perm_rg; intro f; simp only [set_cons_zero, set_cons_succ, eraseIdx_cons_zero, eraseIdx_cons_succ, cons_append, nil_append, map_append, map_cons, map_nil, List.sum_append, List.sum_cons, List.sum_nil, map_flatMap, Nat.add_zero, Nat.zero_add]; ac_rfl)))⟩ ?_
  clear s
  rintro t h1 ⟨j, g, R, rfl, hj, hg, hgl, T⟩
  have s := T.st
  unfold i_grow.l2.b; refine r_cmpI ?_; refine r_if (fun hlt => ?_) (fun hge => ?_)
  · have hlt : j < l.length := by simp at hlt; omega
    unfold i_grow.j3; refine hr.at (n := j) (f := enc) rfl encl rfl rfl hlt fun b o hb => ?_; refine (hb.st s).loadN rfl ?_; refine s.r_alloc fun t7 h1 s => ?_; refine St.r_storeN0 s 0 rfl rfl (by simp) (enc1 l[j]) ?_; intro h1 s
    refine St.r_loadN0 s 0 rfl (by simp) ?_; refine Set_ok (mn := (dmin d : Nat)) (swoO ow) hA (x := l[j]) (E := (t7, 0, enc l[j]) :: R) T.ok (by omega) (by omega) (s.perm (by ((apply perm_rg; intro f; simp only [set_cons_zero, set_cons_succ, eraseIdx_cons_zero, eraseIdx_cons_succ, cons_append, nil_append, map_append, map_cons, map_nil, List.sum_append, List.sum_cons, List.sum_nil, map_flatMap, Nat.add_zero, Nat.zero_add]; ac_rfl)))) fun g' h1 e M' s => ?_; unfold i_grow.j4; refine r_add1 (by omega) ?_
    have hset := (MT.set_items (x := l[j]) (swoO ow) mo m3 T.ok.fl T.ok.asc).1
    refine ⟨⟨j + 1, g', (t7, 0, enc l[j]) :: R, rfl, hlt, ?_, ?_, hA, M', s⟩, by simp; omega⟩
    · rw [e, hg, List.take_succ_eq_append_getElem hlt, List.foldl_append]; rfl
    · rw [e, hset, lput_length]; split <;> omega
  · have hge : j = l.length := by simp at hge; omega
    subst hge; rw [List.take_length] at hg; unfold i_grow.j1; exact H tb g lf cb A R h1 hg T
abbrev foundC (o : Option It) : List Value := match o with
  | some p => [.int .i64 p.1, .int .i64 p.2, .bool true]
  | none => [.int .i64 0, .int .i64 0, .bool false]
theorem foundC_len (o : Option It) : (foundC o).length = 3 := by cases o <;> rfl
theorem foundC_one (o : Option It) : ∀ y ∈ foundC o, one1 y = true := by cases o <;> simp [one1]
theorem found_ok {o : Option It} (H : ∀ E' h', St h [] E' h' → Q (.agg (foundC o).toArray) h') : i_found.call #[old o, .bool o.isSome] h Q := by
  refine i_found.body _ _ _ _ ?_; unfold i_found.sh
  have s := St.start h
  refine St.r_box (cs := enc (o.getD emp)) s fun t2 h s => ?_; refine s.r_alloc fun t4 h s => ?_; refine r_not ?_
  cases o with
  | none =>
    refine r_if (fun _ => ?_) (fun e => absurd e (by simp))
    ((apply r_build; ((simp only [fillV, fill1, Value.cells, zeros_succ, zeros_zero, size_toArray, length_cons, length_nil, length_append, take_succ_cons, take_zero, take_nil, drop_succ_cons, drop_zero, drop_nil, cons_append, nil_append, append_nil, Nat.reduceAdd, Nat.reduceMul, Nat.reduceLeDiff, Nat.reduceEqDiff, and_self, and_true, true_and, if_true, Nat.le_refl, Nat.zero_add, Nat.add_zero, Nat.zero_mul, reduceIte, if_false] <;> rfl))))
    (refine St.r_storeN0 s 0 rfl rfl (by simp) (by simp [one1]) ?_; intro h s; try simp only [List.set_cons_zero, List.set_cons_succ] at s)
    refine St.r_loadN0 s 0 rfl (by simp) ?_; exact H _ _ s
  | some p =>
    refine r_if (fun e => absurd e (by simp)) (fun _ => ?_)
    unfold i_found.j1; refine St.r_loadN0 s 1 rfl (by simp) ?_
    ((apply r_build; ((simp only [fillV, fill1, Value.cells, zeros_succ, zeros_zero, size_toArray, length_cons, length_nil, length_append, take_succ_cons, take_zero, take_nil, drop_succ_cons, drop_zero, drop_nil, cons_append, nil_append, append_nil, Nat.reduceAdd, Nat.reduceMul, Nat.reduceLeDiff, Nat.reduceEqDiff, and_self, and_true, true_and, if_true, Nat.le_refl, Nat.zero_add, Nat.add_zero, Nat.zero_mul, reduceIte, if_false] <;> rfl))))
    (refine St.r_storeN0 s 0 rfl rfl (by simp) (by simp [one1]) ?_; intro h s; try simp only [List.set_cons_zero, List.set_cons_succ] at s)
    refine St.r_loadN0 s 0 rfl (by simp) ?_; exact H _ _ s
theorem ltO_nil : ltO [] = ltK := by
  funext a b; rfl
theorem setK_one {m : Nat} {g : Rt} {x : It} (mo : m % 2 = 1) (m3 : 3 ≤ m) (f : (rPt g).Fl m) (ha : Asc (ltO []) (rPt g).items) : ((rPt g).set (ltO []) m x).items = lput ltK (rPt g).items x := by
  have := (MT.set_items (x := x) (swoO []) mo m3 f ha).1
  rw [ltO_nil] at this ⊢; exact this
theorem items_setK {m : Nat} (mo : m % 2 = 1) (m3 : 3 ≤ m) : ∀ l : List It, (l.foldl (MT.set (ltO []) m) none).items = setK l ∧ (l.foldl (MT.set (ltO []) m) none).Fl m := by
  refine asc_rev (P := fun l => (l.foldl (MT.set (ltO []) m) none).items = setK l ∧ (l.foldl (MT.set (ltO []) m) none).Fl m) ⟨rfl, trivial⟩ fun l x ⟨i1, i2⟩ => ?_; rw [List.foldl_append, setK_snoc]
  have h := MT.set_items (x := x) (swoO []) mo m3 i2 (by rw [i1, ltO_nil]; exact setK_asc l)
  refine ⟨?_, h.2⟩
  have h1 := h.1
  rw [i1] at h1
  show (MT.set (ltO []) m (l.foldl (MT.set (ltO []) m) none) x).items = _
  rw [h1, ltO_nil]
abbrev mk (d : Nat) : Value := .agg #[.slice none 0 0, .int .i64 d, .bool true]
theorem byKeys_ok {d : Int} (H : ∀ E' h', St h [] E' h' → Q (.agg #[.slice none 0 0, .int .i64 d, .bool true]) h') : l_byKeys.call #[.int .i64 d] h Q := by
  refine l_byKeys.body _ _ _ ?_; unfold l_byKeys.sh
  have s := St.start h
  refine s.r_alloc fun t2 h s => ?_; refine r_build (cs := [.slice none 0 0, .int .i64 d, .bool true]) rfl ?_; refine St.r_storeN0 s 0 (ys := [.slice none 0 0, .int .i64 d, .bool true]) rfl rfl (by simp) (one3 rfl rfl rfl) ?_; intro h s
  refine St.r_loadN0 s 0 rfl (by simp) ?_; exact H _ _ s
theorem Fits_ok {d : Int} (H : Q (.bool (decide (d = 0 ∨ (2 ≤ d ∧ d ≤ 128)))) h) : s_Fits.call #[.int .i64 d] h Q := by
  refine s_Fits.body _ _ _ ?_; unfold s_Fits.sh; refine r_cmpI ?_; refine r_br (fun e => ?_) (fun e => ?_)
  · have e : d ≠ 0 := by simpa using e
    refine r_cmpI ?_; refine r_br (fun e2 => ?_) (fun e2 => ?_)
    · have e2 : 2 ≤ d := by simpa using e2
      refine r_cmpI ?_
      rwa [show decide (d = 0 ∨ (2 ≤ d ∧ d ≤ 128)) = decide (d ≤ 128) by simp [e, e2]] at H
    · have e2 : ¬ 2 ≤ d := by simpa using e2
      rwa [show decide (d = 0 ∨ (2 ≤ d ∧ d ≤ 128)) = false by simp [e, e2]] at H
  · have e : d = 0 := by simpa using e
    rwa [show decide (d = 0 ∨ (2 ≤ d ∧ d ≤ 128)) = true by simp [e]] at H
theorem GItemsO_ok {l : List It} {v : Value} {d : Nat} {nl : Bool} (hd : d = 0 ∨ 2 ≤ d) (hd2 : d ≤ 512) (hr : Rdl 2 h v l.length (l.flatMap enc)) (hl : l.length ≤ 1073741824)
    (H : ∀ v' b o sp E' h', Own 2 v' (setK l).length b o ((setK l).flatMap enc) sp → St h [] ((b, o, (setK l).flatMap enc ++ sp) :: E') h' → Q v' h') : i_GItems.call #[.agg #[.slice none 0 0, .int .i64 d, .bool nl], v] h Q := by
  obtain ⟨m3, m1, mo, me, mn0⟩ := dmax_ok hd hd2; refine i_GItems.body _ _ _ _ ?_; unfold i_GItems.sh
  have s := St.start h
  refine St.r_box (cs := [.slice none 0 0, .int .i64 d, .bool nl]) s fun t2 h1 s => ?_; refine St.r_loadN0 s 0 rfl (by simp) ?_; refine grow_ok (OwAt.nil _) hd hd2 (hr.st s) hl fun tb g lf cb A E1 h1 hg T => ?_
  have s := s.join T.st
  have e1 := (items_setK mo m3 l).1
  rw [← hg] at e1
  have hle := setK_len l
  refine Items_ok T.ok (by rw [e1]; omega) (E := A ++ E1 ++ [(t2, 0, [.slice none 0 0, .int .i64 d, .bool nl])]) (s.perm (by ((apply perm_rg; intro f; simp only [set_cons_zero, set_cons_succ, eraseIdx_cons_zero, eraseIdx_cons_succ, cons_append, nil_append, map_append, map_cons, map_nil, List.sum_append, List.sum_cons, List.sum_nil, map_flatMap, Nat.add_zero, Nat.zero_add]; ac_rfl)))) fun v' b o sp h2 w s => ?_; rw [e1] at w s; exact H _ _ _ _ _ _ w s
theorem GItems_ok {l : List It} {v : Value} {d : Nat} {nl : Bool} (hd : d = 0 ∨ 2 ≤ d) (hd2 : d ≤ 512) (hr : Rdl 2 h v l.length (l.flatMap enc)) (hl : l.length ≤ 1073741824)
    (H : ∀ v' E' h', St h [] E' h' → Rdl 2 h' v' (setK l).length ((setK l).flatMap enc) → Q v' h') : i_GItems.call #[.agg #[.slice none 0 0, .int .i64 d, .bool nl], v] h Q :=
  GItemsO_ok hd hd2 hr hl fun v' b o sp E' h' w s => H _ _ _ s (w.rdl s 0 rfl)
theorem exMake_ok (H : ∀ E' h', St h [] E' h' → Q (.agg #[.slice none 0 0, .int .i64 2, .bool false]) h') : l_exMake.call #[] h Q := by
  refine l_exMake.body _ _ ?_; unfold l_exMake.sh
  have s := St.start h
  refine s.r_alloc fun t0 h s => ?_
  ((apply r_build; ((simp only [fillV, fill1, Value.cells, zeros_succ, zeros_zero, size_toArray, length_cons, length_nil, length_append, take_succ_cons, take_zero, take_nil, drop_succ_cons, drop_zero, drop_nil, cons_append, nil_append, append_nil, Nat.reduceAdd, Nat.reduceMul, Nat.reduceLeDiff, Nat.reduceEqDiff, and_self, and_true, true_and, if_true, Nat.le_refl, Nat.zero_add, Nat.add_zero, Nat.zero_mul, reduceIte, if_false] <;> rfl))))
  (refine St.r_storeN0 s 0 rfl rfl (by simp) (by simp [one1]) ?_; intro h s; try simp only [List.set_cons_zero, List.set_cons_succ] at s)
  refine St.r_loadN0 s 0 rfl (by simp) ?_; exact H _ _ s
def exI : List It := [(5, 1), (3, 2), (9, 3), (3, 4), (1, 5), (7, 6), (8, 7)]
theorem alive_ok (H : ∀ E' h', St h [] E' h' → Q (.bool true) h') : l_alive.call #[] h Q := by
  refine l_alive.body _ _ ?_; unfold l_alive.sh; refine exMake_ok fun E0 h1 s => ?_; refine l_exItems.body _ _ ?_; unfold l_exItems.sh
  (apply r_build; (simp only [fillV, fill1, Value.cells, zeros_succ, zeros_zero, size_toArray, length_cons, length_nil, length_append, take_succ_cons, take_zero, take_nil, drop_succ_cons, drop_zero, drop_nil, cons_append, nil_append, append_nil, Nat.reduceAdd, Nat.reduceMul, Nat.reduceLeDiff, Nat.reduceEqDiff, and_self, and_true, true_and, if_true, Nat.le_refl, Nat.zero_add, Nat.add_zero, Nat.zero_mul, reduceIte, if_false] <;> rfl))
  (apply r_build; (simp only [fillV, fill1, Value.cells, zeros_succ, zeros_zero, size_toArray, length_cons, length_nil, length_append, take_succ_cons, take_zero, take_nil, drop_succ_cons, drop_zero, drop_nil, cons_append, nil_append, append_nil, Nat.reduceAdd, Nat.reduceMul, Nat.reduceLeDiff, Nat.reduceEqDiff, and_self, and_true, true_and, if_true, Nat.le_refl, Nat.zero_add, Nat.add_zero, Nat.zero_mul, reduceIte, if_false] <;> rfl))
  (apply r_build; (simp only [fillV, fill1, Value.cells, zeros_succ, zeros_zero, size_toArray, length_cons, length_nil, length_append, take_succ_cons, take_zero, take_nil, drop_succ_cons, drop_zero, drop_nil, cons_append, nil_append, append_nil, Nat.reduceAdd, Nat.reduceMul, Nat.reduceLeDiff, Nat.reduceEqDiff, and_self, and_true, true_and, if_true, Nat.le_refl, Nat.zero_add, Nat.add_zero, Nat.zero_mul, reduceIte, if_false] <;> rfl))
  (apply r_build; (simp only [fillV, fill1, Value.cells, zeros_succ, zeros_zero, size_toArray, length_cons, length_nil, length_append, take_succ_cons, take_zero, take_nil, drop_succ_cons, drop_zero, drop_nil, cons_append, nil_append, append_nil, Nat.reduceAdd, Nat.reduceMul, Nat.reduceLeDiff, Nat.reduceEqDiff, and_self, and_true, true_and, if_true, Nat.le_refl, Nat.zero_add, Nat.add_zero, Nat.zero_mul, reduceIte, if_false] <;> rfl))
  (apply r_build; (simp only [fillV, fill1, Value.cells, zeros_succ, zeros_zero, size_toArray, length_cons, length_nil, length_append, take_succ_cons, take_zero, take_nil, drop_succ_cons, drop_zero, drop_nil, cons_append, nil_append, append_nil, Nat.reduceAdd, Nat.reduceMul, Nat.reduceLeDiff, Nat.reduceEqDiff, and_self, and_true, true_and, if_true, Nat.le_refl, Nat.zero_add, Nat.add_zero, Nat.zero_mul, reduceIte, if_false] <;> rfl))
  (apply r_build; (simp only [fillV, fill1, Value.cells, zeros_succ, zeros_zero, size_toArray, length_cons, length_nil, length_append, take_succ_cons, take_zero, take_nil, drop_succ_cons, drop_zero, drop_nil, cons_append, nil_append, append_nil, Nat.reduceAdd, Nat.reduceMul, Nat.reduceLeDiff, Nat.reduceEqDiff, and_self, and_true, true_and, if_true, Nat.le_refl, Nat.zero_add, Nat.add_zero, Nat.zero_mul, reduceIte, if_false] <;> rfl))
  (apply r_build; (simp only [fillV, fill1, Value.cells, zeros_succ, zeros_zero, size_toArray, length_cons, length_nil, length_append, take_succ_cons, take_zero, take_nil, drop_succ_cons, drop_zero, drop_nil, cons_append, nil_append, append_nil, Nat.reduceAdd, Nat.reduceMul, Nat.reduceLeDiff, Nat.reduceEqDiff, and_self, and_true, true_and, if_true, Nat.le_refl, Nat.zero_add, Nat.add_zero, Nat.zero_mul, reduceIte, if_false] <;> rfl))
  refine St.r_mkSl (sz := 2) (cs := exI.flatMap enc) s (by ((simp only [fillV, fill1, Value.cells, zeros_succ, zeros_zero, size_toArray, length_cons, length_nil, length_append, take_succ_cons, take_zero, take_nil, drop_succ_cons, drop_zero, drop_nil, cons_append, nil_append, append_nil, Nat.reduceAdd, Nat.reduceMul, Nat.reduceLeDiff, Nat.reduceEqDiff, and_self, and_true, true_and, if_true, Nat.le_refl, Nat.zero_add, Nat.add_zero, Nat.zero_mul, reduceIte, if_false] <;> rfl))) rfl fun q h1 s w => ?_
  have w : Own 2 (.slice (some ⟨q, 0, none⟩) 7 7) exI.length q 0 (exI.flatMap enc) [] := w
  have s : St h [] ((q, 0, exI.flatMap enc ++ []) :: E0) h1 := s
  refine (w.rdl s 0 rfl).slc (l := 0) (m := 3) rfl ⟨_, _, rfl, by decide, by decide, rfl⟩ (by decide) (by decide) fun v' r => ?_; rw [Nat.zero_mul, List.drop_zero, Nat.sub_zero, flat_take encl exI 3 (by decide)] at r; refine GItems_ok (l := exI.take 3) (d := 2) (.inr (by decide)) (by decide) r (by decide) fun v2 E' h' s2 r2 => ?_; refine r2.lenV ?_; refine r_cmpI ?_
  have e : (setK (exI.take 3)).length = 3 := by decide +kernel
  rw [e]; exact H _ _ (s.join s2)
end Go.Proofs.Ythpmeccnddchpaa.Gi
end
section
namespace Go.Proofs.Ythpmeccnddchpaa.Gi
open Go.Hp Go.Proofs.Ythpmeccnddchpaa
variable {h0 h : Heap} {Z E : List Rg} {Q : Value → Heap → Prop} {lt : It → It → Bool} {lf : Value}
theorem push_ok {F : List (Option It)} {o : Option It} {v : Value} {b off k : Nat} {sp : List Value} {KV : Value → Heap → Prop} (s : St h0 Z E h) (hk : E[k]? = some (b, off, F.flatMap foundC ++ sp)) (w : Own 3 v F.length b off (F.flatMap foundC) sp) (hF : F.length ≤ 2147483647)
    (H : ∀ v' b' o' sp' q h', St h0 Z ((q, 0, foundC o) :: E.set k (b', o', (F ++ [o]).flatMap foundC ++ sp')) h' → Own 3 v' (F ++ [o]).length b' o' ((F ++ [o]).flatMap foundC) sp' → KV v' h') :
    mkSl (if 1 * 3 = 0 then [] else zeros [(.int .i64 0), (.int .i64 0), (.bool false)] 1) 1 [(0 * 3, 3, .agg (foundC o).toArray)] 48 h fun t35 h => app 48 3 24 [(.int .i64 0), (.int .i64 0), (.bool false)] v t35 h KV := by
  refine St.r_mkSl (sz := 3) (cs := foundC o) s (by rcases o with _ | p <;> ((simp only [fillV, fill1, Value.cells, zeros_succ, zeros_zero, size_toArray, length_cons, length_nil, length_append, take_succ_cons, take_zero, take_nil, drop_succ_cons, drop_zero, drop_nil, cons_append, nil_append, append_nil, Nat.reduceAdd, Nat.reduceMul, Nat.reduceLeDiff, Nat.reduceEqDiff, and_self, and_true, true_and, if_true, Nat.le_refl, Nat.zero_add, Nat.add_zero, Nat.zero_mul, reduceIte, if_false] <;> rfl))) (by cases o <;> rfl) fun q h s wq => ?_; refine s.r_appL (f := foundC) (L := F) (M := [o]) (k + 1) hk w rfl (by have := wq.rdl s 0 (by rw [List.append_nil]; rfl); simpa using this) (fun y _ => foundC_one y) (by rw [List.length_singleton]; omega) (by rw [List.length_singleton]; omega) fun v' b' o' sp' h s w' => ?_; exact H v' b' o' sp' q h s w'
theorem GSetO_ok {l : List It} {v : Value} {d : Nat} {nl : Bool} (hd : d = 0 ∨ 2 ≤ d) (hd2 : d ≤ 512) (hr : Rdl 2 h v l.length (l.flatMap enc)) (hl : l.length ≤ 1073741824)
    (H : ∀ w v' b o sp E' h', Own 2 v' (setK l).length b o ((setK l).flatMap enc) sp → St h [] ((b, o, (setK l).flatMap enc ++ sp) :: E') h' → Q (.tuple #[w, v']) h') : i_GSet.call #[.agg #[.slice none 0 0, .int .i64 d, .bool nl], v] h Q := by
  obtain ⟨m3, m1, mo, me, mn0⟩ := dmax_ok hd hd2; refine i_GSet.body _ _ _ _ ?_; unfold i_GSet.sh
  have s := St.start h
  refine St.r_box (cs := [.slice none 0 0, .int .i64 d, .bool nl]) s fun t2 h1 s => ?_; refine St.r_loadN0 s 0 rfl (by simp) ?_; refine grow_ok (l := []) (OwAt.nil _) hd hd2 (Rdl.nil 2 _) (by simp) fun tb g lf cb A E1 h1 hg T => ?_
  have s := s.join T.st
  have hO := T.ord
  have e0 : rPt g = none := hg
  refine (hr.st s).lenV ?_
  refine loop_ghost (fun q st h' => ∃ (j : Nat) (v1 : Value) (b1 o1 : Nat) (p1 : List Value) (F : List (Option It)) (g : Rt) (R : List Rg), q = l.length - j ∧ j ≤ l.length ∧ st = [v1, .int .i64 (j : Nat)] ∧ F.length = j ∧ (rPt g).items = setK (l.take j) ∧ TreeOk (ltO []) (dmax d) 1 g ∧ Own 3 v1 F.length b1 o1 (F.flatMap foundC) p1 ∧
      St h [] ((b1, o1, F.flatMap foundC ++ p1) :: (tb, 0, hdr 1 (some ⟨cb, 0, none⟩) (rA g) (rPt g).items.length lf (dmin d : Nat) (dmax d : Nat)) :: (rAll g ++ (A ++ R))) h') (n0 := l.length)
    ⟨0, .slice none 0 0, 0, 0, [], [], g, E1 ++ [(t2, 0, [.slice none 0 0, .int .i64 d, .bool nl])], rfl, Nat.zero_le _, rfl, rfl, by rw [e0]; rfl, T.ok, Own.nil 3 0 0, (s.empty 0 0).perm (by ((apply perm_rg; intro f; simp only [set_cons_zero, set_cons_succ, eraseIdx_cons_zero, eraseIdx_cons_succ, cons_append, nil_append, map_append, map_cons, map_nil, List.sum_append, List.sum_cons, List.sum_nil, map_flatMap, Nat.add_zero, Nat.zero_add]; ac_rfl)))⟩ ?_
  clear s T e0 hg; clear g
  rintro q st h1 ⟨j, v1, b1, o1, p1, F, g, R, rfl, hj, rfl, hF, e, M, w1, s⟩ K HK
  unfold i_GSet.l2.b; refine r_cmpI ?_; refine r_if (fun hlt => ?_) (fun hge => ?_)
  · have hlt : j < l.length := by have := of_decide_eq_true hlt; omega
    have hle := setK_len (l.take j)
    rw [List.length_take] at hle; unfold i_GSet.j3; refine (hr.st s).at (n := j) rfl encl rfl rfl hlt fun b o hb => ?_; refine hb.loadN rfl ?_; refine s.r_alloc fun t9 h1 s => ?_; refine St.r_storeN0 s 0 rfl rfl (by simp) (enc1 _) ?_; intro h1 s
    have s : St h [] ((t9, 0, enc l[j]) :: (b1, o1, F.flatMap foundC ++ p1) :: (tb, 0, hdr 1 (some ⟨cb, 0, none⟩) (rA g) (rPt g).items.length lf (dmin d : Nat) (dmax d : Nat)) :: (rAll g ++ (A ++ R))) h1 := s
    refine St.r_loadN0 s 0 rfl (by simp) ?_; refine Set_ok (mn := (dmin d : Nat)) (swoO []) hO (x := l[j]) (E := (t9, 0, enc l[j]) :: (b1, o1, F.flatMap foundC ++ p1) :: R) M (by omega) (by rw [e]; omega) (s.perm (by ((apply perm_rg; intro f; simp only [set_cons_zero, set_cons_succ, eraseIdx_cons_zero, eraseIdx_cons_succ, cons_append, nil_append, map_append, map_cons, map_nil, List.sum_append, List.sum_cons, List.sum_nil, map_flatMap, Nat.add_zero, Nat.zero_add]; ac_rfl)))) fun g' h1 e1 M' s => ?_
    have e2 : (rPt g').items = setK (l.take (j + 1)) := by
      rw [e1, List.take_succ_eq_append_getElem hlt, setK_snoc, ← e]; exact setK_one mo m3 M.fl M.asc
    refine r_ext rfl ?_; refine r_ext rfl ?_; refine found_ok fun E2 h1 s2 => ?_
    have s := s.join s2
    have s : St h [] ((b1, o1, F.flatMap foundC ++ p1) :: (tb, 0, hdr 1 (some ⟨cb, 0, none⟩) (rA g') (rPt g').items.length lf (dmin d : Nat) (dmax d : Nat)) :: (rAll g' ++ (A ++ (R ++ ((t9, 0, enc l[j]) :: E2))))) h1 := s.perm (by ((apply perm_rg; intro f; simp only [set_cons_zero, set_cons_succ, eraseIdx_cons_zero, eraseIdx_cons_succ, cons_append, nil_append, map_append, map_cons, map_nil, List.sum_append, List.sum_cons, List.sum_nil, map_flatMap, Nat.add_zero, Nat.zero_add]; ac_rfl)))
    refine push_ok s (k := 0) rfl w1 (by omega) fun v' b' o' sp' q h1 s w' => ?_; unfold i_GSet.j4; refine r_add1 (by omega) ?_; refine HK (l.length - (j + 1)) _ _ (by omega) ⟨j + 1, v', b', o', sp', _, g', (q, 0, foundC _) :: (R ++ ((t9, 0, enc l[j]) :: E2)), rfl, hlt, rfl, by rw [List.length_append, hF]; rfl, e2, M', w', s.perm (by simp only [List.set_cons_zero]; ((apply perm_rg; intro f; simp only [set_cons_zero, set_cons_succ, eraseIdx_cons_zero, eraseIdx_cons_succ, cons_append, nil_append, map_append, map_cons, map_nil, List.sum_append, List.sum_cons, List.sum_nil, map_flatMap, Nat.add_zero, Nat.zero_add]; ac_rfl)))⟩
  · have hge : j = l.length := by have := of_decide_eq_false hge; omega
    subst hge; rw [List.take_length] at e
    have hle := setK_len l
    unfold i_GSet.j1; refine Items_ok M (by rw [e]; omega) (E := A ++ R ++ [(b1, o1, F.flatMap foundC ++ p1)]) (s.perm (by ((apply perm_rg; intro f; simp only [set_cons_zero, set_cons_succ, eraseIdx_cons_zero, eraseIdx_cons_succ, cons_append, nil_append, map_append, map_cons, map_nil, List.sum_append, List.sum_cons, List.sum_nil, map_flatMap, Nat.add_zero, Nat.zero_add]; ac_rfl)))) fun v' b o sp h2 w s => ?_; rw [e] at w s; exact H _ _ _ _ _ _ _ w s
theorem CloneI_ok {l : List It} {v : Value} (hr : Rdl 2 h v l.length (l.flatMap enc)) (hl : l.length ≤ 2147483647)
    (H : ∀ v' b o sp E' h', Own 2 v' l.length b o (l.flatMap enc) sp → St h [] ((b, o, l.flatMap enc ++ sp) :: E') h' → Q v' h') : sl_Clone_implItemI.call #[v] h Q := by
  refine sl_Clone_implItemI.body _ _ _ ?_; unfold sl_Clone_implItemI.sh
  have s := St.start h
  have hr0 := hr
  obtain ⟨a, cap, e, _, hc, _⟩ := hr0; subst e; refine ⟨a, _, _, rfl, ?_⟩
  refine r_if (fun ha => ?_) (fun ha => ?_)
  · have : l = [] := by
      cases l with
      | nil => rfl
      | cons x r =>
        obtain ⟨b, o, e, _⟩ := hc (by simp); subst e; cases ha
    subst this; exact H _ 0 0 [] _ _ (Own.nil 2 0 0) (s.empty 0 0)
  · unfold sl_Clone_implItemI.j1
    refine St.r_mkSl (sz := 2) (cs := []) s (by ((simp only [fillV, fill1, Value.cells, zeros_succ, zeros_zero, size_toArray, length_cons, length_nil, length_append, take_succ_cons, take_zero, take_nil, drop_succ_cons, drop_zero, drop_nil, cons_append, nil_append, append_nil, Nat.reduceAdd, Nat.reduceMul, Nat.reduceLeDiff, Nat.reduceEqDiff, and_self, and_true, true_and, if_true, Nat.le_refl, Nat.zero_add, Nat.add_zero, Nat.zero_mul, reduceIte, if_false] <;> rfl))) rfl fun q h s wq => ?_; refine s.r_appL (f := enc) (L := []) (M := l) 0 rfl wq rfl (hr.st s) (fun _ _ => enc1 _) (by simp; omega) (by simp; omega) fun v' b' o' sp' h s w' => ?_; exact H _ _ _ _ _ _ w' s
theorem withO_ok {l : List It} {v : Value} {d : Nat} {x : It} (hd : d = 0 ∨ 2 ≤ d) (hd2 : d ≤ 512) (hr : Rdl 2 h v l.length (l.flatMap enc)) (ha : Asc ltK l) (hl : l.length ≤ 1073741823)
    (H : ∀ v' b o sp E' h', Own 2 v' (lput ltK l x).length b o ((lput ltK l x).flatMap enc) sp → St h [] ((b, o, (lput ltK l x).flatMap enc ++ sp) :: E') h' → Q v' h') : l_with.call #[mk d, v, av x] h Q := by
  refine l_with.body _ _ _ _ _ ?_; unfold l_with.sh
  have s := St.start h
  refine St.r_box (cs := [.slice none 0 0, .int .i64 d, .bool true]) s fun t3 h1 s => ?_; refine St.r_box (cs := enc x) s fun t5 h1 s => ?_; refine St.r_loadN0 s 1 rfl (by simp) ?_; refine St.r_loadN0 s 0 rfl (by simp) ?_
  have e2 : setK (l ++ [x]) = lput ltK l x := setK_put ha
  have fin : ∀ {b o q : Nat} {sp : List Value} {R : List Rg} {g1 : Heap} {vc : Value}, St h [] ((b, o, l.flatMap enc ++ sp) :: (q, 0, enc x) :: (t5, 0, enc x) :: (t3, 0, [.slice none 0 0, .int .i64 d, .bool true]) :: R) g1 → Own 2 vc l.length b o (l.flatMap enc) sp → Own 2 (.slice (some ⟨q, 0, none⟩) 1 1) 1 q 0 (enc x) [] →
      app 30 2 16 [(.int .i64 0), (.int .i64 0)] vc (.slice (some ⟨q, 0, none⟩) 1 1) g1 fun t15 h => stillN 3 (ptr t3 0) (.agg #[.slice none 0 0, .int .i64 d, .bool true]) h ∧ i_GSet.call #[.agg #[.slice none 0 0, .int .i64 d, .bool true], t15] h fun t16 h => extr 0 t16 fun t17 => extr 1 t16 fun t18 => Q t18 h := fun {b o q sp R g1 vc} s w wq => by
    refine s.r_appL (f := enc) (L := l) (M := [x]) 0 rfl w rfl (by have := wq.rdl s 1 rfl; simpa using this) (fun _ _ => enc1 _) (by rw [List.length_singleton]; omega) (by rw [List.length_singleton]; omega) fun v' b' o' sp' g1 s w' => ?_
    have s : St h [] ((b', o', (l ++ [x]).flatMap enc ++ sp') :: (q, 0, enc x) :: (t5, 0, enc x) :: (t3, 0, [.slice none 0 0, .int .i64 d, .bool true]) :: R) g1 := s
    refine ⟨St.r_stillN0 s 3 (j := 0) rfl (by simp) rfl, ?_⟩
    refine GSetO_ok hd hd2 (w'.rdl s 0 rfl) (by rw [List.length_append, List.length_singleton]; omega) fun v1 v2 b2 o2 sp2 E2 g2 w2 s2 => ?_; rw [e2] at w2 s2; refine r_ext rfl ?_; refine r_ext rfl ?_; exact H _ _ _ _ _ _ w2 (join2 s s2)
  refine ⟨?_, ?_⟩
  · refine CloneI_ok (hr.st s) (by omega) fun v' b o sp E6 g6 w6 s6 => ?_
    have s := s.join s6
    have s : St h [] ((b, o, l.flatMap enc ++ sp) :: (t5, 0, enc x) :: (t3, 0, [.slice none 0 0, .int .i64 d, .bool true]) :: E6) g6 := s.perm (by ((apply perm_rg; intro f; simp only [set_cons_zero, set_cons_succ, eraseIdx_cons_zero, eraseIdx_cons_succ, cons_append, nil_append, map_append, map_cons, map_nil, List.sum_append, List.sum_cons, List.sum_nil, map_flatMap, Nat.add_zero, Nat.zero_add]; ac_rfl)))
    refine ⟨St.r_stillN0 s 2 (j := 0) rfl (by simp) rfl, St.r_stillN0 s 1 (j := 0) rfl (by simp) rfl, ?_⟩
    refine St.r_mkSl (sz := 2) (cs := enc x) s (by ((simp only [fillV, fill1, Value.cells, zeros_succ, zeros_zero, size_toArray, length_cons, length_nil, length_append, take_succ_cons, take_zero, take_nil, drop_succ_cons, drop_zero, drop_nil, cons_append, nil_append, append_nil, Nat.reduceAdd, Nat.reduceMul, Nat.reduceLeDiff, Nat.reduceEqDiff, and_self, and_true, true_and, if_true, Nat.le_refl, Nat.zero_add, Nat.add_zero, Nat.zero_mul, reduceIte, if_false] <;> rfl))) rfl fun q g6 s wq => ?_
    have s : St h [] ((b, o, l.flatMap enc ++ sp) :: (q, 0, enc x) :: (t5, 0, enc x) :: (t3, 0, [.slice none 0 0, .int .i64 d, .bool true]) :: E6) g6 := s.perm (List.Perm.swap _ _ _)
    exact ⟨St.r_stillN0 s 3 (j := 0) rfl (by simp) rfl, fin s w6 wq⟩
  · refine St.r_mkSl (sz := 2) (cs := enc x) s (by ((simp only [fillV, fill1, Value.cells, zeros_succ, zeros_zero, size_toArray, length_cons, length_nil, length_append, take_succ_cons, take_zero, take_nil, drop_succ_cons, drop_zero, drop_nil, cons_append, nil_append, append_nil, Nat.reduceAdd, Nat.reduceMul, Nat.reduceLeDiff, Nat.reduceEqDiff, and_self, and_true, true_and, if_true, Nat.le_refl, Nat.zero_add, Nat.add_zero, Nat.zero_mul, reduceIte, if_false] <;> rfl))) rfl fun q g1 s wq => ?_
    have s : St h [] ((q, 0, enc x) :: (t5, 0, enc x) :: (t3, 0, [.slice none 0 0, .int .i64 d, .bool true]) :: []) g1 := s
    refine ⟨St.r_stillN0 s 2 (j := 0) rfl (by simp) rfl, ?_⟩
    refine CloneI_ok (hr.st s) (by omega) fun v' b o sp E6 g6 w6 s6 => ?_
    have s := s.join s6
    have s : St h [] ((b, o, l.flatMap enc ++ sp) :: (q, 0, enc x) :: (t5, 0, enc x) :: (t3, 0, [.slice none 0 0, .int .i64 d, .bool true]) :: E6) g6 := s.perm (by ((apply perm_rg; intro f; simp only [set_cons_zero, set_cons_succ, eraseIdx_cons_zero, eraseIdx_cons_succ, cons_append, nil_append, map_append, map_cons, map_nil, List.sum_append, List.sum_cons, List.sum_nil, map_flatMap, Nat.add_zero, Nat.zero_add]; ac_rfl)))
    exact ⟨St.r_stillN0 s 3 (j := 0) rfl (by simp) rfl, fin s w6 wq⟩
end Go.Proofs.Ythpmeccnddchpaa.Gi
end
section
namespace Go.Proofs.Ythpmeccnddchpaa.Gi
open Go.Hp Go.Proofs.Ythpmeccnddchpaa
variable {h0 h : Heap} {Z E : List Rg} {Q : Value → Heap → Prop} {lt : It → It → Bool} {lf : Value}
theorem GDeleteO_ok {l ks : List It} {v vk : Value} {d : Nat} {nl : Bool} (hd : d = 0 ∨ 2 ≤ d) (hd2 : d ≤ 512) (hr : Rdl 2 h v l.length (l.flatMap enc)) (hl : l.length ≤ 1073741824) (hk : Rdl 2 h vk ks.length (ks.flatMap enc)) (hkl : ks.length ≤ 1073741824)
    (H : ∀ w v' b o sp E' h', Own 2 v' (ks.foldl (ldel ltK) (setK l)).length b o ((ks.foldl (ldel ltK) (setK l)).flatMap enc) sp → St h [] ((b, o, (ks.foldl (ldel ltK) (setK l)).flatMap enc ++ sp) :: E') h' → Q (.tuple #[w, v']) h') : i_GDelete.call #[.agg #[.slice none 0 0, .int .i64 d, .bool nl], v, vk] h Q := by
  obtain ⟨m3, m1, mo, me, mn0⟩ := dmax_ok hd hd2; refine i_GDelete.body _ _ _ _ _ ?_; unfold i_GDelete.sh
  have s := St.start h
  refine St.r_box (cs := [.slice none 0 0, .int .i64 d, .bool nl]) s fun t2 h1 s => ?_; refine St.r_loadN0 s 0 rfl (by simp) ?_; refine grow_ok (OwAt.nil _) hd hd2 (hr.st s) hl fun tb g lf cb A E1 h1 hg T => ?_
  have s := s.join T.st
  have hO := T.ord
  have e0 := (items_setK mo m3 l).1
  rw [← hg] at e0
  have hle := setK_len l
  have eL : (setK l).length ≤ 1073741824 := by omega
  generalize setK l = L0 at *
  rw [me] at s; refine (hk.st s).lenV ?_
  refine loop_ghost (fun q st h' => ∃ (j : Nat) (v1 : Value) (b1 o1 : Nat) (p1 : List Value) (F : List (Option It)) (g : Rt) (R : List Rg), q = ks.length - j ∧ j ≤ ks.length ∧ st = [v1, .int .i64 (j : Nat)] ∧ F.length = j ∧ (rPt g).items = (ks.take j).foldl (ldel ltK) L0 ∧ (rPt g).items.length ≤ 1073741824 ∧ TreeOk (ltO []) (dmax d) 1 g ∧ Own 3 v1 F.length b1 o1 (F.flatMap foundC) p1 ∧
      St h [] ((b1, o1, F.flatMap foundC ++ p1) :: (tb, 0, hdr 1 (some ⟨cb, 0, none⟩) (rA g) (rPt g).items.length lf ((dmax d / 2 : Nat) : Int) (dmax d : Nat)) :: (rAll g ++ (A ++ R))) h') (n0 := ks.length)
    ⟨0, .slice none 0 0, 0, 0, [], [], g, E1 ++ [(t2, 0, [.slice none 0 0, .int .i64 d, .bool nl])], rfl, Nat.zero_le _, rfl, rfl, e0, by rw [e0]; exact eL, T.ok, Own.nil 3 0 0, (s.empty 0 0).perm (by ((apply perm_rg; intro f; simp only [set_cons_zero, set_cons_succ, eraseIdx_cons_zero, eraseIdx_cons_succ, cons_append, nil_append, map_append, map_cons, map_nil, List.sum_append, List.sum_cons, List.sum_nil, map_flatMap, Nat.add_zero, Nat.zero_add]; ac_rfl)))⟩ ?_
  clear s T e0 hg; clear g
  rintro q st h1 ⟨j, v1, b1, o1, p1, F, g, R, rfl, hj, rfl, hF, e, hgl, M, w1, s⟩ K HK
  unfold i_GDelete.l2.b; refine r_cmpI ?_; refine r_if (fun hlt => ?_) (fun hge => ?_)
  · have hlt : j < ks.length := by have := of_decide_eq_true hlt; omega
    unfold i_GDelete.j3; refine (hk.st s).at (n := j) rfl encl rfl rfl hlt fun b o hb => ?_; refine hb.loadN rfl ?_; refine s.r_alloc fun t9 h1 s => ?_; refine St.r_storeN0 s 0 rfl rfl (by simp) (enc1 _) ?_; intro h1 s
    have s : St h [] ((t9, 0, enc ks[j]) :: (b1, o1, F.flatMap foundC ++ p1) :: (tb, 0, hdr 1 (some ⟨cb, 0, none⟩) (rA g) (rPt g).items.length lf ((dmax d / 2 : Nat) : Int) (dmax d : Nat)) :: (rAll g ++ (A ++ R))) h1 := s
    refine St.r_loadN0 s 0 rfl (by simp) ?_; refine Delete_ok (swoO []) hO (x := ks[j]) (E := (t9, 0, enc ks[j]) :: (b1, o1, F.flatMap foundC ++ p1) :: R) M (by omega) (s.perm (by ((apply perm_rg; intro f; simp only [set_cons_zero, set_cons_succ, eraseIdx_cons_zero, eraseIdx_cons_succ, cons_append, nil_append, map_append, map_cons, map_nil, List.sum_append, List.sum_cons, List.sum_nil, map_flatMap, Nat.add_zero, Nat.zero_add]; ac_rfl)))) fun g' h1 e1 _ M' _ s => ?_
    have e2 : (rPt g').items = (ks.take (j + 1)).foldl (ldel ltK) L0 := by
      rw [e1, List.take_succ_eq_append_getElem hlt, List.foldl_append, ← e, ltO_nil]; rfl
    have hgl2 : (rPt g').items.length ≤ 1073741824 := by rw [e1]; exact Nat.le_trans (ldel_sub _ _).length_le hgl
    refine r_ext rfl ?_; refine r_ext rfl ?_; refine found_ok fun E2 h1 s2 => ?_
    have s := s.join s2
    have s : St h [] ((b1, o1, F.flatMap foundC ++ p1) :: (tb, 0, hdr 1 (some ⟨cb, 0, none⟩) (rA g') (rPt g').items.length lf ((dmax d / 2 : Nat) : Int) (dmax d : Nat)) :: (rAll g' ++ (A ++ (R ++ ((t9, 0, enc ks[j]) :: E2))))) h1 := s.perm (by ((apply perm_rg; intro f; simp only [set_cons_zero, set_cons_succ, eraseIdx_cons_zero, eraseIdx_cons_succ, cons_append, nil_append, map_append, map_cons, map_nil, List.sum_append, List.sum_cons, List.sum_nil, map_flatMap, Nat.add_zero, Nat.zero_add]; ac_rfl)))
    refine push_ok s (k := 0) rfl w1 (by omega) fun v' b' o' sp' q h1 s w' => ?_; unfold i_GDelete.j4; refine r_add1 (by omega) ?_; refine HK (ks.length - (j + 1)) _ _ (by omega) ⟨j + 1, v', b', o', sp', _, g', (q, 0, foundC _) :: (R ++ ((t9, 0, enc ks[j]) :: E2)), rfl, hlt, rfl, by rw [List.length_append, hF]; rfl, e2, hgl2, M', w', s.perm (by simp only [List.set_cons_zero]; ((apply perm_rg; intro f; simp only [set_cons_zero, set_cons_succ, eraseIdx_cons_zero, eraseIdx_cons_succ, cons_append, nil_append, map_append, map_cons, map_nil, List.sum_append, List.sum_cons, List.sum_nil, map_flatMap, Nat.add_zero, Nat.zero_add]; ac_rfl)))⟩
  · have hge : j = ks.length := by have := of_decide_eq_false hge; omega
    subst hge; rw [List.take_length] at e; unfold i_GDelete.j1; refine Items_ok M (by omega) (E := A ++ R ++ [(b1, o1, F.flatMap foundC ++ p1)]) (s.perm (by ((apply perm_rg; intro f; simp only [set_cons_zero, set_cons_succ, eraseIdx_cons_zero, eraseIdx_cons_succ, cons_append, nil_append, map_append, map_cons, map_nil, List.sum_append, List.sum_cons, List.sum_nil, map_flatMap, Nat.add_zero, Nat.zero_add]; ac_rfl)))) fun v' b o sp h2 w s => ?_; rw [e] at w s; exact H _ _ _ _ _ _ _ w s
theorem withoutO_ok {l : List It} {v : Value} {d : Nat} {k : Int} (hd : d = 0 ∨ 2 ≤ d) (hd2 : d ≤ 512) (hr : Rdl 2 h v l.length (l.flatMap enc)) (ha : Asc ltK l) (hl : l.length ≤ 1073741823)
    (H : ∀ v' b o sp E' h', Own 2 v' (ldel ltK l (k, 0)).length b o ((ldel ltK l (k, 0)).flatMap enc) sp → St h [] ((b, o, (ldel ltK l (k, 0)).flatMap enc ++ sp) :: E') h' → Q v' h') : l_without.call #[mk d, v, .int .i64 k] h Q := by
  refine l_without.body _ _ _ _ _ ?_; unfold l_without.sh
  have s := St.start h
  refine St.r_box (cs := [.slice none 0 0, .int .i64 d, .bool true]) s fun t3 h1 s => ?_; refine St.r_loadN0 s 0 rfl (by simp) ?_; refine r_build (cs := [.int .i64 k, .int .i64 0]) rfl ?_; refine St.r_mkSl (sz := 2) (cs := enc (k, 0)) s (by ((simp only [fillV, fill1, Value.cells, zeros_succ, zeros_zero, size_toArray, length_cons, length_nil, length_append, take_succ_cons, take_zero, take_nil, drop_succ_cons, drop_zero, drop_nil, cons_append, nil_append, append_nil, Nat.reduceAdd, Nat.reduceMul, Nat.reduceLeDiff, Nat.reduceEqDiff, and_self, and_true, true_and, if_true, Nat.le_refl, Nat.zero_add, Nat.add_zero, Nat.zero_mul, reduceIte, if_false] <;> rfl))) rfl fun q h1 s wq => ?_; refine GDeleteO_ok (ks := [(k, 0)]) hd hd2 (hr.st s) (by omega) (by have := wq.rdl s 0 rfl; simpa using this) (by simp) fun w v' b2 o2 sp2 E2 h2 w2 s2 => ?_; rw [setK_self l ha] at w2 s2; refine r_ext rfl ?_; refine r_ext rfl ?_; exact H _ _ _ _ _ _ w2 (join2 s s2)
end Go.Proofs.Ythpmeccnddchpaa.Gi
end
section
namespace Go.Proofs.Ythpmeccnddchpaa.Gi
open Go.Hp Go.Proofs.Ythpmeccnddchpaa
variable {h0 h : Heap} {Z E : List Rg} {Q : Value → Heap → Prop}
theorem ltI {a b : Int} (h : (decide (a < b)) = true) : a < b := of_decide_eq_true h
theorem geI {a b : Int} (h : (decide (a < b)) = false) : b ≤ a := Int.not_lt.1 (of_decide_eq_false h)
theorem opts_ok {d : Nat} {E1 : List Rg} {g : Heap} (s : St h Z E1 g) {K : Value → Heap → Prop} (H : ∀ t5 h', St h Z ((t5, 0, [.slice none 0 0, .int .i64 d, .bool true]) :: E1) h' → K (ptr t5 0) h') :
    alloc [(.slice none 0 0), (.int .i64 0), (.bool false)] 34 g fun t h => storeN 3 t (mk d) h fun h => K t h := by
  refine s.r_alloc fun t5 g s => ?_; refine St.r_storeN0 s 0 (ys := [.slice none 0 0, .int .i64 d, .bool true]) rfl rfl (by simp) (one3 rfl rfl rfl) ?_; intro g s
  exact H t5 g s
theorem cell_ok {zero ys : List Value} {n ty : Nat} {g : Heap} {K : Value → Heap → Prop} (h1 : ys.length = n) (h2 : zero.length = n) (hv : ∀ y ∈ ys, one1 y = true) (H : ∀ t g', St g [] [(t, 0, ys)] g' → K (ptr t 0) g') (ht : ty < TN := by decide) :
    alloc zero ty g fun t h => storeN n t (.agg ys.toArray) h fun h => K t h := by
  refine (St.start g).r_alloc (fun t g s => ?_) ht
  refine St.r_storeN0 s 0 (ys := ys) rfl h1 (by omega) hv ?_; intro g s
  have e : List.take 0 zero ++ ys ++ List.drop (0 + n) zero = ys := by rw [List.take_zero, List.nil_append, Nat.zero_add, ← h2, List.drop_length, List.append_nil]
  have s : St _ [] [(t, 0, List.take 0 zero ++ ys ++ List.drop (0 + n) zero)] g := s
  rw [e] at s; exact H t g s
end Go.Proofs.Ythpmeccnddchpaa.Gi
end
section
namespace Go.Hp
abbrev Ed : Type := Int × Int × Int
def nod (x : Int) : Nat := (x % 12).toNat
theorem nod_lt (x : Int) : nod x < 12 := by unfold nod; omega
def bfE (F : List Int) (e : Ed) : List Int := if 0 ≤ F.getD (nod e.1) 0 ∧ (F.getD (nod e.2.1) 0 < 0 ∨ F.getD (nod e.1) 0 + e.2.2 < F.getD (nod e.2.1) 0) then F.set (nod e.2.1) (F.getD (nod e.1) 0 + e.2.2) else F
def djE (u : Nat) (st : List Int × List KI) (e : Ed) : List Int × List KI :=
  if nod e.1 ≠ u ∨ (0 ≤ st.1.getD (nod e.2.1) 0 ∧ st.1.getD (nod e.2.1) 0 ≤ st.1.getD u 0 + e.2.2) then st else
    (st.1.set (nod e.2.1) (st.1.getD u 0 + e.2.2), lput ltK (if 0 ≤ st.1.getD (nod e.2.1) 0 then ldel ltK st.2 (16 * st.1.getD (nod e.2.1) 0 + (nod e.2.1 : Int), 0) else st.2) (16 * (st.1.getD u 0 + e.2.2) + (nod e.2.1 : Int), 0))
def dj (es : List Ed) : Nat → List Int × List KI → List Int × List KI
  | 0, st => st
  | n + 1, (F, O) => match O with
    | [] => (F, [])
    | p :: O => dj es n (es.foldl (djE (p.1 % 16).toNat) (F, O))
theorem getD_set (F : List Int) (i j : Nat) (v : Int) (hi : i < F.length) : (F.set i v).getD j 0 = if i = j then v else F.getD j 0 := by
  rw [List.getD_eq_getElem?_getD, List.getD_eq_getElem?_getD, List.getElem?_set]
  by_cases h : i = j
  · rw [if_pos h, if_pos h, if_pos hi]; rfl
  · rw [if_neg h, if_neg h]
structure DI (es : List Ed) (s : Nat) (T : Nat → Ed → Prop) (F : List Int) (O : List KI) (S : List Nat) : Prop where
  len : F.length = 16
  asc : Asc ltK O
  o : ∀ p, p ∈ O ↔ ∃ v, v < 12 ∧ v ∉ S ∧ 0 ≤ F.getD v 0 ∧ p = (16 * F.getD v 0 + (v : Int), 0)
  hi : ∀ v, 12 ≤ v → v < 16 → F.getD v 0 = -1
  ge : ∀ v, v < 12 → -1 ≤ F.getD v 0
  src : F.getD s 0 = 0
  sS : ∀ v ∈ S, v < 12 ∧ 0 ≤ F.getD v 0
  ndp : S.Nodup
  mono : ∀ u ∈ S, ∀ v, v < 12 → v ∉ S → 0 ≤ F.getD v 0 → F.getD u 0 ≤ F.getD v 0
  tri : ∀ u ∈ S, ∀ e ∈ es, T u e → nod e.1 = u → 0 ≤ F.getD (nod e.2.1) 0 ∧ F.getD (nod e.2.1) 0 ≤ F.getD u 0 + e.2.2
  real : ∀ v, v < 12 → 0 ≤ F.getD v 0 → v = s ∨ ∃ u ∈ S, ∃ e ∈ es, nod e.1 = u ∧ nod e.2.1 = v ∧ F.getD v 0 = F.getD u 0 + e.2.2
  ord : ∀ i (h : i < S.length), S[i] = s ∨ ∃ j, ∃ (hj : j < i), ∃ e ∈ es, nod e.1 = S[j] ∧ nod e.2.1 = S[i] ∧ F.getD S[i] 0 = F.getD S[j] 0 + e.2.2
theorem nodup_le : ∀ (n : Nat) (S : List Nat), S.Nodup → (∀ v ∈ S, v < n) → S.length ≤ n
  | 0, S, _, h => by
    cases S with
    | nil => exact Nat.le_refl _
    | cons x S => exact absurd (h x (List.mem_cons_self ..)) (Nat.not_lt_zero _)
  | n + 1, S, hn, h => by
    have := nodup_le n (S.erase n) (hn.erase n) fun v hv => by
      have h1 := h v (List.mem_of_mem_erase hv)
      have h2 : v ≠ n := fun e => by
        rw [e] at hv; exact (List.Nodup.not_mem_erase hn) hv
      omega
    rw [List.length_erase] at this
    split at this <;> omega
section
variable {es : List Ed} {s : Nat} {T : Nat → Ed → Prop} {F : List Int} {O : List KI} {S : List Nat}
theorem DI.many (I : DI es s T F O S) : S.length ≤ 12 := nodup_le 12 S I.ndp fun v hv => (I.sS v hv).1
theorem DI.ordle (I : DI es s T F O S) (hw : ∀ e ∈ es, e.2.2 ≤ 255) : ∀ i (h : i < S.length), F.getD S[i] 0 ≤ 255 * i := by
  intro i
  induction i using Nat.strongRecOn with
  | ind i ih =>
    intro h
    rcases I.ord i h with e | ⟨j, hj, e, he, _, _, e3⟩
    · rw [e, I.src]; omega
    · rw [e3]
      have h1 := ih j hj (by omega)
      have h2 := hw e he
      omega
theorem DI.le (I : DI es s T F O S) (hw : ∀ e ∈ es, e.2.2 ≤ 255) : ∀ v, v < 12 → F.getD v 0 ≤ 3060 := by
  intro v hv
  have hm := I.many
  by_cases h0 : 0 ≤ F.getD v 0
  · rcases I.real v hv h0 with e | ⟨u, hu, e, he, _, _, e3⟩
    · rw [e, I.src]; omega
    · obtain ⟨i, hi, rfl⟩ := List.getElem_of_mem hu
      have h1 := I.ordle hw i hi
      have h2 := hw e he
      rw [e3]; omega
  · omega
theorem DI.edge {u : Nat} {pe : List Ed} {e : Ed} (I : DI es s (fun v e => v = u → e ∈ pe) F O S) (hu : u ∈ S) (hmx : ∀ v ∈ S, F.getD v 0 ≤ F.getD u 0) (he : e ∈ es) (hw : 0 ≤ e.2.2) :
    (∀ v ∈ S, (djE u (F, O) e).1.getD v 0 = F.getD v 0) ∧ DI es s (fun v e' => v = u → e' ∈ pe ++ [e]) (djE u (F, O) e).1 (djE u (F, O) e).2 S := by
  have hto := nod_lt e.2.1
  obtain ⟨hu12, hu0⟩ := I.sS u hu; unfold djE
  split
  · rename_i hc
    refine ⟨fun _ _ => rfl, ⟨I.len, I.asc, I.o, I.hi, I.ge, I.src, I.sS, I.ndp, I.mono, fun v hv e' he' ht hs => ?_, I.real, I.ord⟩⟩
    by_cases hvu : v = u
    · subst hvu
      rcases List.mem_append.1 (ht rfl) with e2 | e2
      · exact I.tri v hv e' he' (fun _ => e2) hs
      · have e2 := List.mem_singleton.1 e2
        subst e2
        rcases hc with hc | hc
        · exact absurd hs hc
        · exact hc
    · exact I.tri v hv e' he' (fun h => absurd h hvu) hs
  · rename_i hc
    have hc1 : nod e.1 = u := Classical.not_not.1 fun h => hc (.inl h)
    have hc2 : ¬ (0 ≤ F.getD (nod e.2.1) 0 ∧ F.getD (nod e.2.1) 0 ≤ F.getD u 0 + e.2.2) := fun h => hc (.inr h)
    clear hc
    dsimp only
    generalize ht : nod e.2.1 = t at *
    have htS : t ∉ S := fun h => hc2 ⟨(I.sS t h).2, by have := hmx t h; omega⟩
    have hts : t ≠ s := fun h => hc2 (by rw [h, I.src]; omega)
    have gs := fun j => getD_set F t j (F.getD u 0 + e.2.2) (by rw [I.len]; omega)
    have gS : ∀ v ∈ S, (F.set t (F.getD u 0 + e.2.2)).getD v 0 = F.getD v 0 := fun v hv => by
      rw [gs, if_neg (fun h => htS (by rw [h]; exact hv))]
    have gN : ∀ v, v ≠ t → (F.set t (F.getD u 0 + e.2.2)).getD v 0 = F.getD v 0 := fun v hv => by rw [gs, if_neg (fun h => hv h.symm)]
    have gt : (F.set t (F.getD u 0 + e.2.2)).getD t 0 = F.getD u 0 + e.2.2 := by rw [gs, if_pos rfl]
    have haO : Asc ltK (if 0 ≤ F.getD t 0 then ldel ltK O (16 * F.getD t 0 + (t : Int), 0) else O) := by split; exact ldelK_asc I.asc; exact I.asc
    have hmO : ∀ p, p ∈ (if 0 ≤ F.getD t 0 then ldel ltK O (16 * F.getD t 0 + (t : Int), 0) else O) ↔ ∃ v, v < 12 ∧ v ∉ S ∧ v ≠ t ∧ 0 ≤ F.getD v 0 ∧ p = (16 * F.getD v 0 + (v : Int), 0) := fun p => by
      split
      · rename_i h0
        rw [mem_ldelK I.asc, I.o]
        constructor
        · rintro ⟨⟨v, h1, h2, h3, rfl⟩, h5⟩
          refine ⟨v, h1, h2, fun h => ?_, h3, rfl⟩
          subst h; exact h5 rfl
        · rintro ⟨v, h1, h2, h3, h4, rfl⟩
          refine ⟨⟨v, h1, h2, h4, rfl⟩, fun h => ?_⟩
          have h : 16 * F.getD v 0 + (v : Int) = 16 * F.getD t 0 + (t : Int) := h
          omega
      · rename_i h0
        rw [I.o]
        constructor
        · rintro ⟨v, h1, h2, h3, rfl⟩
          exact ⟨v, h1, h2, fun h => h0 (h ▸ h3), h3, rfl⟩
        · rintro ⟨v, h1, h2, h3, h4, rfl⟩
          exact ⟨v, h1, h2, h4, rfl⟩
    refine ⟨gS, ⟨by rw [List.length_set]; exact I.len, lputK_asc haO, fun p => ?_, fun v h1 h2 => ?_, fun v h1 => ?_, ?_, fun v hv => ?_, I.ndp, fun v hv w hw1 hwS hw0 => ?_, fun v hv e' he' htt hs => ?_, fun v hv h0 => ?_, fun i hi => ?_⟩⟩
    · rw [mem_lputK haO, hmO]
      constructor
      · rintro (rfl | ⟨⟨v, h1, h2, h3, h4, rfl⟩, h5⟩)
        · exact ⟨t, hto, htS, by rw [gt]; omega, by rw [gt]⟩
        · exact ⟨v, h1, h2, by rw [gN v h3]; exact h4, by rw [gN v h3]⟩
      · rintro ⟨v, h1, h2, h3, rfl⟩
        by_cases hvt : v = t
        · subst hvt; rw [gt]; exact .inl rfl
        · rw [gN v hvt] at h3 ⊢
          refine .inr ⟨⟨v, h1, h2, hvt, h3, rfl⟩, fun h => ?_⟩
          have h : 16 * F.getD v 0 + (v : Int) = 16 * (F.getD u 0 + e.2.2) + (t : Int) := h
          omega
    · rw [gN v (by omega)]; exact I.hi v h1 h2
    · by_cases hvt : v = t
      · subst hvt; rw [gt]; omega
      · rw [gN v hvt]; exact I.ge v h1
    · rw [gN s (fun h => hts h.symm)]; exact I.src
    · rw [gS v hv]; exact I.sS v hv
    · rw [gS v hv]
      by_cases hwt : w = t
      · subst hwt; rw [gt]; have := hmx v hv; omega
      · rw [gN w hwt] at hw0 ⊢; exact I.mono v hv w hw1 hwS hw0
    · rw [gS v hv]
      have old : (v = u → e' ∈ pe) → 0 ≤ (F.set t (F.getD u 0 + e.2.2)).getD (nod e'.2.1) 0 ∧ (F.set t (F.getD u 0 + e.2.2)).getD (nod e'.2.1) 0 ≤ F.getD v 0 + e'.2.2 := fun h => by
        have h1 := I.tri v hv e' he' h hs
        by_cases hvt : nod e'.2.1 = t
        · rw [hvt] at h1 ⊢; rw [gt]; omega
        · rw [gN _ hvt]; exact h1
      by_cases hvu : v = u
      · subst hvu
        rcases List.mem_append.1 (htt rfl) with e2 | e2
        · exact old fun _ => e2
        · have e2 := List.mem_singleton.1 e2
          subst e2; rw [ht, gt]; omega
      · exact old fun h => absurd h hvu
    · by_cases hvt : v = t
      · subst hvt
        refine .inr ⟨u, hu, e, he, hc1, ht, ?_⟩
        rw [gt, gS u hu]
      · rw [gN v hvt] at h0 ⊢
        rcases I.real v hv h0 with h | ⟨w, hw, e', he', e1, e2, e3⟩
        · exact .inl h
        · exact .inr ⟨w, hw, e', he', e1, e2, by rw [gS w hw]; exact e3⟩
    · rw [gS _ (List.getElem_mem hi)]
      rcases I.ord i hi with h | ⟨j, hj, e', he', e1, e2, e3⟩
      · exact .inl h
      · exact .inr ⟨j, hj, e', he', e1, e2, by rw [gS _ (List.getElem_mem (by omega))]; exact e3⟩
theorem DI.mono_T {T' : Nat → Ed → Prop} (I : DI es s T F O S) (h : ∀ u e, u ∈ S → e ∈ es → T' u e → T u e) : DI es s T' F O S := ⟨I.len, I.asc, I.o, I.hi, I.ge, I.src, I.sS, I.ndp, I.mono, fun u hu e he t => I.tri u hu e he (h u e hu he t), I.real, I.ord⟩
theorem DI.edges {u : Nat} : ∀ (r pe : List Ed) {F : List Int} {O : List KI}, pe ++ r = es → DI es s (fun v e => v = u → e ∈ pe) F O S → u ∈ S → (∀ v ∈ S, F.getD v 0 ≤ F.getD u 0) → (∀ e ∈ es, 0 ≤ e.2.2) → DI es s (fun _ _ => True) (r.foldl (djE u) (F, O)).1 (r.foldl (djE u) (F, O)).2 S
  | [], pe, F, O, h, I, _, _, _ => I.mono_T fun v e _ he _ _ => by rw [List.append_nil] at h; rw [h]; exact he
  | e :: r, pe, F, O, h, I, hu, hmx, hw => by
    have he : e ∈ es := by rw [← h]; exact List.mem_append_right _ (List.mem_cons_self ..)
    obtain ⟨h1, h2⟩ := I.edge hu hmx he (hw e he); rw [List.foldl_cons]; exact DI.edges (F := (djE u (F, O) e).1) (O := (djE u (F, O) e).2) r (pe ++ [e]) (by rw [List.append_assoc]; exact h) h2 hu (fun v hv => by rw [h1 v hv, h1 u hu]; exact hmx v hv) hw
def far0 (s : Nat) : List Int := (List.replicate 16 (-1)).set s 0
theorem far0_at {s : Nat} (hs : s < 12) (v : Nat) : (far0 s).getD v 0 = if s = v then 0 else if v < 16 then -1 else 0 := by
  unfold far0; rw [getD_set _ _ _ _ (by rw [List.length_replicate]; omega)]
  by_cases h : s = v
  · rw [if_pos h, if_pos h]
  · rw [if_neg h, if_neg h, List.getD_eq_getElem?_getD, List.getElem?_replicate]
    split <;> rfl
theorem DI.start {s : Nat} (hs : s < 12) : DI es s (fun _ _ => True) (far0 s) [((s : Int), 0)] [] := by
  have f := far0_at hs
  refine ⟨by unfold far0; simp, by simp [Asc], fun p => ?_, fun v h1 h2 => by rw [f, if_neg (by omega), if_pos h2], fun v h1 => ?_, by rw [f, if_pos rfl], fun v hv => absurd hv List.not_mem_nil, List.nodup_nil, fun u hu => absurd hu List.not_mem_nil, fun u hu => absurd hu List.not_mem_nil, fun v hv h0 => ?_, fun i hi => absurd hi (Nat.not_lt_zero _)⟩
  · rw [List.mem_singleton]
    constructor
    · rintro rfl
      exact ⟨s, hs, List.not_mem_nil, by rw [f, if_pos rfl]; omega, by rw [f, if_pos rfl]; simp⟩
    · rintro ⟨v, h1, _, h3, rfl⟩
      rw [f] at h3 ⊢
      by_cases h : s = v
      · rw [if_pos h, ← h]; simp
      · rw [if_neg h, if_pos (by omega)] at h3; omega
  · rw [f]; split
    · omega
    · split <;> omega
  · rw [f] at h0
    by_cases h : s = v
    · exact .inl h.symm
    · rw [if_neg h, if_pos (by omega)] at h0; omega
structure BI (F B : List Int) : Prop where
  len : B.length = 16
  hi : ∀ v, 12 ≤ v → v < 16 → B.getD v 0 = -1
  lo : ∀ v, v < 12 → B.getD v 0 = -1 ∨ (0 ≤ B.getD v 0 ∧ 0 ≤ F.getD v 0 ∧ F.getD v 0 ≤ B.getD v 0)
theorem BI.edge {B : List Int} {e : Ed} (I : DI es s (fun _ _ => True) F [] S) (J : BI F B) (he : e ∈ es) (hw : 0 ≤ e.2.2) :
    BI F (bfE B e) ∧ (∀ v, v < 12 → 0 ≤ F.getD v 0 → B.getD v 0 = F.getD v 0 → (bfE B e).getD v 0 = F.getD v 0) ∧
    (0 ≤ F.getD (nod e.1) 0 → B.getD (nod e.1) 0 = F.getD (nod e.1) 0 → F.getD (nod e.2.1) 0 = F.getD (nod e.1) 0 + e.2.2 → (bfE B e).getD (nod e.2.1) 0 = F.getD (nod e.2.1) 0) := by
  have ha := nod_lt e.1
  have hb := nod_lt e.2.1
  have inS : ∀ v, v < 12 → 0 ≤ F.getD v 0 → v ∈ S := fun v hv h0 => Classical.byContradiction fun h => absurd ((I.o _).2 ⟨v, hv, h, h0, rfl⟩) List.not_mem_nil
  have tri : 0 ≤ F.getD (nod e.1) 0 → 0 ≤ F.getD (nod e.2.1) 0 ∧ F.getD (nod e.2.1) 0 ≤ F.getD (nod e.1) 0 + e.2.2 := fun h => I.tri _ (inS _ ha h) e he trivial rfl
  have la := J.lo _ ha
  have lb := J.lo _ hb
  unfold bfE
  split
  · rename_i hc
    generalize nod e.1 = a at *
    generalize nod e.2.1 = b at *
    have gs := fun j => getD_set B b j (B.getD a 0 + e.2.2) (by rw [J.len]; omega)
    have hca := hc.1
    have tr := tri (by omega)
    refine ⟨⟨by rw [List.length_set]; exact J.len, fun v h1 h2 => by rw [gs, if_neg (by omega)]; exact J.hi v h1 h2, fun v hv => ?_⟩, fun v hv h0 h1 => ?_, fun h0 h1 h2 => ?_⟩
    · rw [gs]
      by_cases h : b = v
      · rw [if_pos h]; subst h; right; omega
      · rw [if_neg h]; exact J.lo v hv
    · rw [gs]
      by_cases h : b = v
      · rw [if_pos h]; subst h; omega
      · rw [if_neg h]; exact h1
    · rw [gs, if_pos rfl]; omega
  · rename_i hc
    refine ⟨J, fun v _ _ h => h, fun h0 h1 h2 => ?_⟩
    generalize nod e.1 = a at *
    generalize nod e.2.1 = b at *
    have tr := tri h0
    omega
theorem BI.round (I : DI es s (fun _ _ => True) F [] S) (hw : ∀ e ∈ es, 0 ≤ e.2.2) {r : Nat} : ∀ (q pe : List Ed) {B : List Int}, pe ++ q = es → BI F B → (∀ i (h : i < S.length), i < r → B.getD S[i] 0 = F.getD S[i] 0) →
    (∀ h : r < S.length, ∀ e ∈ pe, ∀ j, ∀ hj : j < r, nod e.1 = S[j] → nod e.2.1 = S[r] → F.getD S[r] 0 = F.getD S[j] 0 + e.2.2 → B.getD S[r] 0 = F.getD S[r] 0) → (∀ h : r < S.length, S[r] = s → B.getD S[r] 0 = F.getD S[r] 0) →
    BI F (q.foldl bfE B) ∧ ∀ i (h : i < S.length), i < r + 1 → (q.foldl bfE B).getD S[i] 0 = F.getD S[i] 0
  | [], pe, B, h, J, h1, h2, h3 => by
    refine ⟨J, fun i hi hir => ?_⟩
    rcases Nat.lt_or_ge i r with e | e
    · exact h1 i hi e
    · have : i = r := by omega
      subst this
      rcases I.ord i hi with e | ⟨j, hj, e, he, e1, e2, e3⟩
      · exact h3 hi e
      · rw [List.append_nil] at h
        exact h2 hi e (by rw [h]; exact he) j hj e1 e2 e3
  | e :: q, pe, B, h, J, h1, h2, h3 => by
    have he : e ∈ es := by rw [← h]; exact List.mem_append_right _ (List.mem_cons_self ..)
    obtain ⟨k1, k2, k3⟩ := BI.edge I J he (hw e he)
    have sS := fun i (hi : i < S.length) => I.sS S[i] (List.getElem_mem hi)
    rw [List.foldl_cons]; refine BI.round I hw q (pe ++ [e]) (by rw [List.append_assoc]; exact h) k1 (fun i hi hir => k2 _ (sS i hi).1 (sS i hi).2 (h1 i hi hir)) (fun hr e' he' j hj e1 e2 e3 => ?_) (fun hr e1 => k2 _ (sS r hr).1 (sS r hr).2 (h3 hr e1))
    rcases List.mem_append.1 he' with e4 | e4
    · exact k2 _ (sS r hr).1 (sS r hr).2 (h2 hr e' e4 j hj e1 e2 e3)
    · have e4 := List.mem_singleton.1 e4
      subst e4
      have hj' : j < S.length := by omega
      have := k3 (by rw [e1]; exact (sS j hj').2) (by rw [e1]; exact h1 j hj' hj) (by rw [e1, e2]; exact e3)
      rw [e2] at this; exact this
end
end Go.Hp
end
section
namespace Go.Hp
theorem nodup_sub {α : Type} [BEq α] [LawfulBEq α] : ∀ {S T : List α}, S.Nodup → (∀ x ∈ S, x ∈ T) → S.length ≤ T.length
  | [], T, _, _ => Nat.zero_le _
  | x :: S, T, h, hs => by
    obtain ⟨h1, h2⟩ := List.nodup_cons.1 h
    have hx := hs x (List.mem_cons_self ..)
    have := nodup_sub (T := T.erase x) h2 fun y hy => (List.mem_erase_of_ne (fun e : y = x => h1 (by rw [← e]; exact hy))).2 (hs y (List.mem_cons_of_mem _ hy))
    rw [List.length_erase_of_mem hx] at this
    have := List.length_pos_of_mem hx
    rw [List.length_cons]; omega
section
variable {n : Nat} {F En : Nat → Int}
def cntAt (n : Nat) (F En : Nat → Int) (a : Int) : Nat := ((List.range n).filter fun i => decide (F i ≤ a) && decide (a < En i)).length
def bK (F : Nat → Int) (i : Nat) : KI := (F i * 128 + 64 + i, 64 + i)
def eK (En : Nat → Int) (i : Nat) : KI := (En i * 128 + i, i)
def rmStep (st : List KI × List Int × Int) (x : KI) : List KI × List Int × Int :=
  if x.2 < 64 then (lput ltK st.1 (st.2.1.getD x.2.toNat 0, 0), st.2.1, st.2.2) else match st.1 with
    | [] => ([], st.2.1.set (x.2 - 64).toNat st.2.2, st.2.2 + 1)
    | y :: left => (left, st.2.1.set (x.2 - 64).toNat y.1, st.2.2)
structure RI (n : Nat) (F En : Nat → Int) (P : List KI) (free : List KI) (of : List Int) (rooms : Int) : Prop where
  asc : Asc ltK free
  fr : ∀ p, p ∈ free ↔ ∃ r, p = (r, 0) ∧ 0 ≤ r ∧ r < rooms ∧ ∀ i, i < n → bK F i ∈ P → eK En i ∉ P → of.getD i 0 ≠ r
  r0 : 0 ≤ rooms
  len : of.length = 40
  rg : ∀ i, i < n → bK F i ∈ P → 0 ≤ of.getD i 0 ∧ of.getD i 0 < rooms
  inj : ∀ i, i < n → ∀ k, k < n → bK F i ∈ P → eK En i ∉ P → bK F k ∈ P → eK En k ∉ P → of.getD i 0 = of.getD k 0 → i = k
  ns : ∀ i, i < n → ∀ k, k < n → bK F i ∈ P → bK F k ∈ P → i ≠ k → of.getD i 0 = of.getD k 0 → En i ≤ F k ∨ En k ≤ F i
  dp : rooms = 0 ∨ ∃ a, 0 ≤ a ∧ a < 512 ∧ rooms ≤ cntAt n F En a
theorem bK_inj {i k : Nat} (h : bK F i = bK F k) : i = k := by
  have := congrArg Prod.snd h
  have this : (64 : Int) + i = 64 + k := this
  omega
theorem eK_inj {i k : Nat} (h : eK En i = eK En k) : i = k := by
  have := congrArg Prod.snd h
  have this : (i : Int) = k := this
  omega
theorem bK_ne_eK {i k : Nat} (hk : k < 40) : bK F i ≠ eK En k := fun h => by
  have := congrArg Prod.snd h
  have this : (64 : Int) + i = k := this
  omega
variable {evs : List KI} (hn : n ≤ 40) (hF : ∀ i, i < n → 0 ≤ F i ∧ F i < 512 ∧ F i < En i) (ha : Asc ltK evs) (he : ∀ p, p ∈ evs ↔ ∃ i, i < n ∧ (p = bK F i ∨ p = eK En i))
include hn hF ha he
theorem RI.step {P R free : List KI} {of : List Int} {rooms : Int} {x : KI} (hP : P ++ x :: R = evs) (I : RI n F En P free of rooms) : RI n F En (P ++ [x]) (rmStep (free, of, rooms) x).1 (rmStep (free, of, rooms) x).2.1 (rmStep (free, of, rooms) x).2.2 := by
  have ha' := ha
  rw [← hP] at ha'; obtain ⟨_, a2, a3⟩ := asc_app ha'
  have hxP : ∀ p ∈ P, p.1 < x.1 := fun p hp => ltK_t.1 (a3 p hp x (List.mem_cons_self ..))
  have hin : ∀ p, p ∈ evs → p.1 < x.1 → p ∈ P := fun p hp hlt => by
    rw [← hP] at hp
    rcases List.mem_append.1 hp with e | e
    · exact e
    · rcases List.mem_cons.1 e with e | e
      · rw [e] at hlt; omega
      · have := ltK_t.1 ((List.pairwise_cons.1 a2).1 p e); omega
  have hxe : x ∈ evs := by rw [← hP]; exact List.mem_append_right _ (List.mem_cons_self ..)
  have mP : ∀ p, p ∈ P ++ [x] ↔ p ∈ P ∨ p = x := fun p => by simp
  have hbe : ∀ i, i < n → (bK F i).1 < (eK En i).1 := fun i hi => by
    have := hF i hi
    show F i * 128 + 64 + (i : Int) < En i * 128 + (i : Int)
    omega
  have hed : ∀ k, k < n → ∀ i, i < n → (eK En k).1 < (bK F i).1 → En k ≤ F i := fun k hk i hi h => by
    have h : En k * 128 + (k : Int) < F i * 128 + 64 + (i : Int) := h
    omega
  obtain ⟨i, hi, rfl | rfl⟩ := (he x).1 hxe
  · -- an interval begins
    have e64 : ¬ (bK F i).2 < 64 := by show ¬ (64 + (i : Int) < 64); omega
    have ei : ((bK F i).2 - 64).toNat = i := by show (64 + (i : Int) - 64).toNat = i; omega
    have hbP : bK F i ∉ P := fun h => by have := hxP _ h; omega
    have bg : ∀ k, bK F k ∈ P ++ [bK F i] ↔ bK F k ∈ P ∨ k = i := fun k => by
      rw [mP]; exact ⟨fun h => h.imp id bK_inj, fun h => h.imp id fun e => by rw [e]⟩
    have ed : ∀ k, k < n → (eK En k ∈ P ++ [bK F i] ↔ eK En k ∈ P) := fun k hk => by
      rw [mP]; exact ⟨fun h => h.elim id fun e => absurd e.symm (bK_ne_eK (by omega)), .inl⟩
    have nei : eK En i ∉ P := fun h => by have := hxP _ h; have := hbe i hi; omega
    -- a room that no one is in
    have put : ∀ (r rooms' : Int) (left : List KI), Asc ltK left → rooms ≤ rooms' → 0 ≤ r → r < rooms' → (∀ k, k < n → bK F k ∈ P → eK En k ∉ P → of.getD k 0 ≠ r) →
        (∀ p, p ∈ left ↔ ∃ q, p = (q, 0) ∧ 0 ≤ q ∧ q < rooms' ∧ q ≠ r ∧ ∀ k, k < n → bK F k ∈ P → eK En k ∉ P → of.getD k 0 ≠ q) →
        (rooms' = 0 ∨ ∃ a, 0 ≤ a ∧ a < 512 ∧ rooms' ≤ cntAt n F En a) → RI n F En (P ++ [bK F i]) left (of.set i r) rooms' := fun r rooms' left hl hr h0 h1 hfree hleft hd => by
      have gs := fun j => getD_set of i j r (by rw [I.len]; omega)
      have ne : ∀ k, bK F k ∈ P → k ≠ i := fun k hk e => hbP (by rw [← e]; exact hk)
      have gP : ∀ k, bK F k ∈ P → (of.set i r).getD k 0 = of.getD k 0 := fun k hk => by rw [gs, if_neg (fun e => ne k hk e.symm)]
      have gi : (of.set i r).getD i 0 = r := by rw [gs, if_pos rfl]
      refine ⟨hl, fun p => ?_, by omega, by rw [List.length_set]; exact I.len, fun k hk hb => ?_, fun k hk k' hk' b1 e1 b2 e2 e => ?_, fun k hk k' hk' b1 b2 hne e => ?_, hd⟩
      · rw [hleft]
        constructor
        · rintro ⟨q, rfl, q0, q1, q2, q3⟩
          refine ⟨q, rfl, q0, q1, fun k hk hb hne => ?_⟩
          rw [ed k hk] at hne
          rcases (bg k).1 hb with h | rfl
          · rw [gP k h]; exact q3 k hk h hne
          · rw [gi]; exact fun e => q2 e.symm
        · rintro ⟨q, rfl, q0, q1, q3⟩
          refine ⟨q, rfl, q0, q1, fun e => ?_, fun k hk hb hne => ?_⟩
          · exact q3 i hi ((bg i).2 (.inr rfl)) (by rw [ed i hi]; exact nei) (by rw [gi, e])
          · have := q3 k hk ((bg k).2 (.inl hb)) (by rw [ed k hk]; exact hne)
            rwa [gP k hb] at this
      · rcases (bg k).1 hb with h | rfl
        · rw [gP k h]; have := I.rg k hk h; omega
        · rw [gi]; exact ⟨h0, h1⟩
      · rw [ed k hk] at e1
        rw [ed k' hk'] at e2
        rcases (bg k).1 b1 with h | rfl
        · rw [gP k h] at e
          rcases (bg k').1 b2 with h' | rfl
          · rw [gP k' h'] at e; exact I.inj k hk k' hk' h e1 h' e2 e
          · rw [gi] at e; exact absurd e (hfree k hk h e1)
        · rw [gi] at e
          rcases (bg k').1 b2 with h' | rfl
          · rw [gP k' h'] at e; exact absurd e.symm (hfree k' hk' h' e2)
          · rfl
      · have gone : ∀ k, k < n → bK F k ∈ P → of.getD k 0 = r → En k ≤ F i := fun k hk h e => by
          have : eK En k ∈ P := Classical.byContradiction fun hne => hfree k hk h hne e
          exact hed k hk i hi (hxP _ this)
        rcases (bg k).1 b1 with h | rfl
        · rw [gP k h] at e
          rcases (bg k').1 b2 with h' | rfl
          · rw [gP k' h'] at e; exact I.ns k hk k' hk' h h' hne e
          · rw [gi] at e; exact .inl (gone k hk h e)
        · rw [gi] at e
          rcases (bg k').1 b2 with h' | rfl
          · rw [gP k' h'] at e; exact .inr (gone k' hk' h' e.symm)
          · exact absurd rfl hne
    unfold rmStep; rw [if_neg e64, ei]
    cases hfr : free with
    | nil =>
      dsimp only
      have none : ∀ r, 0 ≤ r → r < rooms → ∃ k, k < n ∧ bK F k ∈ P ∧ eK En k ∉ P ∧ of.getD k 0 = r := fun r h0 h1 => Classical.byContradiction fun hc => by
        have := (I.fr (r, 0)).2 ⟨r, rfl, h0, h1, fun k hk b e e2 => hc ⟨k, hk, b, e, e2⟩⟩
        rw [hfr] at this; cases this
      refine put rooms (rooms + 1) [] List.Pairwise.nil (by omega) I.r0 (by omega) (fun k hk b _ e => by have := I.rg k hk b; omega) (fun p => ⟨fun h => absurd h List.not_mem_nil, ?_⟩) (.inr ⟨F i, (hF i hi).1, (hF i hi).2.1, ?_⟩)
      · rintro ⟨q, rfl, q0, q1, q2, q3⟩
        obtain ⟨k, hk, b, e, e2⟩ := none q q0 (by omega); exact absurd e2 (q3 k hk b e)
      · have hch : ∃ g : Nat → Nat, ∀ r : Nat, (r : Int) < rooms → g r < n ∧ bK F (g r) ∈ P ∧ eK En (g r) ∉ P ∧ of.getD (g r) 0 = r := ⟨fun r => if h : (r : Int) < rooms then (none r (by omega) h).choose else 0, fun r h => by
          simp only [h, dif_pos]
          exact (none r (by omega) h).choose_spec⟩
        obtain ⟨g, hg⟩ := hch
        have := nodup_sub (S := i :: (List.range rooms.toNat).map g) (T := (List.range n).filter fun k => decide (F k ≤ F i) && decide (F i < En k)) (by
          rw [List.nodup_cons]; refine ⟨fun h => ?_, ?_⟩
          · obtain ⟨r, hr, e⟩ := List.mem_map.1 h
            have hr := List.mem_range.1 hr
            have := (hg r (by omega)).2.1
            rw [e] at this; exact hbP this
          · rw [List.nodup_iff_pairwise_ne, List.pairwise_map]
            refine (List.nodup_iff_pairwise_ne.1 List.nodup_range).imp_of_mem fun {r r'} hr hr' hne e => hne ?_
            have hr := List.mem_range.1 hr
            have hr' := List.mem_range.1 hr'
            have h1 := (hg r (by omega)).2.2.2
            have h2 := (hg r' (by omega)).2.2.2
            rw [e] at h1
            omega) (fun k hk => by
          rw [List.mem_filter, List.mem_range]
          rcases List.mem_cons.1 hk with rfl | hk
          · have := hF k hi
            simp; omega
          · obtain ⟨r, hr, rfl⟩ := List.mem_map.1 hk
            have hr := List.mem_range.1 hr
            obtain ⟨h1, h2, h3, _⟩ := hg r (by omega)
            have b1 := hxP _ h2
            have b1 : F (g r) * 128 + 64 + (g r : Int) < F i * 128 + 64 + (i : Int) := b1
            have b2 : ¬ (eK En (g r)).1 < (bK F i).1 := fun h => h3 (hin _ ((he _).2 ⟨g r, h1, .inr rfl⟩) h)
            have b2 : ¬ (En (g r) * 128 + (g r : Int) < F i * 128 + 64 + (i : Int)) := b2
            simp
            omega)
        rw [List.length_cons, List.length_map, List.length_range] at this
        have h0 := I.r0
        show rooms + 1 ≤ (cntAt n F En (F i) : Int)
        unfold cntAt
        omega
    | cons y left =>
      dsimp only
      obtain ⟨r, rfl, h0, h1, h2⟩ := (I.fr y).1 (by rw [hfr]; exact List.mem_cons_self ..)
      have hasc := I.asc
      rw [hfr] at hasc; obtain ⟨b1, b2⟩ := List.pairwise_cons.1 hasc; refine put r rooms left b2 (Int.le_refl _) h0 h1 h2 (fun p => ?_) I.dp
      have hm := I.fr p
      rw [hfr, List.mem_cons] at hm
      constructor
      · intro h
        obtain ⟨q, rfl, q0, q1, q2⟩ := hm.1 (.inr h); refine ⟨q, rfl, q0, q1, fun e => ?_, q2⟩
        have := ltK_t.1 (b1 _ h)
        have this : r < q := this
        omega
      · rintro ⟨q, rfl, q0, q1, q2, q3⟩
        rcases hm.2 ⟨q, rfl, q0, q1, q3⟩ with e | e
        · exact absurd (congrArg Prod.fst e) q2
        · exact e
  · -- an interval ends
    have e64 : (eK En i).2 < 64 := by show (i : Int) < 64; omega
    have ei : (eK En i).2.toNat = i := by show ((i : Int)).toNat = i; omega
    have heP : eK En i ∉ P := fun h => by have := hxP _ h; omega
    have hbP : bK F i ∈ P := hin _ ((he _).2 ⟨i, hi, .inl rfl⟩) (hbe i hi)
    have bg : ∀ k, bK F k ∈ P ++ [eK En i] ↔ bK F k ∈ P := fun k => by
      rw [mP]; exact ⟨fun h => h.elim id fun e => absurd e (bK_ne_eK (by omega)), .inl⟩
    have ed : ∀ k, eK En k ∉ P ++ [eK En i] ↔ eK En k ∉ P ∧ k ≠ i := fun k => by
      rw [mP, not_or]; exact ⟨fun h => ⟨h.1, fun e => h.2 (by rw [e])⟩, fun h => ⟨h.1, fun e => h.2 (eK_inj e)⟩⟩
    unfold rmStep; rw [if_pos e64, ei]; refine ⟨lputK_asc I.asc, fun p => ?_, I.r0, I.len, fun k hk hb => I.rg k hk ((bg k).1 hb), fun k hk k' hk' b1 e1 b2 e2 e => I.inj k hk k' hk' ((bg k).1 b1) ((ed k).1 e1).1 ((bg k').1 b2) ((ed k').1 e2).1 e, fun k hk k' hk' b1 b2 => I.ns k hk k' hk' ((bg k).1 b1) ((bg k').1 b2), I.dp⟩
    rw [mem_lputK I.asc, I.fr]
    constructor
    · rintro (rfl | ⟨⟨q, rfl, q0, q1, q2⟩, _⟩)
      · refine ⟨_, rfl, (I.rg i hi hbP).1, (I.rg i hi hbP).2, fun k hk hb hne e => ?_⟩
        have hne := (ed k).1 hne
        exact hne.2 (I.inj k hk i hi ((bg k).1 hb) hne.1 hbP heP e)
      · exact ⟨q, rfl, q0, q1, fun k hk hb hne => q2 k hk ((bg k).1 hb) ((ed k).1 hne).1⟩
    · rintro ⟨q, rfl, q0, q1, q2⟩
      by_cases e : q = of.getD i 0
      · exact .inl (by rw [e])
      · refine .inr ⟨⟨q, rfl, q0, q1, fun k hk hb hne => ?_⟩, e⟩
        by_cases hki : k = i
        · subst hki; exact fun h => e h.symm
        · exact q2 k hk ((bg k).2 hb) ((ed k).2 ⟨hne, hki⟩)
theorem RI.steps : ∀ {R P free : List KI} {of : List Int} {rooms : Int}, P ++ R = evs → RI n F En P free of rooms → RI n F En evs (R.foldl rmStep (free, of, rooms)).1 (R.foldl rmStep (free, of, rooms)).2.1 (R.foldl rmStep (free, of, rooms)).2.2
  | [], P, free, of, rooms, h, I => by rw [List.append_nil] at h; subst h; exact I
  | x :: R, P, free, of, rooms, h, I => by
    rw [List.foldl_cons]; exact RI.steps (free := (rmStep (free, of, rooms) x).1) (of := (rmStep (free, of, rooms) x).2.1) (rooms := (rmStep (free, of, rooms) x).2.2) (by rw [List.append_assoc]; exact h) (RI.step hn hF ha he h I)
omit hn hF ha he in
theorem RI.start (of : List Int) (hl : of.length = 40) : RI n F En [] [] of 0 := ⟨List.Pairwise.nil, fun p => ⟨fun h => absurd h List.not_mem_nil, fun ⟨r, _, h0, h1, _⟩ => absurd h1 (by omega)⟩, Int.le_refl _, hl, fun _ _ h => absurd h List.not_mem_nil, fun _ _ _ _ h => absurd h List.not_mem_nil, fun _ _ _ _ h => absurd h List.not_mem_nil, .inl rfl⟩
omit hn hF ha in
theorem RI.fin {free : List KI} {of : List Int} {rooms : Int} (I : RI n F En evs free of rooms) : (free.length : Int) = rooms ∧ (∀ i, i < n → ∀ k, k < n → i ≠ k → of.getD i 0 = of.getD k 0 → En i ≤ F k ∨ En k ≤ F i) ∧ (∀ a, (cntAt n F En a : Int) ≤ rooms) ∧ (rooms = 0 ∨ ∃ a, 0 ≤ a ∧ a < 512 ∧ rooms = cntAt n F En a) := by
  have bg : ∀ k, k < n → bK F k ∈ evs := fun k hk => (he _).2 ⟨k, hk, .inl rfl⟩
  have ed : ∀ k, k < n → eK En k ∈ evs := fun k hk => (he _).2 ⟨k, hk, .inr rfl⟩
  have h0 := I.r0
  have hcnt : ∀ a, (cntAt n F En a : Int) ≤ rooms := fun a => by
    have := nodup_le rooms.toNat (((List.range n).filter fun i => decide (F i ≤ a) && decide (a < En i)).map fun i => (of.getD i 0).toNat) (by
      rw [List.nodup_iff_pairwise_ne, List.pairwise_map]; refine ((List.nodup_iff_pairwise_ne.1 List.nodup_range).sublist List.filter_sublist).imp_of_mem fun {i k} hi hk hne e => ?_; rw [List.mem_filter, List.mem_range] at hi hk; obtain ⟨hi, hi2⟩ := hi; obtain ⟨hk, hk2⟩ := hk
      simp at hi2 hk2
      have r1 := I.rg i hi (bg i hi)
      have r2 := I.rg k hk (bg k hk)
      have := I.ns i hi k hk (bg i hi) (bg k hk) hne (by omega)
      omega) fun v hv => by
        obtain ⟨i, hi, rfl⟩ := List.mem_map.1 hv; rw [List.mem_filter, List.mem_range] at hi
        have := I.rg i hi.1 (bg i hi.1)
        omega
    rw [List.length_map] at this; unfold cntAt
    omega
  refine ⟨?_, fun i hi k hk hne e => I.ns i hi k hk (bg i hi) (bg k hk) hne e, hcnt, ?_⟩
  · have e : free = (List.range rooms.toNat).map fun (r : Nat) => ((r : Int), (0 : Int)) := by
      refine ascK_ext I.asc ?_ fun z => ?_
      · show List.Pairwise _ _
        rw [List.pairwise_map]; exact List.pairwise_lt_range.imp fun h => ltK_t.2 (by show (_ : Int) < _; omega)
      · rw [I.fr, List.mem_map]
        constructor
        · rintro ⟨r, rfl, h1, h2, _⟩
          exact ⟨r.toNat, List.mem_range.2 (by omega), by rw [Int.toNat_of_nonneg h1]⟩
        · rintro ⟨r, hr, rfl⟩
          have hr := List.mem_range.1 hr
          exact ⟨r, rfl, by omega, by omega, fun k hk _ hne => absurd (ed k hk) hne⟩
    rw [e, List.length_map, List.length_range]; omega
  · rcases I.dp with h | ⟨a, h1, h2, h3⟩
    · exact .inl h
    · exact .inr ⟨a, h1, h2, by have := hcnt a; omega⟩
end
end Go.Hp
end
section
namespace Go.Proofs.Ythpmeccnddchpaa.Gi
open Go.Hp Go.Proofs.Ythpmeccnddchpaa
variable {h0 h : Heap} {Z E : List Rg} {Q : Value → Heap → Prop} {lt : It → It → Bool} {lf : Value}
abbrev g8 (p : Int × Int) : List Value := [.int .u8 p.1, .int .u8 p.2]
theorem g8l (p : Int × Int) : (g8 p).length = 2 := rfl
theorem g81 (p : Int × Int) : ∀ y ∈ g8 p, one1 y = true := by simp [one1]
def B8 (p : Int × Int) : Prop := (0 ≤ p.1 ∧ p.1 ≤ 255) ∧ 0 ≤ p.2 ∧ p.2 ≤ 255
def fOf (l : List (Int × Int)) (i : Nat) : Int := (l.getD i (0, 0)).1
def eOf (l : List (Int × Int)) (i : Nat) : Int := (l.getD i (0, 0)).1 + (l.getD i (0, 0)).2 + 1
theorem fOf_eq {l : List (Int × Int)} {i : Nat} (h : i < l.length) : fOf l i = l[i].1 := by unfold fOf; rw [List.getD_eq_getElem?_getD, List.getElem?_eq_getElem h]; rfl
theorem eOf_eq {l : List (Int × Int)} {i : Nat} (h : i < l.length) : eOf l i = l[i].1 + l[i].2 + 1 := by unfold eOf; rw [List.getD_eq_getElem?_getD, List.getElem?_eq_getElem h]; rfl
theorem fe_ok {l : List (Int × Int)} (hb : ∀ p ∈ l, B8 p) : ∀ i, i < l.length → 0 ≤ fOf l i ∧ fOf l i < 512 ∧ fOf l i < eOf l i := fun i hi => by
  have h1 := hb _ (List.getElem_mem hi)
  unfold B8 at h1; rw [fOf_eq hi, eOf_eq hi]; omega
def evs (l : List (Int × Int)) (n : Nat) : List It := (List.range n).flatMap fun i => [eK (eOf l) i, bK (fOf l) i]
theorem evs_succ (l : List (Int × Int)) (n : Nat) : evs l (n + 1) = evs l n ++ [eK (eOf l) n, bK (fOf l) n] := by unfold evs; rw [List.range_succ, List.flatMap_append, List.flatMap_singleton]
theorem evs_len (l : List (Int × Int)) (n : Nat) : (evs l n).length = 2 * n := by
  induction n with
  | zero => rfl
  | succ n ih => rw [evs_succ, List.length_append, ih]; show 2 * n + 2 = _; omega
theorem evs_mem {l : List (Int × Int)} {n : Nat} {p : It} : p ∈ evs l n ↔ ∃ i, i < n ∧ (p = bK (fOf l) i ∨ p = eK (eOf l) i) := by
  unfold evs; rw [List.mem_flatMap]
  constructor
  · rintro ⟨i, hi, hp⟩
    refine ⟨i, List.mem_range.1 hi, ?_⟩
    simp only [List.mem_cons, List.not_mem_nil, or_false] at hp
    exact hp.symm
  · rintro ⟨i, hi, hp⟩
    exact ⟨i, List.mem_range.2 hi, by simp only [List.mem_cons, List.not_mem_nil, or_false]; exact hp.symm⟩
theorem evs_nd {l : List (Int × Int)} : ∀ n, n ≤ 40 → ((evs l n).map Prod.fst).Nodup
  | 0, _ => List.nodup_nil
  | n + 1, hn => by
    have ih := evs_nd (l := l) n (by omega)
    rw [evs_succ, List.map_append]; refine List.nodup_append.2 ⟨ih, ?_, fun a ha b hb => ?_⟩
    · show ([eOf l n * 128 + (n : Int), fOf l n * 128 + 64 + (n : Int)] : List Int).Nodup
      refine List.nodup_cons.2 ⟨fun h => ?_, List.nodup_cons.2 ⟨List.not_mem_nil, List.nodup_nil⟩⟩
      have := List.mem_singleton.1 h
      omega
    · obtain ⟨p, hp, rfl⟩ := List.mem_map.1 ha
      obtain ⟨i, hi, hp⟩ := evs_mem.1 hp
      have hb : b = eOf l n * 128 + (n : Int) ∨ b = fOf l n * 128 + 64 + (n : Int) := by simpa [eK, bK] using hb
      rcases hp with rfl | rfl
      · show fOf l i * 128 + 64 + (i : Int) ≠ b
        rcases hb with rfl | rfl <;> omega
      · show eOf l i * 128 + (i : Int) ≠ b
        rcases hb with rfl | rfl <;> omega
theorem evs_ok {l : List (Int × Int)} (hl : l.length ≤ 40) : Asc ltK (setK (evs l l.length)) ∧ ∀ p, p ∈ setK (evs l l.length) ↔ ∃ i, i < l.length ∧ (p = bK (fOf l) i ∨ p = eK (eOf l) i) :=
  ⟨setK_asc _, fun p => (setK_perm _ (evs_nd _ hl)).mem_iff.trans evs_mem⟩
theorem End_ok {a b : Int} (ha : 0 ≤ a ∧ a ≤ 255) (hb : 0 ≤ b ∧ b ≤ 255) (H : ∀ E' h', St h [] E' h' → Q (.int .i64 (a + b + 1)) h') : s_Interval_End.call #[.agg #[.int .u8 a, .int .u8 b]] h Q := by
  refine s_Interval_End.body _ _ _ ?_; unfold s_Interval_End.sh; refine St.r_box (cs := g8 (a, b)) (St.start h) fun t h s => ?_; refine r_fld (n := 0) ?_; refine St.r_load0 s 0 rfl rfl ?_; refine r_cv8 ha.1 ha.2 ?_; refine r_fld (n := 1) ?_; refine St.r_load0 s 0 rfl rfl ?_; refine r_cv8 hb.1 hb.2 ?_; refine r_addI (by omega) (by omega) ?_; refine r_addI (by omega) (by omega) ?_; exact H _ _ s
theorem borders_ok {l : List (Int × Int)} {v : Value} {d : Nat} (hd : d = 0 ∨ 2 ≤ d) (hd2 : d ≤ 512) (hb : ∀ p ∈ l, B8 p) (hr : Rdl 2 h v l.length (l.flatMap g8)) (hl : l.length ≤ 40)
    (H : ∀ w b o sp E' h', Own 2 w (setK (evs l l.length)).length b o ((setK (evs l l.length)).flatMap enc) sp → St h [] ((b, o, (setK (evs l l.length)).flatMap enc ++ sp) :: E') h' → Q w h') : l_borders.call #[mk d, v] h Q := by
  refine l_borders.body _ _ _ _ ?_; unfold l_borders.sh; refine St.r_box (cs := [.slice none 0 0, .int .i64 d, .bool true]) (St.start h) fun t2 h1 s => ?_; refine (hr.st s).lenV ?_
  refine loop_ghost (fun q st h' => ∃ (j : Nat) (v1 : Value) (b1 o1 : Nat) (p1 : List Value) (R : List Rg), q = l.length - j ∧ j ≤ l.length ∧ st = [v1, .int .i64 (j : Nat)] ∧ Own 2 v1 (evs l j).length b1 o1 ((evs l j).flatMap enc) p1 ∧
      St h [] ((t2, 0, [.slice none 0 0, .int .i64 d, .bool true]) :: (b1, o1, (evs l j).flatMap enc ++ p1) :: R) h') (n0 := l.length)
    ⟨0, .slice none 0 0, 0, 0, [], [], rfl, Nat.zero_le _, rfl, Own.nil 2 0 0, (s.empty 0 0).perm (by ((apply perm_rg; intro f; simp only [set_cons_zero, set_cons_succ, eraseIdx_cons_zero, eraseIdx_cons_succ, cons_append, nil_append, map_append, map_cons, map_nil, List.sum_append, List.sum_cons, List.sum_nil, map_flatMap, Nat.add_zero, Nat.zero_add]; ac_rfl)))⟩ ?_
  clear s
  rintro q st g ⟨j, v1, b1, o1, p1, R, rfl, hj, rfl, w1, s⟩ K HK
  have hel := evs_len l j
  unfold l_borders.l2.b; refine r_cmpI ?_; refine r_if (fun hlt => ?_) (fun hge => ?_)
  · have hlt : j < l.length := by have := ltI hlt; omega
    have hbj := hb l[j] (List.getElem_mem hlt)
    have hf := fOf_eq hlt
    have he := eOf_eq hlt
    obtain ⟨x, y, hxy⟩ : ∃ x y, l[j] = (x, y) := ⟨_, _, rfl⟩; unfold l_borders.j3; refine (hr.st s).at (n := j) rfl g8l rfl rfl hlt fun b o hrd => ?_; refine hrd.loadN rfl ?_; rw [hxy] at hbj hf he ⊢; obtain ⟨hx, hy⟩ := hbj
    have hx : 0 ≤ x ∧ x ≤ 255 := hx
    have hy : 0 ≤ y ∧ y ≤ 255 := hy
    have hf : fOf l j = x := hf
    have he : eOf l j = x + y + 1 := he
    refine s.r_alloc fun t7 g s => ?_; refine St.r_storeN0 s 0 (ys := g8 (x, y)) rfl rfl (by simp) (g81 _) ?_; intro g s
    have s : St h [] ((t7, 0, g8 (x, y)) :: (t2, 0, [.slice none 0 0, .int .i64 d, .bool true]) :: (b1, o1, (evs l j).flatMap enc ++ p1) :: R) g := s
    refine St.r_loadN0 s 0 rfl (by simp) ?_; refine r_fld (n := 0) ?_; refine St.r_load0 s 0 rfl rfl ?_; refine r_cv8 hx.1 hx.2 ?_; refine r_shlN 7 (by decide) (p := 128) rfl (by omega) (by omega) ?_; refine r_addI (by omega) (by omega) ?_; refine r_addI (by omega) (by omega) ?_; refine r_addI (by omega) (by omega) ?_; refine r_build (cs := enc (bK (fOf l) j)) (by rw [show bK (fOf l) j = (x * 128 + 64 + (j : Int), 64 + (j : Int)) by unfold bK; rw [hf]]; rfl) ?_; refine End_ok hx hy fun E2 g2 s2 => ?_
    have s := (s.join s2).perm List.perm_append_comm
    have s : St h [] ((t7, 0, g8 (x, y)) :: (t2, 0, [.slice none 0 0, .int .i64 d, .bool true]) :: (b1, o1, (evs l j).flatMap enc ++ p1) :: (R ++ E2)) g2 := s
    refine ⟨s.r_still0 0 rfl rfl, ?_⟩
    refine r_shlN 7 (by decide) (p := 128) rfl (by omega) (by omega) ?_; refine r_addI (by omega) (by omega) ?_; refine r_build (cs := enc (eK (eOf l) j)) (by rw [show eK (eOf l) j = ((x + y + 1) * 128 + (j : Int), (j : Int)) by unfold eK; rw [he]]; rfl) ?_; refine St.r_mkSl (sz := 2) (cs := enc (eK (eOf l) j) ++ enc (bK (fOf l) j)) s (by ((simp only [fillV, fill1, Value.cells, zeros_succ, zeros_zero, size_toArray, length_cons, length_nil, length_append, take_succ_cons, take_zero, take_nil, drop_succ_cons, drop_zero, drop_nil, cons_append, nil_append, append_nil, Nat.reduceAdd, Nat.reduceMul, Nat.reduceLeDiff, Nat.reduceEqDiff, and_self, and_true, true_and, if_true, Nat.le_refl, Nat.zero_add, Nat.add_zero, Nat.zero_mul, reduceIte, if_false] <;> rfl))) rfl fun q g s wq => ?_; refine s.r_appL (f := enc) (L := evs l j) (M := [eK (eOf l) j, bK (fOf l) j]) 3 rfl w1 rfl (by have := wq.rdl s 0 (by rw [List.append_nil]; rfl); simpa using this) (fun _ _ => enc1 _) (by rw [hel, List.length_cons, List.length_singleton]; omega) (by rw [hel, List.length_cons, List.length_singleton]; omega) fun v' b' o' sp' g s w' => ?_; rw [← evs_succ] at s w'; unfold l_borders.j4; refine r_add1 (by omega) ?_; refine HK (l.length - (j + 1)) _ _ (by omega) ⟨j + 1, v', b', o', sp', _, rfl, hlt, rfl, w', s.perm (E' := (t2, 0, [.slice none 0 0, .int .i64 d, .bool true]) :: (b', o', (evs l (j + 1)).flatMap enc ++ sp') :: ((q, 0, enc (eK (eOf l) j) ++ enc (bK (fOf l) j)) :: (t7, 0, g8 (x, y)) :: (R ++ E2))) (by ((apply perm_rg; intro f; simp only [set_cons_zero, set_cons_succ, eraseIdx_cons_zero, eraseIdx_cons_succ, cons_append, nil_append, map_append, map_cons, map_nil, List.sum_append, List.sum_cons, List.sum_nil, map_flatMap, Nat.add_zero, Nat.zero_add]; ac_rfl)))⟩
  · have hge : j = l.length := by have := geI hge; omega
    subst hge; unfold l_borders.j1; refine St.r_loadN0 s 0 rfl (by simp) ?_; refine GItemsO_ok hd hd2 (w1.rdl s 1 rfl) (by omega) fun v' b o sp E2 g2 w2 s2 => ?_; exact H _ _ _ _ _ _ w2 (join2 s s2)
theorem Modulo_ok {a n : Int} (ha : 0 ≤ a) (ha2 : a ≤ 1000000000) (hn : 0 < n) (hn2 : n ≤ 1000000) (H : Q (.int .i64 (a % n)) h) : s_Modulo.call #[.int .i64 a, .int .i64 n] h Q := by
  refine s_Modulo.body _ _ _ _ ?_; unfold s_Modulo.sh
  have h1 := Int.emod_nonneg a (show n ≠ 0 by omega)
  have h2 := Int.emod_lt_of_pos a hn
  refine r_remN ha hn ?_; refine r_addI (by omega) (by omega) ?_; refine r_remN (by omega) hn ?_; rw [Int.add_emod_right, Int.emod_emod]; exact H
end Go.Proofs.Ythpmeccnddchpaa.Gi
end
section
namespace Go.Proofs.Ythpmeccnddchpaa.Gi
open Go.Hp Go.Proofs.Ythpmeccnddchpaa
variable {h0 h : Heap} {Z E : List Rg} {Q : Value → Heap → Prop} {lt : It → It → Bool} {lf : Value}
theorem isoLoad_rd {tr : Value} {pb po n : Nat} (hp : cl h pb po = some (ptr n 0)) (H : Q (ptr n 0) h) : BTreeG_I_isoLoad.call #[tr, ptr pb po, .bool false] h Q := by
  refine BTreeG_I_isoLoad.body _ _ _ _ _ ?_; unfold BTreeG_I_isoLoad.sh; refine r_br (fun e => absurd e (by decide)) (fun _ => ?_)
  unfold BTreeG_I_isoLoad.j1; refine r_nil ?_; exact r_ld hp H
end Go.Proofs.Ythpmeccnddchpaa.Gi
end
section
namespace Go.Proofs.Ythpmeccnddchpaa.Gi
open Go.Hp Go.Proofs.Ythpmeccnddchpaa
variable {h0 h : Heap} {Z E : List Rg} {Q : Value → Heap → Prop} {lt : It → It → Bool} {lf : Value}
abbrev zF : List Value := [.int .i64 0, .int .i64 0, .bool false]
theorem getLast_app {α : Type} {a b : List α} (h : b ≠ []) : (a ++ b).getLast? = b.getLast? := by
  rw [List.getLast?_append]
  cases e : b.getLast? with
  | none => exact absurd (List.getLast?_eq_none_iff.1 e) h
  | some x => rfl
theorem maxZ_ok {g : Rt} {tb m : Nat} {iso cnt mn mx : Int} {ctr : Option Addr} (M : TreeOk lt m iso g) (hT : (tb, 0, hdr iso ctr (rA g) cnt lf mn mx) ∈ Z) (hz : ∀ r ∈ rAll g, r ∈ Z) (s : St h0 Z E h)
    (H : ∀ E' h', St h0 Z (E' ++ E) h' → Q (.tuple #[old (rPt g).items.getLast?, .bool (rPt g).items.getLast?.isSome]) h') : BTreeG_I_maxMut.call #[ptr tb 0, .bool false] h Q := by
  refine BTreeG_I_maxMut.body _ _ _ _ ?_; unfold BTreeG_I_maxMut.sh
  have m1 := M.m1
  have m3 := M.m3
  refine s.r_alloc fun t4 h s => ?_; refine lock_ok ?_; refine r_if (fun e => absurd e (by simp)) (fun _ => ?_)
  unfold BTreeG_I_maxMut.j1
  cases g with
  | none =>
    refine r_nil ?_; refine r_fld ?_; refine s.r_lz hT 2 rfl rfl ?_; refine r_eqNilP ?_; refine r_if (fun _ => ?_) (fun e => absurd e (by simp [rA]))
    refine r_nil ?_; refine r_fld ?_; refine s.r_lzE hT 7 (enc emp) rfl (by simp) rfl ?_; refine St.r_storeN0 s 0 rfl rfl (by simp) (enc1 emp) ?_; intro h s
    refine St.r_loadN0 s 0 rfl (by simp) ?_; exact H [_] h s
  | some t =>
    obtain ⟨k, t⟩ := t
    have hT : (tb, 0, hdr iso ctr (some ⟨t.id, 0, none⟩) cnt lf mn mx) ∈ Z := hT
    refine r_nil ?_; refine r_fld ?_; refine s.r_lz hT 2 rfl rfl ?_; refine r_eqNilP ?_; refine r_if (fun e => absurd e (by simp)) (fun _ => ?_)
    unfold BTreeG_I_maxMut.j2; refine r_nil ?_; refine r_fld ?_; refine isoLoad_rd (s.clz hT 2 rfl rfl) ?_; refine loop_ghost (fun q st h' => ∃ (t2 : GT It q), st = [ptr t2.id 0] ∧ h' = h ∧ Gd iso t2 ∧ t2.pt.Fl m 1 ∧ (∀ r ∈ t2.all enc, r ∈ Z) ∧ t.pt.items.getLast? = t2.pt.items.getLast?) (n0 := k) ⟨t, rfl, rfl, M.gd, M.fl, hz, rfl⟩ ?_
    rintro q st h ⟨t2, rfl, rfl, gd, fl, hz2, he⟩ K HK
    have H : ∀ E' h', St h0 Z (E' ++ E) h' → Q (.tuple #[old t.pt.items.getLast?, .bool t.pt.items.getLast?.isSome]) h' := H
    rw [he] at H; unfold BTreeG_I_maxMut.l3.b
    cases q with
    | zero =>
      obtain ⟨own, n, is', c0, its, iv, ib, io, isp, kb, kv', krb, kro, ksp⟩ := (t2 : Nd It); obtain ⟨z1, z2⟩ := allZ_leaf hz2
      have w : Own 2 iv its.length ib io (its.flatMap enc) isp := gd.wf.1
      have hl : 1 ≤ its.length := fl.1
      have hl2 : its.length ≤ m := fl.2
      have H : ∀ E' h', St h0 Z (E' ++ E) h' → Q (.tuple #[old its.getLast?, .bool its.getLast?.isSome]) h' := H
      have hx : its[its.length - 1]? = some (its[its.length - 1]'(by omega)) := List.getElem?_eq_getElem _
      have hgl : its.getLast? = some (its[its.length - 1]'(by omega)) := by rw [List.getLast?_eq_getElem?]; exact hx
      rw [hgl] at H; refine node_leaf_ok (a := none) (s.clz z1 3 rfl rfl) ?_; refine r_if (fun _ => ?_) (fun e => absurd e (by simp))
      refine r_nil ?_; refine r_fld ?_; refine s.r_lz0 z1 (j := 2) rfl ?_; refine r_nil ?_; refine r_fld ?_; refine s.r_lz0 z1 (j := 2) rfl ?_; refine w.lenV ?_; refine r_sub1 hl (by omega) ?_; refine w.idx (n := its.length - 1) rfl (by omega) ?_; refine s.r_loadFZ encl z2 hx ?_; refine St.r_storeN0 s 0 rfl rfl (by simp) (enc1 _) ?_; intro h s
      refine St.r_loadN0 s 0 rfl (by simp) ?_; exact H [_] h s
    | succ q =>
      obtain ⟨d, ts⟩ := t2; obtain ⟨own, n, is', c0, its, iv, ib, io, isp, kb, kv', krb, kro, ksp⟩ := d; obtain ⟨z1, z2, z3, z4, z5⟩ := allZ_inner hz2
      have wK : Own 1 kv' ts.length krb kro ((ts.map GT.id).map fun m => ptr m 0) ksp := gd.wf.2.1
      have hkl : ts.length = its.length + 1 := gd.wf.2.2.1
      have hl2 : its.length ≤ m := fl.2.1
      have hc : ts[ts.length - 1]? = some (ts[ts.length - 1]'(by omega)) := List.getElem?_eq_getElem _
      generalize ts[ts.length - 1]'(by omega) = c at hc
      have hcm := List.mem_of_getElem? hc
      have fc : PT.Fl m (m / 2) c.pt := fl.2.2.2 _ (List.mem_map.2 ⟨c, hcm, rfl⟩)
      have fc1 : c.pt.Fl m 1 := fc.mono (by omega)
      refine node_leaf_ok (a := some ⟨kb, 0, none⟩) (s.clz z1 3 rfl rfl) ?_; refine r_if (fun e => absurd e (by simp)) (fun _ => ?_)
      unfold BTreeG_I_maxMut.j4; refine r_nil ?_; refine r_fld ?_; refine s.r_lz0 z1 (j := 3) rfl ?_; refine r_nil ?_; refine s.r_lz0 z3 (j := 0) rfl ?_; refine r_nil ?_; refine r_fld ?_; refine s.r_lz0 z1 (j := 3) rfl ?_; refine r_nil ?_; refine s.r_lz0 z3 (j := 0) rfl ?_; refine wK.lenV ?_; refine r_sub1 (by omega) (by omega) ?_; refine wK.idx (n := ts.length - 1) rfl (by omega) ?_; refine isoLoad_rd (kidcell z4 hc s) ?_; refine HK q _ _ (Nat.lt_succ_self q) ⟨c, rfl, rfl, gd.kid hcm, fc1, z5 c hcm, he.trans ?_⟩
      obtain ⟨c', hc', _, eit⟩ := PT.around (t := ((its, ts.map GT.pt) : PT It (q + 1))) fl (Nat.le_refl its.length)
      have hc' : (ts.map GT.pt)[its.length]? = some c' := hc'
      rw [List.getElem?_map, show its.length = ts.length - 1 by omega, hc] at hc'
      have : c' = c.pt := (Option.some.inj hc').symm
      subst this
      have eit : PT.items (h := q + 1) (its, ts.map GT.pt) = lz (its.take its.length) (((ts.map GT.pt).take its.length).map PT.items) ++ (c.pt.items ++ rz (its.drop its.length) (((ts.map GT.pt).drop (its.length + 1)).map PT.items)) := eit
      show (PT.items (h := q + 1) (its, ts.map GT.pt)).getLast? = _
      rw [eit, List.drop_length]
      have er : rz ([] : List It) (((ts.map GT.pt).drop (its.length + 1)).map PT.items) = [] := by unfold rz; simp
      rw [er, List.append_nil]; refine getLast_app fun e0 => ?_
      have h1 := (PT.its_sub c.pt).length_le
      have h2 := fc1.le.1
      rw [e0, List.length_nil] at h1
      omega
theorem Max_ok {g : Rt} {tb m : Nat} {iso cnt mn mx : Int} {ctr : Option Addr} (M : TreeOk lt m iso g) (s : St h0 Z ((tb, 0, hdr iso ctr (rA g) cnt lf mn mx) :: (rAll g ++ E)) h)
    (H : ∀ E' h', St h0 Z (E' ++ ((tb, 0, hdr iso ctr (rA g) cnt lf mn mx) :: (rAll g ++ E))) h' → Q (.tuple #[old (rPt g).items.getLast?, .bool (rPt g).items.getLast?.isSome]) h') : BTreeG_I_Max.call #[ptr tb 0] h Q := by
  refine BTreeG_I_Max.body _ _ _ ?_; unfold BTreeG_I_Max.sh; refine s.r_alloc fun t2 h s => ?_
  have s0 : St h0 Z (((tb, 0, hdr iso ctr (rA g) cnt lf mn mx) :: rAll g) ++ ((t2, 0, enc emp) :: E)) h := s.perm (by ((apply perm_rg; intro f; simp only [set_cons_zero, set_cons_succ, eraseIdx_cons_zero, eraseIdx_cons_succ, cons_append, nil_append, map_append, map_cons, map_nil, List.sum_append, List.sum_cons, List.sum_nil, map_flatMap, Nat.add_zero, Nat.zero_add]; ac_rfl)))
  obtain ⟨s1, back⟩ := s0.borrow; refine maxZ_ok M (List.mem_append.2 (.inl (List.mem_cons_self ..))) (fun r hr => List.mem_append.2 (.inl (List.mem_cons_of_mem _ hr))) s1 fun E' h' s => ?_
  have s := (back _ h' s).perm (E' := (t2, 0, enc emp) :: (E' ++ ((tb, 0, hdr iso ctr (rA g) cnt lf mn mx) :: (rAll g ++ E)))) (by ((apply perm_rg; intro f; simp only [set_cons_zero, set_cons_succ, eraseIdx_cons_zero, eraseIdx_cons_succ, cons_append, nil_append, map_append, map_cons, map_nil, List.sum_append, List.sum_cons, List.sum_nil, map_flatMap, Nat.add_zero, Nat.zero_add]; ac_rfl)))
  refine r_ext rfl ?_; refine r_ext rfl ?_; refine St.r_storeN0 s 0 rfl rfl (by simp) (enc1 ((rPt g).items.getLast?.getD emp)) ?_; intro h s
  refine St.r_loadN0 s 0 rfl (by simp) ?_; exact H (_ :: E') h s
theorem GMax_ok {l : List It} {v : Value} {d : Nat} {nl : Bool} (hd : d = 0 ∨ 2 ≤ d) (hd2 : d ≤ 512) (hr : Rdl 2 h v l.length (l.flatMap enc)) (hl : l.length ≤ 1073741824)
    (H : ∀ E' h', St h [] E' h' → Q (.agg (foundC (setK l).getLast?).toArray) h') : i_GMax.call #[.agg #[.slice none 0 0, .int .i64 d, .bool nl], v] h Q := by
  obtain ⟨m3, m1, mo, me, mn0⟩ := dmax_ok hd hd2; refine i_GMax.body _ _ _ _ ?_; unfold i_GMax.sh
  have s := St.start h
  refine St.r_box (cs := [.slice none 0 0, .int .i64 d, .bool nl]) s fun t2 h1 s => ?_; refine s.r_alloc fun t4 h1 s => ?_; refine St.r_loadN0 s 1 rfl (by simp) ?_; refine grow_ok (OwAt.nil _) hd hd2 (hr.st s) hl fun tb g lf cb A E1 h1 hg T => ?_
  have s := s.join T.st
  have e1 := (items_setK mo m3 l).1
  rw [← hg] at e1; refine Max_ok T.ok (E := A ++ E1 ++ ((t4, 0, [.int .i64 0, .int .i64 0, .bool false]) :: (t2, 0, [.slice none 0 0, .int .i64 d, .bool nl]) :: [])) (s.perm (by ((apply perm_rg; intro f; simp only [set_cons_zero, set_cons_succ, eraseIdx_cons_zero, eraseIdx_cons_succ, cons_append, nil_append, map_append, map_cons, map_nil, List.sum_append, List.sum_cons, List.sum_nil, map_flatMap, Nat.add_zero, Nat.zero_add]; ac_rfl)))) fun E2 h2 s => ?_; rw [e1]; refine r_ext rfl ?_; refine r_ext rfl ?_; refine found_ok fun E3 h3 s3 => ?_
  have s := s.join s3
  have s : St h [] ((t4, 0, [.int .i64 0, .int .i64 0, .bool false]) :: (E3 ++ (E2 ++ ((tb, 0, hdr 1 (some ⟨cb, 0, none⟩) (rA g) (rPt g).items.length lf (dmin d : Nat) (dmax d : Nat)) :: (rAll g ++ (A ++ E1 ++ ((t2, 0, [.slice none 0 0, .int .i64 d, .bool nl]) :: []))))))) h3 := s.perm (by ((apply perm_rg; intro f; simp only [set_cons_zero, set_cons_succ, eraseIdx_cons_zero, eraseIdx_cons_succ, cons_append, nil_append, map_append, map_cons, map_nil, List.sum_append, List.sum_cons, List.sum_nil, map_flatMap, Nat.add_zero, Nat.zero_add]; ac_rfl)))
  refine St.r_storeN0 s 0 rfl (foundC_len _) (by simp) (foundC_one _) ?_; intro h3 s
  refine St.r_loadN0 s 0 rfl (by simp [foundC_len]) ?_
  have e3 : ((List.take 0 zF ++ foundC (setK l).getLast? ++ List.drop (0 + 3) zF).drop 0).take 3 = foundC (setK l).getLast? := by cases (setK l).getLast? <;> rfl
  have H := H _ _ s
  rw [← e3] at H; exact H
end Go.Proofs.Ythpmeccnddchpaa.Gi
end
section
namespace Go.Hp
section
variable {n : Nat} {F En H : Nat → Int}
def skyAt (F En H : Nat → Int) (n : Nat) (a : Int) : Int := (List.range n).foldl (fun m i => if F i ≤ a ∧ a < En i then max m (H i) else m) 0
theorem skyAt_succ (n : Nat) (a : Int) : skyAt F En H (n + 1) a = if F n ≤ a ∧ a < En n then max (skyAt F En H n a) (H n) else skyAt F En H n a := by
  unfold skyAt; rw [List.range_succ, List.foldl_append]; rfl
theorem skyAt_ge (a : Int) : ∀ n, 0 ≤ skyAt F En H n a ∧ ∀ i, i < n → F i ≤ a → a < En i → H i ≤ skyAt F En H n a
  | 0 => ⟨Int.le_refl _, fun i hi => absurd hi (Nat.not_lt_zero _)⟩
  | n + 1 => by
    obtain ⟨h1, h2⟩ := skyAt_ge a n; rw [skyAt_succ]
    by_cases e : F n ≤ a ∧ a < En n
    · rw [if_pos e]
      refine ⟨by omega, fun i hi a1 a2 => ?_⟩
      by_cases hin : i = n
      · subst hin; omega
      · have := h2 i (by omega) a1 a2; omega
    · rw [if_neg e]
      refine ⟨h1, fun i hi a1 a2 => ?_⟩
      by_cases hin : i = n
      · subst hin; exact absurd ⟨a1, a2⟩ e
      · exact h2 i (by omega) a1 a2
theorem skyAt_at (a : Int) : ∀ n, skyAt F En H n a = 0 ∨ ∃ i, i < n ∧ F i ≤ a ∧ a < En i ∧ H i = skyAt F En H n a
  | 0 => .inl rfl
  | n + 1 => by
    have ih := skyAt_at a n
    rw [skyAt_succ]
    by_cases e : F n ≤ a ∧ a < En n
    · rw [if_pos e]
      by_cases h : skyAt F En H n a ≤ H n
      · exact .inr ⟨n, Nat.lt_succ_self _, e.1, e.2, by omega⟩
      · rcases ih with h0 | ⟨i, hi, a1, a2, a3⟩
        · left; omega
        · exact .inr ⟨i, by omega, a1, a2, by omega⟩
    · rw [if_neg e]
      exact ih.imp id fun ⟨i, hi, h⟩ => ⟨i, by omega, h⟩
def hK (H : Nat → Int) (i : Nat) : KI := (H i * 64 + i, 0)
def topH (O : List KI) : Int := match O.getLast? with
  | none => 0
  | some p => p.1 / 64
structure SI (n : Nat) (F En H : Nat → Int) (P R O : List KI) (out : Nat → Int) (frm high : Int) : Prop where
  asc : Asc ltK O
  o : ∀ p, p ∈ O ↔ ∃ i, i < n ∧ p = hK H i ∧ bK F i ∈ P ∧ eK En i ∉ P
  f0 : 0 ≤ frm
  fP : ∀ p ∈ P, p.1 / 128 ≤ frm
  fR : ∀ p ∈ R, frm ≤ p.1 / 128
  hi : high = topH O
  out : ∀ a : Nat, a < 512 → out a = if (a : Int) < frm then skyAt F En H n a else 0
variable {evs : List KI} (hn : n ≤ 40) (hF : ∀ i, i < n → 0 ≤ F i ∧ F i < 512 ∧ F i < En i) (hH : ∀ i, i < n → 0 ≤ H i) (ha : Asc ltK evs) (he : ∀ p, p ∈ evs ↔ ∃ i, i < n ∧ (p = bK F i ∨ p = eK En i))
include hn hF hH ha he
omit hF ha in
theorem SI.top {P R O : List KI} {out : Nat → Int} {frm high : Int} (hP : P ++ R = evs) (I : SI n F En H P R O out frm high) {p a : Int} (hp : ∀ q ∈ R, p ≤ q.1 / 128) (h1 : frm ≤ a) (h2 : a < p) : high = skyAt F En H n a := by
  have plB : ∀ i, i < n → (bK F i).1 / 128 = F i := fun i hi => by show (F i * 128 + 64 + (i : Int)) / 128 = F i; omega
  have plE : ∀ i, i < n → (eK En i).1 / 128 = En i := fun i hi => by show (En i * 128 + (i : Int)) / 128 = En i; omega
  have op : ∀ i, i < n → (F i ≤ a ∧ a < En i ↔ bK F i ∈ P ∧ eK En i ∉ P) := fun i hi => by
    have mb : bK F i ∈ P ∨ bK F i ∈ R := List.mem_append.1 (by rw [hP]; exact (he _).2 ⟨i, hi, .inl rfl⟩)
    have me : eK En i ∈ P ∨ eK En i ∈ R := List.mem_append.1 (by rw [hP]; exact (he _).2 ⟨i, hi, .inr rfl⟩)
    constructor
    · rintro ⟨a1, a2⟩
      refine ⟨?_, fun h => ?_⟩
      · rcases mb with h | h
        · exact h
        · have := hp _ h; rw [plB i hi] at this; omega
      · have := I.fP _ h; rw [plE i hi] at this; omega
    · rintro ⟨a1, a2⟩
      have b1 := I.fP _ a1
      rw [plB i hi] at b1
      rcases me with h | h
      · exact absurd h a2
      · have := hp _ h; rw [plE i hi] at this; omega
  rw [I.hi]; obtain ⟨g0, g1⟩ := skyAt_ge (F := F) (En := En) (H := H) a n
  have g2 := skyAt_at (F := F) (En := En) (H := H) a n
  unfold topH
  cases hl : O.getLast? with
  | none =>
    have hO : O = [] := List.getLast?_eq_none_iff.1 hl
    dsimp only
    rcases g2 with h | ⟨i, hi, a1, a2, a3⟩
    · exact h.symm
    · have h1 := (op i hi).1 ⟨a1, a2⟩
      have := (I.o (hK H i)).2 ⟨i, hi, rfl, h1⟩
      rw [hO] at this; cases this
  | some q =>
    dsimp only
    have hq : q ∈ O := List.mem_of_getLast? hl
    obtain ⟨i, hi, rfl, o1⟩ := (I.o q).1 hq
    have c1 := (op i hi).2 o1
    have e1 : (hK H i).1 / 64 = H i := by show (H i * 64 + (i : Int)) / 64 = H i; omega
    rw [e1]; refine Int.le_antisymm (g1 i hi c1.1 c1.2) ?_
    rcases g2 with h | ⟨k, hk, a1, a2, a3⟩
    · rw [h]; exact hH i hi
    · have hk2 := (I.o (hK H k)).2 ⟨k, hk, rfl, (op k hk).1 ⟨a1, a2⟩⟩
      -- the last one is the greatest
      have hge : (hK H k).1 ≤ (hK H i).1 := by
        obtain ⟨ys, rfl⟩ := List.getLast?_eq_some_iff.1 hl
        rcases List.mem_append.1 hk2 with e | e
        · have := ltK_t.1 ((asc_app I.asc).2.2 _ e _ (List.mem_singleton.2 rfl)); omega
        · rw [List.mem_singleton.1 e]; exact Int.le_refl _
      have hge : H k * 64 + (k : Int) ≤ H i * 64 + (i : Int) := hge
      omega
theorem SI.step {P R O : List KI} {out : Nat → Int} {frm high : Int} {x : KI} (hP : P ++ x :: R = evs) (I : SI n F En H P (x :: R) O out frm high) : frm ≤ x.1 / 128 ∧
    SI n F En H (P ++ [x]) R (if x.2 < 64 then ldel ltK O (hK H x.2.toNat) else lput ltK O (hK H (x.2 - 64).toNat)) (fun a => if frm ≤ (a : Int) ∧ (a : Int) < x.1 / 128 then high else out a) (x.1 / 128) (topH (if x.2 < 64 then ldel ltK O (hK H x.2.toNat) else lput ltK O (hK H (x.2 - 64).toNat))) := by
  have ha' := ha
  rw [← hP] at ha'; obtain ⟨_, a2, a3⟩ := asc_app ha'
  have hxP : ∀ p ∈ P, p.1 < x.1 := fun p hp => ltK_t.1 (a3 p hp x (List.mem_cons_self ..))
  have hxR : ∀ p ∈ R, x.1 < p.1 := fun p hp => ltK_t.1 ((List.pairwise_cons.1 a2).1 p hp)
  have hxe : x ∈ evs := by rw [← hP]; exact List.mem_append_right _ (List.mem_cons_self ..)
  have mP : ∀ p, p ∈ P ++ [x] ↔ p ∈ P ∨ p = x := fun p => by simp
  have hfx := I.fR x (List.mem_cons_self ..)
  have hf0 := I.f0
  have hinj : ∀ i, i < n → ∀ k, k < n → (hK H i).1 = (hK H k).1 → i = k := fun i hi k hk e => by
    have e : H i * 64 + (i : Int) = H k * 64 + (k : Int) := e
    omega
  refine ⟨hfx, ⟨?_, fun p => ?_, by omega, fun p hp => ?_, fun p hp => by have := hxR p hp; omega, rfl, fun a h5 => ?_⟩⟩
  · split; exact ldelK_asc I.asc; exact lputK_asc I.asc
  · obtain ⟨i, hi, rfl | rfl⟩ := (he x).1 hxe
    · have e64 : ¬ (bK F i).2 < 64 := by show ¬ (64 + (i : Int) < 64); omega
      have ei : ((bK F i).2 - 64).toNat = i := by show (64 + (i : Int) - 64).toNat = i; omega
      rw [if_neg e64, ei, mem_lputK I.asc, I.o]
      have hbe : (bK F i).1 < (eK En i).1 := by
        have := hF i hi
        show F i * 128 + 64 + (i : Int) < En i * 128 + (i : Int)
        omega
      constructor
      · rintro (rfl | ⟨⟨k, hk, rfl, k1, k2⟩, hne⟩)
        · exact ⟨i, hi, rfl, (mP _).2 (.inr rfl), fun h => ((mP _).1 h).elim (fun h => by have := hxP _ h; omega) fun e => absurd e.symm (bK_ne_eK (by omega))⟩
        · exact ⟨k, hk, rfl, (mP _).2 (.inl k1), fun h => ((mP _).1 h).elim k2 fun e => absurd e.symm (bK_ne_eK (by omega))⟩
      · rintro ⟨k, hk, rfl, k1, k2⟩
        by_cases hki : k = i
        · exact .inl (by rw [hki])
        · refine .inr ⟨⟨k, hk, rfl, ((mP _).1 k1).elim id fun e => absurd (bK_inj e) hki, fun h => k2 ((mP _).2 (.inl h))⟩, fun e => hki (hinj k hk i hi e)⟩
    · have e64 : (eK En i).2 < 64 := by show (i : Int) < 64; omega
      have ei : (eK En i).2.toNat = i := by show ((i : Int)).toNat = i; omega
      rw [if_pos e64, ei, mem_ldelK I.asc, I.o]
      constructor
      · rintro ⟨⟨k, hk, rfl, k1, k2⟩, hne⟩
        exact ⟨k, hk, rfl, (mP _).2 (.inl k1), fun h => ((mP _).1 h).elim k2 fun e => hne (by rw [eK_inj e])⟩
      · rintro ⟨k, hk, rfl, k1, k2⟩
        refine ⟨⟨k, hk, rfl, ((mP _).1 k1).elim id fun e => absurd e (bK_ne_eK (by omega)), fun h => k2 ((mP _).2 (.inl h))⟩, fun e => ?_⟩
        have := hinj k hk i hi e
        subst this; exact k2 ((mP _).2 (.inr rfl))
  · rcases (mP p).1 hp with h | h
    · have := hxP p h; omega
    · rw [h]; exact Int.le_refl _
  · by_cases h : frm ≤ (a : Int) ∧ (a : Int) < x.1 / 128
    · rw [if_pos h, if_pos h.2]
      refine SI.top hn hH he hP I (p := x.1 / 128) (fun q hq => ?_) h.1 h.2
      rcases List.mem_cons.1 hq with e | e
      · rw [e]; exact Int.le_refl _
      · have := hxR q e; omega
    · rw [if_neg h, I.out a h5]
      by_cases h2 : (a : Int) < frm
      · rw [if_pos h2, if_pos (by omega)]
      · rw [if_neg h2, if_neg (by omega)]
omit hn hF hH ha he in
theorem SI.start {evs : List KI} (hF : ∀ p ∈ evs, 0 ≤ p.1) : SI n F En H [] evs [] (fun _ => 0) 0 0 := ⟨List.Pairwise.nil, fun p => ⟨fun h => absurd h List.not_mem_nil, fun ⟨_, _, _, h, _⟩ => absurd h List.not_mem_nil⟩, Int.le_refl _, fun p h => absurd h List.not_mem_nil, fun p hp => by have := hF p hp; omega, rfl, fun a _ => by rw [if_neg (by omega)]⟩
omit hF ha in
theorem SI.fin {O : List KI} {out : Nat → Int} {frm high : Int} (I : SI n F En H evs [] O out frm high) : O = [] ∧ high = 0 ∧ ∀ a : Nat, a < 512 → out a = skyAt F En H n a := by
  have hO : O = [] := List.eq_nil_iff_forall_not_mem.2 fun p hp => by
    obtain ⟨i, hi, _, _, h⟩ := (I.o p).1 hp; exact h ((he _).2 ⟨i, hi, .inr rfl⟩)
  have hh : high = 0 := by rw [I.hi, hO]; rfl
  refine ⟨hO, hh, fun a h5 => ?_⟩
  rw [I.out a h5]
  by_cases h : (a : Int) < frm
  · rw [if_pos h]
  · rw [if_neg h, ← hh]
    exact SI.top hn hH he (List.append_nil evs) I (p := (a : Int) + 1) (fun q hq => absurd hq List.not_mem_nil) (by omega) (by omega)
end
end Go.Hp
end
section
namespace Go.Proofs.Ythpmeccnddchpaa.Gi
open Go.Hp Go.Proofs.Ythpmeccnddchpaa
variable {h0 h : Heap} {Z E : List Rg} {Q : Value → Heap → Prop} {lt : It → It → Bool} {lf : Value}
abbrev nB (x : Int) : Value := .int .u8 x
def hOf (B : List Int) (i : Nat) : Int := B.getD i 0
theorem hOf_eq {B : List Int} {i : Nat} (h : i < B.length) : hOf B i = B[i] := by unfold hOf; rw [List.getD_eq_getElem?_getD, List.getElem?_eq_getElem h]; rfl
theorem hOf_ok {B : List Int} (hB : ∀ n ∈ B, 0 ≤ n ∧ n ≤ 255) (i : Nat) : 0 ≤ hOf B i ∧ hOf B i ≤ 255 := by
  rcases Nat.lt_or_ge i B.length with h | h
  · rw [hOf_eq h]; exact hB _ (List.getElem_mem h)
  · unfold hOf; rw [List.getD_eq_getElem?_getD, List.getElem?_eq_none h]; exact ⟨Int.le_refl _, by decide⟩
def Fun (A : List Int) (N : Nat) (f : Nat → Int) : Prop := A.length = N ∧ ∀ a, a < N → A[a]? = some (f a)
theorem Fun.eq {A : List Int} {N : Nat} {f : Nat → Int} (h : Fun A N f) : A = (List.range N).map f := by
  refine List.ext_getElem (by rw [List.length_map, List.length_range]; exact h.1) fun i h1 h2 => ?_
  have := h.2 i (by rw [← h.1]; exact h1)
  rw [List.getElem?_eq_getElem h1] at this; rw [List.getElem_map, List.getElem_range]; exact Option.some.inj this
theorem Fun.zero (N : Nat) : Fun (List.replicate N 0) N (fun _ => 0) := ⟨List.length_replicate .., fun a h => by rw [List.getElem?_replicate, if_pos h]⟩
theorem Fun.at {A : List Int} {N : Nat} {f : Nat → Int} (h : Fun A N f) {a : Nat} (ha : a < A.length) : A[a] = f a := by
  have := h.2 a (by rw [← h.1]; exact ha)
  rw [List.getElem?_eq_getElem ha] at this; exact Option.some.inj this
theorem Fun.set {A : List Int} {N : Nat} {f g : Nat → Int} (h : Fun A N f) {i : Nat} {x : Int} (hi : i < N) (hx : g i = x) (hg : ∀ a, a < N → a ≠ i → g a = f a) : Fun (A.set i x) N g := by
  refine ⟨by rw [List.length_set]; exact h.1, fun a ha => ?_⟩
  by_cases e : i = a
  · subst e
    rw [List.getElem?_set_self (by rw [h.1]; exact hi), hx]
  · rw [List.getElem?_set_ne e, hg a ha (fun h => e h.symm)]; exact h.2 a ha
theorem Fun.cong {A : List Int} {N : Nat} {f g : Nat → Int} (h : Fun A N f) (hg : ∀ a, a < N → g a = f a) : Fun A N g := ⟨h.1, fun a ha => by rw [hg a ha]; exact h.2 a ha⟩
theorem skyAt_b {F En H : Nat → Int} {M : Int} (hM : 0 ≤ M) (hH : ∀ i, H i ≤ M) (n : Nat) (a : Int) : skyAt F En H n a ≤ M := by
  rcases skyAt_at (F := F) (En := En) (H := H) a n with e | ⟨i, _, _, _, e⟩
  · rw [e]; exact hM
  · rw [← e]; exact hH i
theorem Outline_ok {l : List (Int × Int)} {B : List Int} {v : Value} (hb : ∀ p ∈ l, B8 p) (hB : ∀ n ∈ B, 0 ≤ n ∧ n ≤ 255) (hBl : B.length = 30) (hr : Rdl 2 h v l.length (l.flatMap g8)) (hl : l.length ≤ 30)
    (H : ∀ A E' h', Fun A 512 (fun a => skyAt (fOf l) (eOf l) (hOf B) l.length a) → St h [] E' h' → Q (.agg (A.map nI).toArray) h') : s_Outline.call #[v, .agg (B.map nB).toArray] h Q := by
  refine s_Outline.body _ _ _ _ ?_; unfold s_Outline.sh; refine St.r_box (cs := B.map nB) (St.start h) fun t3 g s => ?_; refine s.r_alloc fun t4 g s => ?_; refine s.r_alloc fun t5 g s => ?_; obtain ⟨N, hN⟩ : ∃ N : Nat, N = 512 := ⟨_, rfl⟩
  have hz := Fun.zero N
  obtain ⟨z, hzz⟩ : ∃ z : List Int, z = List.replicate N 0 := ⟨_, rfl⟩
  have s : St h [] ((t5, 0, z.map nI) :: (t4, 0, z.map nI) :: (t3, 0, B.map nB) :: []) g := by rw [hzz, List.map_replicate, hN]; exact s
  rw [← hzz] at hz
  have hzl := hz.1
  rw [← hN] at H; refine (hr.st s).lenV ?_
  refine loop_ghost (fun q st h' => ∃ (j : Nat) (A : List Int) (R : List Rg), q = l.length - j ∧ j ≤ l.length ∧ st = [.int .i64 (j : Nat)] ∧ Fun A N (fun a => skyAt (fOf l) (eOf l) (hOf B) j a) ∧ St h [] ((t5, 0, A.map nI) :: (t4, 0, z.map nI) :: (t3, 0, B.map nB) :: R) h') (n0 := l.length)
    ⟨0, z, [], rfl, Nat.zero_le _, rfl, hz.cong fun a _ => rfl, s⟩ ?_
  clear s hz
  rintro q st g ⟨j, A, R, rfl, hj, rfl, hA, s⟩ K HK
  unfold s_Outline.l2.b; refine r_cmpI ?_; refine r_if (fun hlt => ?_) (fun hge => ?_)
  · have hlt : j < l.length := by have := ltI hlt; omega
    have hbj := hb l[j] (List.getElem_mem hlt)
    have hf := fOf_eq hlt
    have he := eOf_eq hlt
    have hjB : j < B.length := by omega
    have hhB := hOf_eq hjB
    have hBj := hB _ (List.getElem_mem hjB)
    obtain ⟨x, y, hxy⟩ : ∃ x y, l[j] = (x, y) := ⟨_, _, rfl⟩; unfold s_Outline.j3; refine (hr.st s).at (n := j) rfl g8l rfl rfl hlt fun b o hrd => ?_; refine hrd.loadN rfl ?_; rw [hxy] at hbj hf he ⊢; obtain ⟨hx, hy⟩ := hbj
    have hx : 0 ≤ x ∧ x ≤ 255 := hx
    have hy : 0 ≤ y ∧ y ≤ 255 := hy
    have hf : fOf l j = x := hf
    have he : eOf l j = x + y + 1 := he
    refine cell_ok (ys := g8 (x, y)) rfl rfl (g81 _) fun t7 g u => ?_
    have s : St h [] ((t7, 0, g8 (x, y)) :: (t5, 0, A.map nI) :: (t4, 0, z.map nI) :: (t3, 0, B.map nB) :: R) g := s.join u
    clear u; refine r_fld (n := 0) ?_; refine St.r_load0 s 0 rfl rfl ?_; refine r_cv8 hx.1 hx.2 ?_
    refine loop_ghost (fun q st h' => ∃ (c : Nat) (A : List Int) (R : List Rg), q = (x + y + 1).toNat - c ∧ x ≤ c ∧ (c : Int) ≤ x + y + 1 ∧ st = [.int .i64 (c : Nat)] ∧ Fun A N (fun a => if x ≤ (a : Int) ∧ a < c then max (skyAt (fOf l) (eOf l) (hOf B) j a) B[j] else skyAt (fOf l) (eOf l) (hOf B) j a) ∧ St h [] ((t7, 0, g8 (x, y)) :: (t5, 0, A.map nI) :: (t4, 0, z.map nI) :: (t3, 0, B.map nB) :: R) h') (n0 := (x + y + 1).toNat - x.toNat)
      ⟨x.toNat, A, R, rfl, by omega, by omega, by rw [Int.toNat_of_nonneg hx.1], hA.cong fun a _ => by rw [if_neg (by omega)], s⟩ ?_
    clear s hA
    rintro q st g ⟨c, A, R, rfl, hc1, hc2, rfl, hA, s⟩ K2 HK2
    unfold s_Outline.l5.b; refine St.r_loadN0 s 0 rfl (by simp) ?_; refine End_ok hx hy fun E2 g2 s2 => ?_
    have s : St h [] ((t7, 0, g8 (x, y)) :: (t5, 0, A.map nI) :: (t4, 0, z.map nI) :: (t3, 0, B.map nB) :: (R ++ E2)) g2 := (s.join s2).perm (by ((apply perm_rg; intro f; simp only [set_cons_zero, set_cons_succ, eraseIdx_cons_zero, eraseIdx_cons_succ, cons_append, nil_append, map_append, map_cons, map_nil, List.sum_append, List.sum_cons, List.sum_nil, map_flatMap, Nat.add_zero, Nat.zero_add]; ac_rfl)))
    refine r_cmpI ?_; refine r_if (fun hlt2 => ?_) (fun hge2 => ?_)
    · have hlt2 := ltI hlt2
      have hcN : c < N := by omega
      have hcA : c < A.length := by rw [hA.1]; exact hcN
      have hAc := hA.at hcA
      rw [if_neg (by omega)] at hAc
      have hsb := skyAt_b (F := fOf l) (En := eOf l) (H := hOf B) (M := 255) (by decide) (fun i => (hOf_ok hB i).2) j c
      unfold s_Outline.j6; refine r_idxA1 (i := c) rfl (by omega) ?_; refine s.r_getA 1 rfl hcA ?_; refine r_idxA1 (i := j) rfl (by omega) ?_; refine St.r_load0 s 3 (v := nB B[j]) rfl (by rw [List.getElem?_map, List.getElem?_eq_getElem hjB]; rfl) ?_; refine r_cv8 hBj.1 hBj.2 ?_; refine r_maxI ?_; refine r_idxA1 (i := c) rfl (by omega) ?_; refine s.r_setA 1 rfl hcA ?_; intro g2 s
      unfold s_Outline.j7; refine r_add1 (by omega) ?_; refine HK2 ((x + y + 1).toNat - (c + 1)) _ _ (by omega) ⟨c + 1, _, _, rfl, by omega, by omega, rfl, hA.set hcN ?_ fun a ha hne => ?_, s⟩
      · show (if x ≤ (c : Int) ∧ c < c + 1 then max (skyAt (fOf l) (eOf l) (hOf B) j c) B[j] else _) = _
        rw [if_pos ⟨hc1, Nat.lt_succ_self c⟩, hAc]
      · show (if x ≤ (a : Int) ∧ a < c + 1 then _ else _) = if x ≤ (a : Int) ∧ a < c then _ else _
        by_cases e : x ≤ (a : Int) ∧ a < c
        · rw [if_pos e, if_pos ⟨e.1, by omega⟩]
        · rw [if_neg e, if_neg (by omega)]
    · have hge2 := geI hge2
      have hce : (c : Int) = x + y + 1 := by omega
      unfold s_Outline.j4; refine r_add1 (by omega) ?_; refine HK (l.length - (j + 1)) _ _ (by omega) ⟨j + 1, A, _, rfl, hlt, rfl, hA.cong fun a ha => ?_, s.perm (E' := (t5, 0, A.map nI) :: (t4, 0, z.map nI) :: (t3, 0, B.map nB) :: ((t7, 0, g8 (x, y)) :: (R ++ E2))) (by ((apply perm_rg; intro f; simp only [set_cons_zero, set_cons_succ, eraseIdx_cons_zero, eraseIdx_cons_succ, cons_append, nil_append, map_append, map_cons, map_nil, List.sum_append, List.sum_cons, List.sum_nil, map_flatMap, Nat.add_zero, Nat.zero_add]; ac_rfl)))⟩
      rw [skyAt_succ, hf, he, hhB]
      by_cases e : x ≤ (a : Int) ∧ a < c
      · rw [if_pos e, if_pos ⟨e.1, by omega⟩]
      · rw [if_neg e, if_neg (by omega)]
  · have hge : j = l.length := by have := geI hge; omega
    subst hge; unfold s_Outline.j1; refine s.r_loadA 0 rfl (by rw [List.length_map, hA.1, hN]) ?_; refine s.r_storeA 1 rfl (by rw [List.length_map, hA.1, hN]) (by rw [List.length_map, hzl, hN]) (nI1 _) ?_; intro g s
    refine s.r_loadA 1 rfl (by rw [List.length_map, hA.1, hN]) ?_; exact H A _ g hA s
theorem l_FnSkyline_ok {l : List (Int × Int)} {B : List Int} {d : Int} {v : Value} (hb : ∀ p ∈ l, B8 p) (hB : ∀ n ∈ B, 0 ≤ n ∧ n ≤ 255) (hBl : B.length = 30) (hr : Rdl 2 h v l.length (l.flatMap g8)) (H : ∀ E' h', St h [] E' h' → Q (.bool true) h') : l_FnSkyline.call #[.int .i64 d, v, .agg (B.map nB).toArray] h Q := by
  refine l_FnSkyline.body _ _ _ _ _ ?_; unfold l_FnSkyline.sh; refine St.r_box (cs := B.map nB) (St.start h) fun tB g s => ?_
  have live : ∀ E g, St h [] E g → l_alive.call #[] g Q := fun E g s => alive_ok fun E3 h3 s3 => H _ _ (s.join s3)
  refine hr.lenV ?_; refine r_cmpI ?_; refine r_if (fun _ => H _ _ s) (fun _ => ?_)
  unfold l_FnSkyline.j1; refine Fits_ok ?_; refine r_not ?_; refine r_br (fun hd => ?_) (fun _ => live _ _ s)
  have hd : d = 0 ∨ (2 ≤ d ∧ d ≤ 128) := by have h := hd; simp at h; omega
  obtain ⟨d, rfl⟩ : ∃ k : Nat, d = k := ⟨d.toNat, by omega⟩
  have d1 : d = 0 ∨ 2 ≤ d := by omega
  have d2 : d ≤ 512 := by omega
  refine hr.lenV ?_; refine r_cmpI ?_; refine r_if (fun _ => live _ _ s) (fun hl => ?_)
  have hl : l.length ≤ 30 := by have := of_decide_eq_false hl; omega
  have hl40 : l.length ≤ 40 := by omega
  clear live; obtain ⟨hX, hXm⟩ := evs_ok hl40
  have hfe := fe_ok hb
  have hXl : (setK (evs l l.length)).length ≤ 80 := by
    have h1 := setK_len (evs l l.length)
    rw [evs_len] at h1
    omega
  have hH0 : ∀ i, i < l.length → 0 ≤ hOf B i := fun i _ => (hOf_ok hB i).1
  unfold l_FnSkyline.j2; refine byKeys_ok fun E1 g s2 => ?_
  have s := s.join s2
  refine opts_ok s fun t5 g s => ?_; refine s.r_alloc fun t9 g s => ?_; obtain ⟨N, hN⟩ : ∃ N : Nat, N = 512 := ⟨_, rfl⟩
  have hz := Fun.zero N
  obtain ⟨z, hzz⟩ : ∃ z : List Int, z = List.replicate N 0 := ⟨_, rfl⟩
  have s : St h [] ((t9, 0, z.map nI) :: (t5, 0, [.slice none 0 0, .int .i64 d, .bool true]) :: (tB, 0, B.map nB) :: E1) g := by
    have e : z.map nI = List.replicate 512 (.int .i64 0) := by rw [hzz, List.map_replicate, hN]
    rw [e]; exact s.perm (by ((apply perm_rg; intro f; simp only [set_cons_zero, set_cons_succ, eraseIdx_cons_zero, eraseIdx_cons_succ, cons_append, nil_append, map_append, map_cons, map_nil, List.sum_append, List.sum_cons, List.sum_nil, map_flatMap, Nat.add_zero, Nat.zero_add]; ac_rfl)))
  rw [← hzz] at hz; refine St.r_loadN0 s 1 rfl (by simp) ?_; refine borders_ok d1 d2 hb (hr.st s) hl40 fun w bX oX pX E2 g2 wX s2 => ?_
  have s : St h [] ((t9, 0, z.map nI) :: (t5, 0, [.slice none 0 0, .int .i64 d, .bool true]) :: (tB, 0, B.map nB) :: (bX, oX, (setK (evs l l.length)).flatMap enc ++ pX) :: (E2 ++ E1)) g2 := (join2 s s2).perm (by ((apply perm_rg; intro f; simp only [set_cons_zero, set_cons_succ, eraseIdx_cons_zero, eraseIdx_cons_succ, cons_append, nil_append, map_append, map_cons, map_nil, List.sum_append, List.sum_cons, List.sum_nil, map_flatMap, Nat.add_zero, Nat.zero_add]; ac_rfl)))
  have hX0 : ∀ p ∈ setK (evs l l.length), 0 ≤ p.1 := fun p hp => by
    obtain ⟨i, hi, hp⟩ := (hXm p).1 hp
    have := hfe i hi
    rcases hp with rfl | rfl
    · show 0 ≤ fOf l i * 128 + 64 + (i : Int); omega
    · show 0 ≤ eOf l i * 128 + (i : Int); omega
  have I0 := SI.start (n := l.length) (F := fOf l) (En := eOf l) (H := hOf B) hX0
  generalize setK (evs l l.length) = X at *
  refine wX.lenV ?_
  refine loop_ghost (fun q st h' => ∃ (j : Nat) (v1 : Value) (b1 o1 : Nat) (p1 : List Value) (O : List It) (A : List Int) (out : Nat → Int) (frm high : Int) (R : List Rg), q = X.length - j ∧ j ≤ X.length ∧ st = [v1, .int .i64 frm, .int .i64 high, .int .i64 (j : Nat)] ∧ SI l.length (fOf l) (eOf l) (hOf B) (X.take j) (X.drop j) O out frm high ∧ Fun A N out ∧ O.length ≤ j ∧ Own 2 v1 O.length b1 o1 (O.flatMap enc) p1 ∧ St h [] ((t9, 0, A.map nI) :: (t5, 0, [.slice none 0 0, .int .i64 d, .bool true]) :: (tB, 0, B.map nB) :: (bX, oX, X.flatMap enc ++ pX) :: (b1, o1, O.flatMap enc ++ p1) :: R) h') (n0 := X.length)
    ⟨0, .slice none 0 0, 0, 0, [], [], z, _, 0, 0, _, rfl, Nat.zero_le _, rfl, I0, hz, Nat.zero_le _, Own.nil 2 0 0, (s.empty 0 0).perm (E' := (t9, 0, z.map nI) :: (t5, 0, [.slice none 0 0, .int .i64 d, .bool true]) :: (tB, 0, B.map nB) :: (bX, oX, X.flatMap enc ++ pX) :: (0, 0, ([] : List It).flatMap enc ++ []) :: (E2 ++ E1)) (by ((apply perm_rg; intro f; simp only [set_cons_zero, set_cons_succ, eraseIdx_cons_zero, eraseIdx_cons_succ, cons_append, nil_append, map_append, map_cons, map_nil, List.sum_append, List.sum_cons, List.sum_nil, map_flatMap, Nat.add_zero, Nat.zero_add]; ac_rfl)))⟩ ?_
  clear s I0 hz hzz
  rintro q st g ⟨j, v1, b1, o1, p1, O, A, out, frm, high, R, rfl, hj, rfl, I, hA, hOl, w1, s⟩ K HK
  have hf0 := I.f0
  unfold l_FnSkyline.l4.b; refine r_cmpI ?_; refine r_if (fun hlt => ?_) (fun hge => ?_)
  · have hlt : j < X.length := by have := ltI hlt; omega
    rw [List.drop_eq_getElem_cons hlt] at I; obtain ⟨hfp, I'⟩ := SI.step hl40 hfe hH0 hX hXm (R := X.drop (j + 1)) (x := X[j]) (by rw [← List.drop_eq_getElem_cons hlt, List.take_append_drop]) I; rw [← List.take_succ_eq_append_getElem hlt] at I'; obtain ⟨i, hi, hxi⟩ := (hXm _).1 (List.getElem_mem hlt)
    have hxr : 0 ≤ X[j].1 ∧ X[j].1 < 128 * 600 := by
      have := hfe i hi
      have hb1 := hb _ (List.getElem_mem hi)
      have e1 := fOf_eq hi
      have e2 := eOf_eq hi
      unfold B8 at hb1
      rcases hxi with e | e <;> rw [e]
      · show 0 ≤ fOf l i * 128 + 64 + (i : Int) ∧ fOf l i * 128 + 64 + (i : Int) < _; omega
      · show 0 ≤ eOf l i * 128 + (i : Int) ∧ eOf l i * 128 + (i : Int) < _; omega
    unfold l_FnSkyline.j5; refine (wX.rdl s 3 rfl).at (n := j) rfl encl rfl rfl hlt fun b o hrd => ?_; refine hrd.loadN rfl ?_
    generalize X[j] = x at *
    refine cell_ok (ys := enc x) rfl rfl (enc1 _) fun t13 g u => ?_
    have s : St h [] ((t13, 0, enc x) :: (t9, 0, A.map nI) :: (t5, 0, [.slice none 0 0, .int .i64 d, .bool true]) :: (tB, 0, B.map nB) :: (bX, oX, X.flatMap enc ++ pX) :: (b1, o1, O.flatMap enc ++ p1) :: R) g := s.join u
    clear u
    have hx2 : x.2 = i ∨ x.2 = 64 + (i : Int) := by
      rcases hxi with rfl | rfl
      · exact .inr rfl
      · exact .inl rfl
    refine r_fld (n := 0) ?_; refine St.r_load0 s 0 rfl rfl ?_; refine r_shrN 7 (by decide) (p := 128) rfl ?_; refine r_maxI ?_; rw [show max 0 frm = frm by omega]
    have hp0 : 0 ≤ x.1 / 128 ∧ x.1 / 128 < 600 := by omega
    generalize hpx : x.1 / 128 = p at *
    refine loop_ghost (fun q st h' => ∃ (c : Nat) (A : List Int), q = p.toNat - c ∧ frm ≤ c ∧ (c : Int) ≤ p ∧ st = [.int .i64 (c : Nat)] ∧ Fun A N (fun a => if frm ≤ (a : Int) ∧ a < c then high else out a) ∧ St h [] ((t13, 0, enc x) :: (t9, 0, A.map nI) :: (t5, 0, [.slice none 0 0, .int .i64 d, .bool true]) :: (tB, 0, B.map nB) :: (bX, oX, X.flatMap enc ++ pX) :: (b1, o1, O.flatMap enc ++ p1) :: R) h') (n0 := p.toNat - frm.toNat)
      ⟨frm.toNat, A, rfl, by omega, by omega, by rw [Int.toNat_of_nonneg hf0], hA.cong fun a _ => by rw [if_neg (by omega)], s⟩ ?_
    clear s hA
    rintro q st g ⟨c, A, rfl, hc1, hc2, rfl, hA, s⟩ K2 HK2
    unfold l_FnSkyline.l9.b; refine r_minI ?_; refine r_cmpI ?_; refine r_if (fun hlt2 => ?_) (fun hge2 => ?_)
    · have hlt2 := ltI hlt2
      have hcN : c < N := by omega
      have hcA : c < A.length := by rw [hA.1]; exact hcN
      unfold l_FnSkyline.j10; refine r_idxA1 (i := c) rfl (by omega) ?_; refine s.r_setA 1 rfl hcA ?_; intro g2 s
      unfold l_FnSkyline.j11; refine r_add1 (by omega) ?_; refine HK2 (p.toNat - (c + 1)) _ _ (by omega) ⟨c + 1, _, rfl, by omega, by omega, rfl, hA.set hcN ?_ fun a ha hne => ?_, s⟩
      · show (if frm ≤ (c : Int) ∧ c < c + 1 then high else _) = _
        rw [if_pos ⟨hc1, Nat.lt_succ_self c⟩]
      · show (if frm ≤ (a : Int) ∧ a < c + 1 then _ else _) = if frm ≤ (a : Int) ∧ a < c then _ else _
        by_cases e : frm ≤ (a : Int) ∧ a < c
        · rw [if_pos e, if_pos ⟨e.1, by omega⟩]
        · rw [if_neg e, if_neg (by omega)]
    · have hge2 := geI hge2
      have hA2 : Fun A N (fun a => if frm ≤ (a : Int) ∧ (a : Int) < p then high else out a) := hA.cong fun a ha => by
        by_cases e : frm ≤ (a : Int) ∧ a < c
        · rw [if_pos e, if_pos ⟨e.1, by omega⟩]
        · rw [if_neg e, if_neg (by omega)]
      clear hA HK2
      have hiB : i < B.length := by omega
      have hBi := hB _ (List.getElem_mem hiB)
      have hhB := hOf_eq hiB
      have hkey : hK (hOf B) i = (B[i] * 64 + (i : Int), 0) := by unfold hK; rw [hhB]
      -- behind the change
      have fin : ∀ (O' : List It) (v2 : Value) (b2 o2 : Nat) (p2 : List Value) (R : List Rg) (g : Heap), (if x.2 < 64 then ldel ltK O (hK (hOf B) x.2.toNat) else lput ltK O (hK (hOf B) (x.2 - 64).toNat)) = O' → O'.length ≤ j + 1 → Own 2 v2 O'.length b2 o2 (O'.flatMap enc) p2 →
          St h [] ((t9, 0, A.map nI) :: (t5, 0, [.slice none 0 0, .int .i64 d, .bool true]) :: (tB, 0, B.map nB) :: (bX, oX, X.flatMap enc ++ pX) :: (b2, o2, O'.flatMap enc ++ p2) :: R) g → l_FnSkyline.j8 v (ptr tB 0) (ptr t5 0) v2 (ptr t9 0) (.int .i64 p) w (.int .i64 (X.length : Nat)) (.int .i64 (j : Nat)) g K Q := by
        intro O' v2 b2 o2 p2 R g hO' hl' w2 s; rw [hO'] at I'; unfold l_FnSkyline.j8; refine St.r_loadN0 s 1 rfl (by simp) ?_; refine GMax_ok d1 d2 (w2.rdl s 4 rfl) (by omega) fun E3 g3 s3 => ?_; rw [setK_self O' I'.asc]
        have s : St h [] ((t9, 0, A.map nI) :: (t5, 0, [.slice none 0 0, .int .i64 d, .bool true]) :: (tB, 0, B.map nB) :: (bX, oX, X.flatMap enc ++ pX) :: (b2, o2, O'.flatMap enc ++ p2) :: (R ++ E3)) g3 := (s.join s3).perm (by ((apply perm_rg; intro f; simp only [set_cons_zero, set_cons_succ, eraseIdx_cons_zero, eraseIdx_cons_succ, cons_append, nil_append, map_append, map_cons, map_nil, List.sum_append, List.sum_cons, List.sum_nil, map_flatMap, Nat.add_zero, Nat.zero_add]; ac_rfl)))
        refine cell_ok (ys := foundC O'.getLast?) (foundC_len _) rfl (foundC_one _) fun t18 g4 u => ?_
        have s := s.join u
        refine r_fld (n := 0) ?_; refine r_fld (n := 0) ?_
        have hk : (foundC O'.getLast?)[0]? = some (.int .i64 (match O'.getLast? with | none => 0 | some p => p.1)) := by cases O'.getLast? <;> rfl
        refine St.r_load0 s 0 rfl hk ?_; refine r_shrN 6 (by decide) (p := 64) rfl ?_
        have ht : (match O'.getLast? with | none => 0 | some p => p.1) / 64 = topH O' := by
          unfold topH
          cases O'.getLast? <;> rfl
        rw [ht]; unfold l_FnSkyline.j6; refine r_add1 (by omega) ?_; exact HK (X.length - (j + 1)) _ _ (by omega) ⟨j + 1, v2, b2, o2, p2, O', A, _, p, _, _, rfl, hlt, rfl, I', hA2, hl', w2, s.perm (E' := (t9, 0, A.map nI) :: (t5, 0, [.slice none 0 0, .int .i64 d, .bool true]) :: (tB, 0, B.map nB) :: (bX, oX, X.flatMap enc ++ pX) :: (b2, o2, O'.flatMap enc ++ p2) :: ((t18, 0, foundC O'.getLast?) :: (R ++ E3))) (by ((apply perm_rg; intro f; simp only [set_cons_zero, set_cons_succ, eraseIdx_cons_zero, eraseIdx_cons_succ, cons_append, nil_append, map_append, map_cons, map_nil, List.sum_append, List.sum_cons, List.sum_nil, map_flatMap, Nat.add_zero, Nat.zero_add]; ac_rfl)))⟩
      unfold l_FnSkyline.j7; refine r_fld (n := 1) ?_; refine St.r_load0 s 0 rfl rfl ?_; refine Modulo_ok (by omega) (by omega) (by decide) (by decide) ?_
      have hm : x.2 % 64 = (i : Int) := by omega
      rw [hm]; refine r_remN (by omega) (by decide) ?_
      have hm : (i : Int) % 30 = i := by omega
      rw [hm]; refine r_idxA1 (i := i) rfl (by omega) ?_; refine St.r_load0 s 3 (v := nB B[i]) rfl (by rw [List.getElem?_map, List.getElem?_eq_getElem hiB]; rfl) ?_; refine r_cv8 hBi.1 hBi.2 ?_; refine r_shlN 6 (by decide) (p := 64) rfl (by omega) (by omega) ?_; refine r_addI (by omega) (by omega) ?_; refine r_fld (n := 1) ?_; refine St.r_load0 s 0 rfl rfl ?_; refine r_cmpI ?_; refine r_if (fun e => ?_) (fun e => ?_)
      · have e := ltI e
        refine St.r_loadN0 s 2 rfl (by simp) ?_; refine withoutO_ok d1 d2 (w1.rdl s 5 rfl) I.asc (by omega) fun v2 b2 o2 p2 E3 g3 w2 s3 => ?_; refine fin _ v2 b2 o2 p2 (R ++ ((t13, 0, enc x) :: (b1, o1, O.flatMap enc ++ p1) :: E3)) g3 ?_ (Nat.le_trans (ldel_sub _ _).length_le (by omega)) w2 ((join2 s s3).perm (by ((apply perm_rg; intro f; simp only [set_cons_zero, set_cons_succ, eraseIdx_cons_zero, eraseIdx_cons_succ, cons_append, nil_append, map_append, map_cons, map_nil, List.sum_append, List.sum_cons, List.sum_nil, map_flatMap, Nat.add_zero, Nat.zero_add]; ac_rfl))))
        rw [if_pos e, show x.2.toNat = i by omega, hkey]
      · have e := geI e
        refine St.r_loadN0 s 2 rfl (by simp) ?_; refine r_build (cs := enc (B[i] * 64 + (i : Int), 0)) rfl ?_; refine withO_ok d1 d2 (w1.rdl s 5 rfl) I.asc (by omega) fun v2 b2 o2 p2 E3 g3 w2 s3 => ?_; refine fin _ v2 b2 o2 p2 (R ++ ((t13, 0, enc x) :: (b1, o1, O.flatMap enc ++ p1) :: E3)) g3 ?_ (by rw [lput_length]; split <;> omega) w2 ((join2 s s3).perm (by ((apply perm_rg; intro f; simp only [set_cons_zero, set_cons_succ, eraseIdx_cons_zero, eraseIdx_cons_succ, cons_append, nil_append, map_append, map_cons, map_nil, List.sum_append, List.sum_cons, List.sum_nil, map_flatMap, Nat.add_zero, Nat.zero_add]; ac_rfl))))
        rw [if_neg (by omega), show (x.2 - 64).toNat = i by omega, hkey]
  · have hge : j = X.length := by have := geI hge; omega
    subst hge; rw [List.take_length, List.drop_length] at I; obtain ⟨f1, f2, f3⟩ := SI.fin hl40 hH0 hXm I; unfold l_FnSkyline.j3; refine r_cmpI ?_; rw [f2]; refine r_br (fun _ => ?_) (fun e => absurd e (by simp))
    refine s.r_loadA 0 rfl (by rw [List.length_map, hA.1, hN]) ?_; refine s.r_loadA 2 rfl (by rw [List.length_map, hBl]) ?_; refine Outline_ok hb hB hBl (hr.st s) hl fun A2 E3 g3 hA3 s3 => ?_
    have s := (s.join s3).perm List.perm_append_comm
    refine ⟨s.r_stillA 0 rfl (by rw [List.length_map, hA.1, hN]), ?_⟩
    refine r_eqArr (by rw [hA.1, hN]) hA3.1 ?_
    have e : A = A2 := by
      rw [hA3.eq, hA.eq, hN]; refine List.map_congr_left fun a ha => ?_; exact f3 a (List.mem_range.1 ha)
    rw [e]; refine r_br (fun _ => ?_) (fun e => absurd e (by simp))
    exact alive_ok fun E3 h3 s3 => H _ _ (s.join s3)
end Go.Proofs.Ythpmeccnddchpaa.Gi
end
