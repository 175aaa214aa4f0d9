/-
  Texts of this claim, laid together: KyIi P0 Pb Mi Mj.
  Conditions: as each of them tells.
-/
import Derived.Test.YtkkappjbcgnacaaRCacheB2
section
namespace Go.Proofs.Ytkkappjbcgnacaa.Ii
open Go.Hp Go.Proofs.Ytkkappjbcgnacaa
set_option linter.unusedVariables false
set_option linter.unusedSimpArgs false
variable {h0 h : Heap} {Z E : List Rg} {Q : Value → Heap → Prop}

theorem found_at {lt : It → It → Bool} (o : Swo lt) {its : List It} {x : It} (ha : Asc lt its) {i : Nat} (hi : i < its.length) (h1 : lt x its[i] = false) (h2 : lt its[i] x = false) : pos lt its x = i ∧ (lget lt its x).isSome = true := by
  have hs : ∀ i j (hi : i < its.length) (hj : j < its.length), i < j → lt its[i] its[j] = true := fun i j hi hj hij => List.pairwise_iff_getElem.1 ha i j hi hj hij
  have e : pos lt its x = i := pos_uni (by omega) (fun j hj hjl => o.tr1 (hs j i hj hi hjl) h1) (fun _ => h2)
  refine ⟨e, ?_⟩
  unfold lget; rw [e, List.getElem?_eq_getElem hi, Option.bind_some, h1]; rfl
theorem PT.height_le {m : Nat} (hm : 3 ≤ m) : ∀ {k lo : Nat} {t : PT It k}, t.Fl m lo → 1 ≤ lo → k < t.items.length
  | 0, lo, t, f, hl => by have f : lo ≤ List.length (α := It) t := f.1; show 0 < List.length (α := It) t; omega
  | k + 1, lo, t, f, hl => by
    have h1 := f.1
    have h2 := f.2.2.1
    obtain ⟨c, r, e⟩ := head_of (l := t.2) (by omega)
    have hc := PT.height_le hm (f.2.2.2 c (by rw [e]; simp)) (by omega)
    have h3 : (inter t.1 (t.2.map PT.items)).length = _ := inter_length _ _
    show k + 1 < (inter t.1 (t.2.map PT.items)).length
    rw [h3, e]
    simp only [List.map_cons, List.sum_cons]
    omega
theorem Own.slcAll {α : Type} {f : α → List Value} {sz : Nat} (hf : ∀ x, (f x).length = sz) {K : Value → Prop} {v : Value} {b o : Nat} {L : List α} {sp : List Value} (w : Own sz v L.length b o (L.flatMap f) sp)
    (H : ∀ v', Own sz v' (L.drop 0).length b (o + 0 * sz) ((L.drop 0).flatMap f) sp → K v') : slc sz v none none none K := by
  have w0 := w
  obtain ⟨a, cap, e, h1, h2, h3, h4⟩ := w.ex
  subst e
  refine ⟨a, L.length, cap, 0, L.length, cap, rfl, rfl, rfl, rfl, H _ ?_⟩
  have ea : (if cap = 0 then a else a.map (·.add (0 * sz))) = a := by
    split
    · rfl
    · rw [Nat.zero_mul]; cases a <;> rfl
  rw [ea, List.drop_zero, Nat.zero_mul, Nat.add_zero, Nat.sub_zero, Nat.sub_zero]
  exact w0
/-- The counts along the first way down (or the last one), changed. -/
def bmp {It : Type} (sd : Bool) (δ : Int) : {h : Nat} → GT It h → GT It h
  | 0, d => ({ (d : Nd It) with cnt := Nd.cnt d + δ } : Nd It)
  | _ + 1, t => ({ t.1 with cnt := t.1.cnt + δ }, t.2.modify (if sd then t.2.length - 1 else 0) (bmp sd δ))
theorem bmp_id {It : Type} {sd : Bool} {δ : Int} : ∀ {h : Nat} (t : GT It h), (bmp sd δ t).id = t.id
  | 0, _ => rfl
  | _ + 1, _ => rfl
theorem modify_at {β : Type} {l : List β} {f : β → β} {c : β} {i : Nat} (hc : l[i]? = some c) : l.modify i f = l.set i (f c) := by
  obtain ⟨hi, rfl⟩ := List.getElem?_eq_some_iff.1 hc
  apply List.ext_getElem?
  intro j
  rw [List.getElem?_modify, List.getElem?_set]
  by_cases e : i = j
  · subst e; simp [hi, List.getElem?_eq_getElem hi]
  · simp [e]
/-- x is the first item (or the last one), R are the others. -/
def Ends (sd : Bool) (x : It) (R l : List It) : Prop := if sd then l = R ++ [x] else l = x :: R
theorem Ends.len {sd : Bool} {x : It} {R l : List It} (e : Ends sd x R l) : l.length = R.length + 1 := by
  unfold Ends at e; split at e <;> rw [e] <;> simp
theorem items_set {m lo k : Nat} {its : List It} {kids : List (PT It k)} {i : Nat} {c c' : PT It k} (fl : PT.Fl m lo (h := k + 1) (its, kids)) (hi : i ≤ its.length) (hc : kids[i]? = some c) (hc' : PT.Fl m (m / 2) c') :
    PT.Fl m lo (h := k + 1) (its, kids.set i c') ∧ ∃ A B, PT.items (h := k + 1) (its, kids) = A ++ (c.items ++ B) ∧ PT.items (h := k + 1) (its, kids.set i c') = A ++ (c'.items ++ B) ∧ (i = 0 → A = []) ∧ (i = its.length → B = []) := by
  have hkl : kids.length = its.length + 1 := fl.2.2.1
  have f' : PT.Fl m lo (h := k + 1) (its, kids.set i c') := by
    refine ⟨fl.1, fl.2.1, ?_, fun q hq => ?_⟩
    · show (kids.set i c').length = its.length + 1
      rw [List.length_set]; exact hkl
    · rcases List.mem_or_eq_of_mem_set (show q ∈ kids.set i c' from hq) with e | e
      · exact fl.2.2.2 q e
      · rw [e]; exact hc'
  refine ⟨f', lz (its.take i) ((kids.take i).map PT.items), rz (its.drop i) ((kids.drop (i + 1)).map PT.items), ?_, ?_, fun e => ?_, fun e => ?_⟩
  · obtain ⟨c0, h0, _, e⟩ := PT.around (t := ((its, kids) : PT It (k + 1))) fl hi
    have h0 : kids[i]? = some c0 := h0
    rw [hc] at h0
    rw [← Option.some.inj h0] at e
    exact e
  · obtain ⟨c0, h0, _, e⟩ := PT.around (t := ((its, kids.set i c') : PT It (k + 1))) f' hi
    have h0 : (kids.set i c')[i]? = some c0 := h0
    rw [List.getElem?_set_self (by omega)] at h0
    rw [← Option.some.inj h0] at e
    have e1 : (kids.set i c').take i = kids.take i := List.take_set_of_le (Nat.le_refl _)
    have e2 : (kids.set i c').drop (i + 1) = kids.drop (i + 1) := List.drop_set_of_lt (by omega)
    have e : PT.items (h := k + 1) (its, kids.set i c') = lz (its.take i) (((kids.set i c').take i).map PT.items) ++ (c'.items ++ rz (its.drop i) (((kids.set i c').drop (i + 1)).map PT.items)) := e
    rw [e1, e2] at e
    exact e
  · subst e; rfl
  · subst e; rw [List.drop_length]; rfl
theorem ends_del (o : Swo lt) {sd : Bool} {x : It} {R l : List It} (e : Ends sd x R l) (ha : Asc lt l) : lget lt l x = some x ∧ ldel lt l x = R := by
  obtain ⟨i, hi, hx, he⟩ : ∃ i, ∃ hi : i < l.length, l[i] = x ∧ l.eraseIdx i = R := by
    unfold Ends at e
    split at e
    · subst e; exact ⟨R.length, by simp, by simp, by rw [eraseIdx_at (P := R) (S := []) (y := x) rfl, List.append_nil]⟩
    · subst e; exact ⟨0, by simp, rfl, rfl⟩
  obtain ⟨p1, p2⟩ := found_at o ha hi (x := x) (by rw [hx]; exact o.irr x) (by rw [hx]; exact o.irr x)
  obtain ⟨y, hy⟩ := Option.isSome_iff_exists.1 p2
  obtain ⟨hp, h1, _, _⟩ := lget_some hy
  have h2 : l[pos lt l x]? = some x := by rw [p1, List.getElem?_eq_getElem hi, hx]
  rw [List.getElem?_eq_getElem hp, h1] at h2
  refine ⟨by rw [hy]; exact h2, ?_⟩
  rw [ldel_some hy, ← List.eraseIdx_eq_take_drop_succ, p1, he]
/-- What was taken out of l, and what is left. -/
def Popped (sd : Bool) (r : Option It) (l l' : List It) : Prop := match r with
  | none => l = [] ∧ l' = []
  | some x => Ends sd x l' l
/-- What is left to do behind the cut. -/
def popEnd (tb t6 : Nat) (h : Heap) (Q : Value → Heap → Prop) : Prop :=
  nilck (ptr tb 0) fun a => fld 3 a fun t90 => load1 t90 h fun t91 => arith (· - ·) t91 (.int .i64 1) fun t92 => nilck (ptr tb 0) fun b => fld 3 b fun t94 => store1 t94 t92 h fun h => nilck (ptr tb 0) fun c => fld 3 c fun t97 => load1 t97 h fun t98 =>
    cmpI (fun a b => a == b) t98 (.int .i64 0) fun t99 => ifV t99
      (nilck (ptr tb 0) fun d => fld 2 d fun t102 => store1 t102 (.pointer none) h fun h => fld 1 (ptr t6 0) fun t1 => load1 t1 h fun t2 => fld 0 (ptr t6 0) fun t3 => load1 t3 h fun t4 => Q (.tuple #[t2, t4, (.bool true)]) h)
      (fld 1 (ptr t6 0) fun t1 => load1 t1 h fun t2 => fld 0 (ptr t6 0) fun t3 => load1 t3 h fun t4 => Q (.tuple #[t2, t4, (.bool true)]) h)

namespace PopMin
/-- Back up: the counts as they were. -/
theorem up_pop {tr t5 : Value} {iso : Int} {m : Nat} (hm : m ≤ 1024) : ∀ {k : Nat} (c : GT It k) {lo : Nat} {E : List Rg} {h : Heap}, c.pt.Fl m lo → Gd iso c → c.pt.items.length ≤ 4611686018427387903 → St h0 Z ((bmp false (-1) c).all enc ++ E) h → (∀ h', St h0 Z (c.all enc ++ E) h' → Map_ii_PopMin.j3 tr t5 h' Q) →
    LoopOk (fun c s h K1 => Map_ii_PopMin.l5.b (c.getD 0 undef) (c.getD 1 undef) (s.getD 0 undef) h K1 Q) [tr, t5] k [ptr c.id 0] h
  | 0, (d : Nd It), lo, E, h, fl, g, hsz, s, H => by
    obtain ⟨own, n, is', cnt, its, iv, ib, io, isp, kb, kv', krb, kro, ksp⟩ := d
    intro K
    have s : St h0 Z ((n, 0, [.int .u64 is', .int .i64 (cnt + -1), iv, .pointer none]) :: (ib, io, its.flatMap enc ++ isp) :: E) h := s
    have hcn : cnt = its.length := g.cn
    have hsz : its.length ≤ 4611686018427387903 := hsz
    show Map_ii_PopMin.l5.b tr t5 (ptr n 0) h K Q
    unfold Map_ii_PopMin.l5.b
    refine r_nil ?_
    refine r_fld ?_
    refine St.r_load0 s 0 rfl rfl ?_
    refine r_add (z := cnt) (by rw [i64w (by omega) (by omega)]; omega) ?_
    refine r_nil ?_
    refine r_fld ?_
    refine St.r_store0 s 0 rfl (by simp) rfl ?_
    intro h s
    try simp only [List.set_cons_zero, List.set_cons_succ] at s
    refine leaf_ok (a := none) (s.get (k := 0) (j := 3) rfl (by simp)) ?_
    refine r_if (fun _ => ?_) (fun e => absurd e (by simp))
    exact H h s
  | k + 1, t, lo, E, h, fl, g, hsz, s, H => by
    obtain ⟨d, ts⟩ := t
    obtain ⟨own, n, is', cnt, its, iv, ib, io, isp, kb, kv', krb, kro, ksp⟩ := d
    intro K HK
    have hkl : ts.length = its.length + 1 := g.wf.2.2.1
    have wK : Own 1 kv' ts.length krb kro ((ts.map GT.id).map fun m => ptr m 0) ksp := g.wf.2.1
    have hcn : cnt = (PT.items (h := k + 1) (its, ts.map GT.pt)).length := g.cn.1
    have hsz : (PT.items (h := k + 1) (its, ts.map GT.pt)).length ≤ 4611686018427387903 := hsz
    obtain ⟨c, hc⟩ : ∃ c, ts[0]? = some c := ⟨ts[0]'(by omega), List.getElem?_eq_getElem (by omega)⟩
    have hcm := List.mem_of_getElem? hc
    have hcm2 : c.pt ∈ ts.map GT.pt := List.mem_map.2 ⟨c, hcm, rfl⟩
    have hfc : PT.Fl m (m / 2) c.pt := fl.2.2.2 _ hcm2
    have hlm : its.length ≤ m := fl.2.1
    have hcsz : c.pt.items.length ≤ 4611686018427387903 := by
      have h1 : (inter its ((ts.map GT.pt).map PT.items)).length = _ := inter_length _ _
      have h2 : (inter its ((ts.map GT.pt).map PT.items)).length ≤ 4611686018427387903 := hsz
      have h3 : c.pt.items.length ≤ (((ts.map GT.pt).map PT.items).map List.length).sum := mem_le_sum (by
        rw [List.map_map, List.map_map]; exact List.mem_map.2 ⟨c, hcm, rfl⟩)
      omega
    have s : St h0 Z ((n, 0, [.int .u64 is', .int .i64 (cnt + -1), iv, ptr kb 0]) :: (ib, io, its.flatMap enc ++ isp) :: (kb, 0, [kv']) :: (krb, kro, (((ts.modify (0) (bmp false (-1))).map GT.id).map fun m => ptr m 0) ++ ksp) :: ((ts.modify (0) (bmp false (-1))).flatMap (GT.all enc) ++ E)) h := s
    rw [modify_at hc, mfp] at s
    have hi := (List.getElem?_eq_some_iff.1 hc).1
    have hc' : (ts.set (0) (bmp false (-1) c))[0]? = some (bmp false (-1) c) := List.getElem?_set_self hi
    have etake : (ts.set (0) (bmp false (-1) c)).take (0) = ts.take (0) := List.take_set_of_le (Nat.le_refl _)
    have edrop : (ts.set (0) (bmp false (-1) c)).drop (0 + 1) = ts.drop (0 + 1) := List.drop_set_of_lt (by omega)
    rw [flat_at3 (GT.all enc) hc', etake, edrop, set_ids hc (bmp_id c)] at s
    show Map_ii_PopMin.l5.b tr t5 (ptr n 0) h K Q
    unfold Map_ii_PopMin.l5.b
    refine r_nil ?_
    refine r_fld ?_
    refine St.r_load0 s 0 rfl rfl ?_
    refine r_add (z := cnt) (by rw [i64w (by omega) (by omega)]; omega) ?_
    refine r_nil ?_
    refine r_fld ?_
    refine St.r_store0 s 0 rfl (by simp) rfl ?_
    intro h s
    try simp only [List.set_cons_zero, List.set_cons_succ] at s
    refine leaf_ok (a := some ⟨kb, 0, Option.none⟩) (s.get (k := 0) (j := 3) rfl (by simp)) ?_
    refine r_if (fun e => absurd e (by simp)) (fun _ => ?_)
    unfold Map_ii_PopMin.j6
    refine r_nil ?_
    refine r_fld ?_
    refine St.r_load0 s 0 rfl rfl ?_
    refine r_nil ?_
    refine St.r_load0 s 2 rfl rfl ?_
    refine wK.idx (n := 0) rfl (by omega) ?_
    refine r_loadM1 s 3 rfl hc ?_
    have := up_pop (tr := tr) (t5 := t5) hm c (E := (n, 0, [.int .u64 is', .int .i64 cnt, iv, ptr kb 0]) :: (ib, io, its.flatMap enc ++ isp) :: (kb, 0, [kv']) :: (krb, kro, (ts.map GT.id).flatMap fp ++ ksp) :: ((ts.take (0)).flatMap (GT.all enc) ++ ((ts.drop (0 + 1)).flatMap (GT.all enc) ++ E))) hfc (g.kid hcm) hcsz (s.perm (by ((apply perm_rg; intro f; simp only [List.set_cons_zero, List.set_cons_succ, List.eraseIdx_cons_zero, List.eraseIdx_cons_succ, List.cons_append, List.nil_append, List.map_append, List.map_cons, List.map_nil, List.sum_append, List.sum_cons, List.sum_nil, List.map_flatMap, Nat.add_zero, Nat.zero_add]; ac_rfl)))) fun h' s => ?_
    · exact HK _ _ this
    · refine H h' ?_
      have s1 : St h0 Z ((n, 0, [.int .u64 is', .int .i64 cnt, iv, ptr kb 0]) :: (ib, io, its.flatMap enc ++ isp) :: (kb, 0, [kv']) :: (krb, kro, (ts.map GT.id).flatMap fp ++ ksp) :: (ts.flatMap (GT.all enc) ++ E)) h' := s.perm (by rw [flat_at3 (GT.all enc) hc]; ((apply perm_rg; intro f; simp only [List.set_cons_zero, List.set_cons_succ, List.eraseIdx_cons_zero, List.eraseIdx_cons_succ, List.cons_append, List.nil_append, List.map_append, List.map_cons, List.map_nil, List.sum_append, List.sum_cons, List.sum_nil, List.map_flatMap, Nat.add_zero, Nat.zero_add]; ac_rfl)))
      rw [← mfp] at s1
      exact s1
/-- Down the way: the item is cut off, or nothing but the counts has changed. -/
theorem down_pop {tb t5 m : Nat} {iso : Int} {ctr : Option Addr} (hT0 : (tb, 0, hd0 iso ctr) ∈ Z) (hT4 : (tb, 4, hd4 ((m / 2 : Nat) : Int) m) ∈ Z) (hm : m ≤ 1024) (hm3 : 3 ≤ m) : ∀ {k : Nat} (c : GT It k) {lo : Nat} {E : List Rg} {h : Heap}, 1 ≤ lo → (lo = m / 2 ∨ lo = 1) → c.pt.Fl m lo → Gd iso c → c.pt.items.length ≤ 4611686018427387903 → St h0 Z (c.all enc ++ ((t5, 0, enc emp) :: E)) h →
    (∀ (c' : GT It k) h' x R, Ends false x R c.pt.items → c'.pt.items = R → (c'.pt.Fl m lo ∨ (lo ≠ m / 2 ∧ R = [])) → c'.id = c.id → Gd iso c' → St h0 Z (c'.all enc ++ ((t5, 0, enc x) :: E)) h' → popEnd tb t5 h' Q) →
    (∀ h' x R, Ends false x R c.pt.items → St h0 Z ((bmp false (-1) c).all enc ++ ((t5, 0, enc x) :: E)) h' → Map_ii_PopMin.j2 (ptr tb 0) (ptr t5 0) h' Q) →
    LoopOk (fun c s h K1 => Map_ii_PopMin.l7.b (c.getD 0 undef) (c.getD 1 undef) (s.getD 0 undef) h K1 Q) [ptr tb 0, ptr t5 0] k [ptr c.id 0] h
  | 0, (d : Nd It), lo, E, h, hlo, hlo2, fl, g, hsz, s, H1, H2 => by
    obtain ⟨own, n, is', cnt, its, iv, ib, io, isp, kb, kv', krb, kro, ksp⟩ := d
    intro K
    have hw : own = true := g.mine
    have hiso : is' = iso := g.wf.2.1 hw
    subst hiso; subst hw
    have w : Own 2 iv its.length ib io (its.flatMap enc) isp := g.wf.1
    have s : St h0 Z ((n, 0, [.int .u64 is', .int .i64 cnt, iv, .pointer none]) :: (ib, io, its.flatMap enc ++ isp) :: (t5, 0, enc emp) :: E) h := s
    have hcn : cnt = its.length := g.cn
    have hl1 : lo ≤ its.length := fl.1
    have hl2 : its.length ≤ m := fl.2
    have hE : Ends false (its[0]'(by omega)) (its.eraseIdx (0)) its := by
      cases its with
      | nil => simp at hl1; omega
      | cons a r => rfl
    have hx : its[0]? = some (its[0]'(by omega)) := List.getElem?_eq_getElem (by omega)
    generalize hxg : its[0]'(by omega) = x at *
    show Map_ii_PopMin.l7.b (ptr tb 0) (ptr t5 0) (ptr n 0) h K Q
    unfold Map_ii_PopMin.l7.b
    refine r_nil ?_
    refine r_fld ?_
    refine St.r_load0 s 0 rfl rfl ?_
    refine r_sub (z := cnt + -1) (by rw [i64w (by omega) (by omega)]; omega) ?_
    refine r_nil ?_
    refine r_fld ?_
    refine St.r_store0 s 0 rfl (by simp) rfl ?_
    intro h s
    try simp only [List.set_cons_zero, List.set_cons_succ] at s
    refine leaf_ok (a := none) (s.get (k := 0) (j := 3) rfl (by simp)) ?_
    refine r_if (fun _ => ?_) (fun e => absurd e (by simp))
    refine r_nil ?_
    refine r_fld ?_
    refine St.r_load0 s 0 rfl rfl ?_
    refine w.idx (n := 0) rfl (by omega) ?_
    refine s.r_loadF encl 1 rfl hx ?_
    refine St.r_storeN0 s 2 rfl rfl (by simp) (enc1 x) ?_; intro h s
    have s : St h0 Z ((n, 0, [.int .u64 is', .int .i64 (cnt + -1), iv, .pointer none]) :: (ib, io, its.flatMap enc ++ isp) :: (t5, 0, enc x) :: E) h := s
    refine r_nil ?_
    refine r_fld ?_
    refine St.r_load0 s 0 rfl rfl ?_
    refine w.lenV ?_
    refine r_nil ?_
    refine r_fld ?_
    refine s.r_lz hT4 2 rfl rfl ?_
    refine r_cmpI ?_
    refine r_if (fun _ => H2 h x _ hE s) (fun hne => ?_)
    have hne : its.length ≠ m / 2 := by have := hne; simp at this; omega
    have hel : (its.eraseIdx (0)).length = its.length - 1 := by rw [List.length_eraseIdx, if_pos (by omega)]
    unfold Map_ii_PopMin.j9
    refine r_nil ?_
    refine r_fld ?_
    refine St.r_load0 s 0 rfl rfl ?_
    refine Own.slcAll encl w fun dd wd => ?_
    refine r_nil ?_
    refine r_fld ?_
    refine St.r_load0 s 0 rfl rfl ?_
    refine (w.rdl s 1 rfl).slcLo encl (i := 1) rfl (by omega) fun src rs => ?_
    refine s.r_cpyF encl 1 (i := 0) (L := its) (M := its.drop 1) rfl wd (by simp) rs rfl (fun y _ => enc1 y) fun h s => ?_
    refine r_nil ?_
    refine r_fld ?_
    refine St.r_load0 s 0 rfl rfl ?_
    refine r_nil ?_
    refine r_fld ?_
    refine St.r_load0 s 0 rfl rfl ?_
    refine w.lenV ?_
    refine r_sub (z := ((its.length - 1 : Nat) : Int)) (by rw [i64w (by omega) (by omega)]; omega) ?_
    refine r_nil ?_
    refine r_fld ?_
    refine s.r_lzE hT4 0 (enc emp) rfl (by simp) rfl ?_
    have hdl := del_len its emp (i := 0) (by omega)
    have hX := hdl
    rw [List.length_set] at hX
    have her := del_erase its emp (i := 0) (by omega)
    refine w.idx (n := its.length - 1) rfl (by omega) ?_
    refine s.r_storeF encl 1 rfl (by rw [hX]; omega) (enc1 emp) ?_; intro h s
    refine r_nil ?_
    refine r_fld ?_
    refine St.r_load0 s 0 rfl rfl ?_
    refine r_nil ?_
    refine r_fld ?_
    refine St.r_load0 s 0 rfl rfl ?_
    refine w.lenV ?_
    refine r_sub (z := ((its.length - 1 : Nat) : Int)) (by rw [i64w (by omega) (by omega)]; omega) ?_
    refine (w.list encl hdl).slcHi encl rfl (by rw [hdl]; omega) fun iv2 w2 => ?_
    have s := s.del (f := enc) 1 rfl _ her
    rw [her] at w2
    refine r_nil ?_
    refine r_fld ?_
    refine St.r_store0 s 0 rfl (by simp) w2.one ?_; intro h s
    refine H1 (⟨true, n, is', cnt + -1, its.eraseIdx (0), iv2, ib, io, _, kb, kv', krb, kro, ksp⟩ : Nd It) h x _ hE rfl ?_ rfl (Gd.leaf w2 rfl rfl (by show cnt + -1 = ((its.eraseIdx (0)).length : Int); rw [hel, hcn]; omega)) s
    rcases Nat.lt_or_ge lo its.length with e | e
    · left
      show lo ≤ (its.eraseIdx (0)).length ∧ (its.eraseIdx (0)).length ≤ m
      rw [hel]; omega
    · right
      exact ⟨by omega, List.length_eq_zero_iff.1 (by rw [hel]; omega)⟩
  | k + 1, t, lo, E, h, hlo, hlo2, fl, g, hsz, s, H1, H2 => by
    obtain ⟨d, ts⟩ := t
    obtain ⟨own, n, is', cnt, its, iv, ib, io, isp, kb, kv', krb, kro, ksp⟩ := d
    intro K HK
    have hw : own = true := g.mine.1
    have hiso : is' = iso := g.wf.1.2.1 hw
    subst hiso; subst hw
    have hkl : ts.length = its.length + 1 := g.wf.2.2.1
    have wK : Own 1 kv' ts.length krb kro ((ts.map GT.id).map fun m => ptr m 0) ksp := g.wf.2.1
    have hcn : cnt = (PT.items (h := k + 1) (its, ts.map GT.pt)).length := g.cn.1
    have hsz : (PT.items (h := k + 1) (its, ts.map GT.pt)).length ≤ 4611686018427387903 := hsz
    have hlm : its.length ≤ m := fl.2.1
    have hl1 : lo ≤ its.length := fl.1
    obtain ⟨c, hc⟩ : ∃ c, ts[0]? = some c := ⟨ts[0]'(by omega), List.getElem?_eq_getElem (by omega)⟩
    have hcm := List.mem_of_getElem? hc
    have hcm2 : c.pt ∈ ts.map GT.pt := List.mem_map.2 ⟨c, hcm, rfl⟩
    have hfc : PT.Fl m (m / 2) c.pt := fl.2.2.2 _ hcm2
    have fl : PT.Fl m lo (h := k + 1) (its, ts.map GT.pt) := fl
    have hcsz : c.pt.items.length ≤ 4611686018427387903 := by
      have h1 : (inter its ((ts.map GT.pt).map PT.items)).length = _ := inter_length _ _
      have h2 : (inter its ((ts.map GT.pt).map PT.items)).length ≤ 4611686018427387903 := hsz
      have h3 : c.pt.items.length ≤ (((ts.map GT.pt).map PT.items).map List.length).sum := mem_le_sum (by
        rw [List.map_map, List.map_map]; exact List.mem_map.2 ⟨c, hcm, rfl⟩)
      omega
    have hc2 : ts[0]? = some c := by
      exact hc
    have hcp : (ts.map GT.pt)[0]? = some c.pt := by rw [List.getElem?_map, hc]; rfl
    have up : ∀ {x : It} {R0 : List It} (c' : PT It k), Ends false x R0 c.pt.items → c'.items = R0 → PT.Fl m (m / 2) c' → ∃ R, Ends false x R (PT.items (h := k + 1) (its, ts.map GT.pt)) ∧ PT.items (h := k + 1) (its, (ts.map GT.pt).set (0) c') = R ∧ PT.Fl m lo (h := k + 1) (its, (ts.map GT.pt).set (0) c') := fun {x R0} c' he hr hf => by
      obtain ⟨f', A, B, e1, e2, e3, e4⟩ := items_set fl (by omega : 0 ≤ its.length) hcp hf
      refine ⟨_, ?_, rfl, f'⟩
      rw [e1, e2, hr]
      have he : c.pt.items = x :: R0 := he
      show _ = x :: _
      rw [e3 rfl, he]; rfl
    have up0 : ∀ {x : It} {R0 : List It}, Ends false x R0 c.pt.items → ∃ R, Ends false x R (PT.items (h := k + 1) (its, ts.map GT.pt)) := fun {x R0} he => by
      obtain ⟨_, A, B, e1, _, e3, e4⟩ := items_set fl (by omega : 0 ≤ its.length) hcp hfc
      rw [e1]
      have he : c.pt.items = x :: R0 := he
      exact ⟨R0 ++ B, by rw [e3 rfl, he]; rfl⟩
    have s : St h0 Z ((n, 0, [.int .u64 is', .int .i64 cnt, iv, ptr kb 0]) :: (ib, io, its.flatMap enc ++ isp) :: (kb, 0, [kv']) :: (krb, kro, ((ts.map GT.id).map fun m => ptr m 0) ++ ksp) :: (ts.flatMap (GT.all enc) ++ ((t5, 0, enc emp) :: E))) h := s
    rw [mfp, flat_at3 (GT.all enc) hc] at s
    show Map_ii_PopMin.l7.b (ptr tb 0) (ptr t5 0) (ptr n 0) h K Q
    unfold Map_ii_PopMin.l7.b
    refine r_nil ?_
    refine r_fld ?_
    refine St.r_load0 s 0 rfl rfl ?_
    refine r_sub (z := cnt + -1) (by rw [i64w (by omega) (by omega)]; omega) ?_
    refine r_nil ?_
    refine r_fld ?_
    refine St.r_store0 s 0 rfl (by simp) rfl ?_
    intro h s
    try simp only [List.set_cons_zero, List.set_cons_succ] at s
    refine leaf_ok (a := some ⟨kb, 0, Option.none⟩) (s.get (k := 0) (j := 3) rfl (by simp)) ?_
    refine r_if (fun e => absurd e (by simp)) (fun _ => ?_)
    unfold Map_ii_PopMin.j8
    refine r_nil ?_
    refine r_fld ?_
    refine St.r_load0 s 0 rfl rfl ?_
    refine r_nil ?_
    refine St.r_load0 s 2 rfl rfl ?_
    refine wK.idx (n := 0) rfl (by omega) ?_
    have hcell : cl h krb (kro + 0 * 1) = some (ptr c.id 0) := by
      have hid : (ts.map GT.id)[0]? = some c.id := by rw [List.getElem?_map, hc]; rfl
      obtain ⟨hi, he⟩ := List.getElem?_eq_some_iff.1 hid
      have := s.get (k := 3) (j := 0 * 1) rfl (by rw [List.length_append, flat_len fpl]; omega)
      rw [this, List.getElem?_append_left (by rw [flat_len fpl]; omega)]
      have h2 := flat_get (f := fp) fpl (ts.map GT.id) (0) hi 0 (by decide)
      rw [Nat.add_zero] at h2
      rw [h2, he]; rfl
    have hciso : cl h c.id 0 = some (.int .u64 is') := by
      have hown : c.nd.own = true := (g.kid hcm).mine.nd
      obtain ⟨a2, a3, a4, hmem⟩ := topIso (t := c)
      have hci : c.nd.iso = is' := by
        have := (g.kid hcm).wf
        cases k with
        | zero => exact this.2.1 hown
        | succ k => exact this.1.2.1 hown
      rw [hci] at hmem
      have hmm : (c.id, 0, [.int .u64 is', a2, a3, a4]) ∈ c.all enc ++ (ts.drop (0 + 1)).flatMap (GT.all enc) := List.mem_append.2 (.inl hmem)
      have hmm := List.mem_append.2 (.inr hmm : _ ∈ (ts.take (0)).flatMap (GT.all enc) ∨ _)
      have hmm := List.mem_append.2 (.inl hmm : _ ∨ _ ∈ (t5, 0, enc emp) :: E)
      have := (s.e _ (List.mem_cons_of_mem _ (List.mem_cons_of_mem _ (List.mem_cons_of_mem _ (List.mem_cons_of_mem _ hmm))))).1.at0 0 rfl
      exact this
    refine isoLoad_ok (n := c.id) (iso := is') (by have := s.getZ hT0 (j := 0) (by simp); simpa using this) hcell (fun _ => hciso) ?_
    have := down_pop (t5 := t5) hT0 hT4 hm hm3 c (E := (n, 0, [.int .u64 is', .int .i64 (cnt + -1), iv, ptr kb 0]) :: (ib, io, its.flatMap enc ++ isp) :: (kb, 0, [kv']) :: (krb, kro, (ts.map GT.id).flatMap fp ++ ksp) :: ((ts.take (0)).flatMap (GT.all enc) ++ ((ts.drop (0 + 1)).flatMap (GT.all enc) ++ E))) (by omega) (.inl rfl) hfc (g.kid hcm) hcsz (s.perm (by ((apply perm_rg; intro f; simp only [List.set_cons_zero, List.set_cons_succ, List.eraseIdx_cons_zero, List.eraseIdx_cons_succ, List.cons_append, List.nil_append, List.map_append, List.map_cons, List.map_nil, List.sum_append, List.sum_cons, List.sum_nil, List.map_flatMap, Nat.add_zero, Nat.zero_add]; ac_rfl)))) (fun c' h' x R0 a1 a2 a3 a4 a5 s => ?_) (fun h' x R0 a1 s => ?_)
    · exact HK _ _ this
    · have hf' : PT.Fl m (m / 2) c'.pt := by
        rcases a3 with e | e
        · exact e
        · exact absurd rfl e.1
      obtain ⟨R, u1, u2, u3⟩ := up c'.pt a1 a2 hf'
      have ept : (ts.set (0) c').map GT.pt = (ts.map GT.pt).set (0) c'.pt := by rw [List.map_set]
      have hi := (List.getElem?_eq_some_iff.1 hc).1
      have hc' : (ts.set (0) c')[0]? = some c' := List.getElem?_set_self hi
      have etake : (ts.set (0) c').take (0) = ts.take (0) := List.take_set_of_le (Nat.le_refl _)
      have edrop : (ts.set (0) c').drop (0 + 1) = ts.drop (0 + 1) := List.drop_set_of_lt (by omega)
      have hlen := u1.len
      refine H1 ((⟨true, n, is', cnt + -1, its, iv, ib, io, isp, kb, kv', krb, kro, ksp⟩ : Nd It), ts.set (0) c') h' x R u1 (by show PT.items (h := k + 1) (its, (ts.set (0) c').map GT.pt) = _; rw [ept]; exact u2) (.inl (by show PT.Fl m lo (h := k + 1) (its, (ts.set (0) c').map GT.pt); rw [ept]; exact u3)) rfl
        (Gd.setKid (d := ⟨true, n, is', cnt, its, iv, ib, io, isp, kb, kv', krb, kro, ksp⟩) g hc a4 a5 (by
          show cnt + -1 = ((PT.items (h := k + 1) (its, (ts.set (0) c').map GT.pt)).length : Int); rw [ept, u2]; omega)) ?_
      have s1 : St h0 Z ((n, 0, [.int .u64 is', .int .i64 (cnt + -1), iv, ptr kb 0]) :: (ib, io, its.flatMap enc ++ isp) :: (kb, 0, [kv']) :: (krb, kro, ((ts.set (0) c').map GT.id).flatMap fp ++ ksp) :: ((ts.set (0) c').flatMap (GT.all enc) ++ ((t5, 0, enc x) :: E))) h' :=
        s.perm (by rw [set_ids hc a4, flat_at3 (GT.all enc) hc', etake, edrop]; ((apply perm_rg; intro f; simp only [List.set_cons_zero, List.set_cons_succ, List.eraseIdx_cons_zero, List.eraseIdx_cons_succ, List.cons_append, List.nil_append, List.map_append, List.map_cons, List.map_nil, List.sum_append, List.sum_cons, List.sum_nil, List.map_flatMap, Nat.add_zero, Nat.zero_add]; ac_rfl)))
      rw [← mfp] at s1
      exact s1
    · obtain ⟨R, u1⟩ := up0 a1
      refine H2 h' x R u1 ?_
      have hi := (List.getElem?_eq_some_iff.1 hc2).1
      have hc' : (ts.set (0) (bmp false (-1) c))[0]? = some (bmp false (-1) c) := List.getElem?_set_self hi
      have etake : (ts.set (0) (bmp false (-1) c)).take (0) = ts.take (0) := by rw [List.take_set_of_le (Nat.le_refl _)]
      have edrop : (ts.set (0) (bmp false (-1) c)).drop (0 + 1) = ts.drop (0 + 1) := by rw [List.drop_set_of_lt (by omega)]
      have s1 : St h0 Z ((n, 0, [.int .u64 is', .int .i64 (cnt + -1), iv, ptr kb 0]) :: (ib, io, its.flatMap enc ++ isp) :: (kb, 0, [kv']) :: (krb, kro, ((ts.modify (0) (bmp false (-1))).map GT.id).flatMap fp ++ ksp) :: ((ts.modify (0) (bmp false (-1))).flatMap (GT.all enc) ++ ((t5, 0, enc x) :: E))) h' :=
        s.perm (by rw [modify_at hc2, set_ids hc2 (bmp_id c), flat_at3 (GT.all enc) hc', etake, edrop]; ((apply perm_rg; intro f; simp only [List.set_cons_zero, List.set_cons_succ, List.eraseIdx_cons_zero, List.eraseIdx_cons_succ, List.cons_append, List.nil_append, List.map_append, List.map_cons, List.map_nil, List.sum_append, List.sum_cons, List.sum_nil, List.map_flatMap, Nat.add_zero, Nat.zero_add]; ac_rfl)))
      rw [← mfp] at s1
      exact s1
theorem ok {tb m : Nat} {iso : Int} {ctr : Option Addr} {g : Rt} (M : MapOk m iso g) (hsz : (rPt g).items.length ≤ 4611686018427387903)
    (s : St h0 Z ((tb, 0, hdr iso ctr (rA g) (rPt g).items.length ((m / 2 : Nat) : Int) m) :: (rAll g ++ E)) h)
    (H : ∀ (r : Option It) (g' : Rt) h', Popped false r (rPt g).items (rPt g').items → MapOk m iso g' → St h0 Z ((tb, 0, hdr iso ctr (rA g') (rPt g').items.length ((m / 2 : Nat) : Int) m) :: (rAll g' ++ E)) h' → Q (.tuple #[kv (r.getD emp).1, vv (r.getD emp).2, .bool r.isSome]) h') :
    Map_ii_PopMin.call #[ptr tb 0] h Q := by
  refine Map_ii_PopMin.body _ _ _ ?_
  unfold Map_ii_PopMin.sh
  cases g with
  | none =>
    refine r_nil ?_
    refine r_fld ?_
    refine St.r_load0 s 0 rfl rfl ?_
    refine r_eqNilP ?_
    refine r_if (fun _ => ?_) (fun e => absurd e (by simp [rA]))
    refine r_nil ?_
    refine r_fld ?_
    refine r_fld ?_
    refine St.r_load0 s 0 rfl rfl ?_
    refine r_nil ?_
    refine r_fld ?_
    refine r_fld ?_
    refine St.r_load0 s 0 rfl rfl ?_
    exact H none none h ⟨rfl, rfl⟩ M s
  | some t =>
    obtain ⟨k, t⟩ := t
    have hkk : k < t.pt.items.length := PT.height_le M.m3 (t := t.pt) M.fl (Nat.le_refl _)
    have s := hdr_cut s
    obtain ⟨s1, back⟩ := St.borrow (A := [(tb, 0, hd0 iso ctr), (tb, 4, hd4 ((m / 2 : Nat) : Int) m)]) (E := (tb, 2, [ptr t.id 0]) :: (tb, 3, [.int .i64 t.pt.items.length]) :: (t.all enc ++ E)) s
    have z0 : (tb, 0, hd0 iso ctr) ∈ [(tb, 0, hd0 iso ctr), (tb, 4, hd4 ((m / 2 : Nat) : Int) m)] ++ Z := List.mem_cons_self ..
    have z4 : (tb, 4, hd4 ((m / 2 : Nat) : Int) m) ∈ [(tb, 0, hd0 iso ctr), (tb, 4, hd4 ((m / 2 : Nat) : Int) m)] ++ Z := List.mem_cons_of_mem _ (List.mem_cons_self ..)
    have hgd : Gd iso t := M.gd
    have hfl : t.pt.Fl m 1 := M.fl
    have hasc : Asc lt t.pt.items := M.asc
    have hszt : t.pt.items.length ≤ 4611686018427387903 := hsz
    have s := s1
    refine r_nil ?_
    refine r_fld ?_
    refine s.r_loadI 0 0 rfl rfl rfl ?_
    refine r_eqNilP ?_
    refine r_if (fun e => absurd e (by simp)) (fun _ => ?_)
    unfold Map_ii_PopMin.j1
    have hiso : ∀ {Z' E' : List Rg} {h : Heap}, St h0 Z' (t.all enc ++ E') h → cl h t.id 0 = some (.int .u64 iso) := fun s => by
      obtain ⟨a2, a3, a4, hmem⟩ := topIso (t := t)
      have hown := hgd.mine.nd
      have hci : t.nd.iso = iso := by
        have := hgd.wf
        cases k with
        | zero => exact this.2.1 hown
        | succ k => exact this.1.2.1 hown
      rw [hci] at hmem
      exact (s.e _ (List.mem_append.2 (.inl hmem))).1.at0 0 rfl
    refine r_nil ?_
    refine r_fld ?_
    refine isoLoad_ok (n := t.id) (iso := iso) (by have := s1.getZ z0 (j := 0) (by simp); simpa using this) (by have := s1.get (k := 0) (j := 0) rfl (by simp); simpa using this) (fun _ => hiso (s1.perm (E' := t.all enc ++ ((tb, 2, [ptr t.id 0]) :: (tb, 3, [.int .i64 t.pt.items.length]) :: E)) (by ((apply perm_rg; intro f; simp only [List.set_cons_zero, List.set_cons_succ, List.eraseIdx_cons_zero, List.eraseIdx_cons_succ, List.cons_append, List.nil_append, List.map_append, List.map_cons, List.map_nil, List.sum_append, List.sum_cons, List.sum_nil, List.map_flatMap, Nat.add_zero, Nat.zero_add]; ac_rfl))))) ?_
    refine s1.r_alloc fun t5 h s1 => ?_
    refine (down_pop (t5 := t5) z0 z4 M.m1 M.m3 t (E := (tb, 2, [ptr t.id 0]) :: (tb, 3, [.int .i64 t.pt.items.length]) :: E) (Nat.le_refl 1) (.inr rfl) hfl hgd hszt (s1.perm (by ((apply perm_rg; intro f; simp only [List.set_cons_zero, List.set_cons_succ, List.eraseIdx_cons_zero, List.eraseIdx_cons_succ, List.cons_append, List.nil_append, List.map_append, List.map_cons, List.map_nil, List.sum_append, List.sum_cons, List.sum_nil, List.map_flatMap, Nat.add_zero, Nat.zero_add]; ac_rfl)))) (fun c' h' x R a1 a2 a3 a4 a5 s => ?_) (fun h' x R a1 s => ?_)).loop
    · have hlen := a1.len
      unfold popEnd
      have s : St h0 ([(tb, 0, hd0 iso ctr), (tb, 4, hd4 ((m / 2 : Nat) : Int) m)] ++ Z) ((tb, 3, [.int .i64 t.pt.items.length]) :: (tb, 2, [ptr t.id 0]) :: (t5, 0, enc x) :: (c'.all enc ++ E)) h' := s.perm (by ((apply perm_rg; intro f; simp only [List.set_cons_zero, List.set_cons_succ, List.eraseIdx_cons_zero, List.eraseIdx_cons_succ, List.cons_append, List.nil_append, List.map_append, List.map_cons, List.map_nil, List.sum_append, List.sum_cons, List.sum_nil, List.map_flatMap, Nat.add_zero, Nat.zero_add]; ac_rfl)))
      refine r_nil ?_
      refine r_fld ?_
      refine s.r_load1 0 (o := 3) (j := 0) rfl rfl ?_
      refine r_sub (z := (R.length : Int)) (by rw [i64w (by omega) (by omega)]; omega) ?_
      refine r_nil ?_
      refine r_fld ?_
      refine St.r_store1 s 0 (o := 3) (j := 0) rfl (by simp) rfl ?_; intro h s
      refine r_nil ?_
      refine r_fld ?_
      refine s.r_load1 0 (o := 3) (j := 0) rfl rfl ?_
      refine r_cmpI ?_
      refine r_if (fun e => ?_) (fun e => ?_)
      · have hR : R = [] := by simpa using e
        subst hR
        refine r_nil ?_
        refine r_fld ?_
        refine St.r_store1 s 1 (o := 2) (j := 0) rfl (by simp) rfl ?_; intro h s
        refine r_fld (n := 1) ?_
        refine s.r_load1 2 (o := 0) (j := 1) rfl rfl ?_
        refine r_fld (n := 0) ?_
        refine s.r_load1 2 (o := 0) (j := 0) rfl rfl ?_
        refine H (some x) none h a1 (MapOk.none M.m3 M.m1 M.odd) ?_
        have s2 := back _ h s
        refine hdr_glue ?_
        exact (s2.perm (E' := (c'.all enc) ++ ((t5, 0, enc x) :: (tb, 0, hd0 iso ctr) :: (tb, 4, hd4 ((m / 2 : Nat) : Int) m) :: (tb, 2, [.pointer none]) :: (tb, 3, [.int .i64 (([] : List It).length : Nat)]) :: E)) (by ((apply perm_rg; intro f; simp only [List.set_cons_zero, List.set_cons_succ, List.eraseIdx_cons_zero, List.eraseIdx_cons_succ, List.cons_append, List.nil_append, List.map_append, List.map_cons, List.map_nil, List.sum_append, List.sum_cons, List.sum_nil, List.map_flatMap, Nat.add_zero, Nat.zero_add]; ac_rfl)))).sub (List.Sublist.trans (List.sublist_cons_self ..) (List.sublist_append_right _ _))
      · have hR : R ≠ [] := fun hR => by subst hR; simp at e
        refine r_fld (n := 1) ?_
        refine s.r_load1 2 (o := 0) (j := 1) rfl rfl ?_
        refine r_fld (n := 0) ?_
        refine s.r_load1 2 (o := 0) (j := 0) rfl rfl ?_
        have hf : c'.pt.Fl m 1 := by
          rcases a3 with e | e
          · exact e
          · exact absurd e.2 hR
        have hsub : Asc lt R := by
          have := (ends_del swo a1 hasc).2
          rw [← this]; exact asc_of_sub hasc (ldel_sub _ _)
        refine H (some x) (some ⟨k, c'⟩) h (by show Ends false x c'.pt.items t.pt.items; rw [a2]; exact a1) ⟨a5, hf, by show Asc lt c'.pt.items; rw [a2]; exact hsub, M.m3, M.m1, M.odd⟩ ?_
        have s2 := back _ h s
        show St h0 Z ((tb, 0, hdr iso ctr (some ⟨c'.id, 0, Option.none⟩) c'.pt.items.length ((m / 2 : Nat) : Int) m) :: (c'.all enc ++ E)) h
        refine hdr_glue ?_
        rw [a2, a4]
        exact (s2.perm (E' := (t5, 0, enc x) :: (tb, 0, hd0 iso ctr) :: (tb, 4, hd4 ((m / 2 : Nat) : Int) m) :: (tb, 2, [ptr t.id 0]) :: (tb, 3, [.int .i64 (R.length : Nat)]) :: (c'.all enc ++ E)) (by ((apply perm_rg; intro f; simp only [List.set_cons_zero, List.set_cons_succ, List.eraseIdx_cons_zero, List.eraseIdx_cons_succ, List.cons_append, List.nil_append, List.map_append, List.map_cons, List.map_nil, List.sum_append, List.sum_cons, List.sum_nil, List.map_flatMap, Nat.add_zero, Nat.zero_add]; ac_rfl)))).drop 1
    · obtain ⟨d1, d2⟩ := ends_del swo a1 hasc
      unfold Map_ii_PopMin.j2
      have s : St h0 ([(tb, 0, hd0 iso ctr), (tb, 4, hd4 ((m / 2 : Nat) : Int) m)] ++ Z) ((tb, 2, [ptr t.id 0]) :: (tb, 3, [.int .i64 t.pt.items.length]) :: (t5, 0, enc x) :: ((bmp false (-1) t).all enc ++ E)) h' := s.perm (by ((apply perm_rg; intro f; simp only [List.set_cons_zero, List.set_cons_succ, List.eraseIdx_cons_zero, List.eraseIdx_cons_succ, List.cons_append, List.nil_append, List.map_append, List.map_cons, List.map_nil, List.sum_append, List.sum_cons, List.sum_nil, List.map_flatMap, Nat.add_zero, Nat.zero_add]; ac_rfl)))
      refine r_nil ?_
      refine r_fld ?_
      refine s.r_load1 0 (o := 2) (j := 0) rfl rfl ?_
      refine (up_pop M.m1 t (E := (tb, 2, [ptr t.id 0]) :: (tb, 3, [.int .i64 t.pt.items.length]) :: (t5, 0, enc x) :: E) hfl hgd hszt (s.perm (by ((apply perm_rg; intro f; simp only [List.set_cons_zero, List.set_cons_succ, List.eraseIdx_cons_zero, List.eraseIdx_cons_succ, List.cons_append, List.nil_append, List.map_append, List.map_cons, List.map_nil, List.sum_append, List.sum_cons, List.sum_nil, List.map_flatMap, Nat.add_zero, Nat.zero_add]; ac_rfl)))) fun h' s => ?_).loop
      have s2 := back ((tb, 2, [ptr t.id 0]) :: (tb, 3, [.int .i64 t.pt.items.length]) :: (t5, 0, enc x) :: (t.all enc ++ E)) h' (s.perm (by ((apply perm_rg; intro f; simp only [List.set_cons_zero, List.set_cons_succ, List.eraseIdx_cons_zero, List.eraseIdx_cons_succ, List.cons_append, List.nil_append, List.map_append, List.map_cons, List.map_nil, List.sum_append, List.sum_cons, List.sum_nil, List.map_flatMap, Nat.add_zero, Nat.zero_add]; ac_rfl))))
      have s4 : St h0 Z ((tb, 0, hd0 iso ctr) :: (tb, 4, hd4 ((m / 2 : Nat) : Int) m) :: (tb, 2, [ptr t.id 0]) :: (tb, 3, [.int .i64 t.pt.items.length]) :: (t5, 0, enc x) :: (t.all enc ++ E)) h' := s2
      have s5 : St h0 Z ((tb, 0, hdr iso ctr (rA (some ⟨k, t⟩)) (rPt (some ⟨k, t⟩)).items.length ((m / 2 : Nat) : Int) m) :: (t5, 0, enc x) :: (rAll (some ⟨k, t⟩) ++ E)) h' := hdr_glue s4
      unfold Map_ii_PopMin.j3
      refine r_fld (n := 1) ?_
      refine s5.r_load1 1 (o := 0) (j := 1) rfl rfl ?_
      refine Delete_ok (x := x) (E := (t5, 0, enc x) :: E) M hsz (s5.perm (by ((apply perm_rg; intro f; simp only [List.set_cons_zero, List.set_cons_succ, List.eraseIdx_cons_zero, List.eraseIdx_cons_succ, List.cons_append, List.nil_append, List.map_append, List.map_cons, List.map_nil, List.sum_append, List.sum_cons, List.sum_nil, List.map_flatMap, Nat.add_zero, Nat.zero_add]; ac_rfl)))) fun g' h e1 M' s => ?_
      have s : St h0 Z ((t5, 0, enc x) :: (tb, 0, hdr iso ctr (rA g') (rPt g').items.length ((m / 2 : Nat) : Int) m) :: (rAll g' ++ E)) h := s.perm (by ((apply perm_rg; intro f; simp only [List.set_cons_zero, List.set_cons_succ, List.eraseIdx_cons_zero, List.eraseIdx_cons_succ, List.cons_append, List.nil_append, List.map_append, List.map_cons, List.map_nil, List.sum_append, List.sum_cons, List.sum_nil, List.map_flatMap, Nat.add_zero, Nat.zero_add]; ac_rfl)))
      have hl : lget lt (rPt (some ⟨k, t⟩)).items x = some x := d1
      rw [hl]
      refine r_ext rfl ?_
      refine r_ext rfl ?_
      refine r_if (fun _ => ?_) (fun e => absurd e (by simp))
      refine r_fld (n := 1) ?_
      refine s.r_load1 0 (o := 0) (j := 1) rfl rfl ?_
      refine H (some x) g' h ?_ M' (s.drop 1)
      show Ends false x (rPt g').items t.pt.items
      rw [e1]
      have : ldel lt (rPt (some ⟨k, t⟩)).items x = R := d2
      rw [this]; exact a1
end PopMin
end Go.Proofs.Ytkkappjbcgnacaa.Ii
end
section
namespace Go.Hp
set_option linter.unusedVariables false
set_option linter.unusedSimpArgs false

abbrev KI : Type := Int × Int
/-- The order of the keys. -/
def ltK (a b : KI) : Bool := decide (a.1 < b.1)
theorem ltK_t {a b : KI} : ltK a b = true ↔ a.1 < b.1 := by simp [ltK]
theorem ltK_f {a b : KI} : ltK a b = false ↔ b.1 ≤ a.1 := by simp [ltK]
theorem swoK : Swo ltK where
  irr a := by simp [ltK]
  tr a b c h k := by rw [ltK_t] at *; omega
  ntr a b c h k := by rw [ltK_f] at *; omega
theorem ascK_nodup {l : List KI} (h : Asc ltK l) : (l.map Prod.fst).Nodup := by
  rw [List.nodup_iff_pairwise_ne, List.pairwise_map]
  exact h.imp fun e => by rw [ltK_t] at e; omega
/-- A list around one of its items. -/
theorem ascK_split {l : List KI} {y : KI} (ha : Asc ltK l) (hy : y ∈ l) : ∃ p s, l = p ++ y :: s ∧ (∀ z ∈ p, z.1 < y.1) ∧ ∀ z ∈ s, y.1 < z.1 := by
  obtain ⟨p, s, rfl⟩ := List.append_of_mem hy
  obtain ⟨h1, h2, h3⟩ := asc_app ha
  exact ⟨p, s, rfl, fun z hz => ltK_t.1 (h3 z hz y (List.mem_cons_self ..)), fun z hz => ltK_t.1 ((List.pairwise_cons.1 h2).1 z hz)⟩
theorem lgetK_mem {l : List KI} {x y : KI} (ha : Asc ltK l) (hy : y ∈ l) (e : y.1 = x.1) : lget ltK l x = some y := by
  obtain ⟨p, s, rfl, h1, h2⟩ := ascK_split ha hy
  exact lget_at (fun z hz => ltK_t.2 (by have := h1 z hz; omega)) (ltK_f.2 (by omega)) (ltK_f.2 (by omega))
theorem lgetK_key {l : List KI} {x y : KI} (h : lget ltK l x = some y) : y ∈ l ∧ y.1 = x.1 := by
  obtain ⟨hp, e, h1, h2⟩ := lget_some h
  rw [ltK_f] at h1 h2
  exact ⟨e ▸ List.getElem_mem hp, by omega⟩
theorem lgetK_none {l : List KI} {x : KI} (hn : ∀ y ∈ l, y.1 ≠ x.1) : lget ltK l x = none := by
  cases h : lget ltK l x with
  | none => rfl
  | some y => exact absurd (lgetK_key h).2 (hn y (lgetK_key h).1)
theorem lgetK_nk {l : List KI} {x : KI} (ha : Asc ltK l) (h : lget ltK l x = none) : ∀ y ∈ l, y.1 ≠ x.1 := fun y hy e => by
  rw [lgetK_mem ha hy e] at h; cases h
theorem lputK_perm {l : List KI} {x : KI} (hn : ∀ y ∈ l, y.1 ≠ x.1) : (lput ltK l x).Perm (x :: l) := by
  unfold lput
  rw [lgetK_none hn]
  simp only [Option.isSome_none, Bool.false_eq_true, if_false, Nat.add_zero]
  refine List.perm_middle.trans ?_
  rw [List.take_append_drop]
theorem lputK_asc {l : List KI} {x : KI} (ha : Asc ltK l) : Asc ltK (lput ltK l x) := asc_lput swoK ha
theorem ldelK_asc {l : List KI} {x : KI} (ha : Asc ltK l) : Asc ltK (ldel ltK l x) := ha.sublist (ldel_sub l x)
theorem mem_lputK {l : List KI} {x z : KI} (ha : Asc ltK l) : z ∈ lput ltK l x ↔ z = x ∨ (z ∈ l ∧ z.1 ≠ x.1) := by
  cases h : lget ltK l x with
  | none =>
    have hn := lgetK_nk ha h
    rw [(lputK_perm hn).mem_iff, List.mem_cons]
    exact ⟨fun h => h.imp id fun h => ⟨h, hn z h⟩, fun h => h.imp id fun h => h.1⟩
  | some y =>
    obtain ⟨hy, e⟩ := lgetK_key h
    obtain ⟨p, s, rfl, h1, h2⟩ := ascK_split ha hy
    rw [lput_at (fun z hz => ltK_t.2 (by have := h1 z hz; omega)) (ltK_f.2 (by omega)) (ltK_f.2 (by omega))]
    simp only [List.mem_append, List.mem_cons]
    constructor
    · rintro (h | h | h)
      · exact .inr ⟨.inl h, by have := h1 z h; omega⟩
      · exact .inl h
      · exact .inr ⟨.inr (.inr h), by have := h2 z h; omega⟩
    · rintro (h | ⟨h | h | h, e2⟩)
      · exact .inr (.inl h)
      · exact .inl h
      · subst h; exact absurd e e2
      · exact .inr (.inr h)
theorem mem_ldelK {l : List KI} {x z : KI} (ha : Asc ltK l) : z ∈ ldel ltK l x ↔ z ∈ l ∧ z.1 ≠ x.1 := by
  cases h : lget ltK l x with
  | none =>
    rw [ldel_none h]
    exact ⟨fun hz => ⟨hz, lgetK_nk ha h z hz⟩, fun h => h.1⟩
  | some y =>
    obtain ⟨hy, e⟩ := lgetK_key h
    obtain ⟨p, s, rfl, h1, h2⟩ := ascK_split ha hy
    rw [ldel_at (fun z hz => ltK_t.2 (by have := h1 z hz; omega)) (ltK_f.2 (by omega)) (ltK_f.2 (by omega))]
    simp only [List.mem_append, List.mem_cons]
    constructor
    · rintro (h | h)
      · exact ⟨.inl h, by have := h1 z h; omega⟩
      · exact ⟨.inr (.inr h), by have := h2 z h; omega⟩
    · rintro ⟨h | h | h, e2⟩
      · exact .inl h
      · subst h; exact absurd e e2
      · exact .inr h
/-- Two lists that ascend and have the same items are one. -/
theorem ascK_ext : ∀ {l r : List KI}, Asc ltK l → Asc ltK r → (∀ z, z ∈ l ↔ z ∈ r) → l = r
  | [], [], _, _, _ => rfl
  | [], y :: r, _, _, h => absurd ((h y).2 (List.mem_cons_self ..)) (List.not_mem_nil)
  | x :: l, [], _, _, h => absurd ((h x).1 (List.mem_cons_self ..)) (List.not_mem_nil)
  | x :: l, y :: r, h1, h2, h => by
    obtain ⟨a1, a2⟩ := List.pairwise_cons.1 h1
    obtain ⟨b1, b2⟩ := List.pairwise_cons.1 h2
    have e : x = y := by
      rcases List.mem_cons.1 ((h x).1 (List.mem_cons_self ..)) with e | e
      · exact e
      · rcases List.mem_cons.1 ((h y).2 (List.mem_cons_self ..)) with e2 | e2
        · exact e2.symm
        · have := ltK_t.1 (b1 x e); have := ltK_t.1 (a1 y e2); omega
    subst e
    congr 1
    refine ascK_ext a2 b2 fun z => ⟨fun hz => ?_, fun hz => ?_⟩
    · rcases List.mem_cons.1 ((h z).1 (List.mem_cons_of_mem _ hz)) with e | e
      · subst e; have := ltK_t.1 (a1 z hz); omega
      · exact e
    · rcases List.mem_cons.1 ((h z).2 (List.mem_cons_of_mem _ hz)) with e | e
      · subst e; have := ltK_t.1 (b1 z hz); omega
      · exact e
theorem lputK_last {l : List KI} {x : KI} (h : ∀ y ∈ l, y.1 < x.1) : lput ltK l x = l ++ [x] := by
  have hp : pos ltK l x = l.length := pos_uni (Nat.le_refl _) (fun j hj _ => ltK_t.2 (h _ (List.getElem_mem hj))) (fun hl => absurd hl (Nat.lt_irrefl _))
  have hg : lget ltK l x = none := lgetK_none fun y hy => by have := h y hy; omega
  unfold lput
  rw [hg, hp, List.take_length]
  simp
end Go.Hp
end
section
namespace Go.Hp
set_option linter.unusedVariables false
set_option linter.unusedSimpArgs false

/-- The keys by their last uses, the last one first. -/
def recl (P : List Int) : List Int := P.foldl (fun R k => k :: R.erase k) []
theorem recl_snoc (P : List Int) (k : Int) : recl (P ++ [k]) = k :: (recl P).erase k := by unfold recl; rw [List.foldl_append]; rfl
theorem recl_nodup (P : List Int) : (recl P).Nodup := by
  have key : ∀ r : List Int, (recl r.reverse).Nodup := fun r => by
    induction r with
    | nil => exact List.nodup_nil
    | cons k r ih =>
      rw [List.reverse_cons, recl_snoc, List.nodup_cons]
      exact ⟨fun h => (List.Nodup.not_mem_erase ih) h, ih.erase k⟩
  have := key P.reverse
  rwa [List.reverse_reverse] at this
/-- Whether a key was used, and fewer than n others since then, S of them so far; the uses are told from the last one back. -/
def isRec (key : Int) (n : Nat) : List Int → List Int → Bool
  | [], _ => false
  | k :: r, S => if k = key then decide (S.length < n) else isRec key n r (if S.contains k then S else k :: S)
theorem isRec_gen {key : Int} {n : Nat} : ∀ (rv S : List Int), key ∉ S → (isRec key n rv S = true ↔ key ∈ ((recl rv.reverse).filter fun x => !S.contains x).take (n - S.length))
  | [], S, _ => by simp [isRec, recl]
  | k :: r, S, hS => by
    have nd := recl_nodup r.reverse
    have ee : ∀ x, (recl r.reverse).erase x = (recl r.reverse).filter (· != x) := fun x => nd.erase_eq_filter x
    rw [List.reverse_cons, recl_snoc]
    unfold isRec
    by_cases hk : k = key
    · subst hk
      rw [if_pos rfl, List.filter_cons_of_pos (by simpa using hS)]
      by_cases hn : S.length < n
      · rw [show n - S.length = (n - S.length - 1) + 1 by omega, List.take_succ_cons]
        simp [hn]
      · rw [show n - S.length = 0 by omega]
        simp [hn]
    · rw [if_neg hk]
      by_cases hc : S.contains k = true
      · rw [if_pos hc, isRec_gen r S hS, List.filter_cons_of_neg (by simp; simpa using hc), ee, List.filter_filter]
        rw [show ((recl r.reverse).filter fun x => (!S.contains x) && (x != k)) = ((recl r.reverse).filter fun x => !S.contains x) from List.filter_congr fun x _ => by
          by_cases e : x = k
          · subst e; simp at hc; simp [hc]
          · simp [e]]
      · rw [if_neg hc, isRec_gen r (k :: S) (by simp; exact ⟨fun h => hk h.symm, hS⟩), List.filter_cons_of_pos (by simp; simpa using hc), ee, List.filter_filter, List.length_cons]
        have e : ((recl r.reverse).filter fun x => !(k :: S).contains x) = ((recl r.reverse).filter fun x => (!S.contains x) && (x != k)) := List.filter_congr fun x _ => by
          by_cases e : x = k
          · subst e; simp
          · simp [e]
        rw [e]
        by_cases hn : S.length < n
        · rw [show n - S.length = (n - (S.length + 1)) + 1 by omega, List.take_succ_cons, List.mem_cons]
          exact ⟨.inr, fun h => h.resolve_left fun h => hk h.symm⟩
        · rw [show n - S.length = 0 by omega, show n - (S.length + 1) = 0 by omega]
          simp
theorem isRec_ok {key : Int} {n : Nat} (P : List Int) : isRec key n P.reverse [] = true ↔ key ∈ (recl P).take n := by
  rw [isRec_gen P.reverse [] (by simp), List.reverse_reverse, List.filter_eq_self.2 (by simp)]
  simp
theorem nodup_of_map {l : List KI} (h : (l.map Prod.fst).Nodup) : l.Nodup := by
  rw [List.nodup_iff_pairwise_ne, List.pairwise_map] at h
  rw [List.nodup_iff_pairwise_ne]
  exact h.imp fun h e => h (by rw [e])
def swp (z : KI) : KI := (z.2, z.1)
/-- What holds of the cache: L has the keys with the times of their last uses, the last one first. -/
structure LI (P : List Int) (n : Nat) (times keys L : List KI) : Prop where
  l1 : L.map Prod.fst = (recl P).take n
  l2 : L.Pairwise fun a b => b.2 < a.2
  l3 : ∀ z ∈ L, 0 ≤ z.2 ∧ z.2 < P.length
  ks : keys = (L.map swp).reverse
  asc : Asc ltK times
  tm : ∀ z, z ∈ times ↔ z ∈ L
theorem LI.nil (n : Nat) : LI [] n [] [] [] := ⟨by simp [recl], List.Pairwise.nil, fun _ h => absurd h List.not_mem_nil, rfl, List.Pairwise.nil, fun z => Iff.rfl⟩
section
variable {P : List Int} {n : Nat} {times keys L : List KI} (I : LI P n times keys L)
include I
theorem LI.nd : (L.map Prod.fst).Nodup := by rw [I.l1]; exact (recl_nodup P).sublist (List.take_sublist _ _)
theorem LI.len : times.length = L.length ∧ keys.length = L.length ∧ L.length ≤ n := by
  refine ⟨?_, by rw [I.ks]; simp, ?_⟩
  · have h1 : times.Nodup := nodup_of_map (ascK_nodup I.asc)
    have h2 : L.Nodup := nodup_of_map I.nd
    exact ((List.perm_ext_iff_of_nodup h1 h2).2 I.tm).length_eq
  · have := congrArg List.length I.l1
    rw [List.length_map, List.length_take] at this
    omega
theorem LI.keys_asc : Asc ltK keys := by
  rw [I.ks]
  show List.Pairwise _ _
  rw [List.pairwise_reverse, List.pairwise_map]
  exact I.l2.imp fun h => ltK_t.2 h
theorem LI.keys_mem {z : KI} : z ∈ keys ↔ swp z ∈ L := by
  rw [I.ks, List.mem_reverse, List.mem_map]
  exact ⟨fun ⟨y, h, e⟩ => by rw [← e]; exact h, fun h => ⟨_, h, rfl⟩⟩
theorem LI.get {k : Int} : ((lget ltK times (k, 0)).isSome = true ↔ k ∈ (recl P).take n) ∧ ∀ y, lget ltK times (k, 0) = some y → (k, y.2) ∈ L := by
  have h2 : ∀ y, lget ltK times (k, 0) = some y → (k, y.2) ∈ L := fun y hy => by
    obtain ⟨y1, y2⟩ := lgetK_key hy
    have y2 : y.1 = k := y2
    rw [← y2]
    exact (I.tm _).1 y1
  refine ⟨?_, h2⟩
  rw [← I.l1, List.mem_map]
  constructor
  · intro h
    obtain ⟨y, hy⟩ := Option.isSome_iff_exists.1 h
    exact ⟨_, h2 y hy, rfl⟩
  · rintro ⟨z, hz, rfl⟩
    rw [lgetK_mem (x := (z.1, 0)) I.asc ((I.tm z).2 hz) rfl]; rfl
/-- What is left of the keys, and the new use. -/
theorem LI.put {k : Int} {L' keys' times' : List KI} (h1 : L'.map Prod.fst = ((recl P).erase k).take (n - 1)) (h2 : L'.Sublist L) (hk : keys' = (L'.map swp).reverse) (ha : Asc ltK times') (ht : ∀ z, z ∈ times' ∧ z.1 ≠ k ↔ z ∈ L') (hn : 1 ≤ n) : LI (P ++ [k]) n (lput ltK times' (k, (P.length : Int))) (lput ltK keys' ((P.length : Int), k)) ((k, (P.length : Int)) :: L') := by
  have hsub := h2.subset
  have lt : ∀ z ∈ L', 0 ≤ z.2 ∧ z.2 < P.length := fun z hz => I.l3 z (hsub hz)
  refine ⟨?_, ?_, fun z hz => ?_, ?_, lputK_asc ha, fun z => ?_⟩
  · rw [recl_snoc, List.map_cons, h1]
    conv => rhs; rw [show n = (n - 1) + 1 by omega, List.take_succ_cons]
  · exact List.pairwise_cons.2 ⟨fun z hz => (lt z hz).2, I.l2.sublist h2⟩
  · rw [List.length_append, List.length_singleton]
    rcases List.mem_cons.1 hz with e | e
    · rw [e]; show 0 ≤ (P.length : Int) ∧ (P.length : Int) < _; omega
    · have := lt z e; omega
  · rw [hk, lputK_last, List.map_cons, List.reverse_cons]
    · rfl
    · intro y hy
      rw [List.mem_reverse, List.mem_map] at hy
      obtain ⟨z, hz, rfl⟩ := hy
      exact (lt z hz).2
  · rw [mem_lputK ha, List.mem_cons]
    exact ⟨fun h => h.imp id (ht z).1, fun h => h.imp id (ht z).2⟩
/-- A use of a key that is there. -/
theorem LI.hit {k : Int} {y : KI} (hn : 1 ≤ n) (hy : lget ltK times (k, 0) = some y) : LI (P ++ [k]) n (lput ltK times (k, (P.length : Int))) (lput ltK (ldel ltK keys (y.2, 0)) ((P.length : Int), k)) ((k, (P.length : Int)) :: L.filter fun z => z.1 != k) := by
  have hL := (I.get).2 y hy
  have uniq : ∀ z ∈ L, z.1 = k → z = (k, y.2) := fun z hz e => by
    have := (I.tm z).2 hz
    have h3 := lgetK_mem (x := (k, 0)) I.asc this e
    rw [hy] at h3
    cases h3
    rw [← e]
  have u2 : ∀ z ∈ L, z.2 = y.2 → z = (k, y.2) := fun z hz e => by
    have h1 : (z.2, z.1) ∈ keys := I.keys_mem.2 hz
    have h2 : (y.2, k) ∈ keys := I.keys_mem.2 hL
    have h3 := lgetK_mem (x := (y.2, 0)) I.keys_asc h1 e
    have h4 := lgetK_mem (x := (y.2, 0)) I.keys_asc h2 rfl
    rw [h3] at h4
    have := Option.some.inj h4
    have a1 := congrArg Prod.fst this
    have a2 := congrArg Prod.snd this
    exact Prod.ext a2 a1
  refine I.put ?_ List.filter_sublist ?_ I.asc (fun z => ?_) hn
  · have hk : k ∈ (recl P).take n := (I.get).1.1 (by rw [hy]; rfl)
    have e1 : (L.filter fun z => z.1 != k).map Prod.fst = (L.map Prod.fst).filter (· != k) := by rw [List.filter_map]; rfl
    have nd := recl_nodup P
    rw [e1, I.l1, nd.erase_eq_filter]
    -- leaving one of the first n out
    have key : ∀ (R : List Int) (n : Nat), R.Nodup → k ∈ R.take n → (R.take n).filter (· != k) = (R.filter (· != k)).take (n - 1) := fun R => by
      induction R with
      | nil => intro n _ h; simp at h
      | cons x R ih =>
        intro n hR h
        obtain ⟨x1, x2⟩ := List.nodup_cons.1 hR
        cases n with
        | zero => simp at h
        | succ n =>
          rw [List.take_succ_cons] at h ⊢
          by_cases e : x = k
          · subst e
            rw [List.filter_cons_of_neg (by simp), List.filter_cons_of_neg (by simp), Nat.add_sub_cancel]
            rw [List.filter_eq_self.2 (fun z hz => by simp; intro e; exact x1 (e ▸ List.mem_of_mem_take hz)), List.filter_eq_self.2 (fun z hz => by simp; intro e; exact x1 (e ▸ hz))]
          · have h' : k ∈ R.take n := (List.mem_cons.1 h).resolve_left fun h => e h.symm
            rw [List.filter_cons_of_pos (by simpa using e), List.filter_cons_of_pos (by simpa using e), ih n x2 h', Nat.add_sub_cancel]
            cases n with
            | zero => simp at h'
            | succ n => rfl
    exact key _ n nd hk
  · refine ascK_ext (ldelK_asc I.keys_asc) ?_ fun z => ?_
    · show List.Pairwise _ _
      rw [List.pairwise_reverse, List.pairwise_map]
      exact (I.l2.sublist List.filter_sublist).imp fun h => ltK_t.2 h
    · rw [mem_ldelK I.keys_asc, I.keys_mem, List.mem_reverse, List.mem_map]
      constructor
      · rintro ⟨h1, h2⟩
        refine ⟨swp z, List.mem_filter.2 ⟨h1, ?_⟩, rfl⟩
        simp
        intro e
        have := uniq _ h1 e
        exact h2 (congrArg Prod.snd this)
      · rintro ⟨w, hw, rfl⟩
        obtain ⟨w1, w2⟩ := List.mem_filter.1 hw
        refine ⟨w1, fun e => ?_⟩
        have := u2 w w1 e
        rw [this] at w2
        simp at w2
  · rw [List.mem_filter, I.tm]
    simp
/-- A use of a key that is not there, while there is room. -/
theorem LI.room {k : Int} (hg : lget ltK times (k, 0) = none) (hl : L.length < n) : LI (P ++ [k]) n (lput ltK times (k, (P.length : Int))) (lput ltK keys ((P.length : Int), k)) ((k, (P.length : Int)) :: L) := by
  have hk : k ∉ (recl P).take n := fun h => by have := (I.get).1.2 h; rw [hg] at this; cases this
  have hr : (recl P).length ≤ L.length := by
    have := congrArg List.length I.l1
    rw [List.length_map, List.length_take] at this
    omega
  rw [List.take_of_length_le (by omega)] at hk
  refine I.put ?_ (List.Sublist.refl _) I.ks I.asc (fun z => ?_) (by omega)
  · rw [I.l1, List.erase_of_not_mem hk, List.take_of_length_le (by omega), List.take_of_length_le (by omega)]
  · rw [I.tm]
    refine ⟨fun h => h.1, fun h => ⟨h, fun e => hk ?_⟩⟩
    have : z.1 ∈ (recl P).take n := by rw [← I.l1]; exact List.mem_map_of_mem h
    rw [e] at this
    exact List.mem_of_mem_take this
/-- A use of a key that is not there, while there is no room: the first one of the keys goes. -/
theorem LI.evict {k : Int} (hn : 1 ≤ n) (hg : lget ltK times (k, 0) = none) (hl : L.length = n) : ∃ p left, keys = p :: left ∧ LI (P ++ [k]) n (lput ltK (ldel ltK times (p.2, 0)) (k, (P.length : Int))) (lput ltK left ((P.length : Int), k)) ((k, (P.length : Int)) :: L.dropLast) := by
  have hk : k ∉ (recl P).take n := fun h => by have := (I.get).1.2 h; rw [hg] at this; cases this
  have hne : L ≠ [] := fun e => by rw [e] at hl; simp at hl; omega
  obtain ⟨L0, q, rfl⟩ : ∃ L0 q, L = L0 ++ [q] := ⟨L.dropLast, L.getLast hne, (List.dropLast_concat_getLast hne).symm⟩
  have hks : keys = swp q :: (L0.map swp).reverse := by rw [I.ks]; simp
  have nd := I.nd
  refine ⟨_, _, hks, ?_⟩
  rw [List.dropLast_concat]
  have hl0 : L0.length = n - 1 := by rw [List.length_append, List.length_singleton] at hl; omega
  refine I.put ?_ (List.sublist_append_left _ _) rfl (ldelK_asc I.asc) (fun z => ?_) hn
  · have h1 := I.l1
    rw [List.map_append, List.map_singleton] at h1
    have h2 : L0.map Prod.fst = (recl P).take (n - 1) := by
      have := congrArg (List.take (n - 1)) h1
      rw [List.take_take, List.take_left' (by rw [List.length_map]; exact hl0), show min (n - 1) n = n - 1 by omega] at this
      exact this
    rw [h2]
    have key : ∀ (R : List Int) (m : Nat), k ∉ R.take (m + 1) → (R.erase k).take m = R.take m := fun R => by
      induction R with
      | nil => intro m _; rfl
      | cons x R ih =>
        intro m h
        rw [List.take_succ_cons, List.mem_cons, not_or] at h
        rw [List.erase_cons_tail (by simpa using fun e => h.1 e.symm)]
        cases m with
        | zero => rfl
        | succ m => rw [List.take_succ_cons, List.take_succ_cons, ih m h.2]
    exact (key _ (n - 1) (by rw [show n - 1 + 1 = n by omega]; exact hk)).symm
  · have hq : ∀ z ∈ L0, z.1 ≠ q.1 := fun z hz e => by
      rw [List.map_append, List.nodup_append] at nd
      exact nd.2.2 z.1 (List.mem_map_of_mem hz) q.1 (by simp) e
    rw [mem_ldelK I.asc, I.tm]
    constructor
    · rintro ⟨⟨h1, h2⟩, _⟩
      rcases List.mem_append.1 h1 with h | h
      · exact h
      · rw [List.mem_singleton.1 h] at h2; exact absurd rfl h2
    · intro h
      refine ⟨⟨List.mem_append_left _ h, hq z h⟩, fun e => hk ?_⟩
      have : z.1 ∈ (recl P).take n := by rw [← I.l1]; exact List.mem_map_of_mem (List.mem_append_left _ h)
      rwa [e] at this
end
end Go.Hp
end
section
namespace Go.Proofs.Ytkkappjbcgnacaa.Ii
open Go.Hp Go.Proofs.Ytkkappjbcgnacaa
set_option linter.unusedVariables false
set_option linter.unusedSimpArgs false
variable {h0 h : Heap} {Z E : List Rg} {Q : Value → Heap → Prop}

abbrev fu (n : Int) : List Value := [.int .u8 n]
theorem ful (n : Int) : (fu n).length = 1 := rfl
abbrev fb (b : Bool) : List Value := [.bool b]
theorem fbl (b : Bool) : (fb b).length = 1 := rfl
theorem foundCl (o : Option It) : (foundC o).length = 3 := by cases o <;> rfl
theorem slcU {K : Value → Prop} {L : List Int} {v : Value} (r : Rdl 1 h v L.length (L.flatMap fu)) {k' : IntKind} {z' : Int} {j : Nat} (hz' : z' = j) (hj : j ≤ L.length)
    (H : ∀ v', Rdl 1 h v' (L.take j).length ((L.take j).flatMap fu) → K v') : Hp.slc 1 v none (some (.int k' z')) none K := by
  subst hz'
  refine r.slc (l := 0) (m := j) rfl ⟨k', j, rfl, by omega, by omega, by simp⟩ (Nat.zero_le _) hj fun v' r' => H v' ?_
  rw [Nat.zero_mul, List.drop_zero, Nat.sub_zero, flat_take ful L j hj] at r'
  rw [List.length_take, Nat.min_eq_left hj]; exact r'
theorem IsRecent_ok {P : List Int} {v : Value} {k : Int} {n : Nat} (hP : ∀ x ∈ P, 0 ≤ x ∧ x ≤ 255) (hr : Rdl 1 h v P.length (P.flatMap fu)) (hl : P.length ≤ 1000)
    (H : ∀ E' h', St h [] E' h' → Q (.bool (isRec k n P.reverse [])) h') : s_IsRecent.call #[v, .int .u8 k, .int .i64 n] h Q := by
  refine s_IsRecent.body _ _ _ _ _ ?_
  unfold s_IsRecent.sh
  refine (St.start h).r_alloc fun t7 h1 s => ?_
  refine (hr.st s).lenV ?_
  refine r_sub (z := (P.length : Int) - 1) (by rw [i64w (by omega) (by omega)]) ?_
  refine loop_ghost (fun q st h' => ∃ (j : Nat) (S : List Int) (A : List Bool), j = q ∧ j ≤ P.length ∧ st = [.int .i64 (S.length : Nat), .int .i64 ((j : Int) - 1)] ∧ A.length = 256 ∧ S.length ≤ P.length - j ∧ (∀ x : Int, 0 ≤ x → x ≤ 255 → (A[x.toNat]? = some true ↔ x ∈ S)) ∧ isRec k n P.reverse [] = isRec k n (P.take j).reverse S ∧ St h [] [(t7, 0, A.map Value.bool)] h') (n0 := P.length)
    ⟨P.length, [], List.replicate 256 false, rfl, Nat.le_refl _, rfl, List.length_replicate, by simp, fun x h1 h2 => ⟨fun e => ?_, fun e => absurd e List.not_mem_nil⟩, by rw [List.take_length], by rw [List.map_replicate]; exact s⟩ ?_
  · rw [List.getElem?_replicate] at e
    split at e <;> simp at e
  clear s
  rintro q st h1 ⟨j, S, A, rfl, hj, rfl, hA, hS, hm, he, s⟩ K HK
  unfold s_IsRecent.l2.b
  refine r_cmpI ?_
  refine r_if (fun hge => ?_) (fun hlt => ?_)
  · have hj0 : 0 < j := by have := of_decide_eq_true hge; omega
    obtain ⟨j, rfl⟩ : ∃ i, j = i + 1 := ⟨j - 1, by omega⟩
    have hlt : j < P.length := by omega
    have et : (P.take (j + 1)).reverse = P[j] :: (P.take j).reverse := by rw [List.take_succ_eq_append_getElem hlt, List.reverse_append]; rfl
    rw [et] at he
    unfold s_IsRecent.j3
    refine (hr.st s).at (f := fu) (n := j) rfl ful (by omega) rfl hlt fun b o hb => ?_
    refine hb.load0 rfl ?_
    refine r_cmpI ?_
    refine r_if (fun e => ?_) (fun e => ?_)
    · have e : P[j] = k := by simpa using e
      refine r_cmpI ?_
      have h2 : isRec k n P.reverse [] = decide ((S.length : Int) < (n : Int)) := by
        rw [he]; unfold isRec; rw [if_pos e]
        by_cases h3 : S.length < n
        · rw [decide_eq_true h3, decide_eq_true (by omega)]
        · rw [decide_eq_false h3, decide_eq_false (by omega)]
      have := H _ _ s
      rw [h2] at this; exact this
    · have e : ¬ P[j] = k := by simpa using e
      have he : isRec k n P.reverse [] = isRec k n (P.take j).reverse (if S.contains P[j] then S else P[j] :: S) := by
        rw [he]; show (if P[j] = k then _ else _) = _; rw [if_neg e]
      unfold s_IsRecent.j5
      obtain ⟨hx0, hx1⟩ := hP P[j] (List.getElem_mem hlt)
      have hxA : P[j].toNat < 256 := by omega
      have hAx : A[P[j].toNat]? = some (A[P[j].toNat]'(by omega)) := List.getElem?_eq_getElem (by omega)
      refine r_idxA1 (i := P[j].toNat) (by omega) hxA ?_
      refine s.r_load0 0 rfl (by rw [List.getElem?_map, hAx]; rfl) ?_
      refine r_not ?_
      have hmx := hm P[j] hx0 hx1
      rw [hAx] at hmx
      refine r_if (fun e2 => ?_) (fun e2 => ?_)
      · have hno : P[j] ∉ S := fun hin => by rw [Option.some.inj (hmx.2 hin)] at e2; simp at e2
        have hc : S.contains P[j] = false := by rw [List.contains_eq_mem]; exact decide_eq_false hno
        rw [hc, if_neg (by decide)] at he
        refine r_idxA1 (i := P[j].toNat) (by omega) hxA ?_
        refine s.r_store0 0 rfl (by rw [List.length_map]; omega) rfl fun h1 s => ?_
        refine r_add (z := ((S.length + 1 : Nat) : Int)) (by rw [i64w (by omega) (by omega)]; omega) ?_
        unfold s_IsRecent.j4
        refine r_sub (z := (j : Int) - 1) (by rw [i64w (by omega) (by omega)]; omega) ?_
        refine HK j _ _ (by omega) ⟨j, P[j] :: S, A.set P[j].toNat true, rfl, by omega, rfl, by rw [List.length_set]; exact hA, by simp; omega, fun x g0 g1 => ?_, he, by rw [List.map_set]; exact s⟩
        by_cases ex : x = P[j]
        · subst ex
          rw [List.getElem?_set_self (by omega)]
          exact ⟨fun _ => List.mem_cons_self .., fun _ => rfl⟩
        · rw [List.getElem?_set_ne (by omega), hm x g0 g1, List.mem_cons]
          exact ⟨fun h => .inr h, fun h => h.resolve_left ex⟩
      · have hin : P[j] ∈ S := hmx.1 (by rw [show A[P[j].toNat]'(by omega) = true by simpa using e2])
        have hc : S.contains P[j] = true := by rw [List.contains_eq_mem]; exact decide_eq_true hin
        rw [hc, if_pos rfl] at he
        unfold s_IsRecent.j4
        refine r_sub (z := (j : Int) - 1) (by rw [i64w (by omega) (by omega)]; omega) ?_
        exact HK j _ _ (by omega) ⟨j, S, A, rfl, by omega, rfl, hA, by omega, hm, he, s⟩
  · have hj0 : j = 0 := by have := of_decide_eq_false hlt; omega
    subst hj0
    unfold s_IsRecent.j1
    have h2 : isRec k n P.reverse [] = false := by rw [he]; rfl
    have := H _ _ s
    rw [h2] at this; exact this
/-- One item taken off the front. -/
theorem MPops_ok {hA : Heap} {l : List It} {v vb : Value} {d : Nat} (hr : Rdl 2 hA v l.length (l.flatMap encA)) (hl : l.length ≤ 2147483647) (h1 : 2 ≤ d) (h2 : d ≤ 512) (hk : Rdl 1 hA vb [false].length ([false].flatMap fb))
    (H : ∀ v1 v2 E' h', St hA [] E' h' → Rdl 3 h' v1 [(setAll l).head?].length ([(setAll l).head?].flatMap foundC) → Rdl 2 h' v2 (setAll l).tail.length ((setAll l).tail.flatMap encA) → Q (.tuple #[v1, v2]) h') : i_MPops.call #[.int .i64 d, v, vb] hA Q := by
  refine i_MPops.body _ _ _ _ _ ?_
  unfold i_MPops.sh
  refine grow_ok hr hl h1 h2 fun g tb h e0 e M s => ?_
  have hk1 := hk.st s
  refine hk1.lenV ?_
  have s0 := s.empty 0 0
  have hle := setAll_len l
  have eL : (setAll l).length ≤ 2147483647 := by omega
  generalize setAll l = L0 at *
  have hd2 : (((2 * d - 1) / 2 : Nat) : Int) = ((d - 1 : Nat) : Int) := by congr 1; omega
  refine loop_ghost (fun q st h' => ∃ (j : Nat) (v1 : Value) (b1 o1 : Nat) (p1 : List Value) (F : List (Option It)) (g : Rt) (R : List Rg), q = 1 - j ∧ j ≤ 1 ∧ st = [v1, .int .i64 (j : Nat)] ∧ F = [L0.head?].take j ∧ (rPt g).items = L0.drop j ∧ MapOk (2 * d - 1) 0 g ∧ Own 3 v1 F.length b1 o1 (F.flatMap foundC) p1 ∧
      St hA [] ((b1, o1, F.flatMap foundC ++ p1) :: (tb, 0, hdr 0 none (rA g) (rPt g).items.length (((2 * d - 1) / 2 : Nat) : Int) ((2 * d - 1 : Nat) : Int)) :: (rAll g ++ R)) h') (n0 := 1)
    ⟨0, .slice none 0 0, 0, 0, [], [], g, [], rfl, Nat.zero_le _, rfl, rfl, e, M, Own.nil 3 0 0, by have e9 := s0; rw [← List.append_nil (rAll g), ← hd2] at e9; exact e9⟩ ?_
  clear s0 s hk1
  clear e e0 M g
  rintro q st h ⟨j, v1, b1, o1, p1, F, g, R, rfl, hj, rfl, hF, e, M, w1, s⟩ K HK
  unfold i_MPops.l2.b
  refine r_cmpI ?_
  refine r_if (fun hlt => ?_) (fun hge => ?_)
  · have hlt : j = 0 := by have := of_decide_eq_true hlt; simp at this; omega
    subst hlt
    have hF : F = [] := hF
    subst hF
    have e : (rPt g).items = L0 := e
    unfold i_MPops.j3
    refine (hk.st s).at (n := 0) rfl fbl rfl rfl (by decide) fun b3 o3 hb => ?_
    refine hb.load0 rfl ?_
    refine r_if (fun e => absurd e (by simp)) (fun _ => ?_)
    refine PopMin.ok (E := (b1, o1, [].flatMap foundC ++ p1) :: R) M (by rw [e]; omega) (s.perm (by ((apply perm_rg; intro f; simp only [List.set_cons_zero, List.set_cons_succ, List.eraseIdx_cons_zero, List.eraseIdx_cons_succ, List.cons_append, List.nil_append, List.map_append, List.map_cons, List.map_nil, List.sum_append, List.sum_cons, List.sum_nil, List.map_flatMap, Nat.add_zero, Nat.zero_add]; ac_rfl)))) fun r g' h hp M' s => ?_
    rw [e] at hp
    have hr0 : r = L0.head? ∧ (rPt g').items = L0.drop 1 := by
      cases r with
      | none => obtain ⟨a, b⟩ := hp; rw [a, b]; exact ⟨rfl, rfl⟩
      | some x => have hp : L0 = x :: (rPt g').items := hp; rw [hp]; exact ⟨rfl, rfl⟩
    obtain ⟨rfl, e2⟩ := hr0
    have s : St hA [] ((b1, o1, [].flatMap foundC ++ p1) :: (tb, 0, hdr 0 none (rA g') (rPt g').items.length (((2 * d - 1) / 2 : Nat) : Int) ((2 * d - 1 : Nat) : Int)) :: (rAll g' ++ R)) h := s.perm (by ((apply perm_rg; intro f; simp only [List.set_cons_zero, List.set_cons_succ, List.eraseIdx_cons_zero, List.eraseIdx_cons_succ, List.cons_append, List.nil_append, List.map_append, List.map_cons, List.map_nil, List.sum_append, List.sum_cons, List.sum_nil, List.map_flatMap, Nat.add_zero, Nat.zero_add]; ac_rfl)))
    refine r_ext rfl ?_
    refine r_ext rfl ?_
    refine r_ext rfl ?_
    refine pair_ok (p := L0.head?.getD emp) (b := L0.head?.isSome) fun E2 h s2 => ?_
    have ef : (if L0.head?.isSome = true then some (L0.head?.getD emp) else none) = L0.head? := by cases L0 <;> rfl
    rw [ef]
    have s := s.join s2
    have s := s.perm List.perm_append_comm
    refine push_ok s (k := 0) rfl w1 (by simp) fun v' b' o' sp' q h s w' => ?_
    unfold i_MPops.j4
    refine r_add1 (by omega) ?_
    exact HK 0 _ _ (by omega) ⟨1, v', b', o', sp', [L0.head?], g', R ++ ((q, 0, foundC L0.head?) :: E2), rfl, Nat.le_refl _, rfl, rfl, e2, M', w', s.perm (by simp only [List.set_cons_succ, List.set_cons_zero, List.cons_append]; ((apply perm_rg; intro f; simp only [List.set_cons_zero, List.set_cons_succ, List.eraseIdx_cons_zero, List.eraseIdx_cons_succ, List.cons_append, List.nil_append, List.map_append, List.map_cons, List.map_nil, List.sum_append, List.sum_cons, List.sum_nil, List.map_flatMap, Nat.add_zero, Nat.zero_add]; ac_rfl)))⟩
  · have hge : j = 1 := by have := of_decide_eq_false hge; simp at this; omega
    subst hge
    have hF : F = [L0.head?] := hF
    subst hF
    have e : (rPt g).items = L0.tail := by rw [e, List.drop_one]
    have hl2 : L0.tail.length ≤ L0.length := by simp
    unfold i_MPops.j1
    have r1 := w1.rdl s 0 rfl
    refine entries_ok (E := (b1, o1, [L0.head?].flatMap foundC ++ p1) :: R) M (by rw [e]; omega) (s.perm (by ((apply perm_rg; intro f; simp only [List.set_cons_zero, List.set_cons_succ, List.eraseIdx_cons_zero, List.eraseIdx_cons_succ, List.cons_append, List.nil_append, List.map_append, List.map_cons, List.map_nil, List.sum_append, List.sum_cons, List.sum_nil, List.map_flatMap, Nat.add_zero, Nat.zero_add]; ac_rfl)))) fun v2 E2 h s r => ?_
    rw [e] at r
    exact H _ _ _ _ s (w1.rdlO (s.ok (by simp))) r
end Go.Proofs.Ytkkappjbcgnacaa.Ii
end
section
namespace Go.Proofs.Ytkkappjbcgnacaa.Ii
open Go.Hp Go.Proofs.Ytkkappjbcgnacaa
set_option linter.unusedVariables false
set_option linter.unusedSimpArgs false
variable {h0 h : Heap} {Z E : List Rg} {Q : Value → Heap → Prop}

/-- A list with one item more, set anew. -/
theorem addSet_ok {hB h1 : Heap} {R : List Rg} {T : List It} {x : It} {v : Value} {d : Nat} {KV : Value → Heap → Prop} (s : St hB [] R h1) (ha : Asc lt T) (hl : T.length ≤ 1000) (hd : 2 ≤ d) (hd2 : d ≤ 128) (r : Rdl 2 h1 v T.length (T.flatMap encA))
    (H : ∀ w1 w2 E' h', St h1 [] E' h' → Rdl 2 h' w2 (lput lt T x).length ((lput lt T x).flatMap encA) → KV (.tuple #[w1, w2]) h') :
    sl_Clone_implItemI.call #[v] h1 fun t h => mkSl (if 1 * 2 = 0 then [] else zeros [(.int .i64 0), (.int .i64 0)] 1) 1 [(0 * 2, 2, .agg (encA x).toArray)] 27 h fun t111 h => app 27 2 16 [(.int .i64 0), (.int .i64 0)] t t111 h fun t112 h => i_MSet.call #[.int .i64 d, t112] h KV := by
  refine CloneI_ok r (by omega) fun va b o sp E1 h3 wa s1 => ?_
  refine St.r_mkSl (sz := 2) (cs := encA x) s1 (by ((simp only [fillV, fill1, Value.cells, zeros_succ, zeros_zero, List.size_toArray, List.length_cons, List.length_nil, List.length_append, List.take_succ_cons, List.take_zero, List.take_nil, List.drop_succ_cons, List.drop_zero, List.drop_nil, List.cons_append, List.nil_append, List.append_nil, Nat.reduceAdd, Nat.reduceMul, Nat.reduceLeDiff, Nat.reduceEqDiff, and_self, and_true, true_and, if_true, Nat.le_refl, Nat.zero_add, Nat.add_zero, Nat.zero_mul, reduceIte, if_false] <;> rfl))) rfl fun q h4 s1 wq => ?_
  have rq := wq.rdl s1 0 (by rw [List.append_nil]; rfl)
  refine s1.r_appL (f := encA) (L := T) (M := [x]) 1 rfl wa rfl (by have := rq; simpa using this) (fun _ _ => encA1 _) (by simp; omega) (by simp; omega) fun v' b' o' sp' h5 s1 w' => ?_
  have s1 : St h1 [] ((q, 0, encA x) :: (b', o', (T ++ [x]).flatMap encA ++ sp') :: E1) h5 := by simpa using s1
  refine MSet_ok (l := T ++ [x]) (w'.rdl s1 1 rfl) (by simp; omega) hd (by omega) fun w1 w2 E2 h6 s2 r2 => ?_
  rw [setAll_snoc, setAll_self _ T rfl ha] at r2
  exact H w1 w2 _ h6 (s1.join s2) r2
/-- The same where the item is put together of a byte. -/
theorem clone_cv {h1 : Heap} {k j : Int} {v : Value} {KV : Value → Heap → Prop} (g0 : 0 ≤ k) (g1 : k ≤ 255)
    (H : sl_Clone_implItemI.call #[v] h1 fun t h => mkSl (if 1 * 2 = 0 then [] else zeros [(.int .i64 0), (.int .i64 0)] 1) 1 [(0 * 2, 2, .agg (encA (k, j)).toArray)] 27 h fun t111 h => app 27 2 16 [(.int .i64 0), (.int .i64 0)] t t111 h fun t112 h => KV t112 h) :
    sl_Clone_implItemI.call #[v] h1 fun t h => cvI .i64 (.int .u8 k) fun t108 => buildV [(.int .i64 0), (.int .i64 0)] [(0, 1, t108), (1, 1, .int .i64 j)] fun t110 => mkSl (if 1 * 2 = 0 then [] else zeros [(.int .i64 0), (.int .i64 0)] 1) 1 [(0 * 2, 2, t110)] 27 h fun t111 h => app 27 2 16 [(.int .i64 0), (.int .i64 0)] t t111 h fun t112 h => KV t112 h :=
  H.mono fun t h H => r_cvI (z := k) (i64w (by omega) (by omega)) (r_build (cs := encA (k, j)) rfl H)
theorem clone_cv2 {h1 : Heap} {k j : Int} {v : Value} {KV : Value → Heap → Prop} (g0 : 0 ≤ k) (g1 : k ≤ 255)
    (H : sl_Clone_implItemI.call #[v] h1 fun t h => mkSl (if 1 * 2 = 0 then [] else zeros [(.int .i64 0), (.int .i64 0)] 1) 1 [(0 * 2, 2, .agg (encA (j, k)).toArray)] 27 h fun t111 h => app 27 2 16 [(.int .i64 0), (.int .i64 0)] t t111 h fun t112 h => KV t112 h) :
    sl_Clone_implItemI.call #[v] h1 fun t h => cvI .i64 (.int .u8 k) fun t108 => buildV [(.int .i64 0), (.int .i64 0)] [(0, 1, .int .i64 j), (1, 1, t108)] fun t110 => mkSl (if 1 * 2 = 0 then [] else zeros [(.int .i64 0), (.int .i64 0)] 1) 1 [(0 * 2, 2, t110)] 27 h fun t111 h => app 27 2 16 [(.int .i64 0), (.int .i64 0)] t t111 h fun t112 h => KV t112 h :=
  H.mono fun t h H => r_cvI (z := k) (i64w (by omega) (by omega)) (r_build (cs := encA (j, k)) rfl H)
theorem l_FnCache_ok {l : List Int} {v : Value} {d w : Int} (hb : ∀ x ∈ l, 0 ≤ x ∧ x ≤ 255) (hw : 0 ≤ w ∧ w ≤ 255) (hr : Rdl 1 h v l.length (l.flatMap fu)) (H : ∀ E' h', St h [] E' h' → Q (.bool true) h') : l_FnCache.call #[.int .i64 d, .int .u8 w, v] h Q := by
  refine l_FnCache.body _ _ _ _ _ ?_
  unfold l_FnCache.sh
  refine hr.lenV ?_
  refine r_cmpI ?_
  refine r_if (fun _ => H [] h (St.start h)) (fun hl => ?_)
  unfold l_FnCache.j1
  have live : ∀ {E' h'}, St h [] E' h' → l_aliveM.call #[] h' Q := fun s => aliveM_ok fun E' h' s' => H _ _ (s.join s')
  refine fit_ok ?_
  refine r_not ?_
  refine r_br (fun e => ?_) (fun e => live (St.start h))
  have hd : 2 ≤ d ∧ d ≤ 128 := by simpa using e
  obtain ⟨d, rfl⟩ : ∃ n : Nat, d = n := ⟨d.toNat, by omega⟩
  have hd1 : 2 ≤ d := by omega
  have hd2 : d ≤ 128 := by omega
  refine hr.lenV ?_
  refine r_cmpI ?_
  refine r_if (fun _ => live (St.start h)) (fun hl => ?_)
  have hl80 : l.length ≤ 80 := by have := of_decide_eq_false hl; omega
  unfold l_FnCache.j2
  refine r_remN hw.1 (by decide) ?_
  refine r_cvI (z := w % 16) (i64w (by omega) (by omega)) ?_
  obtain ⟨N, hN⟩ : ∃ N : Nat, w % 16 + 1 = N := ⟨(w % 16 + 1).toNat, by omega⟩
  have hN1 : 1 ≤ N := by omega
  have hN16 : N ≤ 16 := by omega
  refine r_add (z := (N : Int)) (by rw [i64w (by omega) (by omega)]; omega) ?_
  refine hr.lenV ?_
  refine loop_ghost (fun q st h' => ∃ (j : Nat) (T Ky L : List It) (vt vk : Value) (R : List Rg), q = l.length - j ∧ j ≤ l.length ∧ st = [vt, vk, .int .i64 (j : Nat)] ∧ LI (l.take j) N T Ky L ∧ Rdl 2 h' vt T.length (T.flatMap encA) ∧ Rdl 2 h' vk Ky.length (Ky.flatMap encA) ∧ St h [] R h') (n0 := l.length)
    ⟨0, [], [], [], .slice none 0 0, .slice none 0 0, [], rfl, Nat.zero_le _, rfl, LI.nil N, Rdl.nil 2 h, Rdl.nil 2 h, St.start h⟩ ?_
  rintro q st h1 ⟨j, T, Ky, L, vt, vk, R, rfl, hj, rfl, I, rt, rk, s⟩ K HK
  unfold l_FnCache.l4.b
  refine r_cmpI ?_
  refine r_if (fun hlt => ?_) (fun hge => ?_)
  · have hlt : j < l.length := by have := of_decide_eq_true hlt; omega
    obtain ⟨n1, n2, n3⟩ := I.len
    have haT : Asc lt T := I.asc
    have haK : Asc lt Ky := I.keys_asc
    have hT : setAll T = T := setAll_self _ T rfl haT
    have hK : setAll Ky = Ky := setAll_self _ Ky rfl haK
    obtain ⟨g0, g1⟩ := hb l[j] (List.getElem_mem hlt)
    have hPl : (l.take j).length = j := by rw [List.length_take]; omega
    have et : l.take j ++ [l[j]] = l.take (j + 1) := (List.take_succ_eq_append_getElem hlt).symm
    have lj : (l[j]? = some l[j]) := List.getElem?_eq_getElem hlt
    generalize hkk : l[j] = k at *
    have fin : ∀ {T1 K1 L1 : List It} {v1 v2 : Value} {R1 : List Rg} {h2 : Heap}, Asc lt T1 → Asc lt K1 → T1.length ≤ 100 → K1.length ≤ 100 → Rdl 2 h2 v1 T1.length (T1.flatMap encA) → Rdl 2 h2 v2 K1.length (K1.flatMap encA) → St h [] R1 h2 →
        LI (l.take (j + 1)) N (lput lt T1 (k, (j : Int))) (lput lt K1 ((j : Int), k)) L1 → l_FnCache.j8 (.int .i64 d) v (.int .i64 N) v1 v2 (.int .i64 (j : Nat)) (.int .u8 k) v (.int .i64 (l.length : Nat)) (.int .i64 (j : Nat)) h2 K Q := fun {T1 K1 L1 v1 v2 R1 h2} a1 a2 b1 b2 r1 r2 s I' => by
      unfold l_FnCache.j8
      obtain ⟨m1, m2, m3⟩ := I'.len
      refine clone_cv g0 g1 ?_
      refine addSet_ok s a1 (by omega) hd1 hd2 r1 fun w1 w2 E1 h3 s1 q1 => ?_
      refine r_ext rfl ?_
      refine r_ext rfl ?_
      have s := s.join s1
      refine clone_cv2 g0 g1 ?_
      refine addSet_ok s a2 (by omega) hd1 hd2 (r2.st s1) fun w3 w4 E2 h4 s2 q2 => ?_
      refine r_ext rfl ?_
      refine r_ext rfl ?_
      have q1 := q1.st s2
      refine q1.lenV ?_
      refine q2.lenV ?_
      refine r_cmpI ?_
      refine r_br (fun _ => ?_) (fun e => absurd e (by rw [m1, m2]; simp))
      refine q1.lenV ?_
      refine r_cmpI ?_
      refine r_if (fun e => absurd e (by rw [m1]; simp; omega)) (fun _ => ?_)
      unfold l_FnCache.j6
      refine r_add1 (by omega) ?_
      exact HK (l.length - (j + 1)) _ _ (by omega) ⟨j + 1, _, _, L1, w2, w4, _, rfl, hlt, rfl, I', q1, q2, s.join s2⟩
    unfold l_FnCache.j5
    refine hr.st s |>.at (f := fu) (n := j) rfl ful rfl rfl hlt fun b o hbb => ?_
    rw [hkk] at hbb
    refine hbb.load0 rfl ?_
    refine r_cvI (z := k) (i64w (by omega) (by omega)) ?_
    have s0' := St.start h1
    refine St.r_mkSl (sz := 1) (cs := [.int .i64 k]) s0' (by ((simp only [fillV, fill1, Value.cells, zeros_succ, zeros_zero, List.size_toArray, List.length_cons, List.length_nil, List.length_append, List.take_succ_cons, List.take_zero, List.take_nil, List.drop_succ_cons, List.drop_zero, List.drop_nil, List.cons_append, List.nil_append, List.append_nil, Nat.reduceAdd, Nat.reduceMul, Nat.reduceLeDiff, Nat.reduceEqDiff, and_self, and_true, true_and, if_true, Nat.le_refl, Nat.zero_add, Nat.add_zero, Nat.zero_mul, reduceIte, if_false] <;> rfl))) rfl fun q0 h2 s0' wq => ?_
    have rkk := wq.rdl s0' 0 (by rw [List.append_nil]; rfl)
    have s := s.join s0'
    refine MGet_ok (l := T) (ks := [k]) (rt.st s0') (by omega) hd1 (by omega) (by have := rkk; simpa using this) (by simp) fun vf E2 h3 s2 rf => ?_
    rw [hT] at rf
    refine rf.lenV ?_
    refine r_cmpI ?_
    refine r_br (fun _ => ?_) (fun e => absurd e (by simp))
    refine rf.at (f := foundC) (n := 0) rfl foundCl rfl rfl (by simp) fun bf of hf => ?_
    have hf : Rw h3 bf of (foundC (fnd T k)) := hf
    refine r_fld ?_
    have hok : (foundC (fnd T k))[2]? = some (.bool (fnd T k).isSome) := by cases fnd T k <;> rfl
    refine hf.load hok ?_
    have s3 := s.join s2
    refine slcU (hr.st s3) rfl (by omega) fun vs rs => ?_
    refine IsRecent_ok (P := l.take j) (n := N) (fun x hx => hb x (List.mem_of_mem_take hx)) rs (by omega) fun E3 h4 s4 => ?_
    have s := s3.join s4
    have hf4 := hf.st s4
    refine ⟨⟨_, rfl, (hf4 2 (by rw [foundC_len]; omega)).trans hok⟩, ?_⟩
    refine r_neB ?_
    have hrec : (fnd T k).isSome = isRec k N (l.take j).reverse [] := by
      have h1 := (I.get (k := k)).1
      have h2 := isRec_ok (key := k) (n := N) (l.take j)
      rw [Bool.eq_iff_iff]
      exact h1.trans h2.symm
    rw [← hrec]
    refine r_if (fun e => absurd e (by simp)) (fun _ => ?_)
    unfold l_FnCache.j7
    have rf := rf.st s4
    have rt := ((rt.st s0').st s2).st s4
    have rk := ((rk.st s0').st s2).st s4
    refine rf.at (f := foundC) (n := 0) rfl foundCl rfl rfl (by simp) fun bf of hf => ?_
    have hf : Rw h4 bf of (foundC (fnd T k)) := hf
    refine r_fld ?_
    refine hf.load hok ?_
    cases hy : fnd T k with
    | some y =>
      have hyk : lget ltK T (k, 0) = some y := hy
      refine r_if (fun _ => ?_) (fun e => absurd e (by simp))
      refine rf.at (f := foundC) (n := 0) rfl foundCl rfl rfl (by simp) fun bf of hf => ?_
      have hf : Rw h4 bf of (foundC (fnd T k)) := hf
      rw [hy] at hf
      refine r_fld ?_
      refine r_fld ?_
      refine hf.load (j := 1) rfl ?_
      have u := St.start h4
      refine St.r_mkSl (sz := 1) (cs := [.int .i64 y.2]) u (by ((simp only [fillV, fill1, Value.cells, zeros_succ, zeros_zero, List.size_toArray, List.length_cons, List.length_nil, List.length_append, List.take_succ_cons, List.take_zero, List.take_nil, List.drop_succ_cons, List.drop_zero, List.drop_nil, List.cons_append, List.nil_append, List.append_nil, Nat.reduceAdd, Nat.reduceMul, Nat.reduceLeDiff, Nat.reduceEqDiff, and_self, and_true, true_and, if_true, Nat.le_refl, Nat.zero_add, Nat.add_zero, Nat.zero_mul, reduceIte, if_false] <;> rfl))) rfl fun q5 h5 u wq => ?_
      have rkk := wq.rdl u 0 (by rw [List.append_nil]; rfl)
      refine MDelete_ok (l := Ky) (ks := [y.2]) (rk.st u) (by omega) hd1 (by omega) (by have := rkk; simpa using this) (by simp) fun w1 w2 E6 h6 s6 r6 => ?_
      rw [hK] at r6
      have r6 : Rdl 2 h6 w2 (ldel lt Ky (y.2, 0)).length ((ldel lt Ky (y.2, 0)).flatMap encA) := r6
      refine r_ext rfl ?_
      refine r_ext rfl ?_
      have I' := I.hit hN1 hyk
      rw [et, hPl] at I'
      have hdl : (ldel lt Ky (y.2, 0)).length ≤ Ky.length := (ldel_sub _ _).length_le
      exact fin haT (asc_of_sub haK (ldel_sub _ _)) (by omega) (by omega) ((rt.st u).st s6) r6 ((s.join u).join s6) I'
    | none =>
      have hyk : lget ltK T (k, 0) = none := hy
      refine r_if (fun e => absurd e (by simp)) (fun _ => ?_)
      refine rt.lenV ?_
      refine r_cmpI ?_
      refine r_if (fun e => ?_) (fun e => ?_)
      · have hLN : L.length = N := by have : (T.length : Int) = N := by simpa using e
                                      omega
        obtain ⟨p, left, ek, I'⟩ := I.evict hN1 hyk hLN
        rw [et, hPl] at I'
        have u := St.start h4
        refine St.r_mkSl (sz := 1) (cs := [.bool false]) u (by ((simp only [fillV, fill1, Value.cells, zeros_succ, zeros_zero, List.size_toArray, List.length_cons, List.length_nil, List.length_append, List.take_succ_cons, List.take_zero, List.take_nil, List.drop_succ_cons, List.drop_zero, List.drop_nil, List.cons_append, List.nil_append, List.append_nil, Nat.reduceAdd, Nat.reduceMul, Nat.reduceLeDiff, Nat.reduceEqDiff, and_self, and_true, true_and, if_true, Nat.le_refl, Nat.zero_add, Nat.add_zero, Nat.zero_mul, reduceIte, if_false] <;> rfl))) rfl fun q5 h5 u wq => ?_
        have rkk := wq.rdl u 0 (by rw [List.append_nil]; rfl)
        refine MPops_ok (l := Ky) (rk.st u) (by omega) hd1 (by omega) (by have := rkk; simpa using this) fun w1 w2 E6 h6 s6 r6 r7 => ?_
        rw [hK, ek] at r6 r7
        have r7 : Rdl 2 h6 w2 left.length (left.flatMap encA) := r7
        refine r_ext rfl ?_
        refine r_ext rfl ?_
        refine r6.lenV ?_
        refine r_cmpI ?_
        refine r_if (fun e => absurd e (by simp)) (fun _ => ?_)
        unfold l_FnCache.j9
        refine r6.at (f := foundC) (n := 0) rfl foundCl rfl rfl (by simp) fun bf of hf => ?_
        have hf : Rw h6 bf of (foundC (some p)) := hf
        refine r_fld ?_
        refine r_fld ?_
        refine hf.load (j := 1) rfl ?_
        have u2 := St.start h6
        refine St.r_mkSl (sz := 1) (cs := [.int .i64 p.2]) u2 (by ((simp only [fillV, fill1, Value.cells, zeros_succ, zeros_zero, List.size_toArray, List.length_cons, List.length_nil, List.length_append, List.take_succ_cons, List.take_zero, List.take_nil, List.drop_succ_cons, List.drop_zero, List.drop_nil, List.cons_append, List.nil_append, List.append_nil, Nat.reduceAdd, Nat.reduceMul, Nat.reduceLeDiff, Nat.reduceEqDiff, and_self, and_true, true_and, if_true, Nat.le_refl, Nat.zero_add, Nat.add_zero, Nat.zero_mul, reduceIte, if_false] <;> rfl))) rfl fun q7 h7 u2 wq => ?_
        have rkk := wq.rdl u2 0 (by rw [List.append_nil]; rfl)
        refine MDelete_ok (l := T) (ks := [p.2]) (((rt.st u).st s6).st u2) (by omega) hd1 (by omega) (by have := rkk; simpa using this) (by simp) fun w3 w4 E8 h8 s8 r8 => ?_
        rw [hT] at r8
        have r8 : Rdl 2 h8 w4 (ldel lt T (p.2, 0)).length ((ldel lt T (p.2, 0)).flatMap encA) := r8
        refine r_ext rfl ?_
        refine r_ext rfl ?_
        have hdl : (ldel lt T (p.2, 0)).length ≤ T.length := (ldel_sub _ _).length_le
        have hll : left.length + 1 = Ky.length := by rw [ek]; rfl
        have hasl : Asc lt left := by rw [ek] at haK; exact (List.pairwise_cons.1 haK).2
        exact fin (asc_of_sub haT (ldel_sub _ _)) hasl (by omega) (by omega) r8 ((r7.st u2).st s8) ((((s.join u).join s6).join u2).join s8) I'
      · have hLN : L.length < N := by
          have : ¬ (T.length : Int) = N := by simpa using e
          omega
        have I' := I.room hyk hLN
        rw [et, hPl] at I'
        exact fin haT haK (by omega) (by omega) rt rk s I'
  · have hge : j = l.length := by have := of_decide_eq_false hge; omega
    unfold l_FnCache.j3
    exact live s
end Go.Proofs.Ytkkappjbcgnacaa.Ii
end
