/-
  Texts of this claim, laid together: KySi KxSi Wf Wp Wq.
  Conditions: as each of them tells.
-/
import Derived.Test.YtkkappjbcgnacaaRWPlacesB4
section
namespace Go.Proofs.Ytkkappjbcgnacaa.Si
open Go.Hp Go.Proofs.Ytkkappjbcgnacaa
set_option linter.unusedVariables false
set_option linter.unusedSimpArgs false
variable {h0 h : Heap} {Z E : List Rg} {Q : Value → Heap → Prop}

theorem found_at {lt : It → It → Bool} (o : Swo lt) {its : List It} {x : It} (ha : Asc lt its) {i : Nat} (hi : i < its.length) (h1 : lt x its[i] = false) (h2 : lt its[i] x = false) : pos lt its x = i ∧ (lget lt its x).isSome = true := by
  have hs : ∀ i j (hi : i < its.length) (hj : j < its.length), i < j → lt its[i] its[j] = true := fun i j hi hj hij => List.pairwise_iff_getElem.1 ha i j hi hj hij
  have e : pos lt its x = i := pos_uni (by omega) (fun j hj hjl => o.tr1 (hs j i hj hi hjl) h1) (fun _ => h2)
  refine ⟨e, ?_⟩
  unfold lget; rw [e, List.getElem?_eq_getElem hi, Option.bind_some, h1]; rfl
theorem PT.height_le {m : Nat} (hm : 3 ≤ m) : ∀ {k lo : Nat} {t : PT It k}, t.Fl m lo → 1 ≤ lo → k < t.items.length
  | 0, lo, t, f, hl => by have f : lo ≤ List.length (α := It) t := f.1; show 0 < List.length (α := It) t; omega
  | k + 1, lo, t, f, hl => by
    have h1 := f.1
    have h2 := f.2.2.1
    obtain ⟨c, r, e⟩ := head_of (l := t.2) (by omega)
    have hc := PT.height_le hm (f.2.2.2 c (by rw [e]; simp)) (by omega)
    have h3 : (inter t.1 (t.2.map PT.items)).length = _ := inter_length _ _
    show k + 1 < (inter t.1 (t.2.map PT.items)).length
    rw [h3, e]
    simp only [List.map_cons, List.sum_cons]
    omega
theorem Own.slcAll {α : Type} {f : α → List Value} {sz : Nat} (hf : ∀ x, (f x).length = sz) {K : Value → Prop} {v : Value} {b o : Nat} {L : List α} {sp : List Value} (w : Own sz v L.length b o (L.flatMap f) sp)
    (H : ∀ v', Own sz v' (L.drop 0).length b (o + 0 * sz) ((L.drop 0).flatMap f) sp → K v') : slc sz v none none none K := by
  have w0 := w
  obtain ⟨a, cap, e, h1, h2, h3, h4⟩ := w.ex
  subst e
  refine ⟨a, L.length, cap, 0, L.length, cap, rfl, rfl, rfl, rfl, H _ ?_⟩
  have ea : (if cap = 0 then a else a.map (·.add (0 * sz))) = a := by
    split
    · rfl
    · rw [Nat.zero_mul]; cases a <;> rfl
  rw [ea, List.drop_zero, Nat.zero_mul, Nat.add_zero, Nat.sub_zero, Nat.sub_zero]
  exact w0
/-- The counts along the first way down (or the last one), changed. -/
def bmp {It : Type} (sd : Bool) (δ : Int) : {h : Nat} → GT It h → GT It h
  | 0, d => ({ (d : Nd It) with cnt := Nd.cnt d + δ } : Nd It)
  | _ + 1, t => ({ t.1 with cnt := t.1.cnt + δ }, t.2.modify (if sd then t.2.length - 1 else 0) (bmp sd δ))
theorem bmp_id {It : Type} {sd : Bool} {δ : Int} : ∀ {h : Nat} (t : GT It h), (bmp sd δ t).id = t.id
  | 0, _ => rfl
  | _ + 1, _ => rfl
theorem modify_at {β : Type} {l : List β} {f : β → β} {c : β} {i : Nat} (hc : l[i]? = some c) : l.modify i f = l.set i (f c) := by
  obtain ⟨hi, rfl⟩ := List.getElem?_eq_some_iff.1 hc
  apply List.ext_getElem?
  intro j
  rw [List.getElem?_modify, List.getElem?_set]
  by_cases e : i = j
  · subst e; simp [hi, List.getElem?_eq_getElem hi]
  · simp [e]
/-- x is the first item (or the last one), R are the others. -/
def Ends (sd : Bool) (x : It) (R l : List It) : Prop := if sd then l = R ++ [x] else l = x :: R
theorem Ends.len {sd : Bool} {x : It} {R l : List It} (e : Ends sd x R l) : l.length = R.length + 1 := by
  unfold Ends at e; split at e <;> rw [e] <;> simp
theorem items_set {m lo k : Nat} {its : List It} {kids : List (PT It k)} {i : Nat} {c c' : PT It k} (fl : PT.Fl m lo (h := k + 1) (its, kids)) (hi : i ≤ its.length) (hc : kids[i]? = some c) (hc' : PT.Fl m (m / 2) c') :
    PT.Fl m lo (h := k + 1) (its, kids.set i c') ∧ ∃ A B, PT.items (h := k + 1) (its, kids) = A ++ (c.items ++ B) ∧ PT.items (h := k + 1) (its, kids.set i c') = A ++ (c'.items ++ B) ∧ (i = 0 → A = []) ∧ (i = its.length → B = []) := by
  have hkl : kids.length = its.length + 1 := fl.2.2.1
  have f' : PT.Fl m lo (h := k + 1) (its, kids.set i c') := by
    refine ⟨fl.1, fl.2.1, ?_, fun q hq => ?_⟩
    · show (kids.set i c').length = its.length + 1
      rw [List.length_set]; exact hkl
    · rcases List.mem_or_eq_of_mem_set (show q ∈ kids.set i c' from hq) with e | e
      · exact fl.2.2.2 q e
      · rw [e]; exact hc'
  refine ⟨f', lz (its.take i) ((kids.take i).map PT.items), rz (its.drop i) ((kids.drop (i + 1)).map PT.items), ?_, ?_, fun e => ?_, fun e => ?_⟩
  · obtain ⟨c0, h0, _, e⟩ := PT.around (t := ((its, kids) : PT It (k + 1))) fl hi
    have h0 : kids[i]? = some c0 := h0
    rw [hc] at h0
    rw [← Option.some.inj h0] at e
    exact e
  · obtain ⟨c0, h0, _, e⟩ := PT.around (t := ((its, kids.set i c') : PT It (k + 1))) f' hi
    have h0 : (kids.set i c')[i]? = some c0 := h0
    rw [List.getElem?_set_self (by omega)] at h0
    rw [← Option.some.inj h0] at e
    have e1 : (kids.set i c').take i = kids.take i := List.take_set_of_le (Nat.le_refl _)
    have e2 : (kids.set i c').drop (i + 1) = kids.drop (i + 1) := List.drop_set_of_lt (by omega)
    have e : PT.items (h := k + 1) (its, kids.set i c') = lz (its.take i) (((kids.set i c').take i).map PT.items) ++ (c'.items ++ rz (its.drop i) (((kids.set i c').drop (i + 1)).map PT.items)) := e
    rw [e1, e2] at e
    exact e
  · subst e; rfl
  · subst e; rw [List.drop_length]; rfl
theorem ends_del (o : Swo lt) {sd : Bool} {x : It} {R l : List It} (e : Ends sd x R l) (ha : Asc lt l) : lget lt l x = some x ∧ ldel lt l x = R := by
  obtain ⟨i, hi, hx, he⟩ : ∃ i, ∃ hi : i < l.length, l[i] = x ∧ l.eraseIdx i = R := by
    unfold Ends at e
    split at e
    · subst e; exact ⟨R.length, by simp, by simp, by rw [eraseIdx_at (P := R) (S := []) (y := x) rfl, List.append_nil]⟩
    · subst e; exact ⟨0, by simp, rfl, rfl⟩
  obtain ⟨p1, p2⟩ := found_at o ha hi (x := x) (by rw [hx]; exact o.irr x) (by rw [hx]; exact o.irr x)
  obtain ⟨y, hy⟩ := Option.isSome_iff_exists.1 p2
  obtain ⟨hp, h1, _, _⟩ := lget_some hy
  have h2 : l[pos lt l x]? = some x := by rw [p1, List.getElem?_eq_getElem hi, hx]
  rw [List.getElem?_eq_getElem hp, h1] at h2
  refine ⟨by rw [hy]; exact h2, ?_⟩
  rw [ldel_some hy, ← List.eraseIdx_eq_take_drop_succ, p1, he]
/-- What was taken out of l, and what is left. -/
def Popped (sd : Bool) (r : Option It) (l l' : List It) : Prop := match r with
  | none => l = [] ∧ l' = []
  | some x => Ends sd x l' l
/-- What is left to do behind the cut. -/
def popEnd (tb t6 : Nat) (h : Heap) (Q : Value → Heap → Prop) : Prop :=
  nilck (ptr tb 0) fun a => fld 3 a fun t90 => load1 t90 h fun t91 => arith (· - ·) t91 (.int .i64 1) fun t92 => nilck (ptr tb 0) fun b => fld 3 b fun t94 => store1 t94 t92 h fun h => nilck (ptr tb 0) fun c => fld 3 c fun t97 => load1 t97 h fun t98 =>
    cmpI (fun a b => a == b) t98 (.int .i64 0) fun t99 => ifV t99
      (nilck (ptr tb 0) fun d => fld 2 d fun t102 => store1 t102 (.pointer none) h fun h => fld 1 (ptr t6 0) fun t1 => load1 t1 h fun t2 => fld 0 (ptr t6 0) fun t3 => load1 t3 h fun t4 => Q (.tuple #[t2, t4, (.bool true)]) h)
      (fld 1 (ptr t6 0) fun t1 => load1 t1 h fun t2 => fld 0 (ptr t6 0) fun t3 => load1 t3 h fun t4 => Q (.tuple #[t2, t4, (.bool true)]) h)

namespace PopMin
/-- Back up: the counts as they were. -/
theorem up_pop {tr t5 : Value} {iso : Int} {m : Nat} (hm : m ≤ 1024) : ∀ {k : Nat} (c : GT It k) {lo : Nat} {E : List Rg} {h : Heap}, c.pt.Fl m lo → Gd iso c → c.pt.items.length ≤ 4611686018427387903 → St h0 Z ((bmp false (-1) c).all enc ++ E) h → (∀ h', St h0 Z (c.all enc ++ E) h' → Map_si_PopMin.j3 tr t5 h' Q) →
    LoopOk (fun c s h K1 => Map_si_PopMin.l5.b (c.getD 0 undef) (c.getD 1 undef) (s.getD 0 undef) h K1 Q) [tr, t5] k [ptr c.id 0] h
  | 0, (d : Nd It), lo, E, h, fl, g, hsz, s, H => by
    obtain ⟨own, n, is', cnt, its, iv, ib, io, isp, kb, kv', krb, kro, ksp⟩ := d
    intro K
    have s : St h0 Z ((n, 0, [.int .u64 is', .int .i64 (cnt + -1), iv, .pointer none]) :: (ib, io, its.flatMap enc ++ isp) :: E) h := s
    have hcn : cnt = its.length := g.cn
    have hsz : its.length ≤ 4611686018427387903 := hsz
    show Map_si_PopMin.l5.b tr t5 (ptr n 0) h K Q
    unfold Map_si_PopMin.l5.b
    refine r_nil ?_
    refine r_fld ?_
    refine St.r_load0 s 0 rfl rfl ?_
    refine r_add (z := cnt) (by rw [i64w (by omega) (by omega)]; omega) ?_
    refine r_nil ?_
    refine r_fld ?_
    refine St.r_store0 s 0 rfl (by simp) rfl ?_
    intro h s
    try simp only [List.set_cons_zero, List.set_cons_succ] at s
    refine leaf_ok (a := none) (s.get (k := 0) (j := 3) rfl (by simp)) ?_
    refine r_if (fun _ => ?_) (fun e => absurd e (by simp))
    exact H h s
  | k + 1, t, lo, E, h, fl, g, hsz, s, H => by
    obtain ⟨d, ts⟩ := t
    obtain ⟨own, n, is', cnt, its, iv, ib, io, isp, kb, kv', krb, kro, ksp⟩ := d
    intro K HK
    have hkl : ts.length = its.length + 1 := g.wf.2.2.1
    have wK : Own 1 kv' ts.length krb kro ((ts.map GT.id).map fun m => ptr m 0) ksp := g.wf.2.1
    have hcn : cnt = (PT.items (h := k + 1) (its, ts.map GT.pt)).length := g.cn.1
    have hsz : (PT.items (h := k + 1) (its, ts.map GT.pt)).length ≤ 4611686018427387903 := hsz
    obtain ⟨c, hc⟩ : ∃ c, ts[0]? = some c := ⟨ts[0]'(by omega), List.getElem?_eq_getElem (by omega)⟩
    have hcm := List.mem_of_getElem? hc
    have hcm2 : c.pt ∈ ts.map GT.pt := List.mem_map.2 ⟨c, hcm, rfl⟩
    have hfc : PT.Fl m (m / 2) c.pt := fl.2.2.2 _ hcm2
    have hlm : its.length ≤ m := fl.2.1
    have hcsz : c.pt.items.length ≤ 4611686018427387903 := by
      have h1 : (inter its ((ts.map GT.pt).map PT.items)).length = _ := inter_length _ _
      have h2 : (inter its ((ts.map GT.pt).map PT.items)).length ≤ 4611686018427387903 := hsz
      have h3 : c.pt.items.length ≤ (((ts.map GT.pt).map PT.items).map List.length).sum := mem_le_sum (by
        rw [List.map_map, List.map_map]; exact List.mem_map.2 ⟨c, hcm, rfl⟩)
      omega
    have s : St h0 Z ((n, 0, [.int .u64 is', .int .i64 (cnt + -1), iv, ptr kb 0]) :: (ib, io, its.flatMap enc ++ isp) :: (kb, 0, [kv']) :: (krb, kro, (((ts.modify (0) (bmp false (-1))).map GT.id).map fun m => ptr m 0) ++ ksp) :: ((ts.modify (0) (bmp false (-1))).flatMap (GT.all enc) ++ E)) h := s
    rw [modify_at hc, mfp] at s
    have hi := (List.getElem?_eq_some_iff.1 hc).1
    have hc' : (ts.set (0) (bmp false (-1) c))[0]? = some (bmp false (-1) c) := List.getElem?_set_self hi
    have etake : (ts.set (0) (bmp false (-1) c)).take (0) = ts.take (0) := List.take_set_of_le (Nat.le_refl _)
    have edrop : (ts.set (0) (bmp false (-1) c)).drop (0 + 1) = ts.drop (0 + 1) := List.drop_set_of_lt (by omega)
    rw [flat_at3 (GT.all enc) hc', etake, edrop, set_ids hc (bmp_id c)] at s
    show Map_si_PopMin.l5.b tr t5 (ptr n 0) h K Q
    unfold Map_si_PopMin.l5.b
    refine r_nil ?_
    refine r_fld ?_
    refine St.r_load0 s 0 rfl rfl ?_
    refine r_add (z := cnt) (by rw [i64w (by omega) (by omega)]; omega) ?_
    refine r_nil ?_
    refine r_fld ?_
    refine St.r_store0 s 0 rfl (by simp) rfl ?_
    intro h s
    try simp only [List.set_cons_zero, List.set_cons_succ] at s
    refine leaf_ok (a := some ⟨kb, 0, Option.none⟩) (s.get (k := 0) (j := 3) rfl (by simp)) ?_
    refine r_if (fun e => absurd e (by simp)) (fun _ => ?_)
    unfold Map_si_PopMin.j6
    refine r_nil ?_
    refine r_fld ?_
    refine St.r_load0 s 0 rfl rfl ?_
    refine r_nil ?_
    refine St.r_load0 s 2 rfl rfl ?_
    refine wK.idx (n := 0) rfl (by omega) ?_
    refine r_loadM1 s 3 rfl hc ?_
    have := up_pop (tr := tr) (t5 := t5) hm c (E := (n, 0, [.int .u64 is', .int .i64 cnt, iv, ptr kb 0]) :: (ib, io, its.flatMap enc ++ isp) :: (kb, 0, [kv']) :: (krb, kro, (ts.map GT.id).flatMap fp ++ ksp) :: ((ts.take (0)).flatMap (GT.all enc) ++ ((ts.drop (0 + 1)).flatMap (GT.all enc) ++ E))) hfc (g.kid hcm) hcsz (s.perm (by ((apply perm_rg; intro f; simp only [List.set_cons_zero, List.set_cons_succ, List.eraseIdx_cons_zero, List.eraseIdx_cons_succ, List.cons_append, List.nil_append, List.map_append, List.map_cons, List.map_nil, List.sum_append, List.sum_cons, List.sum_nil, List.map_flatMap, Nat.add_zero, Nat.zero_add]; ac_rfl)))) fun h' s => ?_
    · exact HK _ _ this
    · refine H h' ?_
      have s1 : St h0 Z ((n, 0, [.int .u64 is', .int .i64 cnt, iv, ptr kb 0]) :: (ib, io, its.flatMap enc ++ isp) :: (kb, 0, [kv']) :: (krb, kro, (ts.map GT.id).flatMap fp ++ ksp) :: (ts.flatMap (GT.all enc) ++ E)) h' := s.perm (by rw [flat_at3 (GT.all enc) hc]; ((apply perm_rg; intro f; simp only [List.set_cons_zero, List.set_cons_succ, List.eraseIdx_cons_zero, List.eraseIdx_cons_succ, List.cons_append, List.nil_append, List.map_append, List.map_cons, List.map_nil, List.sum_append, List.sum_cons, List.sum_nil, List.map_flatMap, Nat.add_zero, Nat.zero_add]; ac_rfl)))
      rw [← mfp] at s1
      exact s1
/-- Down the way: the item is cut off, or nothing but the counts has changed. -/
theorem down_pop {tb t5 m : Nat} {iso : Int} {ctr : Option Addr} (hT0 : (tb, 0, hd0 iso ctr) ∈ Z) (hT4 : (tb, 4, hd4 ((m / 2 : Nat) : Int) m) ∈ Z) (hm : m ≤ 1024) (hm3 : 3 ≤ m) : ∀ {k : Nat} (c : GT It k) {lo : Nat} {E : List Rg} {h : Heap}, 1 ≤ lo → (lo = m / 2 ∨ lo = 1) → c.pt.Fl m lo → Gd iso c → c.pt.items.length ≤ 4611686018427387903 → St h0 Z (c.all enc ++ ((t5, 0, enc emp) :: E)) h →
    (∀ (c' : GT It k) h' x R, Ends false x R c.pt.items → c'.pt.items = R → (c'.pt.Fl m lo ∨ (lo ≠ m / 2 ∧ R = [])) → c'.id = c.id → Gd iso c' → St h0 Z (c'.all enc ++ ((t5, 0, enc x) :: E)) h' → popEnd tb t5 h' Q) →
    (∀ h' x R, Ends false x R c.pt.items → St h0 Z ((bmp false (-1) c).all enc ++ ((t5, 0, enc x) :: E)) h' → Map_si_PopMin.j2 (ptr tb 0) (ptr t5 0) h' Q) →
    LoopOk (fun c s h K1 => Map_si_PopMin.l7.b (c.getD 0 undef) (c.getD 1 undef) (s.getD 0 undef) h K1 Q) [ptr tb 0, ptr t5 0] k [ptr c.id 0] h
  | 0, (d : Nd It), lo, E, h, hlo, hlo2, fl, g, hsz, s, H1, H2 => by
    obtain ⟨own, n, is', cnt, its, iv, ib, io, isp, kb, kv', krb, kro, ksp⟩ := d
    intro K
    have hw : own = true := g.mine
    have hiso : is' = iso := g.wf.2.1 hw
    subst hiso; subst hw
    have w : Own 2 iv its.length ib io (its.flatMap enc) isp := g.wf.1
    have s : St h0 Z ((n, 0, [.int .u64 is', .int .i64 cnt, iv, .pointer none]) :: (ib, io, its.flatMap enc ++ isp) :: (t5, 0, enc emp) :: E) h := s
    have hcn : cnt = its.length := g.cn
    have hl1 : lo ≤ its.length := fl.1
    have hl2 : its.length ≤ m := fl.2
    have hE : Ends false (its[0]'(by omega)) (its.eraseIdx (0)) its := by
      cases its with
      | nil => simp at hl1; omega
      | cons a r => rfl
    have hx : its[0]? = some (its[0]'(by omega)) := List.getElem?_eq_getElem (by omega)
    generalize hxg : its[0]'(by omega) = x at *
    show Map_si_PopMin.l7.b (ptr tb 0) (ptr t5 0) (ptr n 0) h K Q
    unfold Map_si_PopMin.l7.b
    refine r_nil ?_
    refine r_fld ?_
    refine St.r_load0 s 0 rfl rfl ?_
    refine r_sub (z := cnt + -1) (by rw [i64w (by omega) (by omega)]; omega) ?_
    refine r_nil ?_
    refine r_fld ?_
    refine St.r_store0 s 0 rfl (by simp) rfl ?_
    intro h s
    try simp only [List.set_cons_zero, List.set_cons_succ] at s
    refine leaf_ok (a := none) (s.get (k := 0) (j := 3) rfl (by simp)) ?_
    refine r_if (fun _ => ?_) (fun e => absurd e (by simp))
    refine r_nil ?_
    refine r_fld ?_
    refine St.r_load0 s 0 rfl rfl ?_
    refine w.idx (n := 0) rfl (by omega) ?_
    refine s.r_loadF encl 1 rfl hx ?_
    refine St.r_storeN0 s 2 rfl rfl (by simp) (enc1 x) ?_; intro h s
    have s : St h0 Z ((n, 0, [.int .u64 is', .int .i64 (cnt + -1), iv, .pointer none]) :: (ib, io, its.flatMap enc ++ isp) :: (t5, 0, enc x) :: E) h := s
    refine r_nil ?_
    refine r_fld ?_
    refine St.r_load0 s 0 rfl rfl ?_
    refine w.lenV ?_
    refine r_nil ?_
    refine r_fld ?_
    refine s.r_lz hT4 2 rfl rfl ?_
    refine r_cmpI ?_
    refine r_if (fun _ => H2 h x _ hE s) (fun hne => ?_)
    have hne : its.length ≠ m / 2 := by have := hne; simp at this; omega
    have hel : (its.eraseIdx (0)).length = its.length - 1 := by rw [List.length_eraseIdx, if_pos (by omega)]
    unfold Map_si_PopMin.j9
    refine r_nil ?_
    refine r_fld ?_
    refine St.r_load0 s 0 rfl rfl ?_
    refine Own.slcAll encl w fun dd wd => ?_
    refine r_nil ?_
    refine r_fld ?_
    refine St.r_load0 s 0 rfl rfl ?_
    refine (w.rdl s 1 rfl).slcLo encl (i := 1) rfl (by omega) fun src rs => ?_
    refine s.r_cpyF encl 1 (i := 0) (L := its) (M := its.drop 1) rfl wd (by simp) rs rfl (fun y _ => enc1 y) fun h s => ?_
    refine r_nil ?_
    refine r_fld ?_
    refine St.r_load0 s 0 rfl rfl ?_
    refine r_nil ?_
    refine r_fld ?_
    refine St.r_load0 s 0 rfl rfl ?_
    refine w.lenV ?_
    refine r_sub (z := ((its.length - 1 : Nat) : Int)) (by rw [i64w (by omega) (by omega)]; omega) ?_
    refine r_nil ?_
    refine r_fld ?_
    refine s.r_lzE hT4 0 (enc emp) rfl (by simp) rfl ?_
    have hdl := del_len its emp (i := 0) (by omega)
    have hX := hdl
    rw [List.length_set] at hX
    have her := del_erase its emp (i := 0) (by omega)
    refine w.idx (n := its.length - 1) rfl (by omega) ?_
    refine s.r_storeF encl 1 rfl (by rw [hX]; omega) (enc1 emp) ?_; intro h s
    refine r_nil ?_
    refine r_fld ?_
    refine St.r_load0 s 0 rfl rfl ?_
    refine r_nil ?_
    refine r_fld ?_
    refine St.r_load0 s 0 rfl rfl ?_
    refine w.lenV ?_
    refine r_sub (z := ((its.length - 1 : Nat) : Int)) (by rw [i64w (by omega) (by omega)]; omega) ?_
    refine (w.list encl hdl).slcHi encl rfl (by rw [hdl]; omega) fun iv2 w2 => ?_
    have s := s.del (f := enc) 1 rfl _ her
    rw [her] at w2
    refine r_nil ?_
    refine r_fld ?_
    refine St.r_store0 s 0 rfl (by simp) w2.one ?_; intro h s
    refine H1 (⟨true, n, is', cnt + -1, its.eraseIdx (0), iv2, ib, io, _, kb, kv', krb, kro, ksp⟩ : Nd It) h x _ hE rfl ?_ rfl (Gd.leaf w2 rfl rfl (by show cnt + -1 = ((its.eraseIdx (0)).length : Int); rw [hel, hcn]; omega)) s
    rcases Nat.lt_or_ge lo its.length with e | e
    · left
      show lo ≤ (its.eraseIdx (0)).length ∧ (its.eraseIdx (0)).length ≤ m
      rw [hel]; omega
    · right
      exact ⟨by omega, List.length_eq_zero_iff.1 (by rw [hel]; omega)⟩
  | k + 1, t, lo, E, h, hlo, hlo2, fl, g, hsz, s, H1, H2 => by
    obtain ⟨d, ts⟩ := t
    obtain ⟨own, n, is', cnt, its, iv, ib, io, isp, kb, kv', krb, kro, ksp⟩ := d
    intro K HK
    have hw : own = true := g.mine.1
    have hiso : is' = iso := g.wf.1.2.1 hw
    subst hiso; subst hw
    have hkl : ts.length = its.length + 1 := g.wf.2.2.1
    have wK : Own 1 kv' ts.length krb kro ((ts.map GT.id).map fun m => ptr m 0) ksp := g.wf.2.1
    have hcn : cnt = (PT.items (h := k + 1) (its, ts.map GT.pt)).length := g.cn.1
    have hsz : (PT.items (h := k + 1) (its, ts.map GT.pt)).length ≤ 4611686018427387903 := hsz
    have hlm : its.length ≤ m := fl.2.1
    have hl1 : lo ≤ its.length := fl.1
    obtain ⟨c, hc⟩ : ∃ c, ts[0]? = some c := ⟨ts[0]'(by omega), List.getElem?_eq_getElem (by omega)⟩
    have hcm := List.mem_of_getElem? hc
    have hcm2 : c.pt ∈ ts.map GT.pt := List.mem_map.2 ⟨c, hcm, rfl⟩
    have hfc : PT.Fl m (m / 2) c.pt := fl.2.2.2 _ hcm2
    have fl : PT.Fl m lo (h := k + 1) (its, ts.map GT.pt) := fl
    have hcsz : c.pt.items.length ≤ 4611686018427387903 := by
      have h1 : (inter its ((ts.map GT.pt).map PT.items)).length = _ := inter_length _ _
      have h2 : (inter its ((ts.map GT.pt).map PT.items)).length ≤ 4611686018427387903 := hsz
      have h3 : c.pt.items.length ≤ (((ts.map GT.pt).map PT.items).map List.length).sum := mem_le_sum (by
        rw [List.map_map, List.map_map]; exact List.mem_map.2 ⟨c, hcm, rfl⟩)
      omega
    have hc2 : ts[0]? = some c := by
      exact hc
    have hcp : (ts.map GT.pt)[0]? = some c.pt := by rw [List.getElem?_map, hc]; rfl
    have up : ∀ {x : It} {R0 : List It} (c' : PT It k), Ends false x R0 c.pt.items → c'.items = R0 → PT.Fl m (m / 2) c' → ∃ R, Ends false x R (PT.items (h := k + 1) (its, ts.map GT.pt)) ∧ PT.items (h := k + 1) (its, (ts.map GT.pt).set (0) c') = R ∧ PT.Fl m lo (h := k + 1) (its, (ts.map GT.pt).set (0) c') := fun {x R0} c' he hr hf => by
      obtain ⟨f', A, B, e1, e2, e3, e4⟩ := items_set fl (by omega : 0 ≤ its.length) hcp hf
      refine ⟨_, ?_, rfl, f'⟩
      rw [e1, e2, hr]
      have he : c.pt.items = x :: R0 := he
      show _ = x :: _
      rw [e3 rfl, he]; rfl
    have up0 : ∀ {x : It} {R0 : List It}, Ends false x R0 c.pt.items → ∃ R, Ends false x R (PT.items (h := k + 1) (its, ts.map GT.pt)) := fun {x R0} he => by
      obtain ⟨_, A, B, e1, _, e3, e4⟩ := items_set fl (by omega : 0 ≤ its.length) hcp hfc
      rw [e1]
      have he : c.pt.items = x :: R0 := he
      exact ⟨R0 ++ B, by rw [e3 rfl, he]; rfl⟩
    have s : St h0 Z ((n, 0, [.int .u64 is', .int .i64 cnt, iv, ptr kb 0]) :: (ib, io, its.flatMap enc ++ isp) :: (kb, 0, [kv']) :: (krb, kro, ((ts.map GT.id).map fun m => ptr m 0) ++ ksp) :: (ts.flatMap (GT.all enc) ++ ((t5, 0, enc emp) :: E))) h := s
    rw [mfp, flat_at3 (GT.all enc) hc] at s
    show Map_si_PopMin.l7.b (ptr tb 0) (ptr t5 0) (ptr n 0) h K Q
    unfold Map_si_PopMin.l7.b
    refine r_nil ?_
    refine r_fld ?_
    refine St.r_load0 s 0 rfl rfl ?_
    refine r_sub (z := cnt + -1) (by rw [i64w (by omega) (by omega)]; omega) ?_
    refine r_nil ?_
    refine r_fld ?_
    refine St.r_store0 s 0 rfl (by simp) rfl ?_
    intro h s
    try simp only [List.set_cons_zero, List.set_cons_succ] at s
    refine leaf_ok (a := some ⟨kb, 0, Option.none⟩) (s.get (k := 0) (j := 3) rfl (by simp)) ?_
    refine r_if (fun e => absurd e (by simp)) (fun _ => ?_)
    unfold Map_si_PopMin.j8
    refine r_nil ?_
    refine r_fld ?_
    refine St.r_load0 s 0 rfl rfl ?_
    refine r_nil ?_
    refine St.r_load0 s 2 rfl rfl ?_
    refine wK.idx (n := 0) rfl (by omega) ?_
    have hcell : cl h krb (kro + 0 * 1) = some (ptr c.id 0) := by
      have hid : (ts.map GT.id)[0]? = some c.id := by rw [List.getElem?_map, hc]; rfl
      obtain ⟨hi, he⟩ := List.getElem?_eq_some_iff.1 hid
      have := s.get (k := 3) (j := 0 * 1) rfl (by rw [List.length_append, flat_len fpl]; omega)
      rw [this, List.getElem?_append_left (by rw [flat_len fpl]; omega)]
      have h2 := flat_get (f := fp) fpl (ts.map GT.id) (0) hi 0 (by decide)
      rw [Nat.add_zero] at h2
      rw [h2, he]; rfl
    have hciso : cl h c.id 0 = some (.int .u64 is') := by
      have hown : c.nd.own = true := (g.kid hcm).mine.nd
      obtain ⟨a2, a3, a4, hmem⟩ := topIso (t := c)
      have hci : c.nd.iso = is' := by
        have := (g.kid hcm).wf
        cases k with
        | zero => exact this.2.1 hown
        | succ k => exact this.1.2.1 hown
      rw [hci] at hmem
      have hmm : (c.id, 0, [.int .u64 is', a2, a3, a4]) ∈ c.all enc ++ (ts.drop (0 + 1)).flatMap (GT.all enc) := List.mem_append.2 (.inl hmem)
      have hmm := List.mem_append.2 (.inr hmm : _ ∈ (ts.take (0)).flatMap (GT.all enc) ∨ _)
      have hmm := List.mem_append.2 (.inl hmm : _ ∨ _ ∈ (t5, 0, enc emp) :: E)
      have := (s.e _ (List.mem_cons_of_mem _ (List.mem_cons_of_mem _ (List.mem_cons_of_mem _ (List.mem_cons_of_mem _ hmm))))).1.at0 0 rfl
      exact this
    refine isoLoad_ok (n := c.id) (iso := is') (by have := s.getZ hT0 (j := 0) (by simp); simpa using this) hcell (fun _ => hciso) ?_
    have := down_pop (t5 := t5) hT0 hT4 hm hm3 c (E := (n, 0, [.int .u64 is', .int .i64 (cnt + -1), iv, ptr kb 0]) :: (ib, io, its.flatMap enc ++ isp) :: (kb, 0, [kv']) :: (krb, kro, (ts.map GT.id).flatMap fp ++ ksp) :: ((ts.take (0)).flatMap (GT.all enc) ++ ((ts.drop (0 + 1)).flatMap (GT.all enc) ++ E))) (by omega) (.inl rfl) hfc (g.kid hcm) hcsz (s.perm (by ((apply perm_rg; intro f; simp only [List.set_cons_zero, List.set_cons_succ, List.eraseIdx_cons_zero, List.eraseIdx_cons_succ, List.cons_append, List.nil_append, List.map_append, List.map_cons, List.map_nil, List.sum_append, List.sum_cons, List.sum_nil, List.map_flatMap, Nat.add_zero, Nat.zero_add]; ac_rfl)))) (fun c' h' x R0 a1 a2 a3 a4 a5 s => ?_) (fun h' x R0 a1 s => ?_)
    · exact HK _ _ this
    · have hf' : PT.Fl m (m / 2) c'.pt := by
        rcases a3 with e | e
        · exact e
        · exact absurd rfl e.1
      obtain ⟨R, u1, u2, u3⟩ := up c'.pt a1 a2 hf'
      have ept : (ts.set (0) c').map GT.pt = (ts.map GT.pt).set (0) c'.pt := by rw [List.map_set]
      have hi := (List.getElem?_eq_some_iff.1 hc).1
      have hc' : (ts.set (0) c')[0]? = some c' := List.getElem?_set_self hi
      have etake : (ts.set (0) c').take (0) = ts.take (0) := List.take_set_of_le (Nat.le_refl _)
      have edrop : (ts.set (0) c').drop (0 + 1) = ts.drop (0 + 1) := List.drop_set_of_lt (by omega)
      have hlen := u1.len
      refine H1 ((⟨true, n, is', cnt + -1, its, iv, ib, io, isp, kb, kv', krb, kro, ksp⟩ : Nd It), ts.set (0) c') h' x R u1 (by show PT.items (h := k + 1) (its, (ts.set (0) c').map GT.pt) = _; rw [ept]; exact u2) (.inl (by show PT.Fl m lo (h := k + 1) (its, (ts.set (0) c').map GT.pt); rw [ept]; exact u3)) rfl
        (Gd.setKid (d := ⟨true, n, is', cnt, its, iv, ib, io, isp, kb, kv', krb, kro, ksp⟩) g hc a4 a5 (by
          show cnt + -1 = ((PT.items (h := k + 1) (its, (ts.set (0) c').map GT.pt)).length : Int); rw [ept, u2]; omega)) ?_
      have s1 : St h0 Z ((n, 0, [.int .u64 is', .int .i64 (cnt + -1), iv, ptr kb 0]) :: (ib, io, its.flatMap enc ++ isp) :: (kb, 0, [kv']) :: (krb, kro, ((ts.set (0) c').map GT.id).flatMap fp ++ ksp) :: ((ts.set (0) c').flatMap (GT.all enc) ++ ((t5, 0, enc x) :: E))) h' :=
        s.perm (by rw [set_ids hc a4, flat_at3 (GT.all enc) hc', etake, edrop]; ((apply perm_rg; intro f; simp only [List.set_cons_zero, List.set_cons_succ, List.eraseIdx_cons_zero, List.eraseIdx_cons_succ, List.cons_append, List.nil_append, List.map_append, List.map_cons, List.map_nil, List.sum_append, List.sum_cons, List.sum_nil, List.map_flatMap, Nat.add_zero, Nat.zero_add]; ac_rfl)))
      rw [← mfp] at s1
      exact s1
    · obtain ⟨R, u1⟩ := up0 a1
      refine H2 h' x R u1 ?_
      have hi := (List.getElem?_eq_some_iff.1 hc2).1
      have hc' : (ts.set (0) (bmp false (-1) c))[0]? = some (bmp false (-1) c) := List.getElem?_set_self hi
      have etake : (ts.set (0) (bmp false (-1) c)).take (0) = ts.take (0) := by rw [List.take_set_of_le (Nat.le_refl _)]
      have edrop : (ts.set (0) (bmp false (-1) c)).drop (0 + 1) = ts.drop (0 + 1) := by rw [List.drop_set_of_lt (by omega)]
      have s1 : St h0 Z ((n, 0, [.int .u64 is', .int .i64 (cnt + -1), iv, ptr kb 0]) :: (ib, io, its.flatMap enc ++ isp) :: (kb, 0, [kv']) :: (krb, kro, ((ts.modify (0) (bmp false (-1))).map GT.id).flatMap fp ++ ksp) :: ((ts.modify (0) (bmp false (-1))).flatMap (GT.all enc) ++ ((t5, 0, enc x) :: E))) h' :=
        s.perm (by rw [modify_at hc2, set_ids hc2 (bmp_id c), flat_at3 (GT.all enc) hc', etake, edrop]; ((apply perm_rg; intro f; simp only [List.set_cons_zero, List.set_cons_succ, List.eraseIdx_cons_zero, List.eraseIdx_cons_succ, List.cons_append, List.nil_append, List.map_append, List.map_cons, List.map_nil, List.sum_append, List.sum_cons, List.sum_nil, List.map_flatMap, Nat.add_zero, Nat.zero_add]; ac_rfl)))
      rw [← mfp] at s1
      exact s1
theorem ok {tb m : Nat} {iso : Int} {ctr : Option Addr} {g : Rt} (M : MapOk m iso g) (hsz : (rPt g).items.length ≤ 4611686018427387903)
    (s : St h0 Z ((tb, 0, hdr iso ctr (rA g) (rPt g).items.length ((m / 2 : Nat) : Int) m) :: (rAll g ++ E)) h)
    (H : ∀ (r : Option It) (g' : Rt) h', Popped false r (rPt g).items (rPt g').items → MapOk m iso g' → St h0 Z ((tb, 0, hdr iso ctr (rA g') (rPt g').items.length ((m / 2 : Nat) : Int) m) :: (rAll g' ++ E)) h' → Q (.tuple #[kv (r.getD emp).1, vv (r.getD emp).2, .bool r.isSome]) h') :
    Map_si_PopMin.call #[ptr tb 0] h Q := by
  refine Map_si_PopMin.body _ _ _ ?_
  unfold Map_si_PopMin.sh
  cases g with
  | none =>
    refine r_nil ?_
    refine r_fld ?_
    refine St.r_load0 s 0 rfl rfl ?_
    refine r_eqNilP ?_
    refine r_if (fun _ => ?_) (fun e => absurd e (by simp [rA]))
    refine r_nil ?_
    refine r_fld ?_
    refine r_fld ?_
    refine St.r_load0 s 0 rfl rfl ?_
    refine r_nil ?_
    refine r_fld ?_
    refine r_fld ?_
    refine St.r_load0 s 0 rfl rfl ?_
    exact H none none h ⟨rfl, rfl⟩ M s
  | some t =>
    obtain ⟨k, t⟩ := t
    have hkk : k < t.pt.items.length := PT.height_le M.m3 (t := t.pt) M.fl (Nat.le_refl _)
    have s := hdr_cut s
    obtain ⟨s1, back⟩ := St.borrow (A := [(tb, 0, hd0 iso ctr), (tb, 4, hd4 ((m / 2 : Nat) : Int) m)]) (E := (tb, 2, [ptr t.id 0]) :: (tb, 3, [.int .i64 t.pt.items.length]) :: (t.all enc ++ E)) s
    have z0 : (tb, 0, hd0 iso ctr) ∈ [(tb, 0, hd0 iso ctr), (tb, 4, hd4 ((m / 2 : Nat) : Int) m)] ++ Z := List.mem_cons_self ..
    have z4 : (tb, 4, hd4 ((m / 2 : Nat) : Int) m) ∈ [(tb, 0, hd0 iso ctr), (tb, 4, hd4 ((m / 2 : Nat) : Int) m)] ++ Z := List.mem_cons_of_mem _ (List.mem_cons_self ..)
    have hgd : Gd iso t := M.gd
    have hfl : t.pt.Fl m 1 := M.fl
    have hasc : Asc lt t.pt.items := M.asc
    have hszt : t.pt.items.length ≤ 4611686018427387903 := hsz
    have s := s1
    refine r_nil ?_
    refine r_fld ?_
    refine s.r_loadI 0 0 rfl rfl rfl ?_
    refine r_eqNilP ?_
    refine r_if (fun e => absurd e (by simp)) (fun _ => ?_)
    unfold Map_si_PopMin.j1
    have hiso : ∀ {Z' E' : List Rg} {h : Heap}, St h0 Z' (t.all enc ++ E') h → cl h t.id 0 = some (.int .u64 iso) := fun s => by
      obtain ⟨a2, a3, a4, hmem⟩ := topIso (t := t)
      have hown := hgd.mine.nd
      have hci : t.nd.iso = iso := by
        have := hgd.wf
        cases k with
        | zero => exact this.2.1 hown
        | succ k => exact this.1.2.1 hown
      rw [hci] at hmem
      exact (s.e _ (List.mem_append.2 (.inl hmem))).1.at0 0 rfl
    refine r_nil ?_
    refine r_fld ?_
    refine isoLoad_ok (n := t.id) (iso := iso) (by have := s1.getZ z0 (j := 0) (by simp); simpa using this) (by have := s1.get (k := 0) (j := 0) rfl (by simp); simpa using this) (fun _ => hiso (s1.perm (E' := t.all enc ++ ((tb, 2, [ptr t.id 0]) :: (tb, 3, [.int .i64 t.pt.items.length]) :: E)) (by ((apply perm_rg; intro f; simp only [List.set_cons_zero, List.set_cons_succ, List.eraseIdx_cons_zero, List.eraseIdx_cons_succ, List.cons_append, List.nil_append, List.map_append, List.map_cons, List.map_nil, List.sum_append, List.sum_cons, List.sum_nil, List.map_flatMap, Nat.add_zero, Nat.zero_add]; ac_rfl))))) ?_
    refine s1.r_alloc fun t5 h s1 => ?_
    refine (down_pop (t5 := t5) z0 z4 M.m1 M.m3 t (E := (tb, 2, [ptr t.id 0]) :: (tb, 3, [.int .i64 t.pt.items.length]) :: E) (Nat.le_refl 1) (.inr rfl) hfl hgd hszt (s1.perm (by ((apply perm_rg; intro f; simp only [List.set_cons_zero, List.set_cons_succ, List.eraseIdx_cons_zero, List.eraseIdx_cons_succ, List.cons_append, List.nil_append, List.map_append, List.map_cons, List.map_nil, List.sum_append, List.sum_cons, List.sum_nil, List.map_flatMap, Nat.add_zero, Nat.zero_add]; ac_rfl)))) (fun c' h' x R a1 a2 a3 a4 a5 s => ?_) (fun h' x R a1 s => ?_)).loop
    · have hlen := a1.len
      unfold popEnd
      have s : St h0 ([(tb, 0, hd0 iso ctr), (tb, 4, hd4 ((m / 2 : Nat) : Int) m)] ++ Z) ((tb, 3, [.int .i64 t.pt.items.length]) :: (tb, 2, [ptr t.id 0]) :: (t5, 0, enc x) :: (c'.all enc ++ E)) h' := s.perm (by ((apply perm_rg; intro f; simp only [List.set_cons_zero, List.set_cons_succ, List.eraseIdx_cons_zero, List.eraseIdx_cons_succ, List.cons_append, List.nil_append, List.map_append, List.map_cons, List.map_nil, List.sum_append, List.sum_cons, List.sum_nil, List.map_flatMap, Nat.add_zero, Nat.zero_add]; ac_rfl)))
      refine r_nil ?_
      refine r_fld ?_
      refine s.r_load1 0 (o := 3) (j := 0) rfl rfl ?_
      refine r_sub (z := (R.length : Int)) (by rw [i64w (by omega) (by omega)]; omega) ?_
      refine r_nil ?_
      refine r_fld ?_
      refine St.r_store1 s 0 (o := 3) (j := 0) rfl (by simp) rfl ?_; intro h s
      refine r_nil ?_
      refine r_fld ?_
      refine s.r_load1 0 (o := 3) (j := 0) rfl rfl ?_
      refine r_cmpI ?_
      refine r_if (fun e => ?_) (fun e => ?_)
      · have hR : R = [] := by simpa using e
        subst hR
        refine r_nil ?_
        refine r_fld ?_
        refine St.r_store1 s 1 (o := 2) (j := 0) rfl (by simp) rfl ?_; intro h s
        refine r_fld (n := 1) ?_
        refine s.r_load1 2 (o := 0) (j := 1) rfl rfl ?_
        refine r_fld (n := 0) ?_
        refine s.r_load1 2 (o := 0) (j := 0) rfl rfl ?_
        refine H (some x) none h a1 (MapOk.none M.m3 M.m1 M.odd) ?_
        have s2 := back _ h s
        refine hdr_glue ?_
        exact (s2.perm (E' := (c'.all enc) ++ ((t5, 0, enc x) :: (tb, 0, hd0 iso ctr) :: (tb, 4, hd4 ((m / 2 : Nat) : Int) m) :: (tb, 2, [.pointer none]) :: (tb, 3, [.int .i64 (([] : List It).length : Nat)]) :: E)) (by ((apply perm_rg; intro f; simp only [List.set_cons_zero, List.set_cons_succ, List.eraseIdx_cons_zero, List.eraseIdx_cons_succ, List.cons_append, List.nil_append, List.map_append, List.map_cons, List.map_nil, List.sum_append, List.sum_cons, List.sum_nil, List.map_flatMap, Nat.add_zero, Nat.zero_add]; ac_rfl)))).sub (List.Sublist.trans (List.sublist_cons_self ..) (List.sublist_append_right _ _))
      · have hR : R ≠ [] := fun hR => by subst hR; simp at e
        refine r_fld (n := 1) ?_
        refine s.r_load1 2 (o := 0) (j := 1) rfl rfl ?_
        refine r_fld (n := 0) ?_
        refine s.r_load1 2 (o := 0) (j := 0) rfl rfl ?_
        have hf : c'.pt.Fl m 1 := by
          rcases a3 with e | e
          · exact e
          · exact absurd e.2 hR
        have hsub : Asc lt R := by
          have := (ends_del swo a1 hasc).2
          rw [← this]; exact asc_of_sub hasc (ldel_sub _ _)
        refine H (some x) (some ⟨k, c'⟩) h (by show Ends false x c'.pt.items t.pt.items; rw [a2]; exact a1) ⟨a5, hf, by show Asc lt c'.pt.items; rw [a2]; exact hsub, M.m3, M.m1, M.odd⟩ ?_
        have s2 := back _ h s
        show St h0 Z ((tb, 0, hdr iso ctr (some ⟨c'.id, 0, Option.none⟩) c'.pt.items.length ((m / 2 : Nat) : Int) m) :: (c'.all enc ++ E)) h
        refine hdr_glue ?_
        rw [a2, a4]
        exact (s2.perm (E' := (t5, 0, enc x) :: (tb, 0, hd0 iso ctr) :: (tb, 4, hd4 ((m / 2 : Nat) : Int) m) :: (tb, 2, [ptr t.id 0]) :: (tb, 3, [.int .i64 (R.length : Nat)]) :: (c'.all enc ++ E)) (by ((apply perm_rg; intro f; simp only [List.set_cons_zero, List.set_cons_succ, List.eraseIdx_cons_zero, List.eraseIdx_cons_succ, List.cons_append, List.nil_append, List.map_append, List.map_cons, List.map_nil, List.sum_append, List.sum_cons, List.sum_nil, List.map_flatMap, Nat.add_zero, Nat.zero_add]; ac_rfl)))).drop 1
    · obtain ⟨d1, d2⟩ := ends_del swo a1 hasc
      unfold Map_si_PopMin.j2
      have s : St h0 ([(tb, 0, hd0 iso ctr), (tb, 4, hd4 ((m / 2 : Nat) : Int) m)] ++ Z) ((tb, 2, [ptr t.id 0]) :: (tb, 3, [.int .i64 t.pt.items.length]) :: (t5, 0, enc x) :: ((bmp false (-1) t).all enc ++ E)) h' := s.perm (by ((apply perm_rg; intro f; simp only [List.set_cons_zero, List.set_cons_succ, List.eraseIdx_cons_zero, List.eraseIdx_cons_succ, List.cons_append, List.nil_append, List.map_append, List.map_cons, List.map_nil, List.sum_append, List.sum_cons, List.sum_nil, List.map_flatMap, Nat.add_zero, Nat.zero_add]; ac_rfl)))
      refine r_nil ?_
      refine r_fld ?_
      refine s.r_load1 0 (o := 2) (j := 0) rfl rfl ?_
      refine (up_pop M.m1 t (E := (tb, 2, [ptr t.id 0]) :: (tb, 3, [.int .i64 t.pt.items.length]) :: (t5, 0, enc x) :: E) hfl hgd hszt (s.perm (by ((apply perm_rg; intro f; simp only [List.set_cons_zero, List.set_cons_succ, List.eraseIdx_cons_zero, List.eraseIdx_cons_succ, List.cons_append, List.nil_append, List.map_append, List.map_cons, List.map_nil, List.sum_append, List.sum_cons, List.sum_nil, List.map_flatMap, Nat.add_zero, Nat.zero_add]; ac_rfl)))) fun h' s => ?_).loop
      have s2 := back ((tb, 2, [ptr t.id 0]) :: (tb, 3, [.int .i64 t.pt.items.length]) :: (t5, 0, enc x) :: (t.all enc ++ E)) h' (s.perm (by ((apply perm_rg; intro f; simp only [List.set_cons_zero, List.set_cons_succ, List.eraseIdx_cons_zero, List.eraseIdx_cons_succ, List.cons_append, List.nil_append, List.map_append, List.map_cons, List.map_nil, List.sum_append, List.sum_cons, List.sum_nil, List.map_flatMap, Nat.add_zero, Nat.zero_add]; ac_rfl))))
      have s4 : St h0 Z ((tb, 0, hd0 iso ctr) :: (tb, 4, hd4 ((m / 2 : Nat) : Int) m) :: (tb, 2, [ptr t.id 0]) :: (tb, 3, [.int .i64 t.pt.items.length]) :: (t5, 0, enc x) :: (t.all enc ++ E)) h' := s2
      have s5 : St h0 Z ((tb, 0, hdr iso ctr (rA (some ⟨k, t⟩)) (rPt (some ⟨k, t⟩)).items.length ((m / 2 : Nat) : Int) m) :: (t5, 0, enc x) :: (rAll (some ⟨k, t⟩) ++ E)) h' := hdr_glue s4
      unfold Map_si_PopMin.j3
      refine r_fld (n := 1) ?_
      refine s5.r_load1 1 (o := 0) (j := 1) rfl rfl ?_
      refine Delete_ok (x := x) (E := (t5, 0, enc x) :: E) M hsz (s5.perm (by ((apply perm_rg; intro f; simp only [List.set_cons_zero, List.set_cons_succ, List.eraseIdx_cons_zero, List.eraseIdx_cons_succ, List.cons_append, List.nil_append, List.map_append, List.map_cons, List.map_nil, List.sum_append, List.sum_cons, List.sum_nil, List.map_flatMap, Nat.add_zero, Nat.zero_add]; ac_rfl)))) fun g' h e1 M' s => ?_
      have s : St h0 Z ((t5, 0, enc x) :: (tb, 0, hdr iso ctr (rA g') (rPt g').items.length ((m / 2 : Nat) : Int) m) :: (rAll g' ++ E)) h := s.perm (by ((apply perm_rg; intro f; simp only [List.set_cons_zero, List.set_cons_succ, List.eraseIdx_cons_zero, List.eraseIdx_cons_succ, List.cons_append, List.nil_append, List.map_append, List.map_cons, List.map_nil, List.sum_append, List.sum_cons, List.sum_nil, List.map_flatMap, Nat.add_zero, Nat.zero_add]; ac_rfl)))
      have hl : lget lt (rPt (some ⟨k, t⟩)).items x = some x := d1
      rw [hl]
      refine r_ext rfl ?_
      refine r_ext rfl ?_
      refine r_if (fun _ => ?_) (fun e => absurd e (by simp))
      refine r_fld (n := 1) ?_
      refine s.r_load1 0 (o := 0) (j := 1) rfl rfl ?_
      refine H (some x) g' h ?_ M' (s.drop 1)
      show Ends false x (rPt g').items t.pt.items
      rw [e1]
      have : ldel lt (rPt (some ⟨k, t⟩)).items x = R := d2
      rw [this]; exact a1
end PopMin
end Go.Proofs.Ytkkappjbcgnacaa.Si
end
section
namespace Go.Proofs.Ytkkappjbcgnacaa.Si
open Go.Hp Go.Proofs.Ytkkappjbcgnacaa
set_option linter.unusedVariables false
set_option linter.unusedSimpArgs false
variable {h0 h : Heap} {Z E : List Rg} {Q : Value → Heap → Prop}

namespace DelAt
abbrev fu (i : Nat) : List Value := [.int .u8 (i : Nat)]
theorem ful (i : Nat) : (fu i).length = 1 := rfl
/-- A way down a tree: an index for each node on it. -/
def PathIn : List Nat → {k : Nat} → GT It k → Prop
  | [], _, _ => True
  | _ :: q, 0, _ => q = []
  | i :: q, _ + 1, t => ∃ c, t.2[i]? = some c ∧ PathIn q c
/-- The counts along a way down, changed. -/
def bmpP (δ : Int) : List Nat → {k : Nat} → GT It k → GT It k
  | [], _, t => t
  | _ :: _, 0, d => ({ (d : Nd It) with cnt := Nd.cnt d + δ } : Nd It)
  | i :: q, _ + 1, t => ({ t.1 with cnt := t.1.cnt + δ }, t.2.modify i (bmpP δ q))
theorem bmpP_id {δ : Int} : ∀ (q : List Nat) {k : Nat} (t : GT It k), (bmpP δ q t).id = t.id
  | [], _, _ => rfl
  | _ :: _, 0, _ => rfl
  | _ :: _, _ + 1, _ => rfl
/-- Back up: the counts as they were, and the hint as the way. -/
theorem up_at {tr t8 v : Value} {iso : Int} {m pb po : Nat} {P : List Nat} {sp : List Value} (hm : m ≤ 255) (w : Own 1 v P.length pb po (P.flatMap fu) sp) (hP : ∀ p ∈ P, p ≤ 255) (hPl : P.length ≤ 4611686018427387903) : ∀ (q : List Nat) {k : Nat} (c : GT It k) {lo j : Nat} {E : List Rg} {h : Heap} {nv : Value},
    c.pt.Fl m lo → Gd iso c → c.pt.items.length ≤ 4611686018427387903 → PathIn q c → P.drop j = q → j ≤ P.length → (q ≠ [] → nv = ptr c.id 0) → St h0 Z ((pb, po, P.flatMap fu ++ sp) :: ((bmpP (-1) q c).all enc ++ E)) h →
    (∀ h', St h0 Z ((pb, po, P.flatMap fu ++ sp) :: (c.all enc ++ E)) h' → Map_si_DeleteAt.j3 tr t8 h' Q) →
    LoopOk (fun c s h K1 => Map_si_DeleteAt.l5.b (c.getD 0 undef) (c.getD 1 undef) (c.getD 2 undef) (s.getD 0 undef) (s.getD 1 undef) h K1 Q) [tr, v, t8] q.length [nv, .int .i64 (j : Nat)] h := by
  intro q
  induction q with
  | nil =>
    intro k c lo j E h nv fl g hsz hp hq hj hnv s H
    have hjl : P.length ≤ j := List.drop_eq_nil_iff.1 hq
    intro K
    show Map_si_DeleteAt.l5.b tr v t8 nv (.int .i64 (j : Nat)) h K Q
    unfold Map_si_DeleteAt.l5.b
    refine w.lenV ?_
    refine r_cmpI ?_
    refine r_if (fun e => absurd (of_decide_eq_true e) (by omega)) (fun _ => ?_)
    exact H h s
  | cons i q ih =>
    intro k c lo j E h nv fl g hsz hp hq hj hnv s H
    have hjl : j < P.length := by
      rcases Nat.lt_or_ge j P.length with e | e
      · exact e
      · rw [List.drop_of_length_le e] at hq; cases hq
    have hd := List.drop_eq_getElem_cons hjl
    rw [hd] at hq
    have hi : P[j] = i := (List.cons.inj hq).1
    have hq' : P.drop (j + 1) = q := (List.cons.inj hq).2
    have hPi : P[j]? = some i := by rw [List.getElem?_eq_getElem hjl, hi]
    have hi255 : i ≤ 255 := hP i (by rw [← hi]; exact List.getElem_mem hjl)
    have hnv : nv = ptr c.id 0 := hnv (by simp)
    subst hnv
    intro K HK
    show Map_si_DeleteAt.l5.b tr v t8 (ptr c.id 0) (.int .i64 (j : Nat)) h K Q
    unfold Map_si_DeleteAt.l5.b
    refine w.lenV ?_
    refine r_cmpI ?_
    refine r_if (fun _ => ?_) (fun e => absurd (of_decide_eq_false e) (by omega))
    have main : ∀ {h : Heap}, St h0 Z ((pb, po, P.flatMap fu ++ sp) :: ((bmpP (-1) (i :: q) c).all enc ++ E)) h → Map_si_DeleteAt.j6 tr v t8 (ptr c.id 0) (.int .i64 (j : Nat)) h K Q := fun {h} s => by
      cases k with
      | zero =>
        obtain ⟨own, n, is', cnt, its, iv, ib, io, isp, kb, kv', krb, kro, ksp⟩ := (c : Nd It)
        have hqn : q = [] := hp
        subst hqn
        have s : St h0 Z ((pb, po, P.flatMap fu ++ sp) :: (n, 0, [.int .u64 is', .int .i64 (cnt + -1), iv, .pointer none]) :: (ib, io, its.flatMap enc ++ isp) :: E) h := s
        have hcn : cnt = its.length := g.cn
        have hsz : its.length ≤ 4611686018427387903 := hsz
        show Map_si_DeleteAt.j6 tr v t8 (ptr n 0) (.int .i64 (j : Nat)) h K Q
        unfold Map_si_DeleteAt.j6
        refine r_nil ?_
        refine r_fld ?_
        refine St.r_load0 s 1 rfl rfl ?_
        refine r_add (z := cnt) (by rw [i64w (by omega) (by omega)]; omega) ?_
        refine r_nil ?_
        refine r_fld ?_
        refine St.r_store0 s 1 rfl (by simp) rfl ?_; intro h s
        refine leaf_ok (a := none) (s.get (k := 1) (j := 3) rfl (by simp)) ?_
        refine r_not ?_
        refine r_if (fun e => absurd e (by simp)) (fun _ => ?_)
        unfold Map_si_DeleteAt.j7
        refine r_add1 (by omega) ?_
        exact HK _ _ (ih (k := 0) ((⟨own, n, is', cnt, its, iv, ib, io, isp, kb, kv', krb, kro, ksp⟩ : Nd It)) (E := E) fl g hsz trivial hq' hjl (fun e => absurd rfl e) s fun h' s => H h' s)
      | succ k =>
        obtain ⟨d, ts⟩ := c
        obtain ⟨own, n, is', cnt, its, iv, ib, io, isp, kb, kv', krb, kro, ksp⟩ := d
        obtain ⟨c, hc0, hp⟩ := hp
        have hc0 : ts[i]? = some c := hc0
        have hkl : ts.length = its.length + 1 := g.wf.2.2.1
        have wK : Own 1 kv' ts.length krb kro ((ts.map GT.id).map fun m => ptr m 0) ksp := g.wf.2.1
        have hcn : cnt = (PT.items (h := k + 1) (its, ts.map GT.pt)).length := g.cn.1
        have hsz : (PT.items (h := k + 1) (its, ts.map GT.pt)).length ≤ 4611686018427387903 := hsz
        have hcm := List.mem_of_getElem? hc0
        have hcm2 : c.pt ∈ ts.map GT.pt := List.mem_map.2 ⟨c, hcm, rfl⟩
        have hfc : PT.Fl m (m / 2) c.pt := fl.2.2.2 _ hcm2
        have hcsz : c.pt.items.length ≤ 4611686018427387903 := by
          have h1 : (inter its ((ts.map GT.pt).map PT.items)).length = _ := inter_length _ _
          have h2 : (inter its ((ts.map GT.pt).map PT.items)).length ≤ 4611686018427387903 := hsz
          have h3 : c.pt.items.length ≤ (((ts.map GT.pt).map PT.items).map List.length).sum := mem_le_sum (by
            rw [List.map_map, List.map_map]; exact List.mem_map.2 ⟨c, hcm, rfl⟩)
          omega
        have hi := (List.getElem?_eq_some_iff.1 hc0).1
        have s : St h0 Z ((pb, po, P.flatMap fu ++ sp) :: ((n, 0, [.int .u64 is', .int .i64 (cnt + -1), iv, ptr kb 0]) :: (ib, io, its.flatMap enc ++ isp) :: (kb, 0, [kv']) :: (krb, kro, (((ts.modify i (bmpP (-1) q)).map GT.id).map fun m => ptr m 0) ++ ksp) :: ((ts.modify i (bmpP (-1) q)).flatMap (GT.all enc) ++ E))) h := s
        rw [modify_at hc0, mfp] at s
        have hc' : (ts.set i (bmpP (-1) q c))[i]? = some (bmpP (-1) q c) := List.getElem?_set_self hi
        have etake : (ts.set i (bmpP (-1) q c)).take i = ts.take i := List.take_set_of_le (Nat.le_refl _)
        have edrop : (ts.set i (bmpP (-1) q c)).drop (i + 1) = ts.drop (i + 1) := List.drop_set_of_lt (by omega)
        rw [flat_at3 (GT.all enc) hc', etake, edrop, set_ids hc0 (bmpP_id q c)] at s
        show Map_si_DeleteAt.j6 tr v t8 (ptr n 0) (.int .i64 (j : Nat)) h K Q
        unfold Map_si_DeleteAt.j6
        refine r_nil ?_
        refine r_fld ?_
        refine St.r_load0 s 1 rfl rfl ?_
        refine r_add (z := cnt) (by rw [i64w (by omega) (by omega)]; omega) ?_
        refine r_nil ?_
        refine r_fld ?_
        refine St.r_store0 s 1 rfl (by simp) rfl ?_; intro h s
        refine leaf_ok (a := some ⟨kb, 0, Option.none⟩) (s.get (k := 1) (j := 3) rfl (by simp)) ?_
        refine r_not ?_
        refine r_if (fun _ => ?_) (fun e => absurd e (by simp))
        refine r_nil ?_
        refine r_fld ?_
        refine St.r_load0 s 1 rfl rfl ?_
        refine r_nil ?_
        refine St.r_load0 s 3 rfl rfl ?_
        refine w.idx (n := j) rfl hjl ?_
        refine s.r_load1F ful (r := 0) 0 rfl hPi rfl ?_
        refine wK.idx (n := i) rfl hi ?_
        refine r_loadM1 s 4 rfl hc0 ?_
        unfold Map_si_DeleteAt.j7
        refine r_add1 (by omega) ?_
        have := ih c (nv := ptr c.id 0) (E := (n, 0, [.int .u64 is', .int .i64 cnt, iv, ptr kb 0]) :: (ib, io, its.flatMap enc ++ isp) :: (kb, 0, [kv']) :: (krb, kro, (ts.map GT.id).flatMap fp ++ ksp) :: ((ts.take i).flatMap (GT.all enc) ++ ((ts.drop (i + 1)).flatMap (GT.all enc) ++ E))) hfc (g.kid hcm) hcsz hp hq' hjl (fun _ => rfl) (s.perm (by ((apply perm_rg; intro f; simp only [List.set_cons_zero, List.set_cons_succ, List.eraseIdx_cons_zero, List.eraseIdx_cons_succ, List.cons_append, List.nil_append, List.map_append, List.map_cons, List.map_nil, List.sum_append, List.sum_cons, List.sum_nil, List.map_flatMap, Nat.add_zero, Nat.zero_add]; ac_rfl)))) fun h' s => ?_
        · exact HK _ _ this
        · refine H h' ?_
          have s1 : St h0 Z ((pb, po, P.flatMap fu ++ sp) :: ((n, 0, [.int .u64 is', .int .i64 cnt, iv, ptr kb 0]) :: (ib, io, its.flatMap enc ++ isp) :: (kb, 0, [kv']) :: (krb, kro, (ts.map GT.id).flatMap fp ++ ksp) :: (ts.flatMap (GT.all enc) ++ E))) h' := s.perm (by rw [flat_at3 (GT.all enc) hc0]; ((apply perm_rg; intro f; simp only [List.set_cons_zero, List.set_cons_succ, List.eraseIdx_cons_zero, List.eraseIdx_cons_succ, List.cons_append, List.nil_append, List.map_append, List.map_cons, List.map_nil, List.sum_append, List.sum_cons, List.sum_nil, List.map_flatMap, Nat.add_zero, Nat.zero_add]; ac_rfl)))
          rw [← mfp] at s1
          exact s1
    exact main s
theorem topCnt {iso : Int} : ∀ {k : Nat} {t : GT It k}, Gd iso t → ∃ a1 a2 a3, (t.id, 0, [a1, Value.int .i64 t.pt.items.length, a2, a3]) ∈ t.all enc
  | 0, d, g => by
    have e : (Nd.cnt d : Int) = ((Nd.its d).length : Nat) := g.cn
    refine ⟨.int .u64 (Nd.iso d), Nd.iv d, .pointer none, ?_⟩
    show (Nd.n d, 0, [_, Value.int .i64 ((Nd.its d).length : Nat), _, _]) ∈ Nd.leaf enc d
    rw [← e]; exact List.mem_cons_self ..
  | k + 1, t, g => by
    have e : t.1.cnt = (GT.pt (h := k + 1) t).items.length := g.cn.1
    refine ⟨.int .u64 t.1.iso, t.1.iv, ptr t.1.kb 0, ?_⟩
    rw [← e]
    exact List.mem_append_left _ (List.mem_cons_self ..)
theorem items_set2 {m lo k : Nat} {its : List It} {kids : List (PT It k)} {i : Nat} {c c' : PT It k} (fl : PT.Fl m lo (h := k + 1) (its, kids)) (hi : i ≤ its.length) (hc : kids[i]? = some c) (hc' : PT.Fl m (m / 2) c') :
    PT.Fl m lo (h := k + 1) (its, kids.set i c') ∧ PT.items (h := k + 1) (its, kids.set i c') = lz (its.take i) ((kids.take i).map PT.items) ++ (c'.items ++ rz (its.drop i) ((kids.drop (i + 1)).map PT.items)) := by
  have hkl : kids.length = its.length + 1 := fl.2.2.1
  have f' : PT.Fl m lo (h := k + 1) (its, kids.set i c') := by
    refine ⟨fl.1, fl.2.1, ?_, fun q hq => ?_⟩
    · show (kids.set i c').length = its.length + 1
      rw [List.length_set]; exact hkl
    · rcases List.mem_or_eq_of_mem_set (show q ∈ kids.set i c' from hq) with e | e
      · exact fl.2.2.2 q e
      · rw [e]; exact hc'
  refine ⟨f', ?_⟩
  obtain ⟨c0, h0, _, e⟩ := PT.around (t := ((its, kids.set i c') : PT It (k + 1))) f' hi
  have h0 : (kids.set i c')[i]? = some c0 := h0
  rw [List.getElem?_set_self (by omega)] at h0
  rw [← Option.some.inj h0] at e
  have e1 : (kids.set i c').take i = kids.take i := List.take_set_of_le (Nat.le_refl _)
  have e2 : (kids.set i c').drop (i + 1) = kids.drop (i + 1) := List.drop_set_of_lt (by omega)
  have e : PT.items (h := k + 1) (its, kids.set i c') = lz (its.take i) (((kids.set i c').take i).map PT.items) ++ (c'.items ++ rz (its.drop i) (((kids.set i c').drop (i + 1)).map PT.items)) := e
  rw [e1, e2] at e
  exact e
theorem erase_mid {α : Type} {A C B : List α} {r : Nat} (hr : r < C.length) : (A ++ (C ++ B)).eraseIdx (A.length + r) = A ++ (C.eraseIdx r ++ B) := by
  rw [List.eraseIdx_append_of_length_le (by omega), Nat.add_sub_cancel_left, List.eraseIdx_append_of_lt_length hr]
/-- Down the way to an index: the item is cut off its leaf, or nothing but the counts has changed. -/
theorem down_at {tb t8 m : Nat} {iso : Int} {ctr : Option Addr} {x : It} (hT0 : (tb, 0, hd0 iso ctr) ∈ Z) (hT4 : (tb, 4, hd4 ((m / 2 : Nat) : Int) m) ∈ Z) (hm : m ≤ 255) (hm3 : 3 ≤ m) : ∀ {k : Nat} (c : GT It k) {lo i b ofs : Nat} {P : List Nat} {v : Value} {sp : List Value} {E : List Rg} {h : Heap},
    1 ≤ lo → (lo = m / 2 ∨ lo = 1) → c.pt.Fl m lo → Gd iso c → c.pt.items.length ≤ 4611686018427387903 → c.pt.items[i]? = some x → (∀ p ∈ P, p ≤ 255) → P.length + k ≤ 1099511627776 → Own 1 v P.length b ofs (P.flatMap fu) sp → St h0 Z ((t8, 0, enc emp) :: (b, ofs, P.flatMap fu ++ sp) :: (c.all enc ++ E)) h →
    (∀ (c' : GT It k) h' rg, c'.pt.items = c.pt.items.eraseIdx i → (c'.pt.Fl m lo ∨ (lo ≠ m / 2 ∧ c'.pt.items = [])) → c'.id = c.id → Gd iso c' → St h0 Z ((t8, 0, enc x) :: rg :: (c'.all enc ++ E)) h' → popEnd tb t8 h' Q) →
    (∀ h' q v' b' o' sp', PathIn q c → q ≠ [] → (∀ p ∈ P ++ q, p ≤ 255) → q.length ≤ k + 1 → Own 1 v' (P ++ q).length b' o' ((P ++ q).flatMap fu) sp' → St h0 Z ((t8, 0, enc x) :: (b', o', (P ++ q).flatMap fu ++ sp') :: ((bmpP (-1) q c).all enc ++ E)) h' → Map_si_DeleteAt.j2 (ptr tb 0) v' (ptr t8 0) h' Q) →
    LoopOk (fun c s h K1 => Map_si_DeleteAt.l8.b (c.getD 0 undef) (c.getD 1 undef) (s.getD 0 undef) (s.getD 1 undef) (s.getD 2 undef) h K1 Q) [ptr tb 0, ptr t8 0] k [.int .i64 (i : Nat), v, ptr c.id 0] h
  | 0, (d : Nd It), lo, i, b, ofs, P, v, sp, E, h, hlo, hlo2, fl, g, hsz, hx, hP, hPl, wv, s, H1, H2 => by
    obtain ⟨own, n, is', cnt, its, iv, ib, io, isp, kb, kv', krb, kro, ksp⟩ := d
    intro K
    have hw : own = true := g.mine
    have hiso : is' = iso := g.wf.2.1 hw
    subst hiso; subst hw
    have w : Own 2 iv its.length ib io (its.flatMap enc) isp := g.wf.1
    have s : St h0 Z ((t8, 0, enc emp) :: (b, ofs, P.flatMap fu ++ sp) :: (n, 0, [.int .u64 is', .int .i64 cnt, iv, .pointer none]) :: (ib, io, its.flatMap enc ++ isp) :: E) h := s
    have hcn : cnt = its.length := g.cn
    have hl1 : lo ≤ its.length := fl.1
    have hl2 : its.length ≤ m := fl.2
    have hx : its[i]? = some x := hx
    obtain ⟨hi, hxe⟩ := List.getElem?_eq_some_iff.1 hx
    show Map_si_DeleteAt.l8.b (ptr tb 0) (ptr t8 0) (.int .i64 (i : Nat)) v (ptr n 0) h K Q
    unfold Map_si_DeleteAt.l8.b
    refine r_nil ?_
    refine r_fld ?_
    refine St.r_load0 s 2 rfl rfl ?_
    refine r_sub (z := cnt + -1) (by rw [i64w (by omega) (by omega)]; omega) ?_
    refine r_nil ?_
    refine r_fld ?_
    refine St.r_store0 s 2 rfl (by simp) rfl ?_; intro h s
    refine leaf_ok (a := none) (s.get (k := 2) (j := 3) rfl (by simp)) ?_
    refine r_if (fun _ => ?_) (fun e => absurd e (by simp))
    refine r_nil ?_
    refine r_fld ?_
    refine St.r_load0 s 2 rfl rfl ?_
    refine w.idx (n := i) rfl hi ?_
    refine s.r_loadF encl 3 rfl hx ?_
    refine St.r_storeN0 s 0 rfl rfl (by simp) (enc1 x) ?_; intro h s
    have s : St h0 Z ((t8, 0, enc x) :: (b, ofs, P.flatMap fu ++ sp) :: (n, 0, [.int .u64 is', .int .i64 (cnt + -1), iv, .pointer none]) :: (ib, io, its.flatMap enc ++ isp) :: E) h := s
    refine r_nil ?_
    refine r_fld ?_
    refine St.r_load0 s 2 rfl rfl ?_
    refine w.lenV ?_
    refine r_nil ?_
    refine r_fld ?_
    refine s.r_lz hT4 2 rfl rfl ?_
    refine r_cmpI ?_
    refine r_if (fun _ => ?_) (fun hne => ?_)
    · refine r_cvI (z := (i : Int)) (by show (i : Int) % 256 = i; omega) ?_
      refine St.r_mkSl (sz := 1) (cs := fu i) s (by ((simp only [fillV, fill1, Value.cells, zeros_succ, zeros_zero, List.size_toArray, List.length_cons, List.length_nil, List.length_append, List.take_succ_cons, List.take_zero, List.take_nil, List.drop_succ_cons, List.drop_zero, List.drop_nil, List.cons_append, List.nil_append, List.append_nil, Nat.reduceAdd, Nat.reduceMul, Nat.reduceLeDiff, Nat.reduceEqDiff, and_self, and_true, true_and, if_true, Nat.le_refl, Nat.zero_add, Nat.add_zero, Nat.zero_mul, reduceIte, if_false] <;> rfl))) rfl fun q h s w1 => ?_
      refine s.r_appL (f := fu) (L := P) (M := [i]) 2 rfl wv rfl (by have := w1.rdl s 0 rfl; simpa using this) (fun _ _ => by simp [one1]) (by rw [List.length_singleton]; omega) (by rw [List.length_singleton]; omega) fun v' b' o' sp' h s w' => ?_
      refine H2 h [i] v' b' o' sp' rfl (by simp) (fun p hp => ?_) (Nat.le_refl _) w' (s.drop 1)
      rcases List.mem_append.1 hp with e | e
      · exact hP p e
      · rw [List.mem_singleton.1 e]; omega
    · have hne : its.length ≠ m / 2 := by have := hne; simp at this; omega
      have hel : (its.eraseIdx i).length = its.length - 1 := by rw [List.length_eraseIdx, if_pos hi]
      have hdl := del_len its emp hi
      have hX := hdl
      rw [List.length_set] at hX
      have her := del_erase its emp hi
      unfold Map_si_DeleteAt.j15
      refine r_nil ?_
      refine r_fld ?_
      refine St.r_load0 s 2 rfl rfl ?_
      refine w.slcLo encl (i := i) rfl (by omega) fun dd wd => ?_
      refine r_nil ?_
      refine r_fld ?_
      refine St.r_load0 s 2 rfl rfl ?_
      refine r_add1 (by omega) ?_
      refine (w.rdl s 3 rfl).slcLo encl (i := i + 1) rfl (by omega) fun src rs => ?_
      refine s.r_cpyF encl 3 (i := i) (L := its) (M := its.drop (i + 1)) rfl wd (by simp; omega) rs rfl (fun y _ => enc1 y) fun h s => ?_
      refine r_nil ?_
      refine r_fld ?_
      refine St.r_load0 s 2 rfl rfl ?_
      refine r_nil ?_
      refine r_fld ?_
      refine St.r_load0 s 2 rfl rfl ?_
      refine w.lenV ?_
      refine r_sub (z := ((its.length - 1 : Nat) : Int)) (by rw [i64w (by omega) (by omega)]; omega) ?_
      refine r_nil ?_
      refine r_fld ?_
      refine s.r_lzE hT4 0 (enc emp) rfl (by simp) rfl ?_
      refine w.idx (n := its.length - 1) rfl (by omega) ?_
      refine s.r_storeF encl 3 rfl (by rw [hX]; omega) (enc1 emp) ?_; intro h s
      refine r_nil ?_
      refine r_fld ?_
      refine St.r_load0 s 2 rfl rfl ?_
      refine r_nil ?_
      refine r_fld ?_
      refine St.r_load0 s 2 rfl rfl ?_
      refine w.lenV ?_
      refine r_sub (z := ((its.length - 1 : Nat) : Int)) (by rw [i64w (by omega) (by omega)]; omega) ?_
      refine (w.list encl hdl).slcHi encl rfl (by rw [hdl]; omega) fun iv2 w2 => ?_
      have s := s.del (f := enc) 3 rfl _ her
      rw [her] at w2
      refine r_nil ?_
      refine r_fld ?_
      refine St.r_store0 s 2 rfl (by simp) w2.one ?_; intro h s
      refine H1 (⟨true, n, is', cnt + -1, its.eraseIdx i, iv2, ib, io, _, kb, kv', krb, kro, ksp⟩ : Nd It) h _ rfl ?_ rfl (Gd.leaf w2 rfl rfl (by show cnt + -1 = ((its.eraseIdx i).length : Int); rw [hel, hcn]; omega)) s
      rcases Nat.lt_or_ge lo its.length with e | e
      · left
        show lo ≤ (its.eraseIdx i).length ∧ (its.eraseIdx i).length ≤ m
        rw [hel]; omega
      · right
        exact ⟨by omega, List.length_eq_zero_iff.1 (by show (its.eraseIdx i).length = 0; rw [hel]; omega)⟩
  | k + 1, t, lo, i, b, ofs, P, v, sp, E, h, hlo, hlo2, fl, g, hsz, hx, hP, hPl, wv, s, H1, H2 => by
    obtain ⟨d, ts⟩ := t
    obtain ⟨own, n, is', cnt, its, iv, ib, io, isp, kb, kv', krb, kro, ksp⟩ := d
    intro K HK
    have hw : own = true := g.mine.1
    have hiso : is' = iso := g.wf.1.2.1 hw
    subst hiso; subst hw
    have hkl : ts.length = its.length + 1 := g.wf.2.2.1
    have w : Own 2 iv its.length ib io (its.flatMap enc) isp := g.wf.1.1
    have wK : Own 1 kv' ts.length krb kro ((ts.map GT.id).map fun m => ptr m 0) ksp := g.wf.2.1
    have hcn : cnt = (PT.items (h := k + 1) (its, ts.map GT.pt)).length := g.cn.1
    have hsz : (PT.items (h := k + 1) (its, ts.map GT.pt)).length ≤ 4611686018427387903 := hsz
    have hlm : its.length ≤ m := fl.2.1
    have hl1 : lo ≤ its.length := fl.1
    have fl : PT.Fl m lo (h := k + 1) (its, ts.map GT.pt) := fl
    have hx : (PT.items (h := k + 1) (its, ts.map GT.pt))[i]? = some x := hx
    obtain ⟨hil, _⟩ := List.getElem?_eq_some_iff.1 hx
    have s : St h0 Z ((t8, 0, enc emp) :: (b, ofs, P.flatMap fu ++ sp) :: (n, 0, [.int .u64 is', .int .i64 cnt, iv, ptr kb 0]) :: (ib, io, its.flatMap enc ++ isp) :: (kb, 0, [kv']) :: (krb, kro, ((ts.map GT.id).map fun m => ptr m 0) ++ ksp) :: (ts.flatMap (GT.all enc) ++ E)) h := s
    rw [mfp] at s
    have hpl : ∀ i, ((ts.take i).map fun t => t.pt.items) = (((ts.map GT.pt).take i).map PT.items) := fun i => by rw [← List.map_take, List.map_map]; rfl
    have hsplit : ∀ i (hi : i ≤ its.length) c, ts[i]? = some c → PT.items (h := k + 1) (its, ts.map GT.pt) = lz (its.take i) ((ts.take i).map fun t => t.pt.items) ++ (c.pt.items ++ rz (its.drop i) (((ts.map GT.pt).drop (i + 1)).map PT.items)) := by
      intro i hi c hc
      obtain ⟨c', hc', _, e⟩ := PT.around (t := ((its, ts.map GT.pt) : PT It (k + 1))) fl hi
      have hc' : (ts.map GT.pt)[i]? = some c' := hc'
      rw [List.getElem?_map, hc] at hc'
      have : c' = c.pt := (Option.some.inj hc').symm
      subst this
      rw [hpl]; exact e
    show Map_si_DeleteAt.l8.b (ptr tb 0) (ptr t8 0) (.int .i64 (i : Nat)) v (ptr n 0) h K Q
    unfold Map_si_DeleteAt.l8.b
    refine r_nil ?_
    refine r_fld ?_
    refine St.r_load0 s 2 rfl rfl ?_
    refine r_sub (z := cnt + -1) (by rw [i64w (by omega) (by omega)]; omega) ?_
    refine r_nil ?_
    refine r_fld ?_
    refine St.r_store0 s 2 rfl (by simp) rfl ?_; intro h s
    refine leaf_ok (a := some ⟨kb, 0, Option.none⟩) (s.get (k := 2) (j := 3) rfl (by simp)) ?_
    refine r_if (fun e => absurd e (by simp)) (fun _ => ?_)
    have s : St h0 Z ((t8, 0, enc emp) :: (b, ofs, P.flatMap fu ++ sp) :: (n, 0, [.int .u64 is', .int .i64 (cnt + -1), iv, ptr kb 0]) :: (ib, io, its.flatMap enc ++ isp) :: (kb, 0, [kv']) :: (krb, kro, (ts.map GT.id).flatMap fp ++ ksp) :: (ts.flatMap (GT.all enc) ++ E)) h := s
    unfold Map_si_DeleteAt.j9
    refine loop_ghost (fun q st h' => ∃ (j r : Nat), q = its.length - j ∧ j ≤ its.length ∧ st = [.int .i64 (r : Nat), v, .int .i64 (j : Nat)] ∧ r + (lz (its.take j) ((ts.take j).map fun t => t.pt.items)).length = i ∧ St h0 Z ((t8, 0, enc emp) :: (b, ofs, P.flatMap fu ++ sp) :: (n, 0, [.int .u64 is', .int .i64 (cnt + -1), iv, ptr kb 0]) :: (ib, io, its.flatMap enc ++ isp) :: (kb, 0, [kv']) :: (krb, kro, (ts.map GT.id).flatMap fp ++ ksp) :: (ts.flatMap (GT.all enc) ++ E)) h') (n0 := its.length) ⟨0, i, rfl, Nat.zero_le _, rfl, by simp [lz], s⟩ ?_
    clear s
    rintro q st h ⟨j, r, rfl, hj, rfl, hr, s⟩ K2 HK2
    obtain ⟨c, hc⟩ : ∃ c, ts[j]? = some c := ⟨ts[j]'(by omega), List.getElem?_eq_getElem (by omega)⟩
    have hcm := List.mem_of_getElem? hc
    have hcm2 : c.pt ∈ ts.map GT.pt := List.mem_map.2 ⟨c, hcm, rfl⟩
    have hfc : PT.Fl m (m / 2) c.pt := fl.2.2.2 _ hcm2
    have hs := hsplit j hj c hc
    have hsl := congrArg List.length hs
    simp only [List.length_append] at hsl
    have hcp : (ts.map GT.pt)[j]? = some c.pt := by rw [List.getElem?_map, hc]; rfl
    have hi2 : i = (lz (its.take j) ((ts.take j).map fun t => t.pt.items)).length + r := by omega
    -- on to the kid
    have go : r < c.pt.items.length → Map_si_DeleteAt.j10 (ptr tb 0) (.int .i64 (r : Nat)) v (ptr t8 0) (ptr n 0) (.int .i64 (j : Nat)) h K Q := fun hrc => by
      have hxc : c.pt.items[r]? = some x := by
        rw [hs, hi2, List.getElem?_append_right (Nat.le_add_right ..), Nat.add_sub_cancel_left, List.getElem?_append_left hrc] at hx
        exact hx
      unfold Map_si_DeleteAt.j10
      refine r_cvI (z := (j : Int)) (by show (j : Int) % 256 = j; omega) ?_
      refine St.r_mkSl (sz := 1) (cs := fu j) s (by ((simp only [fillV, fill1, Value.cells, zeros_succ, zeros_zero, List.size_toArray, List.length_cons, List.length_nil, List.length_append, List.take_succ_cons, List.take_zero, List.take_nil, List.drop_succ_cons, List.drop_zero, List.drop_nil, List.cons_append, List.nil_append, List.append_nil, Nat.reduceAdd, Nat.reduceMul, Nat.reduceLeDiff, Nat.reduceEqDiff, and_self, and_true, true_and, if_true, Nat.le_refl, Nat.zero_add, Nat.add_zero, Nat.zero_mul, reduceIte, if_false] <;> rfl))) rfl fun q h s w1 => ?_
      refine s.r_appL (f := fu) (L := P) (M := [j]) 2 rfl wv rfl (by have := w1.rdl s 0 rfl; simpa using this) (fun _ _ => by simp [one1]) (by rw [List.length_singleton]; omega) (by rw [List.length_singleton]; omega) fun v' b' o' sp' h s w' => ?_
      have s : St h0 Z ((t8, 0, enc emp) :: (b', o', (P ++ [j]).flatMap fu ++ sp') :: (n, 0, [.int .u64 is', .int .i64 (cnt + -1), iv, ptr kb 0]) :: (ib, io, its.flatMap enc ++ isp) :: (kb, 0, [kv']) :: (krb, kro, (ts.map GT.id).flatMap fp ++ ksp) :: (ts.flatMap (GT.all enc) ++ E)) h := s.drop 1
      rw [flat_at3 (GT.all enc) hc] at s
      refine r_nil ?_
      refine r_fld ?_
      refine St.r_load0 s 2 rfl rfl ?_
      refine r_nil ?_
      refine St.r_load0 s 4 rfl rfl ?_
      refine wK.idx (n := j) rfl (by omega) ?_
      have hcell : cl h krb (kro + j * 1) = some (ptr c.id 0) := by
        have hid : (ts.map GT.id)[j]? = some c.id := by rw [List.getElem?_map, hc]; rfl
        obtain ⟨hi, he⟩ := List.getElem?_eq_some_iff.1 hid
        have := s.get (k := 5) (j := j * 1) rfl (by rw [List.length_append, flat_len fpl]; omega)
        rw [this, List.getElem?_append_left (by rw [flat_len fpl]; omega)]
        have h2 := flat_get (f := fp) fpl (ts.map GT.id) j hi 0 (by decide)
        rw [Nat.add_zero] at h2
        rw [h2, he]; rfl
      have hciso : cl h c.id 0 = some (.int .u64 is') := by
        have hown : c.nd.own = true := (g.kid hcm).mine.nd
        obtain ⟨a2, a3, a4, hmem⟩ := topIso (t := c)
        have hci : c.nd.iso = is' := by
          have := (g.kid hcm).wf
          cases k with
          | zero => exact this.2.1 hown
          | succ k => exact this.1.2.1 hown
        rw [hci] at hmem
        have hmm : (c.id, 0, [.int .u64 is', a2, a3, a4]) ∈ c.all enc ++ (ts.drop (j + 1)).flatMap (GT.all enc) := List.mem_append.2 (.inl hmem)
        have hmm := List.mem_append.2 (.inr hmm : _ ∈ (ts.take j).flatMap (GT.all enc) ∨ _)
        have hmm := List.mem_append.2 (.inl hmm : _ ∨ _ ∈ E)
        exact (s.e _ (List.mem_cons_of_mem _ (List.mem_cons_of_mem _ (List.mem_cons_of_mem _ (List.mem_cons_of_mem _ (List.mem_cons_of_mem _ (List.mem_cons_of_mem _ hmm))))))).1.at0 0 rfl
      refine isoLoad_ok (n := c.id) (iso := is') (by have := s.getZ hT0 (j := 0) (by simp); simpa using this) hcell (fun _ => hciso) ?_
      have := down_at (t8 := t8) (x := x) hT0 hT4 hm hm3 c (lo := m / 2) (i := r) (P := P ++ [j]) (E := (n, 0, [.int .u64 is', .int .i64 (cnt + -1), iv, ptr kb 0]) :: (ib, io, its.flatMap enc ++ isp) :: (kb, 0, [kv']) :: (krb, kro, (ts.map GT.id).flatMap fp ++ ksp) :: ((ts.take j).flatMap (GT.all enc) ++ ((ts.drop (j + 1)).flatMap (GT.all enc) ++ E))) (by omega) (.inl rfl) hfc (g.kid hcm) (by omega) hxc (fun p hp => by
          rcases List.mem_append.1 hp with e | e
          · exact hP p e
          · rw [List.mem_singleton.1 e]; omega) (by rw [List.length_append, List.length_singleton]; omega) w' (s.perm (by ((apply perm_rg; intro f; simp only [List.set_cons_zero, List.set_cons_succ, List.eraseIdx_cons_zero, List.eraseIdx_cons_succ, List.cons_append, List.nil_append, List.map_append, List.map_cons, List.map_nil, List.sum_append, List.sum_cons, List.sum_nil, List.map_flatMap, Nat.add_zero, Nat.zero_add]; ac_rfl)))) (fun c' h' rg a2 a3 a4 a5 s => ?_) (fun h' q v2 b2 o2 sp2 a1 a2 a3 a4 w2 s => ?_)
      · exact HK _ _ this
      · have hf' : PT.Fl m (m / 2) c'.pt := by
          rcases a3 with e | e
          · exact e
          · exact absurd rfl e.1
        obtain ⟨u3, u2⟩ := items_set2 fl hj hcp hf'
        have ept : (ts.set j c').map GT.pt = (ts.map GT.pt).set j c'.pt := by rw [List.map_set]
        have eit : PT.items (h := k + 1) (its, (ts.map GT.pt).set j c'.pt) = (PT.items (h := k + 1) (its, ts.map GT.pt)).eraseIdx i := by
          rw [u2, hs, a2, ← hpl, hi2, erase_mid hrc]
        have hi := (List.getElem?_eq_some_iff.1 hc).1
        have hc' : (ts.set j c')[j]? = some c' := List.getElem?_set_self hi
        have etake : (ts.set j c').take j = ts.take j := List.take_set_of_le (Nat.le_refl _)
        have edrop : (ts.set j c').drop (j + 1) = ts.drop (j + 1) := List.drop_set_of_lt (by omega)
        refine H1 ((⟨true, n, is', cnt + -1, its, iv, ib, io, isp, kb, kv', krb, kro, ksp⟩ : Nd It), ts.set j c') h' rg (by show PT.items (h := k + 1) (its, (ts.set j c').map GT.pt) = _; rw [ept]; exact eit) (.inl (by show PT.Fl m lo (h := k + 1) (its, (ts.set j c').map GT.pt); rw [ept]; exact u3)) rfl
          (Gd.setKid (d := ⟨true, n, is', cnt, its, iv, ib, io, isp, kb, kv', krb, kro, ksp⟩) g hc a4 a5 (by
            show cnt + -1 = ((PT.items (h := k + 1) (its, (ts.set j c').map GT.pt)).length : Int); rw [ept, eit, List.length_eraseIdx, if_pos hil]; omega)) ?_
        have s1 : St h0 Z ((t8, 0, enc x) :: rg :: ((n, 0, [.int .u64 is', .int .i64 (cnt + -1), iv, ptr kb 0]) :: (ib, io, its.flatMap enc ++ isp) :: (kb, 0, [kv']) :: (krb, kro, ((ts.set j c').map GT.id).flatMap fp ++ ksp) :: ((ts.set j c').flatMap (GT.all enc) ++ E))) h' :=
          s.perm (by rw [set_ids hc a4, flat_at3 (GT.all enc) hc', etake, edrop]; ((apply perm_rg; intro f; simp only [List.set_cons_zero, List.set_cons_succ, List.eraseIdx_cons_zero, List.eraseIdx_cons_succ, List.cons_append, List.nil_append, List.map_append, List.map_cons, List.map_nil, List.sum_append, List.sum_cons, List.sum_nil, List.map_flatMap, Nat.add_zero, Nat.zero_add]; ac_rfl)))
        rw [← mfp] at s1
        exact s1
      · rw [List.append_assoc] at a3 w2 s
        refine H2 h' (j :: q) v2 b2 o2 sp2 ⟨c, hc, a1⟩ (by simp) a3 (by simp; omega) w2 ?_
        have hi := (List.getElem?_eq_some_iff.1 hc).1
        have hc' : (ts.set j (bmpP (-1) q c))[j]? = some (bmpP (-1) q c) := List.getElem?_set_self hi
        have etake : (ts.set j (bmpP (-1) q c)).take j = ts.take j := List.take_set_of_le (Nat.le_refl _)
        have edrop : (ts.set j (bmpP (-1) q c)).drop (j + 1) = ts.drop (j + 1) := List.drop_set_of_lt (by omega)
        have s1 : St h0 Z ((t8, 0, enc x) :: (b2, o2, (P ++ ([j] ++ q)).flatMap fu ++ sp2) :: ((n, 0, [.int .u64 is', .int .i64 (cnt + -1), iv, ptr kb 0]) :: (ib, io, its.flatMap enc ++ isp) :: (kb, 0, [kv']) :: (krb, kro, ((ts.modify j (bmpP (-1) q)).map GT.id).flatMap fp ++ ksp) :: ((ts.modify j (bmpP (-1) q)).flatMap (GT.all enc) ++ E))) h' :=
          s.perm (by rw [modify_at hc, set_ids hc (bmpP_id q c), flat_at3 (GT.all enc) hc', etake, edrop]; ((apply perm_rg; intro f; simp only [List.set_cons_zero, List.set_cons_succ, List.eraseIdx_cons_zero, List.eraseIdx_cons_succ, List.cons_append, List.nil_append, List.map_append, List.map_cons, List.map_nil, List.sum_append, List.sum_cons, List.sum_nil, List.map_flatMap, Nat.add_zero, Nat.zero_add]; ac_rfl)))
        rw [← mfp] at s1
        exact s1
    show Map_si_DeleteAt.l11.b (ptr tb 0) (ptr t8 0) (ptr n 0) (.int .i64 (r : Nat)) v (.int .i64 (j : Nat)) h K K2 Q
    unfold Map_si_DeleteAt.l11.b
    refine r_nil ?_
    refine r_fld ?_
    refine St.r_load0 s 2 rfl rfl ?_
    refine w.lenV ?_
    refine r_cmpI ?_
    refine r_if (fun hlt => ?_) (fun hge => ?_)
    · have hlt : j < its.length := by have := of_decide_eq_true hlt; omega
      have et : its.take (j + 1) = its.take j ++ [its[j]] := List.take_succ_eq_append_getElem hlt
      have ek : ts.take (j + 1) = ts.take j ++ [c] := by rw [List.take_add_one, hc]; rfl
      have ez : lz (its.take (j + 1)) ((ts.take (j + 1)).map fun t => t.pt.items) = lz (its.take j) ((ts.take j).map fun t => t.pt.items) ++ (c.pt.items ++ [its[j]]) := by
        rw [et, ek, List.map_append, List.map_cons, List.map_nil, lz_snoc _ _ _ _ (by simp; omega)]
      obtain ⟨rest, hrest⟩ : ∃ rest, rz (its.drop j) (((ts.map GT.pt).drop (j + 1)).map PT.items) = its[j] :: rest := by
        have e1 : its.drop j = its[j] :: its.drop (j + 1) := List.drop_eq_getElem_cons hlt
        have e2 : (ts.map GT.pt).drop (j + 1) = (ts.map GT.pt)[j + 1]'(by simp; omega) :: (ts.map GT.pt).drop (j + 1 + 1) := List.drop_eq_getElem_cons (by simp; omega)
        rw [e1, e2, List.map_cons, rz_cons]; exact ⟨_, rfl⟩
      obtain ⟨a1, a2, a3, hmem⟩ := topCnt (g.kid hcm)
      have hmem2 : (c.id, 0, [a1, Value.int .i64 c.pt.items.length, a2, a3]) ∈ ((t8, 0, enc emp) :: (b, ofs, P.flatMap fu ++ sp) :: (n, 0, [.int .u64 is', .int .i64 (cnt + -1), iv, ptr kb 0]) :: (ib, io, its.flatMap enc ++ isp) :: (kb, 0, [kv']) :: (krb, kro, (ts.map GT.id).flatMap fp ++ ksp) :: (ts.flatMap (GT.all enc) ++ E)) ++ Z :=
        List.mem_append_left _ (List.mem_cons_of_mem _ (List.mem_cons_of_mem _ (List.mem_cons_of_mem _ (List.mem_cons_of_mem _ (List.mem_cons_of_mem _ (List.mem_cons_of_mem _ (List.mem_append_left _ (List.mem_flatMap.2 ⟨c, hcm, hmem⟩))))))))
      have kc : ∀ {K : Value → Prop}, K (.int .i64 c.pt.items.length) → load1 (ptr c.id (0 + 1)) h K := fun H => s.r_loadM (j := 1) hmem2 rfl H
      have kid : ∀ {K : Value → Prop}, K (ptr c.id 0) → nilck (ptr n 0) fun t145 => fld 3 t145 fun t146 => load1 t146 h fun t147 => nilck t147 fun t148 => load1 t148 h fun t149 => idx 1 t149 (.int .i64 (j : Nat)) fun t150 => load1 t150 h K := fun H => by
        refine r_nil ?_
        refine r_fld ?_
        refine St.r_load0 s 2 rfl rfl ?_
        refine r_nil ?_
        refine St.r_load0 s 4 rfl rfl ?_
        refine wK.idx (n := j) rfl (by omega) ?_
        exact r_loadM1 s 5 rfl hc H
      unfold Map_si_DeleteAt.j12
      refine kid ?_
      refine r_nil ?_
      refine r_fld ?_
      refine kc ?_
      refine r_cmpI ?_
      refine r_if (fun e => go (by have := of_decide_eq_true e; omega)) (fun e1 => ?_)
      have e1 := of_decide_eq_false e1
      refine kid ?_
      refine r_nil ?_
      refine r_fld ?_
      refine kc ?_
      refine r_cmpI ?_
      refine r_if (fun e2 => ?_) (fun e2 => ?_)
      · have e2 : r = c.pt.items.length := by have := e2; simp at this; omega
        have hxj : its[j] = x := by
          rw [hs, hi2, List.getElem?_append_right (Nat.le_add_right ..), Nat.add_sub_cancel_left, List.getElem?_append_right (by omega), e2, Nat.sub_self, hrest] at hx
          exact Option.some.inj hx
        refine r_nil ?_
        refine r_fld ?_
        refine St.r_load0 s 2 rfl rfl ?_
        refine w.idx (n := j) rfl hlt ?_
        refine s.r_loadF encl 3 rfl (List.getElem?_eq_getElem hlt) ?_
        rw [hxj]
        refine St.r_storeN0 s 0 rfl rfl (by simp) (enc1 x) ?_; intro h s
        have s : St h0 Z ((t8, 0, enc x) :: (b, ofs, P.flatMap fu ++ sp) :: (n, 0, [.int .u64 is', .int .i64 (cnt + -1), iv, ptr kb 0]) :: (ib, io, its.flatMap enc ++ isp) :: (kb, 0, [kv']) :: (krb, kro, (ts.map GT.id).flatMap fp ++ ksp) :: (ts.flatMap (GT.all enc) ++ E)) h := s
        refine r_cvI (z := (j : Int)) (by show (j : Int) % 256 = j; omega) ?_
        refine St.r_mkSl (sz := 1) (cs := fu j) s (by ((simp only [fillV, fill1, Value.cells, zeros_succ, zeros_zero, List.size_toArray, List.length_cons, List.length_nil, List.length_append, List.take_succ_cons, List.take_zero, List.take_nil, List.drop_succ_cons, List.drop_zero, List.drop_nil, List.cons_append, List.nil_append, List.append_nil, Nat.reduceAdd, Nat.reduceMul, Nat.reduceLeDiff, Nat.reduceEqDiff, and_self, and_true, true_and, if_true, Nat.le_refl, Nat.zero_add, Nat.add_zero, Nat.zero_mul, reduceIte, if_false] <;> rfl))) rfl fun q h s w1 => ?_
        refine s.r_appL (f := fu) (L := P) (M := [j]) 2 rfl wv rfl (by have := w1.rdl s 0 rfl; simpa using this) (fun _ _ => by simp [one1]) (by rw [List.length_singleton]; omega) (by rw [List.length_singleton]; omega) fun v' b' o' sp' h s w' => ?_
        refine H2 h [j] v' b' o' sp' ⟨c, hc, trivial⟩ (by simp) (fun p hp => ?_) (by simp) w' ?_
        · rcases List.mem_append.1 hp with e | e
          · exact hP p e
          · rw [List.mem_singleton.1 e]; omega
        · have s1 : St h0 Z ((t8, 0, enc x) :: (b', o', (P ++ [j]).flatMap fu ++ sp') :: ((n, 0, [.int .u64 is', .int .i64 (cnt + -1), iv, ptr kb 0]) :: (ib, io, its.flatMap enc ++ isp) :: (kb, 0, [kv']) :: (krb, kro, ((ts.modify j (bmpP (-1) [])).map GT.id).flatMap fp ++ ksp) :: ((ts.modify j (bmpP (-1) [])).flatMap (GT.all enc) ++ E))) h := by
            have em : ts.modify j (bmpP (-1) []) = ts := by
              rw [modify_at hc]
              obtain ⟨hi, he⟩ := List.getElem?_eq_some_iff.1 hc
              show ts.set j c = ts
              rw [← he, List.set_getElem_self]
            rw [em]
            exact s.drop 1
          rw [← mfp] at s1
          exact s1
      · have e2 : r ≠ c.pt.items.length := by have := e2; simp at this; omega
        unfold Map_si_DeleteAt.j14
        refine kid ?_
        refine r_nil ?_
        refine r_fld ?_
        refine kc ?_
        refine r_add1 (by omega) ?_
        refine r_sub (z := ((r - (c.pt.items.length + 1) : Nat) : Int)) (by rw [i64w (by omega) (by omega)]; omega) ?_
        unfold Map_si_DeleteAt.j13
        refine r_add1 (by omega) ?_
        refine HK2 (its.length - (j + 1)) _ _ (by omega) ⟨j + 1, r - (c.pt.items.length + 1), rfl, hlt, rfl, ?_, s⟩
        rw [ez]; simp only [List.length_append, List.length_singleton]; omega
    · have hge : j = its.length := by have := of_decide_eq_false hge; omega
      subst hge
      refine go ?_
      have hr0 : rz (its.drop its.length) (((ts.map GT.pt).drop (its.length + 1)).map PT.items) = [] := by rw [List.drop_length]; rfl
      rw [hr0, List.length_nil] at hsl
      omega
theorem r_slcA0 {b : Nat} {K : Value → Prop} (H : K (.slice (some ⟨b, 0, none⟩) 0 8)) : slcA 8 1 (ptr b 0) none (some (.int .i64 0)) K :=
  ⟨⟨b, 0, none⟩, 0, 0, rfl, ⟨.i64, 0, rfl, by omega, by omega, by simp⟩, rfl, H⟩
/-- What is at an index, and what is left without it. -/
def AtI (i : Int) (r : Option It) (l l' : List It) : Prop := (¬ (0 ≤ i ∧ i < l.length) ∧ r = none ∧ l' = l) ∨ (∃ (n : Nat) (x : It), i = n ∧ l[n]? = some x ∧ r = some x ∧ l' = l.eraseIdx n)
theorem DeleteAt_ok {tb m : Nat} {iso i : Int} {ctr : Option Addr} {g : Rt} (M : MapOk m iso g) (hm : m ≤ 255) (hsz : (rPt g).items.length ≤ 4294967296)
    (s : St h0 Z ((tb, 0, hdr iso ctr (rA g) (rPt g).items.length ((m / 2 : Nat) : Int) m) :: (rAll g ++ E)) h)
    (H : ∀ (r : Option It) (g' : Rt) h', AtI i r (rPt g).items (rPt g').items → MapOk m iso g' → St h0 Z ((tb, 0, hdr iso ctr (rA g') (rPt g').items.length ((m / 2 : Nat) : Int) m) :: (rAll g' ++ E)) h' → Q (.tuple #[kv (r.getD emp).1, vv (r.getD emp).2, .bool r.isSome]) h') :
    Map_si_DeleteAt.call #[ptr tb 0, .int .i64 i] h Q := by
  refine Map_si_DeleteAt.body _ _ _ _ ?_
  unfold Map_si_DeleteAt.sh
  have out : ¬ (0 ≤ i ∧ i < (rPt g).items.length) → nilck (ptr tb 0) fun t29 => fld 4 t29 fun t30 => fld 1 t30 fun t31 => load1 t31 h fun t32 => nilck (ptr tb 0) fun t34 => fld 4 t34 fun t35 => fld 0 t35 fun t36 => load1 t36 h fun t37 => Q (.tuple #[t32, t37, (.bool false)]) h := fun hn => by
    refine r_nil ?_
    refine r_fld ?_
    refine r_fld ?_
    refine St.r_load0 s 0 rfl rfl ?_
    refine r_nil ?_
    refine r_fld ?_
    refine r_fld ?_
    refine St.r_load0 s 0 rfl rfl ?_
    exact H none g h (.inl ⟨hn, rfl, rfl⟩) M s
  refine r_nil ?_
  refine r_fld ?_
  refine St.r_load0 s 0 rfl rfl ?_
  refine r_eqNilP ?_
  refine r_br (fun e0 => ?_) (fun e0 => out (by
    cases g with
    | none => show ¬ (0 ≤ i ∧ i < ((0 : Nat) : Int)); omega
    | some t => simp [rA] at e0))
  refine r_cmpI ?_
  refine r_br (fun e1 => ?_) (fun e1 => out (by have := of_decide_eq_true e1; omega))
  have e1 := of_decide_eq_false e1
  refine r_nil ?_
  refine r_fld ?_
  refine St.r_load0 s 0 rfl rfl ?_
  refine r_cmpI ?_
  refine r_if (fun e2 => out (by have := of_decide_eq_true e2; omega)) (fun e2 => ?_)
  have e2 := of_decide_eq_false e2
  clear out
  cases g with
  | none => simp [rA] at e0
  | some t =>
    obtain ⟨k, t⟩ := t
    have hszt0 : t.pt.items.length ≤ 4294967296 := hsz
    obtain ⟨n, rfl⟩ : ∃ n : Nat, i = n := ⟨i.toNat, by omega⟩
    have hn : n < t.pt.items.length := by
      have e2 : ¬ ((n : Int) ≥ (t.pt.items.length : Nat)) := e2
      omega
    have hx : t.pt.items[n]? = some (t.pt.items[n]) := List.getElem?_eq_getElem hn
    generalize t.pt.items[n] = x at hx
    have hkk : k < t.pt.items.length := PT.height_le M.m3 (t := t.pt) M.fl (Nat.le_refl _)
    have s := hdr_cut s
    obtain ⟨s1, back⟩ := St.borrow (A := [(tb, 0, hd0 iso ctr), (tb, 4, hd4 ((m / 2 : Nat) : Int) m)]) (E := (tb, 2, [ptr t.id 0]) :: (tb, 3, [.int .i64 t.pt.items.length]) :: (t.all enc ++ E)) s
    have z0 : (tb, 0, hd0 iso ctr) ∈ [(tb, 0, hd0 iso ctr), (tb, 4, hd4 ((m / 2 : Nat) : Int) m)] ++ Z := List.mem_cons_self ..
    have z4 : (tb, 4, hd4 ((m / 2 : Nat) : Int) m) ∈ [(tb, 0, hd0 iso ctr), (tb, 4, hd4 ((m / 2 : Nat) : Int) m)] ++ Z := List.mem_cons_of_mem _ (List.mem_cons_self ..)
    have hgd : Gd iso t := M.gd
    have hfl : t.pt.Fl m 1 := M.fl
    have hasc : Asc lt t.pt.items := M.asc
    have hszt : t.pt.items.length ≤ 4611686018427387903 := by omega
    have hdel : lget lt t.pt.items x = some x ∧ ldel lt t.pt.items x = t.pt.items.eraseIdx n := by
      have hxe : t.pt.items[n] = x := (List.getElem?_eq_some_iff.1 hx).2
      obtain ⟨p1, p2⟩ := found_at swo hasc hn (x := x) (by rw [hxe]; exact swo.irr x) (by rw [hxe]; exact swo.irr x)
      obtain ⟨y, hy⟩ := Option.isSome_iff_exists.1 p2
      obtain ⟨hp, h1, _, _⟩ := lget_some hy
      have h2 : t.pt.items[pos lt t.pt.items x]? = some x := by rw [p1]; exact hx
      rw [List.getElem?_eq_getElem hp, h1] at h2
      refine ⟨by rw [hy]; exact h2, ?_⟩
      rw [ldel_some hy, ← List.eraseIdx_eq_take_drop_succ, p1]
    have s := s1
    unfold Map_si_DeleteAt.j1
    have hiso : ∀ {Z' E' : List Rg} {h : Heap}, St h0 Z' (t.all enc ++ E') h → cl h t.id 0 = some (.int .u64 iso) := fun s => by
      obtain ⟨a2, a3, a4, hmem⟩ := topIso (t := t)
      have hown := hgd.mine.nd
      have hci : t.nd.iso = iso := by
        have := hgd.wf
        cases k with
        | zero => exact this.2.1 hown
        | succ k => exact this.1.2.1 hown
      rw [hci] at hmem
      exact (s.e _ (List.mem_append.2 (.inl hmem))).1.at0 0 rfl
    refine s1.r_alloc fun t6 h s1 => ?_
    refine r_slcA0 ?_
    refine s1.r_alloc fun t8 h s1 => ?_
    refine r_nil ?_
    refine r_fld ?_
    have s1 : St h0 ([(tb, 0, hd0 iso ctr), (tb, 4, hd4 ((m / 2 : Nat) : Int) m)] ++ Z) ((t8, 0, enc emp) :: (t6, 0, ([] : List Nat).flatMap fu ++ [.int .u8 0, .int .u8 0, .int .u8 0, .int .u8 0, .int .u8 0, .int .u8 0, .int .u8 0, .int .u8 0]) :: (t.all enc ++ ((tb, 2, [ptr t.id 0]) :: (tb, 3, [.int .i64 t.pt.items.length]) :: E))) h := s1.perm (by ((apply perm_rg; intro f; simp only [List.set_cons_zero, List.set_cons_succ, List.eraseIdx_cons_zero, List.eraseIdx_cons_succ, List.cons_append, List.nil_append, List.map_append, List.map_cons, List.map_nil, List.sum_append, List.sum_cons, List.sum_nil, List.map_flatMap, Nat.add_zero, Nat.zero_add]; ac_rfl)))
    refine isoLoad_ok (n := t.id) (iso := iso) (by have := s1.getZ z0 (j := 0) (by simp); simpa using this) ?_ (fun _ => hiso (s1.perm (E' := t.all enc ++ ((t8, 0, enc emp) :: (t6, 0, ([] : List Nat).flatMap fu ++ [.int .u8 0, .int .u8 0, .int .u8 0, .int .u8 0, .int .u8 0, .int .u8 0, .int .u8 0, .int .u8 0]) :: (tb, 2, [ptr t.id 0]) :: (tb, 3, [.int .i64 t.pt.items.length]) :: E)) (by ((apply perm_rg; intro f; simp only [List.set_cons_zero, List.set_cons_succ, List.eraseIdx_cons_zero, List.eraseIdx_cons_succ, List.cons_append, List.nil_append, List.map_append, List.map_cons, List.map_nil, List.sum_append, List.sum_cons, List.sum_nil, List.map_flatMap, Nat.add_zero, Nat.zero_add]; ac_rfl))))) ?_
    · have s2 := s1.perm (E' := (tb, 2, [ptr t.id 0]) :: (t8, 0, enc emp) :: (t6, 0, ([] : List Nat).flatMap fu ++ [.int .u8 0, .int .u8 0, .int .u8 0, .int .u8 0, .int .u8 0, .int .u8 0, .int .u8 0, .int .u8 0]) :: (t.all enc ++ ((tb, 3, [.int .i64 t.pt.items.length]) :: E))) (by ((apply perm_rg; intro f; simp only [List.set_cons_zero, List.set_cons_succ, List.eraseIdx_cons_zero, List.eraseIdx_cons_succ, List.cons_append, List.nil_append, List.map_append, List.map_cons, List.map_nil, List.sum_append, List.sum_cons, List.sum_nil, List.map_flatMap, Nat.add_zero, Nat.zero_add]; ac_rfl)))
      have := s2.get (k := 0) (j := 0) rfl (by simp)
      simpa using this
    have w0 : Own 1 (.slice (some ⟨t6, 0, none⟩) 0 8) ([] : List Nat).length t6 0 (([] : List Nat).flatMap fu) [.int .u8 0, .int .u8 0, .int .u8 0, .int .u8 0, .int .u8 0, .int .u8 0, .int .u8 0, .int .u8 0] := ⟨_, 8, rfl, rfl, by simp, by simp, fun _ => rfl⟩
    refine (down_at (t8 := t8) (x := x) z0 z4 hm M.m3 t (i := n) (P := []) (E := (tb, 2, [ptr t.id 0]) :: (tb, 3, [.int .i64 t.pt.items.length]) :: E) (Nat.le_refl 1) (.inr rfl) hfl hgd (by omega) hx (fun p hp => absurd hp List.not_mem_nil) (by simp; omega) w0 s1 (fun c' h' rg a2 a3 a4 a5 s => ?_) (fun h' q v' b' o' sp' a1 a2 a3 a4 w s => ?_)).loop
    · have hlen : (t.pt.items.eraseIdx n).length = t.pt.items.length - 1 := by rw [List.length_eraseIdx, if_pos hn]
      generalize hR : t.pt.items.eraseIdx n = R at *
      unfold popEnd
      have s : St h0 ([(tb, 0, hd0 iso ctr), (tb, 4, hd4 ((m / 2 : Nat) : Int) m)] ++ Z) ((tb, 3, [.int .i64 t.pt.items.length]) :: (tb, 2, [ptr t.id 0]) :: (t8, 0, enc x) :: rg :: (c'.all enc ++ E)) h' := s.perm (by ((apply perm_rg; intro f; simp only [List.set_cons_zero, List.set_cons_succ, List.eraseIdx_cons_zero, List.eraseIdx_cons_succ, List.cons_append, List.nil_append, List.map_append, List.map_cons, List.map_nil, List.sum_append, List.sum_cons, List.sum_nil, List.map_flatMap, Nat.add_zero, Nat.zero_add]; ac_rfl)))
      refine r_nil ?_
      refine r_fld ?_
      refine s.r_load1 0 (o := 3) (j := 0) rfl rfl ?_
      refine r_sub (z := (R.length : Int)) (by rw [i64w (by omega) (by omega)]; omega) ?_
      refine r_nil ?_
      refine r_fld ?_
      refine St.r_store1 s 0 (o := 3) (j := 0) rfl (by simp) rfl ?_; intro h s
      refine r_nil ?_
      refine r_fld ?_
      refine s.r_load1 0 (o := 3) (j := 0) rfl rfl ?_
      refine r_cmpI ?_
      refine r_if (fun e => ?_) (fun e => ?_)
      · have hR0 : R = [] := by simpa using e
        subst hR0
        refine r_nil ?_
        refine r_fld ?_
        refine St.r_store1 s 1 (o := 2) (j := 0) rfl (by simp) rfl ?_; intro h s
        refine r_fld (n := 1) ?_
        refine s.r_load1 2 (o := 0) (j := 1) rfl rfl ?_
        refine r_fld (n := 0) ?_
        refine s.r_load1 2 (o := 0) (j := 0) rfl rfl ?_
        refine H (some x) none h (.inr ⟨n, x, rfl, hx, rfl, hR.symm⟩) (MapOk.none M.m3 M.m1 M.odd) ?_
        have s2 := back _ h s
        refine hdr_glue ?_
        exact (s2.perm (E' := (c'.all enc) ++ ((t8, 0, enc x) :: rg :: (tb, 0, hd0 iso ctr) :: (tb, 4, hd4 ((m / 2 : Nat) : Int) m) :: (tb, 2, [.pointer none]) :: (tb, 3, [.int .i64 (([] : List It).length : Nat)]) :: E)) (by ((apply perm_rg; intro f; simp only [List.set_cons_zero, List.set_cons_succ, List.eraseIdx_cons_zero, List.eraseIdx_cons_succ, List.cons_append, List.nil_append, List.map_append, List.map_cons, List.map_nil, List.sum_append, List.sum_cons, List.sum_nil, List.map_flatMap, Nat.add_zero, Nat.zero_add]; ac_rfl)))).sub (List.Sublist.trans (List.sublist_cons_self ..) (List.Sublist.trans (List.sublist_cons_self ..) (List.sublist_append_right _ _)))
      · have hR0 : R ≠ [] := fun hR => by subst hR; simp at e
        refine r_fld (n := 1) ?_
        refine s.r_load1 2 (o := 0) (j := 1) rfl rfl ?_
        refine r_fld (n := 0) ?_
        refine s.r_load1 2 (o := 0) (j := 0) rfl rfl ?_
        have hf : c'.pt.Fl m 1 := by
          rcases a3 with e | e
          · exact e
          · exact absurd (a2.symm.trans e.2) hR0
        have hsub : Asc lt R := by rw [← hdel.2]; exact asc_of_sub hasc (ldel_sub _ _)
        refine H (some x) (some ⟨k, c'⟩) h (.inr ⟨n, x, rfl, hx, rfl, by show c'.pt.items = _; rw [a2]; exact hR.symm⟩) ⟨a5, hf, by show Asc lt c'.pt.items; rw [a2]; exact hsub, M.m3, M.m1, M.odd⟩ ?_
        have s2 := back _ h s
        show St h0 Z ((tb, 0, hdr iso ctr (some ⟨c'.id, 0, Option.none⟩) c'.pt.items.length ((m / 2 : Nat) : Int) m) :: (c'.all enc ++ E)) h
        refine hdr_glue ?_
        rw [a2, a4]
        exact (s2.perm (E' := (t8, 0, enc x) :: rg :: (tb, 0, hd0 iso ctr) :: (tb, 4, hd4 ((m / 2 : Nat) : Int) m) :: (tb, 2, [ptr t.id 0]) :: (tb, 3, [.int .i64 (R.length : Nat)]) :: (c'.all enc ++ E)) (by ((apply perm_rg; intro f; simp only [List.set_cons_zero, List.set_cons_succ, List.eraseIdx_cons_zero, List.eraseIdx_cons_succ, List.cons_append, List.nil_append, List.map_append, List.map_cons, List.map_nil, List.sum_append, List.sum_cons, List.sum_nil, List.map_flatMap, Nat.add_zero, Nat.zero_add]; ac_rfl)))).drop 2
    · obtain ⟨d1, d2⟩ := hdel
      have w' : Own 1 v' q.length b' o' (q.flatMap fu) sp' := w
      have s : St h0 ([(tb, 0, hd0 iso ctr), (tb, 4, hd4 ((m / 2 : Nat) : Int) m)] ++ Z) ((tb, 2, [ptr t.id 0]) :: (tb, 3, [.int .i64 t.pt.items.length]) :: (t8, 0, enc x) :: (b', o', q.flatMap fu ++ sp') :: ((bmpP (-1) q t).all enc ++ E)) h' := s.perm (by simp only [List.nil_append]; ((apply perm_rg; intro f; simp only [List.set_cons_zero, List.set_cons_succ, List.eraseIdx_cons_zero, List.eraseIdx_cons_succ, List.cons_append, List.nil_append, List.map_append, List.map_cons, List.map_nil, List.sum_append, List.sum_cons, List.sum_nil, List.map_flatMap, Nat.add_zero, Nat.zero_add]; ac_rfl)))
      unfold Map_si_DeleteAt.j2
      refine r_nil ?_
      refine r_fld ?_
      refine s.r_load1 0 (o := 2) (j := 0) rfl rfl ?_
      refine (up_at (tr := ptr tb 0) (t8 := ptr t8 0) (v := v') hm w' a3 (by omega) q t (j := 0) (E := (tb, 2, [ptr t.id 0]) :: (tb, 3, [.int .i64 t.pt.items.length]) :: (t8, 0, enc x) :: E) hfl hgd (by omega) a1 rfl (Nat.zero_le _) (fun _ => rfl) (s.perm (by ((apply perm_rg; intro f; simp only [List.set_cons_zero, List.set_cons_succ, List.eraseIdx_cons_zero, List.eraseIdx_cons_succ, List.cons_append, List.nil_append, List.map_append, List.map_cons, List.map_nil, List.sum_append, List.sum_cons, List.sum_nil, List.map_flatMap, Nat.add_zero, Nat.zero_add]; ac_rfl)))) fun h' s => ?_).loop
      have s2 := back ((tb, 2, [ptr t.id 0]) :: (tb, 3, [.int .i64 t.pt.items.length]) :: (t8, 0, enc x) :: (b', o', q.flatMap fu ++ sp') :: (t.all enc ++ E)) h' (s.perm (by ((apply perm_rg; intro f; simp only [List.set_cons_zero, List.set_cons_succ, List.eraseIdx_cons_zero, List.eraseIdx_cons_succ, List.cons_append, List.nil_append, List.map_append, List.map_cons, List.map_nil, List.sum_append, List.sum_cons, List.sum_nil, List.map_flatMap, Nat.add_zero, Nat.zero_add]; ac_rfl))))
      have s4 : St h0 Z ((tb, 0, hd0 iso ctr) :: (tb, 4, hd4 ((m / 2 : Nat) : Int) m) :: (tb, 2, [ptr t.id 0]) :: (tb, 3, [.int .i64 t.pt.items.length]) :: (t8, 0, enc x) :: (b', o', q.flatMap fu ++ sp') :: (t.all enc ++ E)) h' := s2
      have s5 : St h0 Z ((tb, 0, hdr iso ctr (rA (some ⟨k, t⟩)) (rPt (some ⟨k, t⟩)).items.length ((m / 2 : Nat) : Int) m) :: (t8, 0, enc x) :: (b', o', q.flatMap fu ++ sp') :: (rAll (some ⟨k, t⟩) ++ E)) h' := hdr_glue s4
      unfold Map_si_DeleteAt.j3
      refine r_fld (n := 1) ?_
      refine s5.r_load1 1 (o := 0) (j := 1) rfl rfl ?_
      refine Delete_ok (x := x) (E := (t8, 0, enc x) :: (b', o', q.flatMap fu ++ sp') :: E) M (by omega) (s5.perm (by ((apply perm_rg; intro f; simp only [List.set_cons_zero, List.set_cons_succ, List.eraseIdx_cons_zero, List.eraseIdx_cons_succ, List.cons_append, List.nil_append, List.map_append, List.map_cons, List.map_nil, List.sum_append, List.sum_cons, List.sum_nil, List.map_flatMap, Nat.add_zero, Nat.zero_add]; ac_rfl)))) fun g' h e1 M' s => ?_
      have s : St h0 Z ((t8, 0, enc x) :: (b', o', q.flatMap fu ++ sp') :: (tb, 0, hdr iso ctr (rA g') (rPt g').items.length ((m / 2 : Nat) : Int) m) :: (rAll g' ++ E)) h := s.perm (by ((apply perm_rg; intro f; simp only [List.set_cons_zero, List.set_cons_succ, List.eraseIdx_cons_zero, List.eraseIdx_cons_succ, List.cons_append, List.nil_append, List.map_append, List.map_cons, List.map_nil, List.sum_append, List.sum_cons, List.sum_nil, List.map_flatMap, Nat.add_zero, Nat.zero_add]; ac_rfl)))
      have hl : lget lt (rPt (some ⟨k, t⟩)).items x = some x := d1
      rw [hl]
      refine r_ext rfl ?_
      refine r_ext rfl ?_
      refine r_if (fun _ => ?_) (fun e => absurd e (by simp))
      refine r_fld (n := 1) ?_
      refine s.r_load1 0 (o := 0) (j := 1) rfl rfl ?_
      refine H (some x) g' h (.inr ⟨n, x, rfl, hx, rfl, ?_⟩) M' (s.drop 2)
      rw [e1]; exact d2
end DelAt
end Go.Proofs.Ytkkappjbcgnacaa.Si
end
section
namespace Go.Proofs.Ytkkappjbcgnacaa.Si
open Go.Hp Go.Proofs.Ytkkappjbcgnacaa
set_option linter.unusedVariables false
set_option linter.unusedSimpArgs false
variable {h0 h : Heap} {Z E : List Rg} {Q : Value → Heap → Prop}

theorem fit_ok {d : Int} (H : Q (.bool (decide (2 ≤ d ∧ d ≤ 128))) h) : l_fit.call #[.int .i64 d] h Q := by
  refine l_fit.body _ _ _ ?_
  unfold l_fit.sh
  refine r_cmpI ?_
  refine r_br (fun h1 => ?_) (fun h1 => ?_)
  · have h1 : 0 < d := by simpa using h1
    refine s_Fits.body _ _ _ ?_
    unfold s_Fits.sh
    refine r_cmpI ?_
    refine r_br (fun h2 => ?_) (fun h2 => ?_)
    · refine r_cmpI ?_
      refine r_br (fun h3 => ?_) (fun h3 => ?_)
      · have h3 : 2 ≤ d := by simpa using h3
        refine r_cmpI ?_
        have e : decide (2 ≤ d ∧ d ≤ 128) = decide (d ≤ 128) := by simp [h3]
        rw [e] at H; exact H
      · have h3 : ¬ 2 ≤ d := by simpa using h3
        have e : decide (2 ≤ d ∧ d ≤ 128) = false := by simp [h3]
        rw [e] at H; exact H
    · have h2 : d = 0 := by simpa using h2
      omega
  · have h1 : ¬ 0 < d := by simpa using h1
    have e : decide (2 ≤ d ∧ d ≤ 128) = false := by simp; omega
    rw [e] at H; exact H

/-- Whether nothing is longer than the laws speak of. -/
def okW (l : List It) : Bool := l.all fun p => decide (p.1.size ≤ 2147483647)
theorem fits8_ok {l : List It} {v : Value} {hA : Heap} (hr : Rdl 2 hA v l.length (l.flatMap encA))
    (H : ∀ E' h', St hA [] E' h' → Q (.bool (decide (l.length ≤ 2147483647) && okW l)) h') : l_zzFits8.call #[v] hA Q := by
  have s := St.start hA
  refine l_zzFits8.body _ _ _ ?_
  unfold l_zzFits8.sh
  refine hr.lenV ?_
  refine r_cmpI ?_
  refine r_if (fun hg => ?_) (fun hg => ?_)
  · have hg : ¬ l.length ≤ 2147483647 := by have : (l.length : Int) > 2147483647 := by simpa using hg
                                            omega
    have e : (decide (l.length ≤ 2147483647) && okW l) = false := by simp [hg]
    rw [e] at H; exact H _ _ s
  · have hg : l.length ≤ 2147483647 := by have : ¬ (l.length : Int) > 2147483647 := by simpa using hg
                                          omega
    have e : (decide (l.length ≤ 2147483647) && okW l) = okW l := by simp [hg]
    rw [e] at H
    unfold l_zzFits8.j1
    refine hr.lenV ?_
    refine loop_up (n := l.length) (fun j => [.int .i64 j]) (fun j h' => okW (l.take j) = true ∧ ∃ E', St hA [] E' h') ⟨rfl, _, s⟩ ?_
    rintro j h' hj ⟨hok, E', s⟩ K HK
    unfold l_zzFits8.l3.b
    refine r_cmpI ?_
    refine r_if (fun hlt => ?_) (fun hge => ?_)
    · have hlt : j < l.length := by simpa using hlt
      have et : l.take (j + 1) = l.take j ++ [l[j]] := List.take_succ_eq_append_getElem hlt
      have ek : okW (l.take (j + 1)) = decide (l[j].1.size ≤ 2147483647) := by
        rw [et]; unfold okW at hok ⊢; rw [List.all_append, hok]; simp
      unfold l_zzFits8.j4
      refine (hr.st s).at (n := j) rfl encAl rfl rfl hlt fun b o hb => ?_
      refine hb.loadN rfl ?_
      refine s.r_alloc fun t4 h s => ?_
      refine St.r_storeN0 s 0 rfl rfl (by simp) (encA1 _) ?_; intro h s
      refine St.r_loadN0 s 0 rfl (by simp) ?_
      refine l_zzFits9.body _ _ _ ?_
      unfold l_zzFits9.sh
      refine St.r_box (cs := encA l[j]) s fun t1 h s => ?_
      refine r_fld ?_
      refine St.r_load0 s 0 rfl rfl ?_
      refine ⟨_, rfl, ?_⟩
      refine r_cmpI ?_
      refine r_if (fun hb => ?_) (fun hb => ?_)
      · have hb : ¬ l[j].1.size ≤ 2147483647 := by have : (l[j].1.size : Int) > 2147483647 := by simpa using hb
                                                   omega
        refine r_not ?_
        refine r_if (fun _ => ?_) (fun e => absurd e (by simp))
        have e2 : okW l = false := by
          have : okW l = (okW (l.take (j + 1)) && okW (l.drop (j + 1))) := by
            unfold okW; rw [← List.all_append, List.take_append_drop]
          rw [this, ek]; simp [hb]
        rw [e2] at H; exact H _ _ s
      · have hb : l[j].1.size ≤ 2147483647 := by have : ¬ (l[j].1.size : Int) > 2147483647 := by simpa using hb
                                                 omega
        unfold l_zzFits9.j1
        refine r_not ?_
        refine r_if (fun e => absurd e (by simp)) (fun _ => ?_)
        unfold l_zzFits8.j5
        refine r_add (z := ((j + 1 : Nat) : Int)) (by rw [i64w (by omega) (by omega)]; omega) ?_
        exact HK h hlt ⟨by rw [ek]; simp [hb], _, s⟩
    · have hge : j = l.length := by simp at hge; omega
      subst hge
      rw [List.take_length] at hok
      unfold l_zzFits8.j2
      rw [hok] at H; exact H _ _ s

def exW : List It := [(⟨#[98]⟩, 1), (⟨#[]⟩, 2), (⟨#[97, 98]⟩, 3), (⟨#[98]⟩, 4)]
theorem WKeys_ok {hA : Heap} {l : List It} {v : Value} {d : Nat} (hr : Rdl 2 hA v l.length (l.flatMap encA)) (hl : l.length ≤ 2147483647) (h1 : 2 ≤ d) (h2 : d ≤ 512)
    (H : ∀ v' b o sp E' h', Own 1 v' ((setAll l).map (·.1)).length b o (((setAll l).map (·.1)).flatMap fk) sp → St hA [] ((b, o, ((setAll l).map (·.1)).flatMap fk ++ sp) :: E') h' → Q v' h') : i_WKeys.call #[.int .i64 d, v] hA Q := by
  refine i_WKeys.body _ _ _ _ ?_
  unfold i_WKeys.sh
  refine grow_ok hr hl h1 h2 fun g tb h' _ e M s => ?_
  have hle := setAll_len l
  refine Keys_ok (E := []) M (by rw [e]; omega) (by rw [List.append_nil]; exact s) fun v' b o sp h' w s => ?_
  rw [e] at w s
  exact H v' b o sp _ h' w s
theorem aliveW_ok {hA : Heap} (H : ∀ E' h', St hA [] E' h' → Q (.bool true) h') : l_aliveW.call #[] hA Q := by
  refine l_aliveW.body _ _ ?_
  unfold l_aliveW.sh
  have s := St.start hA
  refine l_exWords.body _ _ ?_
  unfold l_exWords.sh
  (apply r_build; (simp only [fillV, fill1, Value.cells, zeros_succ, zeros_zero, List.size_toArray, List.length_cons, List.length_nil, List.length_append, List.take_succ_cons, List.take_zero, List.take_nil, List.drop_succ_cons, List.drop_zero, List.drop_nil, List.cons_append, List.nil_append, List.append_nil, Nat.reduceAdd, Nat.reduceMul, Nat.reduceLeDiff, Nat.reduceEqDiff, and_self, and_true, true_and, if_true, Nat.le_refl, Nat.zero_add, Nat.add_zero, Nat.zero_mul, reduceIte, if_false] <;> rfl))
  (apply r_build; (simp only [fillV, fill1, Value.cells, zeros_succ, zeros_zero, List.size_toArray, List.length_cons, List.length_nil, List.length_append, List.take_succ_cons, List.take_zero, List.take_nil, List.drop_succ_cons, List.drop_zero, List.drop_nil, List.cons_append, List.nil_append, List.append_nil, Nat.reduceAdd, Nat.reduceMul, Nat.reduceLeDiff, Nat.reduceEqDiff, and_self, and_true, true_and, if_true, Nat.le_refl, Nat.zero_add, Nat.add_zero, Nat.zero_mul, reduceIte, if_false] <;> rfl))
  (apply r_build; (simp only [fillV, fill1, Value.cells, zeros_succ, zeros_zero, List.size_toArray, List.length_cons, List.length_nil, List.length_append, List.take_succ_cons, List.take_zero, List.take_nil, List.drop_succ_cons, List.drop_zero, List.drop_nil, List.cons_append, List.nil_append, List.append_nil, Nat.reduceAdd, Nat.reduceMul, Nat.reduceLeDiff, Nat.reduceEqDiff, and_self, and_true, true_and, if_true, Nat.le_refl, Nat.zero_add, Nat.add_zero, Nat.zero_mul, reduceIte, if_false] <;> rfl))
  (apply r_build; (simp only [fillV, fill1, Value.cells, zeros_succ, zeros_zero, List.size_toArray, List.length_cons, List.length_nil, List.length_append, List.take_succ_cons, List.take_zero, List.take_nil, List.drop_succ_cons, List.drop_zero, List.drop_nil, List.cons_append, List.nil_append, List.append_nil, Nat.reduceAdd, Nat.reduceMul, Nat.reduceLeDiff, Nat.reduceEqDiff, and_self, and_true, true_and, if_true, Nat.le_refl, Nat.zero_add, Nat.add_zero, Nat.zero_mul, reduceIte, if_false] <;> rfl))
  refine St.r_mkSl (sz := 2) (cs := exW.flatMap encA) s (by ((simp only [fillV, fill1, Value.cells, zeros_succ, zeros_zero, List.size_toArray, List.length_cons, List.length_nil, List.length_append, List.take_succ_cons, List.take_zero, List.take_nil, List.drop_succ_cons, List.drop_zero, List.drop_nil, List.cons_append, List.nil_append, List.append_nil, Nat.reduceAdd, Nat.reduceMul, Nat.reduceLeDiff, Nat.reduceEqDiff, and_self, and_true, true_and, if_true, Nat.le_refl, Nat.zero_add, Nat.add_zero, Nat.zero_mul, reduceIte, if_false] <;> rfl))) rfl fun q h s w => ?_
  have w : Own 2 (.slice (some ⟨q, 0, none⟩) 4 4) exW.length q 0 (exW.flatMap encA) [] := w
  have s : St hA [] ((q, 0, exW.flatMap encA ++ []) :: []) h := s
  refine (w.rdl s 0 rfl).slc (l := 0) (m := 3) rfl ⟨_, _, rfl, by decide, by decide, rfl⟩ (by decide) (by decide) fun v' r => ?_
  rw [Nat.zero_mul, List.drop_zero, Nat.sub_zero, flat_take encAl exW 3 (by decide)] at r
  refine WKeys_ok (l := exW.take 3) (d := 2) r (by decide) (by decide) (by decide) fun v2 b o sp E' h' w2 s2 => ?_
  refine w2.lenV ?_
  refine r_cmpI ?_
  have e : ((setAll (exW.take 3)).map (·.1)).length = 3 := by decide +kernel
  rw [e]
  exact H _ _ (s.join s2)
theorem i_WScan_ok {hA : Heap} {l : List It} {v : Value} {d : Nat} {n : Int} (hr : Rdl 2 hA v l.length (l.flatMap encA)) (hl : l.length ≤ 2147483647) (h1 : 2 ≤ d) (h2 : d ≤ 512)
    (H : ∀ v' E' h', St hA [] E' h' → Rdl 2 h' v' (firstN (setAll l) n).length ((firstN (setAll l) n).flatMap encA) → Q v' h') : i_WScan.call #[.int .i64 d, v, .int .i64 n] hA Q := by
  refine i_WScan.body _ _ _ _ _ ?_
  unfold i_WScan.sh
  have s := St.start hA
  refine s.r_alloc fun t7 h s => ?_
  refine grow_ok (hr.st s) hl h1 h2 fun g tb h' _ e M s1 => ?_
  have s := s.join s1
  have hle := setAll_len l
  refine kept_ok (E := []) M (by rw [e]; omega) (s.perm (by ((apply perm_rg; intro f; simp only [List.set_cons_zero, List.set_cons_succ, List.eraseIdx_cons_zero, List.eraseIdx_cons_succ, List.cons_append, List.nil_append, List.map_append, List.map_cons, List.map_nil, List.sum_append, List.sum_cons, List.sum_nil, List.map_flatMap, Nat.add_zero, Nat.zero_add]; ac_rfl)))) fun v' b o sp h' w s => ?_
  rw [e] at w s
  refine St.r_load0 s 0 rfl rfl ?_
  exact H v' _ h' s (w.rdl s 1 rfl)
end Go.Proofs.Ytkkappjbcgnacaa.Si
end
section
namespace Go.Proofs.Ytkkappjbcgnacaa.Si
open Go.Hp Go.Proofs.Ytkkappjbcgnacaa
set_option linter.unusedVariables false
set_option linter.unusedSimpArgs false
variable {h0 h : Heap} {Z E : List Rg} {Q : Value → Heap → Prop}
abbrev fi (i : Int) : List Value := [.int .i64 i]
abbrev fo (b : Bool) : List Value := [.bool b]
theorem fil (i : Int) : (fi i).length = 1 := rfl
theorem fol (b : Bool) : (fo b).length = 1 := rfl
theorem bab (a : ByteArray) : true = (a == a) := by
  first
  | exact (beq_self_eq_true a).symm
  | (cases a with | mk d => show true = (d == d); simp)
theorem eqWord (a : ByteArray) (i : Int) (d : Nat) : EqV Try.prog (d + 2) 90 (.agg #[.string a, .int .i64 i]) (.agg #[.string a, .int .i64 i]) true := by
  refine .inr (.inr (.inr ⟨_, _, _, Try.underlying90, by kernel_rfl, rfl, rfl, ?_⟩))
  refine ⟨by decide, .string a, .string a, true, ⟨_, Try.underlying9, .inr ⟨by kernel_rfl, rfl⟩⟩, ⟨_, Try.underlying9, .inr ⟨by kernel_rfl, rfl⟩⟩, .inr (.inr (.inl ⟨a, a, Try.underlying9, rfl, rfl, bab a⟩)), .inr ⟨rfl, ?_⟩⟩
  exact ⟨by decide, .int .i64 i, .int .i64 i, true, ⟨_, Try.underlying3, .inr ⟨by kernel_rfl, rfl⟩⟩, ⟨_, Try.underlying3, .inr ⟨by kernel_rfl, rfl⟩⟩, .inl ⟨_, _, i, i, Try.underlying3, rfl, rfl, by simp⟩, .inr ⟨rfl, rfl⟩⟩
/-- What is at an index, the empty word outside. -/
def gotW (L : List It) (i : Int) : It := (atK L i).getD emp
def isW (L : List It) (i : Int) : Bool := (atK L i).isSome
theorem WGetAt_ok {hA : Heap} {l : List It} {is : List Int} {v vk : Value} {d : Nat} (hr : Rdl 2 hA v l.length (l.flatMap encA)) (hl : l.length ≤ 2147483647) (h1 : 2 ≤ d) (h2 : d ≤ 512) (hk : Rdl 1 hA vk is.length (is.flatMap fi)) (hkl : is.length ≤ 4294967295)
    (H : ∀ v1 v2 E' h', St hA [] E' h' → Rdl 2 h' v1 (is.map (gotW (setAll l))).length ((is.map (gotW (setAll l))).flatMap encA) → Rdl 1 h' v2 (is.map (isW (setAll l))).length ((is.map (isW (setAll l))).flatMap fo) → Q (.tuple #[v1, v2]) h') : i_WGetAt.call #[.int .i64 d, v, vk] hA Q := by
  refine i_WGetAt.body _ _ _ _ _ ?_
  unfold i_WGetAt.sh
  refine grow_ok hr hl h1 h2 fun g tb h e0 e M s => ?_
  have hk1 := hk.st s
  refine hk1.lenV ?_
  have s0 := (s.empty 0 0).empty 0 0
  have hle := setAll_len l
  generalize setAll l = L0 at *
  refine loop_ghost (fun q st h' => ∃ j v1 v2 b1 o1 p1 b2 o2 p2, q = is.length - j ∧ j ≤ is.length ∧ st = [v1, v2, .int .i64 (j : Nat)] ∧ Own 2 v1 ((is.take j).map (gotW L0)).length b1 o1 (((is.take j).map (gotW L0)).flatMap encA) p1 ∧ Own 1 v2 ((is.take j).map (isW L0)).length b2 o2 (((is.take j).map (isW L0)).flatMap fo) p2 ∧
      St hA [] ((b1, o1, ((is.take j).map (gotW L0)).flatMap encA ++ p1) :: (b2, o2, ((is.take j).map (isW L0)).flatMap fo ++ p2) :: (tb, 0, hdr 0 none (rA g) (rPt g).items.length ((d - 1 : Nat) : Int) ((2 * d - 1 : Nat) : Int)) :: rAll g) h') (n0 := is.length)
    ⟨0, .slice none 0 0, .slice none 0 0, 0, 0, [], 0, 0, [], rfl, Nat.zero_le _, rfl, Own.nil 2 0 0, Own.nil 1 0 0, s0⟩ ?_
  clear s0 s hk1
  rintro q st h ⟨j, v1, v2, b1, o1, p1, b2, o2, p2, rfl, hj, rfl, w1, w2, s⟩ K HK
  unfold i_WGetAt.l2.b
  refine r_cmpI ?_
  refine r_if (fun hlt => ?_) (fun hge => ?_)
  · have hlt : j < is.length := by have := of_decide_eq_true hlt; omega
    have et : is.take (j + 1) = is.take j ++ [is[j]] := List.take_succ_eq_append_getElem hlt
    unfold i_WGetAt.j3
    refine (hk.st s).at (n := j) rfl fil rfl rfl hlt fun b3 o3 hb => ?_
    refine hb.load0 rfl ?_
    refine GetAt_ok (E := (b1, o1, ((is.take j).map (gotW L0)).flatMap encA ++ p1) :: (b2, o2, ((is.take j).map (isW L0)).flatMap fo ++ p2) :: []) M (by rw [e]; omega) (s.perm (by ((apply perm_rg; intro f; simp only [List.set_cons_zero, List.set_cons_succ, List.eraseIdx_cons_zero, List.eraseIdx_cons_succ, List.cons_append, List.nil_append, List.map_append, List.map_cons, List.map_nil, List.sum_append, List.sum_cons, List.sum_nil, List.map_flatMap, Nat.add_zero, Nat.zero_add]; ac_rfl)))) ?_
    rw [e]
    have hl1 : ((is.take j).map (gotW L0)).length = j := by simp; omega
    have hl2 : ((is.take j).map (isW L0)).length = j := by simp; omega
    refine r_ext rfl ?_
    refine r_ext rfl ?_
    refine r_ext rfl ?_
    refine r_build (cs := encA (gotW L0 is[j])) rfl ?_
    refine St.r_mkSl (sz := 2) (cs := encA (gotW L0 is[j])) s (by ((simp only [fillV, fill1, Value.cells, zeros_succ, zeros_zero, List.size_toArray, List.length_cons, List.length_nil, List.length_append, List.take_succ_cons, List.take_zero, List.take_nil, List.drop_succ_cons, List.drop_zero, List.drop_nil, List.cons_append, List.nil_append, List.append_nil, Nat.reduceAdd, Nat.reduceMul, Nat.reduceLeDiff, Nat.reduceEqDiff, and_self, and_true, true_and, if_true, Nat.le_refl, Nat.zero_add, Nat.add_zero, Nat.zero_mul, reduceIte, if_false] <;> rfl))) rfl fun q1 h s wq => ?_
    refine s.r_appL (f := encA) (L := (is.take j).map (gotW L0)) (M := [gotW L0 is[j]]) 1 rfl w1 rfl (by have := wq.rdl s 0 rfl; simpa using this) (fun _ _ => encA1 _) (by rw [hl1]; simp; omega) (by rw [hl1]; simp; omega) fun v1' b1' o1' p1' h s w1' => ?_
    have s := s.tail rfl
    refine St.r_mkSl (sz := 1) (cs := fo (isW L0 is[j])) s (by ((simp only [fillV, fill1, Value.cells, zeros_succ, zeros_zero, List.size_toArray, List.length_cons, List.length_nil, List.length_append, List.take_succ_cons, List.take_zero, List.take_nil, List.drop_succ_cons, List.drop_zero, List.drop_nil, List.cons_append, List.nil_append, List.append_nil, Nat.reduceAdd, Nat.reduceMul, Nat.reduceLeDiff, Nat.reduceEqDiff, and_self, and_true, true_and, if_true, Nat.le_refl, Nat.zero_add, Nat.add_zero, Nat.zero_mul, reduceIte, if_false] <;> rfl))) rfl fun q2 h s wq => ?_
    refine s.r_appL (f := fo) (L := (is.take j).map (isW L0)) (M := [isW L0 is[j]]) 2 rfl w2 rfl (by have := wq.rdl s 0 rfl; simpa using this) (fun _ _ => by simp [one1]) (by rw [hl2]; simp; omega) (by rw [hl2]; simp; omega) fun v2' b2' o2' p2' h s w2' => ?_
    have s := s.tail rfl
    have e1 : (is.take j).map (gotW L0) ++ [gotW L0 is[j]] = (is.take (j + 1)).map (gotW L0) := by rw [et, List.map_append]; rfl
    have e2 : (is.take j).map (isW L0) ++ [isW L0 is[j]] = (is.take (j + 1)).map (isW L0) := by rw [et, List.map_append]; rfl
    rw [e1] at w1' s
    rw [e2] at w2' s
    unfold i_WGetAt.j4
    refine r_add1 (by omega) ?_
    exact HK (is.length - (j + 1)) _ _ (by omega) ⟨j + 1, v1', v2', b1', o1', p1', b2', o2', p2', rfl, hlt, rfl, w1', w2', s⟩
  · have hge : j = is.length := by have := of_decide_eq_false hge; omega
    subst hge
    rw [List.take_length] at w1 w2 s
    unfold i_WGetAt.j1
    exact H v1 v2 _ h s (w1.rdl s 0 rfl) (w2.rdl s 1 rfl)
theorem wordOf_ok {p : It} {b : Bool} (H : ∀ E' h', St h [] E' h' → Q (.tuple #[.agg (encA (if b then p else emp)).toArray, .bool b]) h') : i_wordOf.call #[kv p.1, vv p.2, .bool b] h Q := by
  refine i_wordOf.body _ _ _ _ _ ?_
  unfold i_wordOf.sh
  refine (St.start h).r_alloc fun t6 h1 s => ?_
  refine r_not ?_
  cases b with
  | false =>
    refine r_if (fun _ => ?_) (fun e => absurd e (by simp))
    refine r_build (cs := encA emp) rfl ?_
    refine St.r_storeN0 s 0 rfl rfl (by simp) (encA1 emp) ?_; intro h1 s
    refine St.r_loadN0 s 0 rfl (by simp) ?_
    exact H _ _ s
  | true =>
    refine r_if (fun e => absurd e (by simp)) (fun _ => ?_)
    unfold i_wordOf.j1
    refine r_build (cs := encA p) rfl ?_
    refine St.r_storeN0 s 0 rfl rfl (by simp) (encA1 p) ?_; intro h1 s
    refine St.r_loadN0 s 0 rfl (by simp) ?_
    exact H _ _ s
/-- The words ahead, one after the other. -/
def goneW (L : List It) (n : Nat) : List It := (List.range n).map fun i => (L[i]?).getD emp
def wereW (L : List It) (n : Nat) : List Bool := (List.range n).map fun i => (L[i]?).isSome
theorem goneW_len (L : List It) (n : Nat) : (goneW L n).length = n := by unfold goneW; simp
theorem wereW_len (L : List It) (n : Nat) : (wereW L n).length = n := by unfold wereW; simp
theorem goneW_succ (L : List It) (n : Nat) : goneW L (n + 1) = goneW L n ++ [(L[n]?).getD emp] := by unfold goneW; rw [List.range_succ, List.map_append]; rfl
theorem wereW_succ (L : List It) (n : Nat) : wereW L (n + 1) = wereW L n ++ [(L[n]?).isSome] := by unfold wereW; rw [List.range_succ, List.map_append]; rfl
theorem allWords_ok {g : Rt} {tb m : Nat} {iso cnt mn mx : Int} {ctr : Option Addr} (M : MapOk m iso g) (hl : (rPt g).items.length ≤ 4294967295) (s : St h0 Z ((tb, 0, hdr iso ctr (rA g) cnt mn mx) :: (rAll g ++ E)) h)
    (H : ∀ v E' h', St h0 Z (E' ++ E) h' → Rdl 2 h' v (rPt g).items.length ((rPt g).items.flatMap encA) → Q v h') : i_allWords.call #[ptr tb 0] h Q := by
  refine i_allWords.body _ _ _ ?_
  unfold i_allWords.sh
  refine s.r_alloc fun t3 h s => ?_
  refine kept_ok (n := 0) (E := E) M hl (s.perm (by ((apply perm_rg; intro f; simp only [List.set_cons_zero, List.set_cons_succ, List.eraseIdx_cons_zero, List.eraseIdx_cons_succ, List.cons_append, List.nil_append, List.map_append, List.map_cons, List.map_nil, List.sum_append, List.sum_cons, List.sum_nil, List.map_flatMap, Nat.add_zero, Nat.zero_add]; ac_rfl)))) fun v b o sp h s1 s => ?_
  have e0 : firstN (rPt g).items 0 = (rPt g).items := by unfold firstN; rw [if_pos (.inl (by decide))]
  rw [e0] at s1 s
  refine St.r_load0 s 0 rfl rfl ?_
  exact H v ((t3, 0, [v]) :: (b, o, (rPt g).items.flatMap encA ++ sp) :: (tb, 0, hdr iso ctr (rA g) cnt mn mx) :: rAll g) h s (s1.rdl s 1 rfl)
/-- Deleting at 0 again and again. -/
theorem WDel0_ok {hA : Heap} {l : List It} {n : Nat} {v vk : Value} {d : Nat} (hr : Rdl 2 hA v l.length (l.flatMap encA)) (hl : l.length ≤ 2147483647) (h1 : 2 ≤ d) (h2 : d ≤ 128) (hk : Rdl 1 hA vk (List.replicate n (0 : Int)).length ((List.replicate n (0 : Int)).flatMap fi)) (hkl : n ≤ 4294967295)
    (H : ∀ v1 v2 v3 E' h', St hA [] E' h' → Rdl 2 h' v1 (goneW (setAll l) n).length ((goneW (setAll l) n).flatMap encA) → Rdl 1 h' v2 (wereW (setAll l) n).length ((wereW (setAll l) n).flatMap fo) → Rdl 2 h' v3 ((setAll l).drop n).length (((setAll l).drop n).flatMap encA) → Q (.tuple #[v1, v2, v3]) h') : i_WDeleteAt.call #[.int .i64 d, v, vk] hA Q := by
  refine i_WDeleteAt.body _ _ _ _ _ ?_
  unfold i_WDeleteAt.sh
  refine grow_ok hr hl h1 (by omega) fun g tb h e0 e M s => ?_
  have hk1 := hk.st s
  refine hk1.lenV ?_
  rw [List.length_replicate]
  have s0 := (s.empty 0 0).empty 0 0
  have hle := setAll_len l
  generalize setAll l = L0 at *
  have hd2 : (((2 * d - 1) / 2 : Nat) : Int) = ((d - 1 : Nat) : Int) := by congr 1; omega
  refine loop_ghost (fun q st h' => ∃ (j : Nat) (v1 v2 : Value) (b1 o1 : Nat) (p1 : List Value) (b2 o2 : Nat) (p2 : List Value) (g : Rt) (R : List Rg), q = n - j ∧ j ≤ n ∧ st = [v1, v2, .int .i64 (j : Nat)] ∧ Own 2 v1 (goneW L0 j).length b1 o1 ((goneW L0 j).flatMap encA) p1 ∧ Own 1 v2 (wereW L0 j).length b2 o2 ((wereW L0 j).flatMap fo) p2 ∧ (rPt g).items = L0.drop j ∧ MapOk (2 * d - 1) 0 g ∧
      St hA [] ((b1, o1, (goneW L0 j).flatMap encA ++ p1) :: (b2, o2, (wereW L0 j).flatMap fo ++ p2) :: (tb, 0, hdr 0 none (rA g) (rPt g).items.length (((2 * d - 1) / 2 : Nat) : Int) ((2 * d - 1 : Nat) : Int)) :: (rAll g ++ R)) h') (n0 := n)
    ⟨0, .slice none 0 0, .slice none 0 0, 0, 0, [], 0, 0, [], g, [], rfl, Nat.zero_le _, rfl, Own.nil 2 0 0, Own.nil 1 0 0, e, M, by have e9 := s0; rw [← List.append_nil (rAll g), ← hd2] at e9; exact e9⟩ ?_
  clear s0 s hk1
  clear e e0 M g
  rintro q st h ⟨j, v1, v2, b1, o1, p1, b2, o2, p2, g, R, rfl, hj, rfl, w1, w2, e, M, s⟩ K HK
  unfold i_WDeleteAt.l2.b
  refine r_cmpI ?_
  refine r_if (fun hlt => ?_) (fun hge => ?_)
  · have hlt : j < n := by have := of_decide_eq_true hlt; omega
    have hit : (rPt g).items.length ≤ 4294967296 := by rw [e, List.length_drop]; omega
    unfold i_WDeleteAt.j3
    refine (hk.st s).at (n := j) rfl fil rfl rfl (by rw [List.length_replicate]; exact hlt) fun b3 o3 hb => ?_
    rw [List.getElem_replicate] at hb
    refine hb.load0 rfl ?_
    refine DelAt.DeleteAt_ok (i := 0) (E := (b1, o1, (goneW L0 j).flatMap encA ++ p1) :: (b2, o2, (wereW L0 j).flatMap fo ++ p2) :: R) M (by omega) hit (s.perm (by ((apply perm_rg; intro f; simp only [List.set_cons_zero, List.set_cons_succ, List.eraseIdx_cons_zero, List.eraseIdx_cons_succ, List.cons_append, List.nil_append, List.map_append, List.map_cons, List.map_nil, List.sum_append, List.sum_cons, List.sum_nil, List.map_flatMap, Nat.add_zero, Nat.zero_add]; ac_rfl)))) fun r g' h hp M' s => ?_
    have hr0 : r = L0[j]? ∧ (rPt g').items = L0.drop (j + 1) := by
      rw [e] at hp
      rcases hp with ⟨a1, a2, a3⟩ | ⟨m, x, a0, a1, a2, a3⟩
      · have hz : L0.length ≤ j := by rw [List.length_drop] at a1; omega
        rw [a2, a3, List.getElem?_eq_none hz, List.drop_of_length_le hz, List.drop_of_length_le (by omega)]
        exact ⟨rfl, rfl⟩
      · have hm0 : m = 0 := by omega
        subst hm0
        rw [List.getElem?_drop, Nat.add_zero] at a1
        rw [a2, a3, a1]
        refine ⟨rfl, ?_⟩
        rw [List.eraseIdx_zero, List.tail_drop]
    obtain ⟨rfl, e2⟩ := hr0
    refine r_ext rfl ?_
    refine r_ext rfl ?_
    refine r_ext rfl ?_
    refine wordOf_ok (p := (L0[j]?).getD emp) (b := (L0[j]?).isSome) fun E2 h s2 => ?_
    have ef : (if (L0[j]?).isSome = true then (L0[j]?).getD emp else emp) = (L0[j]?).getD emp := by cases L0[j]? <;> rfl
    rw [ef]
    refine r_ext rfl ?_
    refine r_ext rfl ?_
    have s := s.join s2
    refine s.r_alloc fun t14 h s => ?_
    refine St.r_storeN0 s 0 rfl rfl (by simp) (encA1 _) ?_; intro h s
    refine St.r_loadN0 s 0 rfl (by simp) ?_
    have s : St hA [] ((b1, o1, (goneW L0 j).flatMap encA ++ p1) :: (b2, o2, (wereW L0 j).flatMap fo ++ p2) :: (tb, 0, hdr 0 none (rA g') (rPt g').items.length (((2 * d - 1) / 2 : Nat) : Int) ((2 * d - 1 : Nat) : Int)) :: (rAll g' ++ (R ++ (E2 ++ [(t14, 0, encA ((L0[j]?).getD emp))])))) h := s.perm (by ((apply perm_rg; intro f; simp only [List.set_cons_zero, List.set_cons_succ, List.eraseIdx_cons_zero, List.eraseIdx_cons_succ, List.cons_append, List.nil_append, List.map_append, List.map_cons, List.map_nil, List.sum_append, List.sum_cons, List.sum_nil, List.map_flatMap, Nat.add_zero, Nat.zero_add]; ac_rfl)))
    have hl1 := goneW_len L0 j
    have hl2 := wereW_len L0 j
    refine St.r_mkSl (sz := 2) (cs := encA ((L0[j]?).getD emp)) s (by ((simp only [fillV, fill1, Value.cells, zeros_succ, zeros_zero, List.size_toArray, List.length_cons, List.length_nil, List.length_append, List.take_succ_cons, List.take_zero, List.take_nil, List.drop_succ_cons, List.drop_zero, List.drop_nil, List.cons_append, List.nil_append, List.append_nil, Nat.reduceAdd, Nat.reduceMul, Nat.reduceLeDiff, Nat.reduceEqDiff, and_self, and_true, true_and, if_true, Nat.le_refl, Nat.zero_add, Nat.add_zero, Nat.zero_mul, reduceIte, if_false] <;> rfl))) rfl fun q1 h s wq => ?_
    refine s.r_appL (f := encA) (L := goneW L0 j) (M := [(L0[j]?).getD emp]) 1 rfl w1 rfl (by have := wq.rdl s 0 rfl; simpa using this) (fun _ _ => encA1 _) (by rw [hl1]; simp; omega) (by rw [hl1]; simp; omega) fun v1' b1' o1' p1' h s w1' => ?_
    have s := s.tail rfl
    refine St.r_mkSl (sz := 1) (cs := fo (L0[j]?).isSome) s (by ((simp only [fillV, fill1, Value.cells, zeros_succ, zeros_zero, List.size_toArray, List.length_cons, List.length_nil, List.length_append, List.take_succ_cons, List.take_zero, List.take_nil, List.drop_succ_cons, List.drop_zero, List.drop_nil, List.cons_append, List.nil_append, List.append_nil, Nat.reduceAdd, Nat.reduceMul, Nat.reduceLeDiff, Nat.reduceEqDiff, and_self, and_true, true_and, if_true, Nat.le_refl, Nat.zero_add, Nat.add_zero, Nat.zero_mul, reduceIte, if_false] <;> rfl))) rfl fun q2 h s wq => ?_
    refine s.r_appL (f := fo) (L := wereW L0 j) (M := [(L0[j]?).isSome]) 2 rfl w2 rfl (by have := wq.rdl s 0 rfl; simpa using this) (fun _ _ => by simp [one1]) (by rw [hl2]; simp; omega) (by rw [hl2]; simp; omega) fun v2' b2' o2' p2' h s w2' => ?_
    have s := s.tail rfl
    rw [← goneW_succ] at w1' s
    rw [← wereW_succ] at w2' s
    unfold i_WDeleteAt.j4
    refine r_add1 (by omega) ?_
    exact HK (n - (j + 1)) _ _ (by omega) ⟨j + 1, v1', v2', b1', o1', p1', b2', o2', p2', g', _, rfl, hlt, rfl, w1', w2', e2, M', s⟩
  · have hge : j = n := by have := of_decide_eq_false hge; omega
    subst hge
    unfold i_WDeleteAt.j1
    refine allWords_ok (E := (b1, o1, (goneW L0 j).flatMap encA ++ p1) :: (b2, o2, (wereW L0 j).flatMap fo ++ p2) :: R) M (by rw [e, List.length_drop]; omega) (s.perm (by ((apply perm_rg; intro f; simp only [List.set_cons_zero, List.set_cons_succ, List.eraseIdx_cons_zero, List.eraseIdx_cons_succ, List.cons_append, List.nil_append, List.map_append, List.map_cons, List.map_nil, List.sum_append, List.sum_cons, List.sum_nil, List.map_flatMap, Nat.add_zero, Nat.zero_add]; ac_rfl)))) fun v3 E2 h s r => ?_
    rw [e] at r
    exact H _ _ _ _ _ s (w1.rdlO (s.ok (by simp))) (w2.rdlO (s.ok (by simp))) r
end Go.Proofs.Ytkkappjbcgnacaa.Si
end
section
namespace Go.Proofs.Ytkkappjbcgnacaa.Si
open Go.Hp Go.Proofs.Ytkkappjbcgnacaa
set_option linter.unusedVariables false
set_option linter.unusedSimpArgs false
variable {h0 h : Heap} {Z E : List Rg} {Q : Value → Heap → Prop}

/-- The indexes that are asked: one ahead of the first one, and all up to one behind the last one. -/
def atL (n : Nat) : List Int := -1 :: (List.range n).map fun (i : Nat) => (i : Int)
theorem atL_len (n : Nat) : (atL n).length = n + 1 := by unfold atL; simp
theorem atL_succ (n : Nat) : atL (n + 1) = atL n ++ [(n : Int)] := by unfold atL; rw [List.range_succ, List.map_append]; rfl
theorem atL_get (n i : Nat) (h : i + 1 < (atL n).length) : (atL n)[i + 1] = (i : Int) := by
  have hn : i < n := by rw [atL_len] at h; omega
  have e : (atL n)[i + 1]? = some (i : Int) := by unfold atL; rw [List.getElem?_cons_succ, List.getElem?_map, List.getElem?_range hn]; rfl
  rw [List.getElem?_eq_getElem h] at e
  exact Option.some.inj e
theorem rep_succ (n : Nat) : List.replicate (n + 1) (0 : Int) = List.replicate n 0 ++ [0] := List.replicate_succ'
theorem firstN_0 (l : List It) : firstN l 0 = l := by unfold firstN; rw [if_pos (.inl (by decide))]
theorem at_nat (L : List It) (i : Nat) : atK L (i : Int) = L[i]? := by unfold atK; rw [if_pos (by omega), Int.toNat_natCast]
theorem at_neg (L : List It) : atK L (-1) = none := by unfold atK; rw [if_neg (by omega)]
theorem l_FnWPlaces_ok {l : List It} {v : Value} {d : Int} (hr : Rdl 2 h v l.length (l.flatMap encA)) (H : ∀ E' h', St h [] E' h' → Q (.bool true) h') : l_FnWPlaces.call #[.int .i64 d, v] h Q := by
  refine l_FnWPlaces.body _ _ _ _ ?_
  unfold l_FnWPlaces.sh
  refine fits8_ok hr fun E1 h1 s => ?_
  refine r_not ?_
  refine r_if (fun _ => H _ _ s) (fun e => ?_)
  have hl : l.length ≤ 2147483647 := by
    have : (decide (l.length ≤ 2147483647) && okW l) = true := by simpa using e
    simp only [Bool.and_eq_true, decide_eq_true_eq] at this
    exact this.1
  have live : ∀ {E' h'}, St h [] E' h' → l_aliveW.call #[] h' Q := fun s => aliveW_ok fun E' h' s' => H _ _ (s.join s')
  unfold l_FnWPlaces.j1
  refine fit_ok ?_
  refine r_not ?_
  refine r_if (fun _ => live s) (fun e => ?_)
  have hd : 2 ≤ d ∧ d ≤ 128 := by simpa using e
  obtain ⟨d, rfl⟩ : ∃ n : Nat, d = n := ⟨d.toNat, by omega⟩
  have hd1 : 2 ≤ d := by omega
  have hd2 : d ≤ 128 := by omega
  unfold l_FnWPlaces.j2
  refine i_WScan_ok (hr.st s) hl hd1 (by omega) fun vw E2 h2 s2 rw0 => ?_
  rw [firstN_0] at rw0
  have s := s.join s2
  have hle := setAll_len l
  have hr := hr.st s
  have u := St.start h2
  refine St.r_mkSl (sz := 1) (cs := [.int .i64 (-1)]) u (by ((simp only [fillV, fill1, Value.cells, zeros_succ, zeros_zero, List.size_toArray, List.length_cons, List.length_nil, List.length_append, List.take_succ_cons, List.take_zero, List.take_nil, List.drop_succ_cons, List.drop_zero, List.drop_nil, List.cons_append, List.nil_append, List.append_nil, Nat.reduceAdd, Nat.reduceMul, Nat.reduceLeDiff, Nat.reduceEqDiff, and_self, and_true, true_and, if_true, Nat.le_refl, Nat.zero_add, Nat.add_zero, Nat.zero_mul, reduceIte, if_false] <;> rfl))) rfl fun q1 h3 u w1 => ?_
  refine St.r_mkSl (sz := 1) (cs := []) u (by ((simp only [fillV, fill1, Value.cells, zeros_succ, zeros_zero, List.size_toArray, List.length_cons, List.length_nil, List.length_append, List.take_succ_cons, List.take_zero, List.take_nil, List.drop_succ_cons, List.drop_zero, List.drop_nil, List.cons_append, List.nil_append, List.append_nil, Nat.reduceAdd, Nat.reduceMul, Nat.reduceLeDiff, Nat.reduceEqDiff, and_self, and_true, true_and, if_true, Nat.le_refl, Nat.zero_add, Nat.add_zero, Nat.zero_mul, reduceIte, if_false] <;> rfl))) rfl fun q2 h3 u w2 => ?_
  refine (rw0.st u).lenV ?_
  refine r_add1 (by omega) ?_
  refine loop_ghost (fun q st h' => ∃ (j : Nat) (v1 v2 : Value) (b1 o1 : Nat) (p1 : List Value) (b2 o2 : Nat) (p2 : List Value) (R : List Rg), q = (setAll l).length + 1 - j ∧ j ≤ (setAll l).length + 1 ∧ st = [v1, v2, .int .i64 (j : Nat)] ∧ Own 1 v1 (atL j).length b1 o1 ((atL j).flatMap fi) p1 ∧ Own 1 v2 (List.replicate j (0 : Int)).length b2 o2 ((List.replicate j (0 : Int)).flatMap fi) p2 ∧
      St h2 [] ((b1, o1, (atL j).flatMap fi ++ p1) :: (b2, o2, (List.replicate j (0 : Int)).flatMap fi ++ p2) :: R) h') (n0 := (setAll l).length + 1)
    ⟨0, _, _, q1, 0, [], q2, 0, [], [], rfl, Nat.zero_le _, rfl, w1, w2, u.perm (List.Perm.swap _ _ _)⟩ ?_
  clear u w1 w2
  rintro q st h3 ⟨j, v1, v2, b1, o1, p1, b2, o2, p2, R, rfl, hj, rfl, w1, w2, u⟩ K HK
  have hl1 := atL_len j
  have hl2 : (List.replicate j (0 : Int)).length = j := List.length_replicate
  unfold l_FnWPlaces.l9.b
  refine r_cmpI ?_
  refine r_if (fun hlt => ?_) (fun hge => ?_)
  · have hlt : j < (setAll l).length + 1 := by have := of_decide_eq_true hlt; omega
    unfold l_FnWPlaces.j10
    refine St.r_mkSl (sz := 1) (cs := fi (j : Nat)) u (by ((simp only [fillV, fill1, Value.cells, zeros_succ, zeros_zero, List.size_toArray, List.length_cons, List.length_nil, List.length_append, List.take_succ_cons, List.take_zero, List.take_nil, List.drop_succ_cons, List.drop_zero, List.drop_nil, List.cons_append, List.nil_append, List.append_nil, Nat.reduceAdd, Nat.reduceMul, Nat.reduceLeDiff, Nat.reduceEqDiff, and_self, and_true, true_and, if_true, Nat.le_refl, Nat.zero_add, Nat.add_zero, Nat.zero_mul, reduceIte, if_false] <;> rfl))) rfl fun q1 h3 u wq => ?_
    refine u.r_appL (f := fi) (L := atL j) (M := [((j : Nat) : Int)]) 1 rfl w1 rfl (by have := wq.rdl u 0 rfl; simpa using this) (fun _ _ => by simp [one1]) (by rw [hl1]; simp; omega) (by rw [hl1]; simp; omega) fun v1' b1' o1' p1' h3 u w1' => ?_
    have u := u.tail rfl
    refine St.r_mkSl (sz := 1) (cs := fi 0) u (by ((simp only [fillV, fill1, Value.cells, zeros_succ, zeros_zero, List.size_toArray, List.length_cons, List.length_nil, List.length_append, List.take_succ_cons, List.take_zero, List.take_nil, List.drop_succ_cons, List.drop_zero, List.drop_nil, List.cons_append, List.nil_append, List.append_nil, Nat.reduceAdd, Nat.reduceMul, Nat.reduceLeDiff, Nat.reduceEqDiff, and_self, and_true, true_and, if_true, Nat.le_refl, Nat.zero_add, Nat.add_zero, Nat.zero_mul, reduceIte, if_false] <;> rfl))) rfl fun q2 h3 u wq => ?_
    refine u.r_appL (f := fi) (L := List.replicate j (0 : Int)) (M := [0]) 2 rfl w2 rfl (by have := wq.rdl u 0 rfl; simpa using this) (fun _ _ => by simp [one1]) (by rw [hl2]; simp; omega) (by rw [hl2]; simp; omega) fun v2' b2' o2' p2' h3 u w2' => ?_
    have u := u.tail rfl
    rw [← atL_succ] at w1' u
    rw [← rep_succ] at w2' u
    unfold l_FnWPlaces.j11
    refine r_add1 (by omega) ?_
    exact HK ((setAll l).length + 1 - (j + 1)) _ _ (by omega) ⟨j + 1, v1', v2', b1', o1', p1', b2', o2', p2', _, rfl, hlt, rfl, w1', w2', u⟩
  · have hge : j = (setAll l).length + 1 := by have := of_decide_eq_false hge; omega
    clear HK
    have a1 := w1.rdl u 0 rfl
    have a2 := w2.rdl u 1 rfl
    unfold l_FnWPlaces.j3
    refine WGetAt_ok (hr.st u) hl hd1 (by omega) a1 (by rw [hl1]; omega) fun x1 x2 E4 h4 u4 g1 g2 => ?_
    refine r_ext rfl ?_
    refine r_ext rfl ?_
    refine WDel0_ok ((hr.st u).st u4) hl hd1 hd2 (a2.st u4) (by omega) fun x3 x4 x5 E5 h5 u5 g3 g4 g5 => ?_
    refine r_ext rfl ?_
    refine r_ext rfl ?_
    refine r_ext rfl ?_
    have g1 := g1.st u5
    have g2 := g2.st u5
    have a1 := (a1.st u4).st u5
    have a2 := (a2.st u4).st u5
    have wv := ((rw0.st u).st u4).st u5
    have s := ((s.join u).join u4).join u5
    clear hr w1 w2
    have e1 : ((atL j).map (gotW (setAll l))).length = j + 1 := by rw [List.length_map, hl1]
    have e2 : ((atL j).map (isW (setAll l))).length = j + 1 := by rw [List.length_map, hl1]
    have e3 := goneW_len (setAll l) j
    have e4 := wereW_len (setAll l) j
    have is_at : ∀ (i : Nat) (hi : i + 1 < ((atL j).map (isW (setAll l))).length), ((atL j).map (isW (setAll l)))[i + 1] = ((setAll l)[i]?).isSome := fun i hi => by
      rw [List.getElem_map, atL_get j i (by rw [hl1]; omega)]; unfold isW; rw [at_nat]
    have got_at : ∀ (i : Nat) (hi : i + 1 < ((atL j).map (gotW (setAll l))).length), ((atL j).map (gotW (setAll l)))[i + 1] = ((setAll l)[i]?).getD emp := fun i hi => by
      rw [List.getElem_map, atL_get j i (by rw [hl1]; omega)]; unfold gotW; rw [at_nat]
    refine g1.lenV ?_
    refine a1.lenV ?_
    refine r_cmpI ?_
    refine r_br (fun _ => ?_) (fun e => absurd e (by rw [e1, hl1]; simp))
    refine g2.lenV ?_
    refine a1.lenV ?_
    refine r_cmpI ?_
    refine r_br (fun _ => ?_) (fun e => absurd e (by rw [e2, hl1]; simp))
    refine g3.lenV ?_
    refine a2.lenV ?_
    refine r_cmpI ?_
    refine r_br (fun _ => ?_) (fun e => absurd e (by rw [e3, hl2]; simp))
    refine g4.lenV ?_
    refine a2.lenV ?_
    refine r_cmpI ?_
    refine r_br (fun _ => ?_) (fun e => absurd e (by rw [e4, hl2]; simp))
    refine g2.at (f := fo) (n := 0) rfl fol rfl rfl (by rw [e2]; omega) fun b o hb => ?_
    have e0 : ((atL j).map (isW (setAll l)))[0]'(by rw [e2]; omega) = false := by
      rw [List.getElem_map]; show isW (setAll l) (-1) = false; unfold isW; rw [at_neg]; rfl
    rw [e0] at hb
    refine hb.load0 rfl ?_
    refine r_br (fun _ => ?_) (fun e => absurd e (by decide))
    refine wv.lenV ?_
    refine r_add1 (by omega) ?_
    refine g2.at (f := fo) (n := (setAll l).length + 1) rfl fol (by omega) rfl (by rw [e2]; omega) fun b o hb => ?_
    rw [is_at, List.getElem?_eq_none (Nat.le_refl _)] at hb
    refine hb.load0 rfl ?_
    refine r_br (fun _ => ?_) (fun e => absurd e (by decide))
    refine wv.lenV ?_
    refine g4.at (f := fo) (n := (setAll l).length) rfl fol rfl rfl (by rw [e4]; omega) fun b o hb => ?_
    have e5 : (wereW (setAll l) j)[(setAll l).length]'(by rw [e4]; omega) = false := by unfold wereW; simp
    rw [e5] at hb
    refine hb.load0 rfl ?_
    refine r_br (fun _ => ?_) (fun e => absurd e (by decide))
    refine g5.lenV ?_
    refine r_cmpI ?_
    refine r_if (fun e => absurd e (by rw [List.length_drop]; simp; omega)) (fun _ => ?_)
    unfold l_FnWPlaces.j4
    refine wv.lenV ?_
    have s0 := St.start h5
    refine loop_ghost (fun q st h' => ∃ (m : Nat) (E' : List Rg), q = (setAll l).length - m ∧ m ≤ (setAll l).length ∧ st = [.int .i64 (m : Nat)] ∧ St h5 [] E' h') (n0 := (setAll l).length) ⟨0, [], rfl, Nat.zero_le _, rfl, s0⟩ ?_
    clear s0
    rintro q st h6 ⟨m, E', rfl, hm, rfl, s6⟩ K HK
    unfold l_FnWPlaces.l6.b
    refine r_cmpI ?_
    refine r_if (fun hlt => ?_) (fun hge => ?_)
    · have hlt : m < (setAll l).length := by have := of_decide_eq_true hlt; omega
      have hx : (setAll l)[m]? = some (setAll l)[m] := List.getElem?_eq_getElem hlt
      unfold l_FnWPlaces.j7
      refine (wv.st s6).at (n := m) rfl encAl rfl rfl hlt fun b o hb => ?_
      refine hb.loadN rfl ?_
      refine s6.r_alloc fun t15 h6 s6 => ?_
      refine St.r_storeN0 s6 0 rfl rfl (by simp) (encA1 _) ?_; intro h6 s6
      have s6 : St h5 [] ((t15, 0, encA (setAll l)[m]) :: E') h6 := s6
      refine r_add1 (by omega) ?_
      refine (g2.st s6).at (f := fo) (n := m + 1) rfl fol (by omega) rfl (by rw [e2]; omega) fun b o hb => ?_
      rw [is_at, hx] at hb
      refine hb.load0 rfl ?_
      refine r_not ?_
      refine r_br (fun _ => ?_) (fun e => absurd e (by simp))
      refine r_add1 (by omega) ?_
      refine (g1.st s6).at (n := m + 1) rfl encAl (by omega) rfl (by rw [e1]; omega) fun b o hb => ?_
      rw [got_at, hx] at hb
      refine hb.loadN rfl ?_
      refine St.r_loadN0 s6 0 rfl (by simp) ?_
      refine ⟨_, _, true, rfl, rfl, eqWord _ _ 9998, ?_⟩
      refine r_br (fun _ => ?_) (fun e => absurd e (by decide))
      refine (g4.st s6).at (f := fo) (n := m) rfl fol rfl rfl (by rw [e4]; omega) fun b o hb => ?_
      have e6 : (wereW (setAll l) j)[m]'(by rw [e4]; omega) = true := by unfold wereW; simp [hx]
      rw [e6] at hb
      refine hb.load0 rfl ?_
      refine r_not ?_
      refine r_br (fun _ => ?_) (fun e => absurd e (by decide))
      refine (g3.st s6).at (n := m) rfl encAl rfl rfl (by rw [e3]; omega) fun b o hb => ?_
      have e7 : (goneW (setAll l) j)[m]'(by rw [e3]; omega) = (setAll l)[m] := by unfold goneW; simp [hx]
      rw [e7] at hb
      refine hb.loadN rfl ?_
      refine St.r_loadN0 s6 0 rfl (by simp) ?_
      refine ⟨_, _, true, rfl, rfl, eqWord _ _ 9998, ?_⟩
      refine r_if (fun e => absurd e (by decide)) (fun _ => ?_)
      unfold l_FnWPlaces.j8
      refine r_add1 (by omega) ?_
      exact HK ((setAll l).length - (m + 1)) _ _ (by omega) ⟨m + 1, _, rfl, hlt, rfl, s6⟩
    · unfold l_FnWPlaces.j5
      exact live (s.join s6)
end Go.Proofs.Ytkkappjbcgnacaa.Si
end
