/-
  Texts of this claim, laid together: Gy P0 Ra Rb Rc P1 Rh.
  Conditions: as each of them tells.
-/
import Derived.Test.YthpmeccnddchpaaRHuffmanB5
section
namespace Go.Proofs.Ythpmeccnddchpaa.Gi
open Go.Hp Go.Proofs.Ythpmeccnddchpaa
set_option linter.unusedVariables false
set_option linter.unusedSimpArgs false
variable {h0 h : Heap} {Z E : List Rg} {Q : Value → Heap → Prop} {lt : It → It → Bool} {lf : Value}

theorem Own.slcAll {α : Type} {f : α → List Value} {sz : Nat} (hf : ∀ x, (f x).length = sz) {K : Value → Prop} {v : Value} {b o : Nat} {L : List α} {sp : List Value} (w : Own sz v L.length b o (L.flatMap f) sp)
    (H : ∀ v', Own sz v' (L.drop 0).length b (o + 0 * sz) ((L.drop 0).flatMap f) sp → K v') : slc sz v none none none K := by
  have w0 := w
  obtain ⟨a, cap, e, h1, h2, h3, h4⟩ := w.ex
  subst e
  refine ⟨a, L.length, cap, 0, L.length, cap, rfl, rfl, rfl, rfl, H _ ?_⟩
  have ea : (if cap = 0 then a else a.map (·.add (0 * sz))) = a := by
    split
    · rfl
    · rw [Nat.zero_mul]; cases a <;> rfl
  rw [ea, List.drop_zero, Nat.zero_mul, Nat.add_zero, Nat.sub_zero, Nat.sub_zero]
  exact w0
/-- The counts along the first way down (or the last one), changed. -/
def bmp {It : Type} (sd : Bool) (δ : Int) : {h : Nat} → GT It h → GT It h
  | 0, d => ({ (d : Nd It) with cnt := Nd.cnt d + δ } : Nd It)
  | _ + 1, t => ({ t.1 with cnt := t.1.cnt + δ }, t.2.modify (if sd then t.2.length - 1 else 0) (bmp sd δ))
theorem bmp_id {It : Type} {sd : Bool} {δ : Int} : ∀ {h : Nat} (t : GT It h), (bmp sd δ t).id = t.id
  | 0, _ => rfl
  | _ + 1, _ => rfl
theorem modify_at {β : Type} {l : List β} {f : β → β} {c : β} {i : Nat} (hc : l[i]? = some c) : l.modify i f = l.set i (f c) := by
  obtain ⟨hi, rfl⟩ := List.getElem?_eq_some_iff.1 hc
  apply List.ext_getElem?
  intro j
  rw [List.getElem?_modify, List.getElem?_set]
  by_cases e : i = j
  · subst e; simp [hi, List.getElem?_eq_getElem hi]
  · simp [e]
/-- x is the first item (or the last one), R are the others. -/
def Ends (sd : Bool) (x : It) (R l : List It) : Prop := if sd then l = R ++ [x] else l = x :: R
theorem Ends.len {sd : Bool} {x : It} {R l : List It} (e : Ends sd x R l) : l.length = R.length + 1 := by
  unfold Ends at e; split at e <;> rw [e] <;> simp
theorem items_set {m lo k : Nat} {its : List It} {kids : List (PT It k)} {i : Nat} {c c' : PT It k} (fl : PT.Fl m lo (h := k + 1) (its, kids)) (hi : i ≤ its.length) (hc : kids[i]? = some c) (hc' : PT.Fl m (m / 2) c') :
    PT.Fl m lo (h := k + 1) (its, kids.set i c') ∧ ∃ A B, PT.items (h := k + 1) (its, kids) = A ++ (c.items ++ B) ∧ PT.items (h := k + 1) (its, kids.set i c') = A ++ (c'.items ++ B) ∧ (i = 0 → A = []) ∧ (i = its.length → B = []) := by
  have hkl : kids.length = its.length + 1 := fl.2.2.1
  have f' : PT.Fl m lo (h := k + 1) (its, kids.set i c') := by
    refine ⟨fl.1, fl.2.1, ?_, fun q hq => ?_⟩
    · show (kids.set i c').length = its.length + 1
      rw [List.length_set]; exact hkl
    · rcases List.mem_or_eq_of_mem_set (show q ∈ kids.set i c' from hq) with e | e
      · exact fl.2.2.2 q e
      · rw [e]; exact hc'
  refine ⟨f', lz (its.take i) ((kids.take i).map PT.items), rz (its.drop i) ((kids.drop (i + 1)).map PT.items), ?_, ?_, fun e => ?_, fun e => ?_⟩
  · obtain ⟨c0, h0, _, e⟩ := PT.around (t := ((its, kids) : PT It (k + 1))) fl hi
    have h0 : kids[i]? = some c0 := h0
    rw [hc] at h0
    rw [← Option.some.inj h0] at e
    exact e
  · obtain ⟨c0, h0, _, e⟩ := PT.around (t := ((its, kids.set i c') : PT It (k + 1))) f' hi
    have h0 : (kids.set i c')[i]? = some c0 := h0
    rw [List.getElem?_set_self (by omega)] at h0
    rw [← Option.some.inj h0] at e
    have e1 : (kids.set i c').take i = kids.take i := List.take_set_of_le (Nat.le_refl _)
    have e2 : (kids.set i c').drop (i + 1) = kids.drop (i + 1) := List.drop_set_of_lt (by omega)
    have e : PT.items (h := k + 1) (its, kids.set i c') = lz (its.take i) (((kids.set i c').take i).map PT.items) ++ (c'.items ++ rz (its.drop i) (((kids.set i c').drop (i + 1)).map PT.items)) := e
    rw [e1, e2] at e
    exact e
  · subst e; rfl
  · subst e; rw [List.drop_length]; rfl
theorem ends_del (o : Swo lt) {sd : Bool} {x : It} {R l : List It} (e : Ends sd x R l) (ha : Asc lt l) : lget lt l x = some x ∧ ldel lt l x = R := by
  obtain ⟨i, hi, hx, he⟩ : ∃ i, ∃ hi : i < l.length, l[i] = x ∧ l.eraseIdx i = R := by
    unfold Ends at e
    split at e
    · subst e; exact ⟨R.length, by simp, by simp, by rw [eraseIdx_at (P := R) (S := []) (y := x) rfl, List.append_nil]⟩
    · subst e; exact ⟨0, by simp, rfl, rfl⟩
  obtain ⟨p1, p2⟩ := found_at o ha hi (x := x) (by rw [hx]; exact o.irr x) (by rw [hx]; exact o.irr x)
  obtain ⟨y, hy⟩ := Option.isSome_iff_exists.1 p2
  obtain ⟨hp, h1, _, _⟩ := lget_some hy
  have h2 : l[pos lt l x]? = some x := by rw [p1, List.getElem?_eq_getElem hi, hx]
  rw [List.getElem?_eq_getElem hp, h1] at h2
  refine ⟨by rw [hy]; exact h2, ?_⟩
  rw [ldel_some hy, ← List.eraseIdx_eq_take_drop_succ, p1, he]
/-- What was taken out of l, and what is left. -/
def Popped (sd : Bool) (r : Option It) (l l' : List It) : Prop := match r with
  | none => l = [] ∧ l' = []
  | some x => Ends sd x l' l
/-- What is left to do behind the cut. -/
def popEnd (tb : Nat) (t2 t5 : Value) (h : Heap) (Q : Value → Heap → Prop) : Prop :=
  nilck (ptr tb 0) fun a => fld 3 a fun t90 => load1 t90 h fun t91 => arith (· - ·) t91 (.int .i64 1) fun t92 => nilck (ptr tb 0) fun b => fld 3 b fun t94 => store1 t94 t92 h fun h => nilck (ptr tb 0) fun c => fld 3 c fun t97 => load1 t97 h fun t98 =>
    cmpI (fun a b => a == b) t98 (.int .i64 0) fun t99 => ifV t99
      (nilck (ptr tb 0) fun d => fld 2 d fun t102 => store1 t102 (.pointer none) h fun h => loadN 2 t5 h fun t103 => storeN 2 t2 t103 h fun h => loadN 2 t2 h fun r2 => Q (.tuple #[r2, (.bool true)]) h)
      (loadN 2 t5 h fun t103 => storeN 2 t2 t103 h fun h => loadN 2 t2 h fun r2 => Q (.tuple #[r2, (.bool true)]) h)

namespace PopMin
/-- Back up: the counts as they were. -/
theorem up_pop {tr t2 t5 : Value} {iso : Int} {m : Nat} (hm : m ≤ 1024) : ∀ {k : Nat} (c : GT It k) {lo : Nat} {E : List Rg} {h : Heap}, c.pt.Fl m lo → Gd iso c → c.pt.items.length ≤ 4611686018427387903 → St h0 Z ((bmp false (-1) c).all enc ++ E) h → (∀ h', St h0 Z (c.all enc ++ E) h' → BTreeG_I_PopMin.j4 tr t2 t5 h' Q) →
    LoopOk (fun c s h K1 => BTreeG_I_PopMin.l5.b (c.getD 0 undef) (c.getD 1 undef) (c.getD 2 undef) (s.getD 0 undef) h K1 Q) [tr, t2, t5] k [ptr c.id 0] h
  | 0, (d : Nd It), lo, E, h, fl, g, hsz, s, H => by
    obtain ⟨own, n, is', cnt, its, iv, ib, io, isp, kb, kv', krb, kro, ksp⟩ := d
    intro K
    have s : St h0 Z ((n, 0, [.int .u64 is', .int .i64 (cnt + -1), iv, .pointer none]) :: (ib, io, its.flatMap enc ++ isp) :: E) h := s
    have hcn : cnt = its.length := g.cn
    have hsz : its.length ≤ 4611686018427387903 := hsz
    show BTreeG_I_PopMin.l5.b tr t2 t5 (ptr n 0) h K Q
    unfold BTreeG_I_PopMin.l5.b
    refine r_nil ?_
    refine r_fld ?_
    refine St.r_load0 s 0 rfl rfl ?_
    refine r_add (z := cnt) (by rw [i64w (by omega) (by omega)]; omega) ?_
    refine r_nil ?_
    refine r_fld ?_
    refine St.r_store0 s 0 rfl (by simp) rfl ?_
    intro h s
    try simp only [List.set_cons_zero, List.set_cons_succ] at s
    refine node_leaf_ok (a := none) (s.get (k := 0) (j := 3) rfl (by simp)) ?_
    refine r_if (fun _ => ?_) (fun e => absurd e (by simp))
    exact H h s
  | k + 1, t, lo, E, h, fl, g, hsz, s, H => by
    obtain ⟨d, ts⟩ := t
    obtain ⟨own, n, is', cnt, its, iv, ib, io, isp, kb, kv', krb, kro, ksp⟩ := d
    intro K HK
    have hkl : ts.length = its.length + 1 := g.wf.2.2.1
    have wK : Own 1 kv' ts.length krb kro ((ts.map GT.id).map fun m => ptr m 0) ksp := g.wf.2.1
    have hcn : cnt = (PT.items (h := k + 1) (its, ts.map GT.pt)).length := g.cn.1
    have hsz : (PT.items (h := k + 1) (its, ts.map GT.pt)).length ≤ 4611686018427387903 := hsz
    obtain ⟨c, hc⟩ : ∃ c, ts[0]? = some c := ⟨ts[0]'(by omega), List.getElem?_eq_getElem (by omega)⟩
    have hcm := List.mem_of_getElem? hc
    have hcm2 : c.pt ∈ ts.map GT.pt := List.mem_map.2 ⟨c, hcm, rfl⟩
    have hfc : PT.Fl m (m / 2) c.pt := fl.2.2.2 _ hcm2
    have hlm : its.length ≤ m := fl.2.1
    have hcsz : c.pt.items.length ≤ 4611686018427387903 := by
      have h1 : (inter its ((ts.map GT.pt).map PT.items)).length = _ := inter_length _ _
      have h2 : (inter its ((ts.map GT.pt).map PT.items)).length ≤ 4611686018427387903 := hsz
      have h3 : c.pt.items.length ≤ (((ts.map GT.pt).map PT.items).map List.length).sum := mem_le_sum (by
        rw [List.map_map, List.map_map]; exact List.mem_map.2 ⟨c, hcm, rfl⟩)
      omega
    have s : St h0 Z ((n, 0, [.int .u64 is', .int .i64 (cnt + -1), iv, ptr kb 0]) :: (ib, io, its.flatMap enc ++ isp) :: (kb, 0, [kv']) :: (krb, kro, (((ts.modify (0) (bmp false (-1))).map GT.id).map fun m => ptr m 0) ++ ksp) :: ((ts.modify (0) (bmp false (-1))).flatMap (GT.all enc) ++ E)) h := s
    rw [modify_at hc, mfp] at s
    have hi := (List.getElem?_eq_some_iff.1 hc).1
    have hc' : (ts.set (0) (bmp false (-1) c))[0]? = some (bmp false (-1) c) := List.getElem?_set_self hi
    have etake : (ts.set (0) (bmp false (-1) c)).take (0) = ts.take (0) := List.take_set_of_le (Nat.le_refl _)
    have edrop : (ts.set (0) (bmp false (-1) c)).drop (0 + 1) = ts.drop (0 + 1) := List.drop_set_of_lt (by omega)
    rw [flat_at3 (GT.all enc) hc', etake, edrop, set_ids hc (bmp_id c)] at s
    show BTreeG_I_PopMin.l5.b tr t2 t5 (ptr n 0) h K Q
    unfold BTreeG_I_PopMin.l5.b
    refine r_nil ?_
    refine r_fld ?_
    refine St.r_load0 s 0 rfl rfl ?_
    refine r_add (z := cnt) (by rw [i64w (by omega) (by omega)]; omega) ?_
    refine r_nil ?_
    refine r_fld ?_
    refine St.r_store0 s 0 rfl (by simp) rfl ?_
    intro h s
    try simp only [List.set_cons_zero, List.set_cons_succ] at s
    refine node_leaf_ok (a := some ⟨kb, 0, Option.none⟩) (s.get (k := 0) (j := 3) rfl (by simp)) ?_
    refine r_if (fun e => absurd e (by simp)) (fun _ => ?_)
    unfold BTreeG_I_PopMin.j6
    refine r_nil ?_
    refine r_fld ?_
    refine St.r_load0 s 0 rfl rfl ?_
    refine r_nil ?_
    refine St.r_load0 s 2 rfl rfl ?_
    refine wK.idx (n := 0) rfl (by omega) ?_
    refine r_loadM1 s 3 rfl hc ?_
    have := up_pop (tr := tr) (t2 := t2) (t5 := t5) hm c (E := (n, 0, [.int .u64 is', .int .i64 cnt, iv, ptr kb 0]) :: (ib, io, its.flatMap enc ++ isp) :: (kb, 0, [kv']) :: (krb, kro, (ts.map GT.id).flatMap fp ++ ksp) :: ((ts.take (0)).flatMap (GT.all enc) ++ ((ts.drop (0 + 1)).flatMap (GT.all enc) ++ E))) hfc (g.kid hcm) hcsz (s.perm (by ((apply perm_rg; intro f; simp only [List.set_cons_zero, List.set_cons_succ, List.eraseIdx_cons_zero, List.eraseIdx_cons_succ, List.cons_append, List.nil_append, List.map_append, List.map_cons, List.map_nil, List.sum_append, List.sum_cons, List.sum_nil, List.map_flatMap, Nat.add_zero, Nat.zero_add]; ac_rfl)))) fun h' s => ?_
    · exact HK _ _ this
    · refine H h' ?_
      have s1 : St h0 Z ((n, 0, [.int .u64 is', .int .i64 cnt, iv, ptr kb 0]) :: (ib, io, its.flatMap enc ++ isp) :: (kb, 0, [kv']) :: (krb, kro, (ts.map GT.id).flatMap fp ++ ksp) :: (ts.flatMap (GT.all enc) ++ E)) h' := s.perm (by rw [flat_at3 (GT.all enc) hc]; ((apply perm_rg; intro f; simp only [List.set_cons_zero, List.set_cons_succ, List.eraseIdx_cons_zero, List.eraseIdx_cons_succ, List.cons_append, List.nil_append, List.map_append, List.map_cons, List.map_nil, List.sum_append, List.sum_cons, List.sum_nil, List.map_flatMap, Nat.add_zero, Nat.zero_add]; ac_rfl)))
      rw [← mfp] at s1
      exact s1
/-- Down the way: the item is cut off, or nothing but the counts has changed. -/
theorem down_pop {t2 : Value} {tb t5 m : Nat} {iso : Int} {ctr : Option Addr} (hT0 : (tb, 0, hd0 iso ctr) ∈ Z) (hT4 : (tb, 4, hd4 lf ((m / 2 : Nat) : Int) m) ∈ Z) (hm : m ≤ 1024) (hm3 : 3 ≤ m) : ∀ {k : Nat} (c : GT It k) {lo : Nat} {E : List Rg} {h : Heap}, 1 ≤ lo → (lo = m / 2 ∨ lo = 1) → c.pt.Fl m lo → Gd iso c → c.pt.items.length ≤ 4611686018427387903 → St h0 Z (c.all enc ++ ((t5, 0, enc emp) :: E)) h →
    (∀ (c' : GT It k) h' x R, Ends false x R c.pt.items → c'.pt.items = R → (c'.pt.Fl m lo ∨ (lo ≠ m / 2 ∧ R = [])) → c'.id = c.id → Gd iso c' → St h0 Z (c'.all enc ++ ((t5, 0, enc x) :: E)) h' → popEnd tb t2 (ptr t5 0) h' Q) →
    (∀ h' x R, Ends false x R c.pt.items → St h0 Z ((bmp false (-1) c).all enc ++ ((t5, 0, enc x) :: E)) h' → BTreeG_I_PopMin.j3 (ptr tb 0) t2 (ptr t5 0) h' Q) →
    LoopOk (fun c s h K1 => BTreeG_I_PopMin.l7.b (c.getD 0 undef) (c.getD 1 undef) (c.getD 2 undef) (s.getD 0 undef) h K1 Q) [ptr tb 0, t2, ptr t5 0] k [ptr c.id 0] h
  | 0, (d : Nd It), lo, E, h, hlo, hlo2, fl, g, hsz, s, H1, H2 => by
    obtain ⟨own, n, is', cnt, its, iv, ib, io, isp, kb, kv', krb, kro, ksp⟩ := d
    intro K
    have hw : own = true := g.mine
    have hiso : is' = iso := g.wf.2.1 hw
    subst hiso; subst hw
    have w : Own 2 iv its.length ib io (its.flatMap enc) isp := g.wf.1
    have s : St h0 Z ((n, 0, [.int .u64 is', .int .i64 cnt, iv, .pointer none]) :: (ib, io, its.flatMap enc ++ isp) :: (t5, 0, enc emp) :: E) h := s
    have hcn : cnt = its.length := g.cn
    have hl1 : lo ≤ its.length := fl.1
    have hl2 : its.length ≤ m := fl.2
    have hE : Ends false (its[0]'(by omega)) (its.eraseIdx (0)) its := by
      cases its with
      | nil => simp at hl1; omega
      | cons a r => rfl
    have hx : its[0]? = some (its[0]'(by omega)) := List.getElem?_eq_getElem (by omega)
    generalize hxg : its[0]'(by omega) = x at *
    show BTreeG_I_PopMin.l7.b (ptr tb 0) t2 (ptr t5 0) (ptr n 0) h K Q
    unfold BTreeG_I_PopMin.l7.b
    refine r_nil ?_
    refine r_fld ?_
    refine St.r_load0 s 0 rfl rfl ?_
    refine r_sub (z := cnt + -1) (by rw [i64w (by omega) (by omega)]; omega) ?_
    refine r_nil ?_
    refine r_fld ?_
    refine St.r_store0 s 0 rfl (by simp) rfl ?_
    intro h s
    try simp only [List.set_cons_zero, List.set_cons_succ] at s
    refine node_leaf_ok (a := none) (s.get (k := 0) (j := 3) rfl (by simp)) ?_
    refine r_if (fun _ => ?_) (fun e => absurd e (by simp))
    refine r_nil ?_
    refine r_fld ?_
    refine St.r_load0 s 0 rfl rfl ?_
    refine w.idx (n := 0) rfl (by omega) ?_
    refine s.r_loadF encl 1 rfl hx ?_
    refine St.r_storeN0 s 2 rfl rfl (by simp) (enc1 x) ?_; intro h s
    have s : St h0 Z ((n, 0, [.int .u64 is', .int .i64 (cnt + -1), iv, .pointer none]) :: (ib, io, its.flatMap enc ++ isp) :: (t5, 0, enc x) :: E) h := s
    refine r_nil ?_
    refine r_fld ?_
    refine St.r_load0 s 0 rfl rfl ?_
    refine w.lenV ?_
    refine r_nil ?_
    refine r_fld ?_
    refine s.r_lz hT4 6 rfl rfl ?_
    refine r_cmpI ?_
    refine r_if (fun _ => H2 h x _ hE s) (fun hne => ?_)
    have hne : its.length ≠ m / 2 := by have := hne; simp at this; omega
    have hel : (its.eraseIdx (0)).length = its.length - 1 := by rw [List.length_eraseIdx, if_pos (by omega)]
    unfold BTreeG_I_PopMin.j9
    refine r_nil ?_
    refine r_fld ?_
    refine St.r_load0 s 0 rfl rfl ?_
    refine Own.slcAll encl w fun dd wd => ?_
    refine r_nil ?_
    refine r_fld ?_
    refine St.r_load0 s 0 rfl rfl ?_
    refine (w.rdl s 1 rfl).slcLo encl (i := 1) rfl (by omega) fun src rs => ?_
    refine s.r_cpyF encl 1 (i := 0) (L := its) (M := its.drop 1) rfl wd (by simp) rs rfl (fun y _ => enc1 y) fun h s => ?_
    refine r_nil ?_
    refine r_fld ?_
    refine St.r_load0 s 0 rfl rfl ?_
    refine r_nil ?_
    refine r_fld ?_
    refine St.r_load0 s 0 rfl rfl ?_
    refine w.lenV ?_
    refine r_sub (z := ((its.length - 1 : Nat) : Int)) (by rw [i64w (by omega) (by omega)]; omega) ?_
    refine r_nil ?_
    refine r_fld ?_
    refine s.r_lzE hT4 3 (enc emp) rfl (by simp) rfl ?_
    have hdl := del_len its emp (i := 0) (by omega)
    have hX := hdl
    rw [List.length_set] at hX
    have her := del_erase its emp (i := 0) (by omega)
    refine w.idx (n := its.length - 1) rfl (by omega) ?_
    refine s.r_storeF encl 1 rfl (by rw [hX]; omega) (enc1 emp) ?_; intro h s
    refine r_nil ?_
    refine r_fld ?_
    refine St.r_load0 s 0 rfl rfl ?_
    refine r_nil ?_
    refine r_fld ?_
    refine St.r_load0 s 0 rfl rfl ?_
    refine w.lenV ?_
    refine r_sub (z := ((its.length - 1 : Nat) : Int)) (by rw [i64w (by omega) (by omega)]; omega) ?_
    refine (w.list encl hdl).slcHi encl rfl (by rw [hdl]; omega) fun iv2 w2 => ?_
    have s := s.del (f := enc) 1 rfl _ her
    rw [her] at w2
    refine r_nil ?_
    refine r_fld ?_
    refine St.r_store0 s 0 rfl (by simp) w2.one ?_; intro h s
    refine H1 (⟨true, n, is', cnt + -1, its.eraseIdx (0), iv2, ib, io, _, kb, kv', krb, kro, ksp⟩ : Nd It) h x _ hE rfl ?_ rfl (Gd.leaf w2 rfl rfl (by show cnt + -1 = ((its.eraseIdx (0)).length : Int); rw [hel, hcn]; omega)) s
    rcases Nat.lt_or_ge lo its.length with e | e
    · left
      show lo ≤ (its.eraseIdx (0)).length ∧ (its.eraseIdx (0)).length ≤ m
      rw [hel]; omega
    · right
      exact ⟨by omega, List.length_eq_zero_iff.1 (by rw [hel]; omega)⟩
  | k + 1, t, lo, E, h, hlo, hlo2, fl, g, hsz, s, H1, H2 => by
    obtain ⟨d, ts⟩ := t
    obtain ⟨own, n, is', cnt, its, iv, ib, io, isp, kb, kv', krb, kro, ksp⟩ := d
    intro K HK
    have hw : own = true := g.mine.1
    have hiso : is' = iso := g.wf.1.2.1 hw
    subst hiso; subst hw
    have hkl : ts.length = its.length + 1 := g.wf.2.2.1
    have wK : Own 1 kv' ts.length krb kro ((ts.map GT.id).map fun m => ptr m 0) ksp := g.wf.2.1
    have hcn : cnt = (PT.items (h := k + 1) (its, ts.map GT.pt)).length := g.cn.1
    have hsz : (PT.items (h := k + 1) (its, ts.map GT.pt)).length ≤ 4611686018427387903 := hsz
    have hlm : its.length ≤ m := fl.2.1
    have hl1 : lo ≤ its.length := fl.1
    obtain ⟨c, hc⟩ : ∃ c, ts[0]? = some c := ⟨ts[0]'(by omega), List.getElem?_eq_getElem (by omega)⟩
    have hcm := List.mem_of_getElem? hc
    have hcm2 : c.pt ∈ ts.map GT.pt := List.mem_map.2 ⟨c, hcm, rfl⟩
    have hfc : PT.Fl m (m / 2) c.pt := fl.2.2.2 _ hcm2
    have fl : PT.Fl m lo (h := k + 1) (its, ts.map GT.pt) := fl
    have hcsz : c.pt.items.length ≤ 4611686018427387903 := by
      have h1 : (inter its ((ts.map GT.pt).map PT.items)).length = _ := inter_length _ _
      have h2 : (inter its ((ts.map GT.pt).map PT.items)).length ≤ 4611686018427387903 := hsz
      have h3 : c.pt.items.length ≤ (((ts.map GT.pt).map PT.items).map List.length).sum := mem_le_sum (by
        rw [List.map_map, List.map_map]; exact List.mem_map.2 ⟨c, hcm, rfl⟩)
      omega
    have hc2 : ts[0]? = some c := by
      exact hc
    have hcp : (ts.map GT.pt)[0]? = some c.pt := by rw [List.getElem?_map, hc]; rfl
    have up : ∀ {x : It} {R0 : List It} (c' : PT It k), Ends false x R0 c.pt.items → c'.items = R0 → PT.Fl m (m / 2) c' → ∃ R, Ends false x R (PT.items (h := k + 1) (its, ts.map GT.pt)) ∧ PT.items (h := k + 1) (its, (ts.map GT.pt).set (0) c') = R ∧ PT.Fl m lo (h := k + 1) (its, (ts.map GT.pt).set (0) c') := fun {x R0} c' he hr hf => by
      obtain ⟨f', A, B, e1, e2, e3, e4⟩ := items_set fl (by omega : 0 ≤ its.length) hcp hf
      refine ⟨_, ?_, rfl, f'⟩
      rw [e1, e2, hr]
      have he : c.pt.items = x :: R0 := he
      show _ = x :: _
      rw [e3 rfl, he]; rfl
    have up0 : ∀ {x : It} {R0 : List It}, Ends false x R0 c.pt.items → ∃ R, Ends false x R (PT.items (h := k + 1) (its, ts.map GT.pt)) := fun {x R0} he => by
      obtain ⟨_, A, B, e1, _, e3, e4⟩ := items_set fl (by omega : 0 ≤ its.length) hcp hfc
      rw [e1]
      have he : c.pt.items = x :: R0 := he
      exact ⟨R0 ++ B, by rw [e3 rfl, he]; rfl⟩
    have s : St h0 Z ((n, 0, [.int .u64 is', .int .i64 cnt, iv, ptr kb 0]) :: (ib, io, its.flatMap enc ++ isp) :: (kb, 0, [kv']) :: (krb, kro, ((ts.map GT.id).map fun m => ptr m 0) ++ ksp) :: (ts.flatMap (GT.all enc) ++ ((t5, 0, enc emp) :: E))) h := s
    rw [mfp, flat_at3 (GT.all enc) hc] at s
    show BTreeG_I_PopMin.l7.b (ptr tb 0) t2 (ptr t5 0) (ptr n 0) h K Q
    unfold BTreeG_I_PopMin.l7.b
    refine r_nil ?_
    refine r_fld ?_
    refine St.r_load0 s 0 rfl rfl ?_
    refine r_sub (z := cnt + -1) (by rw [i64w (by omega) (by omega)]; omega) ?_
    refine r_nil ?_
    refine r_fld ?_
    refine St.r_store0 s 0 rfl (by simp) rfl ?_
    intro h s
    try simp only [List.set_cons_zero, List.set_cons_succ] at s
    refine node_leaf_ok (a := some ⟨kb, 0, Option.none⟩) (s.get (k := 0) (j := 3) rfl (by simp)) ?_
    refine r_if (fun e => absurd e (by simp)) (fun _ => ?_)
    unfold BTreeG_I_PopMin.j8
    refine r_nil ?_
    refine r_fld ?_
    refine St.r_load0 s 0 rfl rfl ?_
    refine r_nil ?_
    refine St.r_load0 s 2 rfl rfl ?_
    refine wK.idx (n := 0) rfl (by omega) ?_
    have hcell : cl h krb (kro + 0 * 1) = some (ptr c.id 0) := by
      have hid : (ts.map GT.id)[0]? = some c.id := by rw [List.getElem?_map, hc]; rfl
      obtain ⟨hi, he⟩ := List.getElem?_eq_some_iff.1 hid
      have := s.get (k := 3) (j := 0 * 1) rfl (by rw [List.length_append, flat_len fpl]; omega)
      rw [this, List.getElem?_append_left (by rw [flat_len fpl]; omega)]
      have h2 := flat_get (f := fp) fpl (ts.map GT.id) (0) hi 0 (by decide)
      rw [Nat.add_zero] at h2
      rw [h2, he]; rfl
    have hciso : cl h c.id 0 = some (.int .u64 is') := by
      have hown : c.nd.own = true := (g.kid hcm).mine.nd
      obtain ⟨a2, a3, a4, hmem⟩ := topIso (t := c)
      have hci : c.nd.iso = is' := by
        have := (g.kid hcm).wf
        cases k with
        | zero => exact this.2.1 hown
        | succ k => exact this.1.2.1 hown
      rw [hci] at hmem
      have hmm : (c.id, 0, [.int .u64 is', a2, a3, a4]) ∈ c.all enc ++ (ts.drop (0 + 1)).flatMap (GT.all enc) := List.mem_append.2 (.inl hmem)
      have hmm := List.mem_append.2 (.inr hmm : _ ∈ (ts.take (0)).flatMap (GT.all enc) ∨ _)
      have hmm := List.mem_append.2 (.inl hmm : _ ∨ _ ∈ (t5, 0, enc emp) :: E)
      have := (s.e _ (List.mem_cons_of_mem _ (List.mem_cons_of_mem _ (List.mem_cons_of_mem _ (List.mem_cons_of_mem _ hmm))))).1.at0 0 rfl
      exact this
    refine isoLoad_ok (n := c.id) (iso := is') (by have := s.getZ hT0 (j := 0) (by simp); simpa using this) hcell (fun _ => hciso) ?_
    have := down_pop (t2 := t2) (t5 := t5) hT0 hT4 hm hm3 c (E := (n, 0, [.int .u64 is', .int .i64 (cnt + -1), iv, ptr kb 0]) :: (ib, io, its.flatMap enc ++ isp) :: (kb, 0, [kv']) :: (krb, kro, (ts.map GT.id).flatMap fp ++ ksp) :: ((ts.take (0)).flatMap (GT.all enc) ++ ((ts.drop (0 + 1)).flatMap (GT.all enc) ++ E))) (by omega) (.inl rfl) hfc (g.kid hcm) hcsz (s.perm (by ((apply perm_rg; intro f; simp only [List.set_cons_zero, List.set_cons_succ, List.eraseIdx_cons_zero, List.eraseIdx_cons_succ, List.cons_append, List.nil_append, List.map_append, List.map_cons, List.map_nil, List.sum_append, List.sum_cons, List.sum_nil, List.map_flatMap, Nat.add_zero, Nat.zero_add]; ac_rfl)))) (fun c' h' x R0 a1 a2 a3 a4 a5 s => ?_) (fun h' x R0 a1 s => ?_)
    · exact HK _ _ this
    · have hf' : PT.Fl m (m / 2) c'.pt := by
        rcases a3 with e | e
        · exact e
        · exact absurd rfl e.1
      obtain ⟨R, u1, u2, u3⟩ := up c'.pt a1 a2 hf'
      have ept : (ts.set (0) c').map GT.pt = (ts.map GT.pt).set (0) c'.pt := by rw [List.map_set]
      have hi := (List.getElem?_eq_some_iff.1 hc).1
      have hc' : (ts.set (0) c')[0]? = some c' := List.getElem?_set_self hi
      have etake : (ts.set (0) c').take (0) = ts.take (0) := List.take_set_of_le (Nat.le_refl _)
      have edrop : (ts.set (0) c').drop (0 + 1) = ts.drop (0 + 1) := List.drop_set_of_lt (by omega)
      have hlen := u1.len
      refine H1 ((⟨true, n, is', cnt + -1, its, iv, ib, io, isp, kb, kv', krb, kro, ksp⟩ : Nd It), ts.set (0) c') h' x R u1 (by show PT.items (h := k + 1) (its, (ts.set (0) c').map GT.pt) = _; rw [ept]; exact u2) (.inl (by show PT.Fl m lo (h := k + 1) (its, (ts.set (0) c').map GT.pt); rw [ept]; exact u3)) rfl
        (Gd.setKid (d := ⟨true, n, is', cnt, its, iv, ib, io, isp, kb, kv', krb, kro, ksp⟩) g hc a4 a5 (by
          show cnt + -1 = ((PT.items (h := k + 1) (its, (ts.set (0) c').map GT.pt)).length : Int); rw [ept, u2]; omega)) ?_
      have s1 : St h0 Z ((n, 0, [.int .u64 is', .int .i64 (cnt + -1), iv, ptr kb 0]) :: (ib, io, its.flatMap enc ++ isp) :: (kb, 0, [kv']) :: (krb, kro, ((ts.set (0) c').map GT.id).flatMap fp ++ ksp) :: ((ts.set (0) c').flatMap (GT.all enc) ++ ((t5, 0, enc x) :: E))) h' :=
        s.perm (by rw [set_ids hc a4, flat_at3 (GT.all enc) hc', etake, edrop]; ((apply perm_rg; intro f; simp only [List.set_cons_zero, List.set_cons_succ, List.eraseIdx_cons_zero, List.eraseIdx_cons_succ, List.cons_append, List.nil_append, List.map_append, List.map_cons, List.map_nil, List.sum_append, List.sum_cons, List.sum_nil, List.map_flatMap, Nat.add_zero, Nat.zero_add]; ac_rfl)))
      rw [← mfp] at s1
      exact s1
    · obtain ⟨R, u1⟩ := up0 a1
      refine H2 h' x R u1 ?_
      have hi := (List.getElem?_eq_some_iff.1 hc2).1
      have hc' : (ts.set (0) (bmp false (-1) c))[0]? = some (bmp false (-1) c) := List.getElem?_set_self hi
      have etake : (ts.set (0) (bmp false (-1) c)).take (0) = ts.take (0) := by rw [List.take_set_of_le (Nat.le_refl _)]
      have edrop : (ts.set (0) (bmp false (-1) c)).drop (0 + 1) = ts.drop (0 + 1) := by rw [List.drop_set_of_lt (by omega)]
      have s1 : St h0 Z ((n, 0, [.int .u64 is', .int .i64 (cnt + -1), iv, ptr kb 0]) :: (ib, io, its.flatMap enc ++ isp) :: (kb, 0, [kv']) :: (krb, kro, ((ts.modify (0) (bmp false (-1))).map GT.id).flatMap fp ++ ksp) :: ((ts.modify (0) (bmp false (-1))).flatMap (GT.all enc) ++ ((t5, 0, enc x) :: E))) h' :=
        s.perm (by rw [modify_at hc2, set_ids hc2 (bmp_id c), flat_at3 (GT.all enc) hc', etake, edrop]; ((apply perm_rg; intro f; simp only [List.set_cons_zero, List.set_cons_succ, List.eraseIdx_cons_zero, List.eraseIdx_cons_succ, List.cons_append, List.nil_append, List.map_append, List.map_cons, List.map_nil, List.sum_append, List.sum_cons, List.sum_nil, List.map_flatMap, Nat.add_zero, Nat.zero_add]; ac_rfl)))
      rw [← mfp] at s1
      exact s1
theorem ok (o : Swo lt) {A : List Rg} (hO : OrdA A lf lt) {tb m : Nat} {iso : Int} {ctr : Option Addr} {g : Rt} (M : TreeOk lt m iso g) (hsz : (rPt g).items.length ≤ 4611686018427387903)
    (s : St h0 Z ((tb, 0, hdr iso ctr (rA g) (rPt g).items.length lf ((m / 2 : Nat) : Int) m) :: (rAll g ++ (A ++ E))) h)
    (H : ∀ (r : Option It) (g' : Rt) h', Popped false r (rPt g).items (rPt g').items → TreeOk lt m iso g' → (rH g' = rH g ∨ rH g' + 1 = rH g) → St h0 Z ((tb, 0, hdr iso ctr (rA g') (rPt g').items.length lf ((m / 2 : Nat) : Int) m) :: (rAll g' ++ (A ++ E))) h' → Q (.tuple #[old r, .bool r.isSome]) h') :
    BTreeG_I_PopMin.call #[ptr tb 0] h Q := by
  refine BTreeG_I_PopMin.body _ _ _ ?_
  unfold BTreeG_I_PopMin.sh
  refine s.r_alloc fun t2 h s => ?_
  refine lock_ok ?_
  refine r_if (fun e => absurd e (by simp)) (fun _ => ?_)
  unfold BTreeG_I_PopMin.j1
  refine r_nil ?_
  refine r_fld ?_
  refine St.r_load0 s 1 rfl rfl ?_
  refine r_eqNilP ?_
  cases g with
  | none =>
    refine r_if (fun _ => ?_) (fun e => absurd e (by simp [rA]))
    refine r_nil ?_
    refine r_fld ?_
    refine St.r_loadN0 s 1 rfl (by simp) ?_
    refine St.r_storeN0 s 0 rfl rfl (by simp) (enc1 emp) ?_; intro h s
    refine St.r_loadN0 s 0 rfl (by simp) ?_
    exact H none none h ⟨rfl, rfl⟩ M (.inl rfl) (s.drop 1)
  | some t =>
    obtain ⟨k, t⟩ := t
    refine r_if (fun e => absurd e (by simp [rA])) (fun _ => ?_)
    unfold BTreeG_I_PopMin.j2
    have hkk : k < t.pt.items.length := PT.height_le M.m3 (t := t.pt) M.fl (Nat.le_refl _)
    have s := hdr_cut (s.front 1 rfl)
    have s0 : St h0 Z (([(tb, 0, hd0 iso ctr), (tb, 4, hd4 lf ((m / 2 : Nat) : Int) m)] ++ A) ++ ((tb, 2, [ptr t.id 0]) :: (tb, 3, [.int .i64 t.pt.items.length]) :: (t2, 0, enc emp) :: (t.all enc ++ E))) h := s.perm (by
      show ((tb, 0, hd0 iso ctr) :: (tb, 4, hd4 lf ((m / 2 : Nat) : Int) m) :: (A ++ ((tb, 2, [ptr t.id 0]) :: (tb, 3, [.int .i64 t.pt.items.length]) :: (t2, 0, enc emp) :: (t.all enc ++ E)))).Perm ((tb, 0, hd0 iso ctr) :: (tb, 4, hd4 lf ((m / 2 : Nat) : Int) m) :: (tb, 2, [ptr t.id 0]) :: (tb, 3, [.int .i64 t.pt.items.length]) :: (t2, 0, enc emp) :: (t.all enc ++ (A ++ E)))
      ((apply perm_rg; intro f; simp only [List.set_cons_zero, List.set_cons_succ, List.eraseIdx_cons_zero, List.eraseIdx_cons_succ, List.cons_append, List.nil_append, List.map_append, List.map_cons, List.map_nil, List.sum_append, List.sum_cons, List.sum_nil, List.map_flatMap, Nat.add_zero, Nat.zero_add]; ac_rfl)))
    obtain ⟨s1, back⟩ := s0.borrow
    have z0 : (tb, 0, hd0 iso ctr) ∈ ([(tb, 0, hd0 iso ctr), (tb, 4, hd4 lf ((m / 2 : Nat) : Int) m)] ++ A) ++ Z := List.mem_cons_self ..
    have z4 : (tb, 4, hd4 lf ((m / 2 : Nat) : Int) m) ∈ ([(tb, 0, hd0 iso ctr), (tb, 4, hd4 lf ((m / 2 : Nat) : Int) m)] ++ A) ++ Z := List.mem_cons_of_mem _ (List.mem_cons_self ..)
    have hgd : Gd iso t := M.gd
    have hfl : t.pt.Fl m 1 := M.fl
    have hasc : Asc lt t.pt.items := M.asc
    have hszt : t.pt.items.length ≤ 4611686018427387903 := hsz
    have hiso : ∀ {Z' E' : List Rg} {h : Heap}, St h0 Z' (t.all enc ++ E') h → cl h t.id 0 = some (.int .u64 iso) := fun s => by
      obtain ⟨a2, a3, a4, hmem⟩ := topIso (t := t)
      have hown := hgd.mine.nd
      have hci : t.nd.iso = iso := by
        have := hgd.wf
        cases k with
        | zero => exact this.2.1 hown
        | succ k => exact this.1.2.1 hown
      rw [hci] at hmem
      exact (s.e _ (List.mem_append.2 (.inl hmem))).1.at0 0 rfl
    refine r_nil ?_
    refine r_fld ?_
    refine isoLoad_ok (n := t.id) (iso := iso) (by have := s1.getZ z0 (j := 0) (by simp); simpa using this) (by have := s1.get (k := 0) (j := 0) rfl (by simp); simpa using this) (fun _ => hiso (s1.perm (E' := t.all enc ++ ((tb, 2, [ptr t.id 0]) :: (tb, 3, [.int .i64 t.pt.items.length]) :: (t2, 0, enc emp) :: E)) (by ((apply perm_rg; intro f; simp only [List.set_cons_zero, List.set_cons_succ, List.eraseIdx_cons_zero, List.eraseIdx_cons_succ, List.cons_append, List.nil_append, List.map_append, List.map_cons, List.map_nil, List.sum_append, List.sum_cons, List.sum_nil, List.map_flatMap, Nat.add_zero, Nat.zero_add]; ac_rfl))))) ?_
    refine s1.r_alloc fun t5 h s1 => ?_
    refine (down_pop (t2 := ptr t2 0) (t5 := t5) z0 z4 M.m1 M.m3 t (E := (tb, 2, [ptr t.id 0]) :: (tb, 3, [.int .i64 t.pt.items.length]) :: (t2, 0, enc emp) :: E) (Nat.le_refl 1) (.inr rfl) hfl hgd hszt (s1.perm (by ((apply perm_rg; intro f; simp only [List.set_cons_zero, List.set_cons_succ, List.eraseIdx_cons_zero, List.eraseIdx_cons_succ, List.cons_append, List.nil_append, List.map_append, List.map_cons, List.map_nil, List.sum_append, List.sum_cons, List.sum_nil, List.map_flatMap, Nat.add_zero, Nat.zero_add]; ac_rfl)))) (fun c' h' x R a1 a2 a3 a4 a5 s => ?_) (fun h' x R a1 s => ?_)).loop
    · have hlen := a1.len
      unfold popEnd
      have s : St h0 (([(tb, 0, hd0 iso ctr), (tb, 4, hd4 lf ((m / 2 : Nat) : Int) m)] ++ A) ++ Z) ((tb, 3, [.int .i64 t.pt.items.length]) :: (tb, 2, [ptr t.id 0]) :: (t2, 0, enc emp) :: (t5, 0, enc x) :: (c'.all enc ++ E)) h' := s.perm (by ((apply perm_rg; intro f; simp only [List.set_cons_zero, List.set_cons_succ, List.eraseIdx_cons_zero, List.eraseIdx_cons_succ, List.cons_append, List.nil_append, List.map_append, List.map_cons, List.map_nil, List.sum_append, List.sum_cons, List.sum_nil, List.map_flatMap, Nat.add_zero, Nat.zero_add]; ac_rfl)))
      refine r_nil ?_
      refine r_fld ?_
      refine s.r_load1 0 (o := 3) (j := 0) rfl rfl ?_
      refine r_sub (z := (R.length : Int)) (by rw [i64w (by omega) (by omega)]; omega) ?_
      refine r_nil ?_
      refine r_fld ?_
      refine St.r_store1 s 0 (o := 3) (j := 0) rfl (by simp) rfl ?_; intro h s
      refine r_nil ?_
      refine r_fld ?_
      refine s.r_load1 0 (o := 3) (j := 0) rfl rfl ?_
      refine r_cmpI ?_
      refine r_if (fun e => ?_) (fun e => ?_)
      · have hR : R = [] := by simpa using e
        subst hR
        refine r_nil ?_
        refine r_fld ?_
        refine St.r_store1 s 1 (o := 2) (j := 0) rfl (by simp) rfl ?_; intro h s
        refine St.r_loadN0 s 3 rfl (by simp) ?_
        refine St.r_storeN0 s 2 rfl rfl (by simp) (enc1 x) ?_; intro h s
        refine St.r_loadN0 s 2 rfl (by simp) ?_
        have hk0 : k = 0 := by rw [hlen] at hkk; simp at hkk; exact hkk
        refine H (some x) none h a1 (TreeOk.none M.m3 M.m1 M.odd) (.inr (by show 0 + 1 = k + 1; rw [hk0])) ?_
        have s2 := back _ h s
        refine hdr_glue ?_
        exact (s2.perm (E' := (c'.all enc) ++ ((t2, 0, enc x) :: (t5, 0, enc x) :: (tb, 0, hd0 iso ctr) :: (tb, 4, hd4 lf ((m / 2 : Nat) : Int) m) :: (tb, 2, [.pointer none]) :: (tb, 3, [.int .i64 (([] : List It).length : Nat)]) :: (A ++ E))) (by ((apply perm_rg; intro f; simp only [List.set_cons_zero, List.set_cons_succ, List.eraseIdx_cons_zero, List.eraseIdx_cons_succ, List.cons_append, List.nil_append, List.map_append, List.map_cons, List.map_nil, List.sum_append, List.sum_cons, List.sum_nil, List.map_flatMap, Nat.add_zero, Nat.zero_add]; ac_rfl)))).sub (List.Sublist.trans (List.sublist_cons_self ..) (List.Sublist.trans (List.sublist_cons_self ..) (List.sublist_append_right _ _)))
      · have hR : R ≠ [] := fun hR => by subst hR; simp at e
        refine St.r_loadN0 s 3 rfl (by simp) ?_
        refine St.r_storeN0 s 2 rfl rfl (by simp) (enc1 x) ?_; intro h s
        refine St.r_loadN0 s 2 rfl (by simp) ?_
        have hf : c'.pt.Fl m 1 := by
          rcases a3 with e | e
          · exact e
          · exact absurd e.2 hR
        have hsub : Asc lt R := by
          have := (ends_del o a1 hasc).2
          rw [← this]; exact asc_of_sub hasc (ldel_sub _ _)
        refine H (some x) (some ⟨k, c'⟩) h (by show Ends false x c'.pt.items t.pt.items; rw [a2]; exact a1) ⟨a5, hf, by show Asc lt c'.pt.items; rw [a2]; exact hsub, M.m3, M.m1, M.odd⟩ (.inl rfl) ?_
        have s2 := back _ h s
        show St h0 Z ((tb, 0, hdr iso ctr (some ⟨c'.id, 0, Option.none⟩) c'.pt.items.length lf ((m / 2 : Nat) : Int) m) :: (c'.all enc ++ (A ++ E))) h
        refine hdr_glue ?_
        rw [a2, a4]
        exact (s2.perm (E' := (t2, 0, enc x) :: (t5, 0, enc x) :: (tb, 0, hd0 iso ctr) :: (tb, 4, hd4 lf ((m / 2 : Nat) : Int) m) :: (tb, 2, [ptr t.id 0]) :: (tb, 3, [.int .i64 (R.length : Nat)]) :: (c'.all enc ++ (A ++ E))) (by ((apply perm_rg; intro f; simp only [List.set_cons_zero, List.set_cons_succ, List.eraseIdx_cons_zero, List.eraseIdx_cons_succ, List.cons_append, List.nil_append, List.map_append, List.map_cons, List.map_nil, List.sum_append, List.sum_cons, List.sum_nil, List.map_flatMap, Nat.add_zero, Nat.zero_add]; ac_rfl)))).drop 2
    · obtain ⟨d1, d2⟩ := ends_del o a1 hasc
      unfold BTreeG_I_PopMin.j3
      have s : St h0 (([(tb, 0, hd0 iso ctr), (tb, 4, hd4 lf ((m / 2 : Nat) : Int) m)] ++ A) ++ Z) ((tb, 2, [ptr t.id 0]) :: (tb, 3, [.int .i64 t.pt.items.length]) :: (t2, 0, enc emp) :: (t5, 0, enc x) :: ((bmp false (-1) t).all enc ++ E)) h' := s.perm (by ((apply perm_rg; intro f; simp only [List.set_cons_zero, List.set_cons_succ, List.eraseIdx_cons_zero, List.eraseIdx_cons_succ, List.cons_append, List.nil_append, List.map_append, List.map_cons, List.map_nil, List.sum_append, List.sum_cons, List.sum_nil, List.map_flatMap, Nat.add_zero, Nat.zero_add]; ac_rfl)))
      refine r_nil ?_
      refine r_fld ?_
      refine s.r_load1 0 (o := 2) (j := 0) rfl rfl ?_
      refine (up_pop M.m1 t (E := (tb, 2, [ptr t.id 0]) :: (tb, 3, [.int .i64 t.pt.items.length]) :: (t2, 0, enc emp) :: (t5, 0, enc x) :: E) hfl hgd hszt (s.perm (by ((apply perm_rg; intro f; simp only [List.set_cons_zero, List.set_cons_succ, List.eraseIdx_cons_zero, List.eraseIdx_cons_succ, List.cons_append, List.nil_append, List.map_append, List.map_cons, List.map_nil, List.sum_append, List.sum_cons, List.sum_nil, List.map_flatMap, Nat.add_zero, Nat.zero_add]; ac_rfl)))) fun h' s => ?_).loop
      have s2 := back ((tb, 2, [ptr t.id 0]) :: (tb, 3, [.int .i64 t.pt.items.length]) :: (t2, 0, enc emp) :: (t5, 0, enc x) :: (t.all enc ++ E)) h' (s.perm (by ((apply perm_rg; intro f; simp only [List.set_cons_zero, List.set_cons_succ, List.eraseIdx_cons_zero, List.eraseIdx_cons_succ, List.cons_append, List.nil_append, List.map_append, List.map_cons, List.map_nil, List.sum_append, List.sum_cons, List.sum_nil, List.map_flatMap, Nat.add_zero, Nat.zero_add]; ac_rfl))))
      have s4 : St h0 Z ((tb, 0, hd0 iso ctr) :: (tb, 4, hd4 lf ((m / 2 : Nat) : Int) m) :: (tb, 2, [ptr t.id 0]) :: (tb, 3, [.int .i64 t.pt.items.length]) :: (t2, 0, enc emp) :: (t5, 0, enc x) :: (t.all enc ++ (A ++ E))) h' := s2.perm (by ((apply perm_rg; intro f; simp only [List.set_cons_zero, List.set_cons_succ, List.eraseIdx_cons_zero, List.eraseIdx_cons_succ, List.cons_append, List.nil_append, List.map_append, List.map_cons, List.map_nil, List.sum_append, List.sum_cons, List.sum_nil, List.map_flatMap, Nat.add_zero, Nat.zero_add]; ac_rfl)))
      have s5 : St h0 Z ((tb, 0, hdr iso ctr (rA (some ⟨k, t⟩)) (rPt (some ⟨k, t⟩)).items.length lf ((m / 2 : Nat) : Int) m) :: (t2, 0, enc emp) :: (t5, 0, enc x) :: (rAll (some ⟨k, t⟩) ++ (A ++ E))) h' := hdr_glue s4
      unfold BTreeG_I_PopMin.j4
      refine St.r_loadN0 s5 2 rfl (by simp) ?_
      refine deleteHint_ok o hO M hsz Hn.none (x := x) (E := (t2, 0, enc emp) :: (t5, 0, enc x) :: E) ((s5.empty 0 0).perm (by ((apply perm_rg; intro f; simp only [List.set_cons_zero, List.set_cons_succ, List.eraseIdx_cons_zero, List.eraseIdx_cons_succ, List.cons_append, List.nil_append, List.map_append, List.map_cons, List.map_nil, List.sum_append, List.sum_cons, List.sum_nil, List.map_flatMap, Nat.add_zero, Nat.zero_add]; ac_rfl)))) fun g' hc' h e1 e2 M' hH hh s => ?_
      have s : St h0 Z ((t2, 0, enc emp) :: (t5, 0, enc x) :: (0, 0, hc') :: (tb, 0, hdr iso ctr (rA g') (rPt g').items.length lf ((m / 2 : Nat) : Int) m) :: (rAll g' ++ (A ++ E))) h := s.perm (by ((apply perm_rg; intro f; simp only [List.set_cons_zero, List.set_cons_succ, List.eraseIdx_cons_zero, List.eraseIdx_cons_succ, List.cons_append, List.nil_append, List.map_append, List.map_cons, List.map_nil, List.sum_append, List.sum_cons, List.sum_nil, List.map_flatMap, Nat.add_zero, Nat.zero_add]; ac_rfl)))
      have hl : lget lt (rPt (some ⟨k, t⟩)).items x = some x := d1
      rw [hl]
      refine r_ext rfl ?_
      refine r_ext rfl ?_
      refine St.r_storeN0 s 0 rfl rfl (by simp) (enc1 x) ?_; intro h s
      refine St.r_loadN0 s 0 rfl (by simp) ?_
      refine H (some x) g' h ?_ M' hH (s.drop 3)
      show Ends false x (rPt g').items t.pt.items
      rw [e1]
      have : ldel lt (rPt (some ⟨k, t⟩)).items x = R := d2
      rw [this]; exact a1
end PopMin

namespace PopMax
/-- Back up: the counts as they were. -/
theorem up_pop {tr t2 t5 : Value} {iso : Int} {m : Nat} (hm : m ≤ 1024) : ∀ {k : Nat} (c : GT It k) {lo : Nat} {E : List Rg} {h : Heap}, c.pt.Fl m lo → Gd iso c → c.pt.items.length ≤ 4611686018427387903 → St h0 Z ((bmp true (-1) c).all enc ++ E) h → (∀ h', St h0 Z (c.all enc ++ E) h' → BTreeG_I_PopMax.j4 tr t2 t5 h' Q) →
    LoopOk (fun c s h K1 => BTreeG_I_PopMax.l5.b (c.getD 0 undef) (c.getD 1 undef) (c.getD 2 undef) (s.getD 0 undef) h K1 Q) [tr, t2, t5] k [ptr c.id 0] h
  | 0, (d : Nd It), lo, E, h, fl, g, hsz, s, H => by
    obtain ⟨own, n, is', cnt, its, iv, ib, io, isp, kb, kv', krb, kro, ksp⟩ := d
    intro K
    have s : St h0 Z ((n, 0, [.int .u64 is', .int .i64 (cnt + -1), iv, .pointer none]) :: (ib, io, its.flatMap enc ++ isp) :: E) h := s
    have hcn : cnt = its.length := g.cn
    have hsz : its.length ≤ 4611686018427387903 := hsz
    show BTreeG_I_PopMax.l5.b tr t2 t5 (ptr n 0) h K Q
    unfold BTreeG_I_PopMax.l5.b
    refine r_nil ?_
    refine r_fld ?_
    refine St.r_load0 s 0 rfl rfl ?_
    refine r_add (z := cnt) (by rw [i64w (by omega) (by omega)]; omega) ?_
    refine r_nil ?_
    refine r_fld ?_
    refine St.r_store0 s 0 rfl (by simp) rfl ?_
    intro h s
    try simp only [List.set_cons_zero, List.set_cons_succ] at s
    refine node_leaf_ok (a := none) (s.get (k := 0) (j := 3) rfl (by simp)) ?_
    refine r_if (fun _ => ?_) (fun e => absurd e (by simp))
    exact H h s
  | k + 1, t, lo, E, h, fl, g, hsz, s, H => by
    obtain ⟨d, ts⟩ := t
    obtain ⟨own, n, is', cnt, its, iv, ib, io, isp, kb, kv', krb, kro, ksp⟩ := d
    intro K HK
    have hkl : ts.length = its.length + 1 := g.wf.2.2.1
    have wK : Own 1 kv' ts.length krb kro ((ts.map GT.id).map fun m => ptr m 0) ksp := g.wf.2.1
    have hcn : cnt = (PT.items (h := k + 1) (its, ts.map GT.pt)).length := g.cn.1
    have hsz : (PT.items (h := k + 1) (its, ts.map GT.pt)).length ≤ 4611686018427387903 := hsz
    obtain ⟨c, hc⟩ : ∃ c, ts[ts.length - 1]? = some c := ⟨ts[ts.length - 1]'(by omega), List.getElem?_eq_getElem (by omega)⟩
    have hcm := List.mem_of_getElem? hc
    have hcm2 : c.pt ∈ ts.map GT.pt := List.mem_map.2 ⟨c, hcm, rfl⟩
    have hfc : PT.Fl m (m / 2) c.pt := fl.2.2.2 _ hcm2
    have hlm : its.length ≤ m := fl.2.1
    have hcsz : c.pt.items.length ≤ 4611686018427387903 := by
      have h1 : (inter its ((ts.map GT.pt).map PT.items)).length = _ := inter_length _ _
      have h2 : (inter its ((ts.map GT.pt).map PT.items)).length ≤ 4611686018427387903 := hsz
      have h3 : c.pt.items.length ≤ (((ts.map GT.pt).map PT.items).map List.length).sum := mem_le_sum (by
        rw [List.map_map, List.map_map]; exact List.mem_map.2 ⟨c, hcm, rfl⟩)
      omega
    have s : St h0 Z ((n, 0, [.int .u64 is', .int .i64 (cnt + -1), iv, ptr kb 0]) :: (ib, io, its.flatMap enc ++ isp) :: (kb, 0, [kv']) :: (krb, kro, (((ts.modify (ts.length - 1) (bmp true (-1))).map GT.id).map fun m => ptr m 0) ++ ksp) :: ((ts.modify (ts.length - 1) (bmp true (-1))).flatMap (GT.all enc) ++ E)) h := s
    rw [modify_at hc, mfp] at s
    have hi := (List.getElem?_eq_some_iff.1 hc).1
    have hc' : (ts.set (ts.length - 1) (bmp true (-1) c))[ts.length - 1]? = some (bmp true (-1) c) := List.getElem?_set_self hi
    have etake : (ts.set (ts.length - 1) (bmp true (-1) c)).take (ts.length - 1) = ts.take (ts.length - 1) := List.take_set_of_le (Nat.le_refl _)
    have edrop : (ts.set (ts.length - 1) (bmp true (-1) c)).drop (ts.length - 1 + 1) = ts.drop (ts.length - 1 + 1) := List.drop_set_of_lt (by omega)
    rw [flat_at3 (GT.all enc) hc', etake, edrop, set_ids hc (bmp_id c)] at s
    show BTreeG_I_PopMax.l5.b tr t2 t5 (ptr n 0) h K Q
    unfold BTreeG_I_PopMax.l5.b
    refine r_nil ?_
    refine r_fld ?_
    refine St.r_load0 s 0 rfl rfl ?_
    refine r_add (z := cnt) (by rw [i64w (by omega) (by omega)]; omega) ?_
    refine r_nil ?_
    refine r_fld ?_
    refine St.r_store0 s 0 rfl (by simp) rfl ?_
    intro h s
    try simp only [List.set_cons_zero, List.set_cons_succ] at s
    refine node_leaf_ok (a := some ⟨kb, 0, Option.none⟩) (s.get (k := 0) (j := 3) rfl (by simp)) ?_
    refine r_if (fun e => absurd e (by simp)) (fun _ => ?_)
    unfold BTreeG_I_PopMax.j6
    refine r_nil ?_
    refine r_fld ?_
    refine St.r_load0 s 0 rfl rfl ?_
    refine r_nil ?_
    refine St.r_load0 s 2 rfl rfl ?_
    refine r_nil ?_
    refine r_fld ?_
    refine St.r_load0 s 0 rfl rfl ?_
    refine r_nil ?_
    refine St.r_load0 s 2 rfl rfl ?_
    refine wK.lenV ?_
    refine r_sub (z := ((ts.length - 1 : Nat) : Int)) (by rw [i64w (by omega) (by omega)]; omega) ?_
    refine wK.idx (n := ts.length - 1) rfl (by omega) ?_
    refine r_loadM1 s 3 rfl hc ?_
    have := up_pop (tr := tr) (t2 := t2) (t5 := t5) hm c (E := (n, 0, [.int .u64 is', .int .i64 cnt, iv, ptr kb 0]) :: (ib, io, its.flatMap enc ++ isp) :: (kb, 0, [kv']) :: (krb, kro, (ts.map GT.id).flatMap fp ++ ksp) :: ((ts.take (ts.length - 1)).flatMap (GT.all enc) ++ ((ts.drop (ts.length - 1 + 1)).flatMap (GT.all enc) ++ E))) hfc (g.kid hcm) hcsz (s.perm (by ((apply perm_rg; intro f; simp only [List.set_cons_zero, List.set_cons_succ, List.eraseIdx_cons_zero, List.eraseIdx_cons_succ, List.cons_append, List.nil_append, List.map_append, List.map_cons, List.map_nil, List.sum_append, List.sum_cons, List.sum_nil, List.map_flatMap, Nat.add_zero, Nat.zero_add]; ac_rfl)))) fun h' s => ?_
    · exact HK _ _ this
    · refine H h' ?_
      have s1 : St h0 Z ((n, 0, [.int .u64 is', .int .i64 cnt, iv, ptr kb 0]) :: (ib, io, its.flatMap enc ++ isp) :: (kb, 0, [kv']) :: (krb, kro, (ts.map GT.id).flatMap fp ++ ksp) :: (ts.flatMap (GT.all enc) ++ E)) h' := s.perm (by rw [flat_at3 (GT.all enc) hc]; ((apply perm_rg; intro f; simp only [List.set_cons_zero, List.set_cons_succ, List.eraseIdx_cons_zero, List.eraseIdx_cons_succ, List.cons_append, List.nil_append, List.map_append, List.map_cons, List.map_nil, List.sum_append, List.sum_cons, List.sum_nil, List.map_flatMap, Nat.add_zero, Nat.zero_add]; ac_rfl)))
      rw [← mfp] at s1
      exact s1
/-- Down the way: the item is cut off, or nothing but the counts has changed. -/
theorem down_pop {t2 : Value} {tb t5 m : Nat} {iso : Int} {ctr : Option Addr} (hT0 : (tb, 0, hd0 iso ctr) ∈ Z) (hT4 : (tb, 4, hd4 lf ((m / 2 : Nat) : Int) m) ∈ Z) (hm : m ≤ 1024) (hm3 : 3 ≤ m) : ∀ {k : Nat} (c : GT It k) {lo : Nat} {E : List Rg} {h : Heap}, 1 ≤ lo → (lo = m / 2 ∨ lo = 1) → c.pt.Fl m lo → Gd iso c → c.pt.items.length ≤ 4611686018427387903 → St h0 Z (c.all enc ++ ((t5, 0, enc emp) :: E)) h →
    (∀ (c' : GT It k) h' x R, Ends true x R c.pt.items → c'.pt.items = R → (c'.pt.Fl m lo ∨ (lo ≠ m / 2 ∧ R = [])) → c'.id = c.id → Gd iso c' → St h0 Z (c'.all enc ++ ((t5, 0, enc x) :: E)) h' → popEnd tb t2 (ptr t5 0) h' Q) →
    (∀ h' x R, Ends true x R c.pt.items → St h0 Z ((bmp true (-1) c).all enc ++ ((t5, 0, enc x) :: E)) h' → BTreeG_I_PopMax.j3 (ptr tb 0) t2 (ptr t5 0) h' Q) →
    LoopOk (fun c s h K1 => BTreeG_I_PopMax.l7.b (c.getD 0 undef) (c.getD 1 undef) (c.getD 2 undef) (s.getD 0 undef) h K1 Q) [ptr tb 0, t2, ptr t5 0] k [ptr c.id 0] h
  | 0, (d : Nd It), lo, E, h, hlo, hlo2, fl, g, hsz, s, H1, H2 => by
    obtain ⟨own, n, is', cnt, its, iv, ib, io, isp, kb, kv', krb, kro, ksp⟩ := d
    intro K
    have hw : own = true := g.mine
    have hiso : is' = iso := g.wf.2.1 hw
    subst hiso; subst hw
    have w : Own 2 iv its.length ib io (its.flatMap enc) isp := g.wf.1
    have s : St h0 Z ((n, 0, [.int .u64 is', .int .i64 cnt, iv, .pointer none]) :: (ib, io, its.flatMap enc ++ isp) :: (t5, 0, enc emp) :: E) h := s
    have hcn : cnt = its.length := g.cn
    have hl1 : lo ≤ its.length := fl.1
    have hl2 : its.length ≤ m := fl.2
    have hE : Ends true (its[its.length - 1]'(by omega)) (its.eraseIdx (its.length - 1)) its := by
      show its = its.eraseIdx (its.length - 1) ++ [its[its.length - 1]'(by omega)]
      obtain ⟨R, z, e⟩ := last_of (l := its) (by omega)
      subst e
      have := eraseIdx_at (P := R) (S := []) (y := z) rfl
      simp only [List.length_append, List.length_singleton, Nat.add_sub_cancel, this]
      simp
    have hx : its[its.length - 1]? = some (its[its.length - 1]'(by omega)) := List.getElem?_eq_getElem (by omega)
    generalize hxg : its[its.length - 1]'(by omega) = x at *
    show BTreeG_I_PopMax.l7.b (ptr tb 0) t2 (ptr t5 0) (ptr n 0) h K Q
    unfold BTreeG_I_PopMax.l7.b
    refine r_nil ?_
    refine r_fld ?_
    refine St.r_load0 s 0 rfl rfl ?_
    refine r_sub (z := cnt + -1) (by rw [i64w (by omega) (by omega)]; omega) ?_
    refine r_nil ?_
    refine r_fld ?_
    refine St.r_store0 s 0 rfl (by simp) rfl ?_
    intro h s
    try simp only [List.set_cons_zero, List.set_cons_succ] at s
    refine node_leaf_ok (a := none) (s.get (k := 0) (j := 3) rfl (by simp)) ?_
    refine r_if (fun _ => ?_) (fun e => absurd e (by simp))
    refine r_nil ?_
    refine r_fld ?_
    refine St.r_load0 s 0 rfl rfl ?_
    refine r_nil ?_
    refine r_fld ?_
    refine St.r_load0 s 0 rfl rfl ?_
    refine w.lenV ?_
    refine r_sub (z := ((its.length - 1 : Nat) : Int)) (by rw [i64w (by omega) (by omega)]; omega) ?_
    refine w.idx (n := its.length - 1) rfl (by omega) ?_
    refine s.r_loadF encl 1 rfl hx ?_
    refine St.r_storeN0 s 2 rfl rfl (by simp) (enc1 x) ?_; intro h s
    have s : St h0 Z ((n, 0, [.int .u64 is', .int .i64 (cnt + -1), iv, .pointer none]) :: (ib, io, its.flatMap enc ++ isp) :: (t5, 0, enc x) :: E) h := s
    refine r_nil ?_
    refine r_fld ?_
    refine St.r_load0 s 0 rfl rfl ?_
    refine w.lenV ?_
    refine r_nil ?_
    refine r_fld ?_
    refine s.r_lz hT4 6 rfl rfl ?_
    refine r_cmpI ?_
    refine r_if (fun _ => H2 h x _ hE s) (fun hne => ?_)
    have hne : its.length ≠ m / 2 := by have := hne; simp at this; omega
    have hel : (its.eraseIdx (its.length - 1)).length = its.length - 1 := by rw [List.length_eraseIdx, if_pos (by omega)]
    unfold BTreeG_I_PopMax.j9
    refine r_nil ?_
    refine r_fld ?_
    refine St.r_load0 s 0 rfl rfl ?_
    refine r_nil ?_
    refine r_fld ?_
    refine St.r_load0 s 0 rfl rfl ?_
    refine w.lenV ?_
    refine r_sub (z := ((its.length - 1 : Nat) : Int)) (by rw [i64w (by omega) (by omega)]; omega) ?_
    refine r_nil ?_
    refine r_fld ?_
    refine s.r_lzE hT4 3 (enc emp) rfl (by simp) rfl ?_
    have hX : its.length = its.length := rfl
    have hdl : (its.set (its.length - 1) emp).length = its.length := List.length_set ..
    have her : (its.set (its.length - 1) emp).take (its.length - 1) = its.eraseIdx (its.length - 1) := by
      rw [List.take_set_of_le (Nat.le_refl _), List.eraseIdx_eq_take_drop_succ, List.drop_of_length_le (by omega), List.append_nil]
    refine w.idx (n := its.length - 1) rfl (by omega) ?_
    refine s.r_storeF encl 1 rfl (by rw [hX]; omega) (enc1 emp) ?_; intro h s
    refine r_nil ?_
    refine r_fld ?_
    refine St.r_load0 s 0 rfl rfl ?_
    refine r_nil ?_
    refine r_fld ?_
    refine St.r_load0 s 0 rfl rfl ?_
    refine w.lenV ?_
    refine r_sub (z := ((its.length - 1 : Nat) : Int)) (by rw [i64w (by omega) (by omega)]; omega) ?_
    refine (w.list encl hdl).slcHi encl rfl (by rw [hdl]; omega) fun iv2 w2 => ?_
    have s := s.del (f := enc) 1 rfl _ her
    rw [her] at w2
    refine r_nil ?_
    refine r_fld ?_
    refine St.r_store0 s 0 rfl (by simp) w2.one ?_; intro h s
    refine H1 (⟨true, n, is', cnt + -1, its.eraseIdx (its.length - 1), iv2, ib, io, _, kb, kv', krb, kro, ksp⟩ : Nd It) h x _ hE rfl ?_ rfl (Gd.leaf w2 rfl rfl (by show cnt + -1 = ((its.eraseIdx (its.length - 1)).length : Int); rw [hel, hcn]; omega)) s
    rcases Nat.lt_or_ge lo its.length with e | e
    · left
      show lo ≤ (its.eraseIdx (its.length - 1)).length ∧ (its.eraseIdx (its.length - 1)).length ≤ m
      rw [hel]; omega
    · right
      exact ⟨by omega, List.length_eq_zero_iff.1 (by rw [hel]; omega)⟩
  | k + 1, t, lo, E, h, hlo, hlo2, fl, g, hsz, s, H1, H2 => by
    obtain ⟨d, ts⟩ := t
    obtain ⟨own, n, is', cnt, its, iv, ib, io, isp, kb, kv', krb, kro, ksp⟩ := d
    intro K HK
    have hw : own = true := g.mine.1
    have hiso : is' = iso := g.wf.1.2.1 hw
    subst hiso; subst hw
    have hkl : ts.length = its.length + 1 := g.wf.2.2.1
    have wK : Own 1 kv' ts.length krb kro ((ts.map GT.id).map fun m => ptr m 0) ksp := g.wf.2.1
    have hcn : cnt = (PT.items (h := k + 1) (its, ts.map GT.pt)).length := g.cn.1
    have hsz : (PT.items (h := k + 1) (its, ts.map GT.pt)).length ≤ 4611686018427387903 := hsz
    have hlm : its.length ≤ m := fl.2.1
    have hl1 : lo ≤ its.length := fl.1
    obtain ⟨c, hc⟩ : ∃ c, ts[its.length]? = some c := ⟨ts[its.length]'(by omega), List.getElem?_eq_getElem (by omega)⟩
    have hcm := List.mem_of_getElem? hc
    have hcm2 : c.pt ∈ ts.map GT.pt := List.mem_map.2 ⟨c, hcm, rfl⟩
    have hfc : PT.Fl m (m / 2) c.pt := fl.2.2.2 _ hcm2
    have fl : PT.Fl m lo (h := k + 1) (its, ts.map GT.pt) := fl
    have hcsz : c.pt.items.length ≤ 4611686018427387903 := by
      have h1 : (inter its ((ts.map GT.pt).map PT.items)).length = _ := inter_length _ _
      have h2 : (inter its ((ts.map GT.pt).map PT.items)).length ≤ 4611686018427387903 := hsz
      have h3 : c.pt.items.length ≤ (((ts.map GT.pt).map PT.items).map List.length).sum := mem_le_sum (by
        rw [List.map_map, List.map_map]; exact List.mem_map.2 ⟨c, hcm, rfl⟩)
      omega
    have hc2 : ts[ts.length - 1]? = some c := by
      rw [show ts.length - 1 = its.length by omega]; exact hc
    have hcp : (ts.map GT.pt)[its.length]? = some c.pt := by rw [List.getElem?_map, hc]; rfl
    have up : ∀ {x : It} {R0 : List It} (c' : PT It k), Ends true x R0 c.pt.items → c'.items = R0 → PT.Fl m (m / 2) c' → ∃ R, Ends true x R (PT.items (h := k + 1) (its, ts.map GT.pt)) ∧ PT.items (h := k + 1) (its, (ts.map GT.pt).set (its.length) c') = R ∧ PT.Fl m lo (h := k + 1) (its, (ts.map GT.pt).set (its.length) c') := fun {x R0} c' he hr hf => by
      obtain ⟨f', A, B, e1, e2, e3, e4⟩ := items_set fl (by omega : its.length ≤ its.length) hcp hf
      refine ⟨_, ?_, rfl, f'⟩
      rw [e1, e2, hr]
      have he : c.pt.items = R0 ++ [x] := he
      show _ = _ ++ [x]
      rw [e4 rfl, he, List.append_nil, List.append_nil, List.append_assoc]
    have up0 : ∀ {x : It} {R0 : List It}, Ends true x R0 c.pt.items → ∃ R, Ends true x R (PT.items (h := k + 1) (its, ts.map GT.pt)) := fun {x R0} he => by
      obtain ⟨_, A, B, e1, _, e3, e4⟩ := items_set fl (by omega : its.length ≤ its.length) hcp hfc
      rw [e1]
      have he : c.pt.items = R0 ++ [x] := he
      exact ⟨A ++ R0, by rw [e4 rfl, he, List.append_nil]; exact (List.append_assoc ..).symm⟩
    have s : St h0 Z ((n, 0, [.int .u64 is', .int .i64 cnt, iv, ptr kb 0]) :: (ib, io, its.flatMap enc ++ isp) :: (kb, 0, [kv']) :: (krb, kro, ((ts.map GT.id).map fun m => ptr m 0) ++ ksp) :: (ts.flatMap (GT.all enc) ++ ((t5, 0, enc emp) :: E))) h := s
    rw [mfp, flat_at3 (GT.all enc) hc] at s
    show BTreeG_I_PopMax.l7.b (ptr tb 0) t2 (ptr t5 0) (ptr n 0) h K Q
    unfold BTreeG_I_PopMax.l7.b
    refine r_nil ?_
    refine r_fld ?_
    refine St.r_load0 s 0 rfl rfl ?_
    refine r_sub (z := cnt + -1) (by rw [i64w (by omega) (by omega)]; omega) ?_
    refine r_nil ?_
    refine r_fld ?_
    refine St.r_store0 s 0 rfl (by simp) rfl ?_
    intro h s
    try simp only [List.set_cons_zero, List.set_cons_succ] at s
    refine node_leaf_ok (a := some ⟨kb, 0, Option.none⟩) (s.get (k := 0) (j := 3) rfl (by simp)) ?_
    refine r_if (fun e => absurd e (by simp)) (fun _ => ?_)
    unfold BTreeG_I_PopMax.j8
    refine r_nil ?_
    refine r_fld ?_
    refine St.r_load0 s 0 rfl rfl ?_
    refine r_nil ?_
    refine St.r_load0 s 2 rfl rfl ?_
    refine r_nil ?_
    refine r_fld ?_
    refine St.r_load0 s 0 rfl rfl ?_
    refine r_nil ?_
    refine St.r_load0 s 2 rfl rfl ?_
    refine wK.lenV ?_
    refine r_sub (z := ((its.length : Nat) : Int)) (by rw [i64w (by omega) (by omega)]; omega) ?_
    refine wK.idx (n := its.length) rfl (by omega) ?_
    have hcell : cl h krb (kro + its.length * 1) = some (ptr c.id 0) := by
      have hid : (ts.map GT.id)[its.length]? = some c.id := by rw [List.getElem?_map, hc]; rfl
      obtain ⟨hi, he⟩ := List.getElem?_eq_some_iff.1 hid
      have := s.get (k := 3) (j := its.length * 1) rfl (by rw [List.length_append, flat_len fpl]; omega)
      rw [this, List.getElem?_append_left (by rw [flat_len fpl]; omega)]
      have h2 := flat_get (f := fp) fpl (ts.map GT.id) (its.length) hi 0 (by decide)
      rw [Nat.add_zero] at h2
      rw [h2, he]; rfl
    have hciso : cl h c.id 0 = some (.int .u64 is') := by
      have hown : c.nd.own = true := (g.kid hcm).mine.nd
      obtain ⟨a2, a3, a4, hmem⟩ := topIso (t := c)
      have hci : c.nd.iso = is' := by
        have := (g.kid hcm).wf
        cases k with
        | zero => exact this.2.1 hown
        | succ k => exact this.1.2.1 hown
      rw [hci] at hmem
      have hmm : (c.id, 0, [.int .u64 is', a2, a3, a4]) ∈ c.all enc ++ (ts.drop (its.length + 1)).flatMap (GT.all enc) := List.mem_append.2 (.inl hmem)
      have hmm := List.mem_append.2 (.inr hmm : _ ∈ (ts.take (its.length)).flatMap (GT.all enc) ∨ _)
      have hmm := List.mem_append.2 (.inl hmm : _ ∨ _ ∈ (t5, 0, enc emp) :: E)
      have := (s.e _ (List.mem_cons_of_mem _ (List.mem_cons_of_mem _ (List.mem_cons_of_mem _ (List.mem_cons_of_mem _ hmm))))).1.at0 0 rfl
      exact this
    refine isoLoad_ok (n := c.id) (iso := is') (by have := s.getZ hT0 (j := 0) (by simp); simpa using this) hcell (fun _ => hciso) ?_
    have := down_pop (t2 := t2) (t5 := t5) hT0 hT4 hm hm3 c (E := (n, 0, [.int .u64 is', .int .i64 (cnt + -1), iv, ptr kb 0]) :: (ib, io, its.flatMap enc ++ isp) :: (kb, 0, [kv']) :: (krb, kro, (ts.map GT.id).flatMap fp ++ ksp) :: ((ts.take (its.length)).flatMap (GT.all enc) ++ ((ts.drop (its.length + 1)).flatMap (GT.all enc) ++ E))) (by omega) (.inl rfl) hfc (g.kid hcm) hcsz (s.perm (by ((apply perm_rg; intro f; simp only [List.set_cons_zero, List.set_cons_succ, List.eraseIdx_cons_zero, List.eraseIdx_cons_succ, List.cons_append, List.nil_append, List.map_append, List.map_cons, List.map_nil, List.sum_append, List.sum_cons, List.sum_nil, List.map_flatMap, Nat.add_zero, Nat.zero_add]; ac_rfl)))) (fun c' h' x R0 a1 a2 a3 a4 a5 s => ?_) (fun h' x R0 a1 s => ?_)
    · exact HK _ _ this
    · have hf' : PT.Fl m (m / 2) c'.pt := by
        rcases a3 with e | e
        · exact e
        · exact absurd rfl e.1
      obtain ⟨R, u1, u2, u3⟩ := up c'.pt a1 a2 hf'
      have ept : (ts.set (its.length) c').map GT.pt = (ts.map GT.pt).set (its.length) c'.pt := by rw [List.map_set]
      have hi := (List.getElem?_eq_some_iff.1 hc).1
      have hc' : (ts.set (its.length) c')[its.length]? = some c' := List.getElem?_set_self hi
      have etake : (ts.set (its.length) c').take (its.length) = ts.take (its.length) := List.take_set_of_le (Nat.le_refl _)
      have edrop : (ts.set (its.length) c').drop (its.length + 1) = ts.drop (its.length + 1) := List.drop_set_of_lt (by omega)
      have hlen := u1.len
      refine H1 ((⟨true, n, is', cnt + -1, its, iv, ib, io, isp, kb, kv', krb, kro, ksp⟩ : Nd It), ts.set (its.length) c') h' x R u1 (by show PT.items (h := k + 1) (its, (ts.set (its.length) c').map GT.pt) = _; rw [ept]; exact u2) (.inl (by show PT.Fl m lo (h := k + 1) (its, (ts.set (its.length) c').map GT.pt); rw [ept]; exact u3)) rfl
        (Gd.setKid (d := ⟨true, n, is', cnt, its, iv, ib, io, isp, kb, kv', krb, kro, ksp⟩) g hc a4 a5 (by
          show cnt + -1 = ((PT.items (h := k + 1) (its, (ts.set (its.length) c').map GT.pt)).length : Int); rw [ept, u2]; omega)) ?_
      have s1 : St h0 Z ((n, 0, [.int .u64 is', .int .i64 (cnt + -1), iv, ptr kb 0]) :: (ib, io, its.flatMap enc ++ isp) :: (kb, 0, [kv']) :: (krb, kro, ((ts.set (its.length) c').map GT.id).flatMap fp ++ ksp) :: ((ts.set (its.length) c').flatMap (GT.all enc) ++ ((t5, 0, enc x) :: E))) h' :=
        s.perm (by rw [set_ids hc a4, flat_at3 (GT.all enc) hc', etake, edrop]; ((apply perm_rg; intro f; simp only [List.set_cons_zero, List.set_cons_succ, List.eraseIdx_cons_zero, List.eraseIdx_cons_succ, List.cons_append, List.nil_append, List.map_append, List.map_cons, List.map_nil, List.sum_append, List.sum_cons, List.sum_nil, List.map_flatMap, Nat.add_zero, Nat.zero_add]; ac_rfl)))
      rw [← mfp] at s1
      exact s1
    · obtain ⟨R, u1⟩ := up0 a1
      refine H2 h' x R u1 ?_
      have hi := (List.getElem?_eq_some_iff.1 hc2).1
      have hc' : (ts.set (ts.length - 1) (bmp true (-1) c))[ts.length - 1]? = some (bmp true (-1) c) := List.getElem?_set_self hi
      have etake : (ts.set (ts.length - 1) (bmp true (-1) c)).take (ts.length - 1) = ts.take (its.length) := by rw [List.take_set_of_le (Nat.le_refl _)]; congr 1; omega
      have edrop : (ts.set (ts.length - 1) (bmp true (-1) c)).drop (ts.length - 1 + 1) = ts.drop (its.length + 1) := by rw [List.drop_set_of_lt (by omega)]; congr 1; omega
      have s1 : St h0 Z ((n, 0, [.int .u64 is', .int .i64 (cnt + -1), iv, ptr kb 0]) :: (ib, io, its.flatMap enc ++ isp) :: (kb, 0, [kv']) :: (krb, kro, ((ts.modify (ts.length - 1) (bmp true (-1))).map GT.id).flatMap fp ++ ksp) :: ((ts.modify (ts.length - 1) (bmp true (-1))).flatMap (GT.all enc) ++ ((t5, 0, enc x) :: E))) h' :=
        s.perm (by rw [modify_at hc2, set_ids hc2 (bmp_id c), flat_at3 (GT.all enc) hc', etake, edrop]; ((apply perm_rg; intro f; simp only [List.set_cons_zero, List.set_cons_succ, List.eraseIdx_cons_zero, List.eraseIdx_cons_succ, List.cons_append, List.nil_append, List.map_append, List.map_cons, List.map_nil, List.sum_append, List.sum_cons, List.sum_nil, List.map_flatMap, Nat.add_zero, Nat.zero_add]; ac_rfl)))
      rw [← mfp] at s1
      exact s1
theorem ok (o : Swo lt) {A : List Rg} (hO : OrdA A lf lt) {tb m : Nat} {iso : Int} {ctr : Option Addr} {g : Rt} (M : TreeOk lt m iso g) (hsz : (rPt g).items.length ≤ 4611686018427387903)
    (s : St h0 Z ((tb, 0, hdr iso ctr (rA g) (rPt g).items.length lf ((m / 2 : Nat) : Int) m) :: (rAll g ++ (A ++ E))) h)
    (H : ∀ (r : Option It) (g' : Rt) h', Popped true r (rPt g).items (rPt g').items → TreeOk lt m iso g' → (rH g' = rH g ∨ rH g' + 1 = rH g) → St h0 Z ((tb, 0, hdr iso ctr (rA g') (rPt g').items.length lf ((m / 2 : Nat) : Int) m) :: (rAll g' ++ (A ++ E))) h' → Q (.tuple #[old r, .bool r.isSome]) h') :
    BTreeG_I_PopMax.call #[ptr tb 0] h Q := by
  refine BTreeG_I_PopMax.body _ _ _ ?_
  unfold BTreeG_I_PopMax.sh
  refine s.r_alloc fun t2 h s => ?_
  refine lock_ok ?_
  refine r_if (fun e => absurd e (by simp)) (fun _ => ?_)
  unfold BTreeG_I_PopMax.j1
  refine r_nil ?_
  refine r_fld ?_
  refine St.r_load0 s 1 rfl rfl ?_
  refine r_eqNilP ?_
  cases g with
  | none =>
    refine r_if (fun _ => ?_) (fun e => absurd e (by simp [rA]))
    refine r_nil ?_
    refine r_fld ?_
    refine St.r_loadN0 s 1 rfl (by simp) ?_
    refine St.r_storeN0 s 0 rfl rfl (by simp) (enc1 emp) ?_; intro h s
    refine St.r_loadN0 s 0 rfl (by simp) ?_
    exact H none none h ⟨rfl, rfl⟩ M (.inl rfl) (s.drop 1)
  | some t =>
    obtain ⟨k, t⟩ := t
    refine r_if (fun e => absurd e (by simp [rA])) (fun _ => ?_)
    unfold BTreeG_I_PopMax.j2
    have hkk : k < t.pt.items.length := PT.height_le M.m3 (t := t.pt) M.fl (Nat.le_refl _)
    have s := hdr_cut (s.front 1 rfl)
    have s0 : St h0 Z (([(tb, 0, hd0 iso ctr), (tb, 4, hd4 lf ((m / 2 : Nat) : Int) m)] ++ A) ++ ((tb, 2, [ptr t.id 0]) :: (tb, 3, [.int .i64 t.pt.items.length]) :: (t2, 0, enc emp) :: (t.all enc ++ E))) h := s.perm (by
      show ((tb, 0, hd0 iso ctr) :: (tb, 4, hd4 lf ((m / 2 : Nat) : Int) m) :: (A ++ ((tb, 2, [ptr t.id 0]) :: (tb, 3, [.int .i64 t.pt.items.length]) :: (t2, 0, enc emp) :: (t.all enc ++ E)))).Perm ((tb, 0, hd0 iso ctr) :: (tb, 4, hd4 lf ((m / 2 : Nat) : Int) m) :: (tb, 2, [ptr t.id 0]) :: (tb, 3, [.int .i64 t.pt.items.length]) :: (t2, 0, enc emp) :: (t.all enc ++ (A ++ E)))
      ((apply perm_rg; intro f; simp only [List.set_cons_zero, List.set_cons_succ, List.eraseIdx_cons_zero, List.eraseIdx_cons_succ, List.cons_append, List.nil_append, List.map_append, List.map_cons, List.map_nil, List.sum_append, List.sum_cons, List.sum_nil, List.map_flatMap, Nat.add_zero, Nat.zero_add]; ac_rfl)))
    obtain ⟨s1, back⟩ := s0.borrow
    have z0 : (tb, 0, hd0 iso ctr) ∈ ([(tb, 0, hd0 iso ctr), (tb, 4, hd4 lf ((m / 2 : Nat) : Int) m)] ++ A) ++ Z := List.mem_cons_self ..
    have z4 : (tb, 4, hd4 lf ((m / 2 : Nat) : Int) m) ∈ ([(tb, 0, hd0 iso ctr), (tb, 4, hd4 lf ((m / 2 : Nat) : Int) m)] ++ A) ++ Z := List.mem_cons_of_mem _ (List.mem_cons_self ..)
    have hgd : Gd iso t := M.gd
    have hfl : t.pt.Fl m 1 := M.fl
    have hasc : Asc lt t.pt.items := M.asc
    have hszt : t.pt.items.length ≤ 4611686018427387903 := hsz
    have hiso : ∀ {Z' E' : List Rg} {h : Heap}, St h0 Z' (t.all enc ++ E') h → cl h t.id 0 = some (.int .u64 iso) := fun s => by
      obtain ⟨a2, a3, a4, hmem⟩ := topIso (t := t)
      have hown := hgd.mine.nd
      have hci : t.nd.iso = iso := by
        have := hgd.wf
        cases k with
        | zero => exact this.2.1 hown
        | succ k => exact this.1.2.1 hown
      rw [hci] at hmem
      exact (s.e _ (List.mem_append.2 (.inl hmem))).1.at0 0 rfl
    refine r_nil ?_
    refine r_fld ?_
    refine isoLoad_ok (n := t.id) (iso := iso) (by have := s1.getZ z0 (j := 0) (by simp); simpa using this) (by have := s1.get (k := 0) (j := 0) rfl (by simp); simpa using this) (fun _ => hiso (s1.perm (E' := t.all enc ++ ((tb, 2, [ptr t.id 0]) :: (tb, 3, [.int .i64 t.pt.items.length]) :: (t2, 0, enc emp) :: E)) (by ((apply perm_rg; intro f; simp only [List.set_cons_zero, List.set_cons_succ, List.eraseIdx_cons_zero, List.eraseIdx_cons_succ, List.cons_append, List.nil_append, List.map_append, List.map_cons, List.map_nil, List.sum_append, List.sum_cons, List.sum_nil, List.map_flatMap, Nat.add_zero, Nat.zero_add]; ac_rfl))))) ?_
    refine s1.r_alloc fun t5 h s1 => ?_
    refine (down_pop (t2 := ptr t2 0) (t5 := t5) z0 z4 M.m1 M.m3 t (E := (tb, 2, [ptr t.id 0]) :: (tb, 3, [.int .i64 t.pt.items.length]) :: (t2, 0, enc emp) :: E) (Nat.le_refl 1) (.inr rfl) hfl hgd hszt (s1.perm (by ((apply perm_rg; intro f; simp only [List.set_cons_zero, List.set_cons_succ, List.eraseIdx_cons_zero, List.eraseIdx_cons_succ, List.cons_append, List.nil_append, List.map_append, List.map_cons, List.map_nil, List.sum_append, List.sum_cons, List.sum_nil, List.map_flatMap, Nat.add_zero, Nat.zero_add]; ac_rfl)))) (fun c' h' x R a1 a2 a3 a4 a5 s => ?_) (fun h' x R a1 s => ?_)).loop
    · have hlen := a1.len
      unfold popEnd
      have s : St h0 (([(tb, 0, hd0 iso ctr), (tb, 4, hd4 lf ((m / 2 : Nat) : Int) m)] ++ A) ++ Z) ((tb, 3, [.int .i64 t.pt.items.length]) :: (tb, 2, [ptr t.id 0]) :: (t2, 0, enc emp) :: (t5, 0, enc x) :: (c'.all enc ++ E)) h' := s.perm (by ((apply perm_rg; intro f; simp only [List.set_cons_zero, List.set_cons_succ, List.eraseIdx_cons_zero, List.eraseIdx_cons_succ, List.cons_append, List.nil_append, List.map_append, List.map_cons, List.map_nil, List.sum_append, List.sum_cons, List.sum_nil, List.map_flatMap, Nat.add_zero, Nat.zero_add]; ac_rfl)))
      refine r_nil ?_
      refine r_fld ?_
      refine s.r_load1 0 (o := 3) (j := 0) rfl rfl ?_
      refine r_sub (z := (R.length : Int)) (by rw [i64w (by omega) (by omega)]; omega) ?_
      refine r_nil ?_
      refine r_fld ?_
      refine St.r_store1 s 0 (o := 3) (j := 0) rfl (by simp) rfl ?_; intro h s
      refine r_nil ?_
      refine r_fld ?_
      refine s.r_load1 0 (o := 3) (j := 0) rfl rfl ?_
      refine r_cmpI ?_
      refine r_if (fun e => ?_) (fun e => ?_)
      · have hR : R = [] := by simpa using e
        subst hR
        refine r_nil ?_
        refine r_fld ?_
        refine St.r_store1 s 1 (o := 2) (j := 0) rfl (by simp) rfl ?_; intro h s
        refine St.r_loadN0 s 3 rfl (by simp) ?_
        refine St.r_storeN0 s 2 rfl rfl (by simp) (enc1 x) ?_; intro h s
        refine St.r_loadN0 s 2 rfl (by simp) ?_
        have hk0 : k = 0 := by rw [hlen] at hkk; simp at hkk; exact hkk
        refine H (some x) none h a1 (TreeOk.none M.m3 M.m1 M.odd) (.inr (by show 0 + 1 = k + 1; rw [hk0])) ?_
        have s2 := back _ h s
        refine hdr_glue ?_
        exact (s2.perm (E' := (c'.all enc) ++ ((t2, 0, enc x) :: (t5, 0, enc x) :: (tb, 0, hd0 iso ctr) :: (tb, 4, hd4 lf ((m / 2 : Nat) : Int) m) :: (tb, 2, [.pointer none]) :: (tb, 3, [.int .i64 (([] : List It).length : Nat)]) :: (A ++ E))) (by ((apply perm_rg; intro f; simp only [List.set_cons_zero, List.set_cons_succ, List.eraseIdx_cons_zero, List.eraseIdx_cons_succ, List.cons_append, List.nil_append, List.map_append, List.map_cons, List.map_nil, List.sum_append, List.sum_cons, List.sum_nil, List.map_flatMap, Nat.add_zero, Nat.zero_add]; ac_rfl)))).sub (List.Sublist.trans (List.sublist_cons_self ..) (List.Sublist.trans (List.sublist_cons_self ..) (List.sublist_append_right _ _)))
      · have hR : R ≠ [] := fun hR => by subst hR; simp at e
        refine St.r_loadN0 s 3 rfl (by simp) ?_
        refine St.r_storeN0 s 2 rfl rfl (by simp) (enc1 x) ?_; intro h s
        refine St.r_loadN0 s 2 rfl (by simp) ?_
        have hf : c'.pt.Fl m 1 := by
          rcases a3 with e | e
          · exact e
          · exact absurd e.2 hR
        have hsub : Asc lt R := by
          have := (ends_del o a1 hasc).2
          rw [← this]; exact asc_of_sub hasc (ldel_sub _ _)
        refine H (some x) (some ⟨k, c'⟩) h (by show Ends true x c'.pt.items t.pt.items; rw [a2]; exact a1) ⟨a5, hf, by show Asc lt c'.pt.items; rw [a2]; exact hsub, M.m3, M.m1, M.odd⟩ (.inl rfl) ?_
        have s2 := back _ h s
        show St h0 Z ((tb, 0, hdr iso ctr (some ⟨c'.id, 0, Option.none⟩) c'.pt.items.length lf ((m / 2 : Nat) : Int) m) :: (c'.all enc ++ (A ++ E))) h
        refine hdr_glue ?_
        rw [a2, a4]
        exact (s2.perm (E' := (t2, 0, enc x) :: (t5, 0, enc x) :: (tb, 0, hd0 iso ctr) :: (tb, 4, hd4 lf ((m / 2 : Nat) : Int) m) :: (tb, 2, [ptr t.id 0]) :: (tb, 3, [.int .i64 (R.length : Nat)]) :: (c'.all enc ++ (A ++ E))) (by ((apply perm_rg; intro f; simp only [List.set_cons_zero, List.set_cons_succ, List.eraseIdx_cons_zero, List.eraseIdx_cons_succ, List.cons_append, List.nil_append, List.map_append, List.map_cons, List.map_nil, List.sum_append, List.sum_cons, List.sum_nil, List.map_flatMap, Nat.add_zero, Nat.zero_add]; ac_rfl)))).drop 2
    · obtain ⟨d1, d2⟩ := ends_del o a1 hasc
      unfold BTreeG_I_PopMax.j3
      have s : St h0 (([(tb, 0, hd0 iso ctr), (tb, 4, hd4 lf ((m / 2 : Nat) : Int) m)] ++ A) ++ Z) ((tb, 2, [ptr t.id 0]) :: (tb, 3, [.int .i64 t.pt.items.length]) :: (t2, 0, enc emp) :: (t5, 0, enc x) :: ((bmp true (-1) t).all enc ++ E)) h' := s.perm (by ((apply perm_rg; intro f; simp only [List.set_cons_zero, List.set_cons_succ, List.eraseIdx_cons_zero, List.eraseIdx_cons_succ, List.cons_append, List.nil_append, List.map_append, List.map_cons, List.map_nil, List.sum_append, List.sum_cons, List.sum_nil, List.map_flatMap, Nat.add_zero, Nat.zero_add]; ac_rfl)))
      refine r_nil ?_
      refine r_fld ?_
      refine s.r_load1 0 (o := 2) (j := 0) rfl rfl ?_
      refine (up_pop M.m1 t (E := (tb, 2, [ptr t.id 0]) :: (tb, 3, [.int .i64 t.pt.items.length]) :: (t2, 0, enc emp) :: (t5, 0, enc x) :: E) hfl hgd hszt (s.perm (by ((apply perm_rg; intro f; simp only [List.set_cons_zero, List.set_cons_succ, List.eraseIdx_cons_zero, List.eraseIdx_cons_succ, List.cons_append, List.nil_append, List.map_append, List.map_cons, List.map_nil, List.sum_append, List.sum_cons, List.sum_nil, List.map_flatMap, Nat.add_zero, Nat.zero_add]; ac_rfl)))) fun h' s => ?_).loop
      have s2 := back ((tb, 2, [ptr t.id 0]) :: (tb, 3, [.int .i64 t.pt.items.length]) :: (t2, 0, enc emp) :: (t5, 0, enc x) :: (t.all enc ++ E)) h' (s.perm (by ((apply perm_rg; intro f; simp only [List.set_cons_zero, List.set_cons_succ, List.eraseIdx_cons_zero, List.eraseIdx_cons_succ, List.cons_append, List.nil_append, List.map_append, List.map_cons, List.map_nil, List.sum_append, List.sum_cons, List.sum_nil, List.map_flatMap, Nat.add_zero, Nat.zero_add]; ac_rfl))))
      have s4 : St h0 Z ((tb, 0, hd0 iso ctr) :: (tb, 4, hd4 lf ((m / 2 : Nat) : Int) m) :: (tb, 2, [ptr t.id 0]) :: (tb, 3, [.int .i64 t.pt.items.length]) :: (t2, 0, enc emp) :: (t5, 0, enc x) :: (t.all enc ++ (A ++ E))) h' := s2.perm (by ((apply perm_rg; intro f; simp only [List.set_cons_zero, List.set_cons_succ, List.eraseIdx_cons_zero, List.eraseIdx_cons_succ, List.cons_append, List.nil_append, List.map_append, List.map_cons, List.map_nil, List.sum_append, List.sum_cons, List.sum_nil, List.map_flatMap, Nat.add_zero, Nat.zero_add]; ac_rfl)))
      have s5 : St h0 Z ((tb, 0, hdr iso ctr (rA (some ⟨k, t⟩)) (rPt (some ⟨k, t⟩)).items.length lf ((m / 2 : Nat) : Int) m) :: (t2, 0, enc emp) :: (t5, 0, enc x) :: (rAll (some ⟨k, t⟩) ++ (A ++ E))) h' := hdr_glue s4
      unfold BTreeG_I_PopMax.j4
      refine St.r_loadN0 s5 2 rfl (by simp) ?_
      refine deleteHint_ok o hO M hsz Hn.none (x := x) (E := (t2, 0, enc emp) :: (t5, 0, enc x) :: E) ((s5.empty 0 0).perm (by ((apply perm_rg; intro f; simp only [List.set_cons_zero, List.set_cons_succ, List.eraseIdx_cons_zero, List.eraseIdx_cons_succ, List.cons_append, List.nil_append, List.map_append, List.map_cons, List.map_nil, List.sum_append, List.sum_cons, List.sum_nil, List.map_flatMap, Nat.add_zero, Nat.zero_add]; ac_rfl)))) fun g' hc' h e1 e2 M' hH hh s => ?_
      have s : St h0 Z ((t2, 0, enc emp) :: (t5, 0, enc x) :: (0, 0, hc') :: (tb, 0, hdr iso ctr (rA g') (rPt g').items.length lf ((m / 2 : Nat) : Int) m) :: (rAll g' ++ (A ++ E))) h := s.perm (by ((apply perm_rg; intro f; simp only [List.set_cons_zero, List.set_cons_succ, List.eraseIdx_cons_zero, List.eraseIdx_cons_succ, List.cons_append, List.nil_append, List.map_append, List.map_cons, List.map_nil, List.sum_append, List.sum_cons, List.sum_nil, List.map_flatMap, Nat.add_zero, Nat.zero_add]; ac_rfl)))
      have hl : lget lt (rPt (some ⟨k, t⟩)).items x = some x := d1
      rw [hl]
      refine r_ext rfl ?_
      refine r_ext rfl ?_
      refine St.r_storeN0 s 0 rfl rfl (by simp) (enc1 x) ?_; intro h s
      refine St.r_loadN0 s 0 rfl (by simp) ?_
      refine H (some x) g' h ?_ M' hH (s.drop 3)
      show Ends true x (rPt g').items t.pt.items
      rw [e1]
      have : ldel lt (rPt (some ⟨k, t⟩)).items x = R := d2
      rw [this]; exact a1
end PopMax
end Go.Proofs.Ythpmeccnddchpaa.Gi
end
section
namespace Go.Hp
set_option linter.unusedVariables false
set_option linter.unusedSimpArgs false

abbrev KI : Type := Int × Int
/-- The order of the keys. -/
def ltK (a b : KI) : Bool := decide (a.1 < b.1)
theorem ltK_t {a b : KI} : ltK a b = true ↔ a.1 < b.1 := by simp [ltK]
theorem ltK_f {a b : KI} : ltK a b = false ↔ b.1 ≤ a.1 := by simp [ltK]
theorem swoK : Swo ltK where
  irr a := by simp [ltK]
  tr a b c h k := by rw [ltK_t] at *; omega
  ntr a b c h k := by rw [ltK_f] at *; omega
/-- A list around one of its items. -/
theorem ascK_split {l : List KI} {y : KI} (ha : Asc ltK l) (hy : y ∈ l) : ∃ p s, l = p ++ y :: s ∧ (∀ z ∈ p, z.1 < y.1) ∧ ∀ z ∈ s, y.1 < z.1 := by
  obtain ⟨p, s, rfl⟩ := List.append_of_mem hy
  obtain ⟨h1, h2, h3⟩ := asc_app ha
  exact ⟨p, s, rfl, fun z hz => ltK_t.1 (h3 z hz y (List.mem_cons_self ..)), fun z hz => ltK_t.1 ((List.pairwise_cons.1 h2).1 z hz)⟩
theorem lgetK_mem {l : List KI} {x y : KI} (ha : Asc ltK l) (hy : y ∈ l) (e : y.1 = x.1) : lget ltK l x = some y := by
  obtain ⟨p, s, rfl, h1, h2⟩ := ascK_split ha hy
  exact lget_at (fun z hz => ltK_t.2 (by have := h1 z hz; omega)) (ltK_f.2 (by omega)) (ltK_f.2 (by omega))
theorem lgetK_key {l : List KI} {x y : KI} (h : lget ltK l x = some y) : y ∈ l ∧ y.1 = x.1 := by
  obtain ⟨hp, e, h1, h2⟩ := lget_some h
  rw [ltK_f] at h1 h2
  exact ⟨e ▸ List.getElem_mem hp, by omega⟩
theorem lgetK_none {l : List KI} {x : KI} (hn : ∀ y ∈ l, y.1 ≠ x.1) : lget ltK l x = none := by
  cases h : lget ltK l x with
  | none => rfl
  | some y => exact absurd (lgetK_key h).2 (hn y (lgetK_key h).1)
theorem lgetK_nk {l : List KI} {x : KI} (ha : Asc ltK l) (h : lget ltK l x = none) : ∀ y ∈ l, y.1 ≠ x.1 := fun y hy e => by
  rw [lgetK_mem ha hy e] at h; cases h
theorem lputK_perm {l : List KI} {x : KI} (hn : ∀ y ∈ l, y.1 ≠ x.1) : (lput ltK l x).Perm (x :: l) := by
  unfold lput
  rw [lgetK_none hn]
  simp only [Option.isSome_none, Bool.false_eq_true, if_false, Nat.add_zero]
  refine List.perm_middle.trans ?_
  rw [List.take_append_drop]
theorem lputK_asc {l : List KI} {x : KI} (ha : Asc ltK l) : Asc ltK (lput ltK l x) := asc_lput swoK ha
theorem mem_lputK {l : List KI} {x z : KI} (ha : Asc ltK l) : z ∈ lput ltK l x ↔ z = x ∨ (z ∈ l ∧ z.1 ≠ x.1) := by
  cases h : lget ltK l x with
  | none =>
    have hn := lgetK_nk ha h
    rw [(lputK_perm hn).mem_iff, List.mem_cons]
    exact ⟨fun h => h.imp id fun h => ⟨h, hn z h⟩, fun h => h.imp id fun h => h.1⟩
  | some y =>
    obtain ⟨hy, e⟩ := lgetK_key h
    obtain ⟨p, s, rfl, h1, h2⟩ := ascK_split ha hy
    rw [lput_at (fun z hz => ltK_t.2 (by have := h1 z hz; omega)) (ltK_f.2 (by omega)) (ltK_f.2 (by omega))]
    simp only [List.mem_append, List.mem_cons]
    constructor
    · rintro (h | h | h)
      · exact .inr ⟨.inl h, by have := h1 z h; omega⟩
      · exact .inl h
      · exact .inr ⟨.inr (.inr h), by have := h2 z h; omega⟩
    · rintro (h | ⟨h | h | h, e2⟩)
      · exact .inr (.inl h)
      · exact .inl h
      · subst h; exact absurd e e2
      · exact .inr (.inr h)
/-- The items of a tree into which a list was set. -/
def setK (l : List KI) : List KI := l.foldl (lput ltK) []
theorem setK_snoc (l : List KI) (x : KI) : setK (l ++ [x]) = lput ltK (setK l) x := by unfold setK; rw [List.foldl_append]; rfl
theorem asc_rev {P : List KI → Prop} (h0 : P []) (h1 : ∀ l x, P l → P (l ++ [x])) : ∀ l, P l := fun l => by
  have : ∀ r : List KI, P r.reverse := fun r => by
    induction r with
    | nil => exact h0
    | cons x r ih => rw [List.reverse_cons]; exact h1 _ _ ih
  have h := this l.reverse
  rwa [List.reverse_reverse] at h
theorem setK_asc (l : List KI) : Asc ltK (setK l) := by
  refine asc_rev (P := fun l => Asc ltK (setK l)) List.Pairwise.nil (fun l x h => ?_) l
  rw [setK_snoc]; exact lputK_asc h
theorem lputK_last {l : List KI} {x : KI} (h : ∀ y ∈ l, y.1 < x.1) : lput ltK l x = l ++ [x] := by
  have hp : pos ltK l x = l.length := pos_uni (Nat.le_refl _) (fun j hj _ => ltK_t.2 (h _ (List.getElem_mem hj))) (fun hl => absurd hl (Nat.lt_irrefl _))
  have hg : lget ltK l x = none := lgetK_none fun y hy => by have := h y hy; omega
  unfold lput
  rw [hg, hp, List.take_length]
  simp
theorem setK_self (l : List KI) : Asc ltK l → setK l = l := by
  refine asc_rev (P := fun l => Asc ltK l → setK l = l) (fun _ => rfl) (fun l x ih h => ?_) l
  obtain ⟨h1, _, h3⟩ := asc_app h
  rw [setK_snoc, ih h1]
  exact lputK_last fun y hy => ltK_t.1 (h3 y hy x (List.mem_cons_self ..))
theorem setK_put {l : List KI} {x : KI} (h : Asc ltK l) : setK (l ++ [x]) = lput ltK l x := by rw [setK_snoc, setK_self l h]
theorem setK_len (l : List KI) : (setK l).length ≤ l.length := by
  refine asc_rev (P := fun l => (setK l).length ≤ l.length) (Nat.le_refl _) (fun l x ih => ?_) l
  rw [setK_snoc, lput_length, List.length_append, List.length_singleton]
  split <;> omega
end Go.Hp
end
section
namespace Go.Proofs.Ythpmeccnddchpaa.Gi
open Go.Hp Go.Proofs.Ythpmeccnddchpaa
set_option linter.unusedVariables false
set_option linter.unusedSimpArgs false
section
variable {h0 h : Heap} {Z E : List Rg} {Q : Value → Heap → Prop} {lt : It → It → Bool} {lf : Value} {ow : List Int} {ov : Value}
structure OwAt (h : Heap) (ow : List Int) (ov : Value) : Prop where
  rd : Rdl 1 h ov ow.length (ow.flatMap fi)
  le : ow.length ≤ 2147483647
theorem OwAt.st {h' : Heap} {E' : List Rg} (o : OwAt h ow ov) (s : St h [] E' h') : OwAt h' ow ov := ⟨o.rd.st s, o.le⟩
theorem OwAt.fr {h' : Heap} (o : OwAt h ow ov) (s : Fr (fun _ _ => False) h h') : OwAt h' ow ov := ⟨o.rd.fr s (fun _ _ e => e), o.le⟩
theorem OwAt.nil (h : Heap) : OwAt h [] (.slice none 0 0) := ⟨Rdl.nil 1 h, by decide⟩
theorem OwAt.one (o : OwAt h ow ov) : one1 ov = true := o.rd.one
end
variable {h0 h : Heap} {Z E : List Rg} {Q : Value → Heap → Prop} {lt : It → It → Bool} {lf : Value}
theorem one3 {a b c : Value} (h1 : one1 a = true) (h2 : one1 b = true) (h3 : one1 c = true) : ∀ y ∈ [a, b, c], one1 y = true := by
  intro y hy
  simp only [List.mem_cons, List.not_mem_nil, or_false] at hy
  rcases hy with rfl | rfl | rfl <;> assumption

theorem options_ok {ov : Value} {d : Int} {nl : Bool} (h1 : one1 ov = true) (H : ∀ E' h', St h [] E' h' → Q (.agg #[.int .i64 d, .bool nl]) h') : i_options.call #[.agg #[ov, .int .i64 d, .bool nl]] h Q := by
  refine i_options.body _ _ _ ?_
  unfold i_options.sh
  have s := St.start h
  refine St.r_box (cs := [ov, .int .i64 d, .bool nl]) s fun t1 h s => ?_
  refine s.r_alloc fun t2 h s => ?_
  refine r_fld ?_
  refine St.r_load0 s 1 rfl rfl ?_
  refine r_fld ?_
  refine St.r_load0 s 1 rfl rfl ?_
  ((apply r_build; ((simp only [fillV, fill1, Value.cells, zeros_succ, zeros_zero, List.size_toArray, List.length_cons, List.length_nil, List.length_append, List.take_succ_cons, List.take_zero, List.take_nil, List.drop_succ_cons, List.drop_zero, List.drop_nil, List.cons_append, List.nil_append, List.append_nil, Nat.reduceAdd, Nat.reduceMul, Nat.reduceLeDiff, Nat.reduceEqDiff, and_self, and_true, true_and, if_true, Nat.le_refl, Nat.zero_add, Nat.add_zero, Nat.zero_mul, reduceIte, if_false] <;> rfl))))
  (refine St.r_storeN0 s 0 rfl rfl (by simp) (by simp [one1]) ?_; intro h s; try simp only [List.set_cons_zero, List.set_cons_succ] at s)
  refine St.r_loadN0 s 0 rfl (by simp) ?_
  exact H _ _ s
/-- A tree of an order given by numbers, with its own order and what the order hangs on. -/
structure Tr (b : Heap) (Z : List Rg) (ow : List Int) (d : Nat) (tb : Nat) (g : Rt) (A E : List Rg) (lf : Value) (cb : Nat) (h : Heap) : Prop where
  ord : OrdA A lf (ltO ow)
  ok : TreeOk (ltO ow) (dmax d) 1 g
  st : St b Z ((tb, 0, hdr 1 (some ⟨cb, 0, none⟩) (rA g) (rPt g).items.length lf (dmin d : Nat) (dmax d : Nat)) :: (rAll g ++ (A ++ E))) h
/-- Setting items one by one. -/
theorem grow_ok {ow : List Int} {ov v : Value} {d : Nat} {nl : Bool} {l : List It} (ho : OwAt h ow ov) (hd : d = 0 ∨ 2 ≤ d) (hd2 : d ≤ 512) (hr : Rdl 2 h v l.length (l.flatMap enc)) (hl : l.length ≤ 1073741824)
    (H : ∀ tb g lf cb A E' h', rPt g = l.foldl (MT.set (ltO ow) (dmax d)) none → Tr h [] ow d tb g A E' lf cb h' → Q (ptr tb 0) h') : i_grow.call #[.agg #[ov, .int .i64 d, .bool nl], v] h Q := by
  obtain ⟨m3, m1, mo, _, mn0⟩ := dmax_ok hd hd2
  refine i_grow.body _ _ _ _ ?_
  unfold i_grow.sh
  have s := St.start h
  refine St.r_box (cs := [ov, .int .i64 d, .bool nl]) s fun t2 h1 s => ?_
  refine r_fld ?_
  refine St.r_load0 s 0 rfl rfl ?_
  refine St.r_loadN0 s 0 rfl (by simp) ?_
  refine before_ok (ho.st s).rd ho.le fun lf A E1 h1 hA s1 => ?_
  have s := (s.join s1).perm List.perm_append_comm
  refine ⟨St.r_stillN0 s 0 (j := 0) rfl (by simp) rfl, ?_⟩
  refine options_ok ho.one fun E2 h1 s2 => ?_
  have s := (s.join s2).perm List.perm_append_comm
  refine New_ok s hd hd2 ((hA A fun _ h => h).one) fun tb cb h1 s => ?_
  refine (hr.st s).lenV ?_
  refine loop_intro (fun t h' => ∃ (j : Nat) (g : Rt) (R : List Rg), t = [.int .i64 j] ∧ j ≤ l.length ∧ rPt g = (l.take j).foldl (MT.set (ltO ow) (dmax d)) none ∧ (rPt g).items.length ≤ j ∧ Tr h [] ow d tb g A R lf cb h') (fun t _ => l.length - (Hp.iv (t.getD 0 undef)).toNat)
    ⟨0, none, ((cb, 0, [.int .u64 1]) :: (t2, 0, [ov, .int .i64 d, .bool nl]) :: (E1 ++ E2)), rfl, by omega, rfl, Nat.le_refl _, hA, TreeOk.none m3 m1 mo, s.perm (by simp only [rAll]; ((apply perm_rg; intro f; simp only [List.set_cons_zero, List.set_cons_succ, List.eraseIdx_cons_zero, List.eraseIdx_cons_succ, List.cons_append, List.nil_append, List.map_append, List.map_cons, List.map_nil, List.sum_append, List.sum_cons, List.sum_nil, List.map_flatMap, Nat.add_zero, Nat.zero_add]; ac_rfl)))⟩ ?_
  clear s
  rintro t h1 ⟨j, g, R, rfl, hj, hg, hgl, T⟩
  have s := T.st
  unfold i_grow.l2.b
  refine r_cmpI ?_
  refine r_if (fun hlt => ?_) (fun hge => ?_)
  · have hlt : j < l.length := by simp at hlt; omega
    unfold i_grow.j3
    refine hr.at (n := j) (f := enc) rfl encl rfl rfl hlt fun b o hb => ?_
    refine (hb.st s).loadN rfl ?_
    refine s.r_alloc fun t7 h1 s => ?_
    refine St.r_storeN0 s 0 rfl rfl (by simp) (enc1 l[j]) ?_; intro h1 s
    refine St.r_loadN0 s 0 rfl (by simp) ?_
    refine Set_ok (mn := (dmin d : Nat)) (swoO ow) hA (x := l[j]) (E := (t7, 0, enc l[j]) :: R) T.ok (by omega) (by omega) (s.perm (by ((apply perm_rg; intro f; simp only [List.set_cons_zero, List.set_cons_succ, List.eraseIdx_cons_zero, List.eraseIdx_cons_succ, List.cons_append, List.nil_append, List.map_append, List.map_cons, List.map_nil, List.sum_append, List.sum_cons, List.sum_nil, List.map_flatMap, Nat.add_zero, Nat.zero_add]; ac_rfl)))) fun g' h1 e M' s => ?_
    unfold i_grow.j4
    refine r_add1 (by omega) ?_
    have hset := (MT.set_items (x := l[j]) (swoO ow) mo m3 T.ok.fl T.ok.asc).1
    refine ⟨⟨j + 1, g', (t7, 0, enc l[j]) :: R, rfl, hlt, ?_, ?_, hA, M', s⟩, by simp; omega⟩
    · rw [e, hg, List.take_succ_eq_append_getElem hlt, List.foldl_append]; rfl
    · rw [e, hset, lput_length]; split <;> omega
  · have hge : j = l.length := by simp at hge; omega
    subst hge
    rw [List.take_length] at hg
    unfold i_grow.j1
    exact H tb g lf cb A R h1 hg T
abbrev foundC (o : Option It) : List Value := match o with
  | some p => [.int .i64 p.1, .int .i64 p.2, .bool true]
  | none => [.int .i64 0, .int .i64 0, .bool false]
theorem foundC_len (o : Option It) : (foundC o).length = 3 := by cases o <;> rfl
theorem foundC_one (o : Option It) : ∀ y ∈ foundC o, one1 y = true := by cases o <;> simp [one1]
theorem found_ok {o : Option It} (H : ∀ E' h', St h [] E' h' → Q (.agg (foundC o).toArray) h') : i_found.call #[old o, .bool o.isSome] h Q := by
  refine i_found.body _ _ _ _ ?_
  unfold i_found.sh
  have s := St.start h
  refine St.r_box (cs := enc (o.getD emp)) s fun t2 h s => ?_
  refine s.r_alloc fun t4 h s => ?_
  refine r_not ?_
  cases o with
  | none =>
    refine r_if (fun _ => ?_) (fun e => absurd e (by simp))
    ((apply r_build; ((simp only [fillV, fill1, Value.cells, zeros_succ, zeros_zero, List.size_toArray, List.length_cons, List.length_nil, List.length_append, List.take_succ_cons, List.take_zero, List.take_nil, List.drop_succ_cons, List.drop_zero, List.drop_nil, List.cons_append, List.nil_append, List.append_nil, Nat.reduceAdd, Nat.reduceMul, Nat.reduceLeDiff, Nat.reduceEqDiff, and_self, and_true, true_and, if_true, Nat.le_refl, Nat.zero_add, Nat.add_zero, Nat.zero_mul, reduceIte, if_false] <;> rfl))))
    (refine St.r_storeN0 s 0 rfl rfl (by simp) (by simp [one1]) ?_; intro h s; try simp only [List.set_cons_zero, List.set_cons_succ] at s)
    refine St.r_loadN0 s 0 rfl (by simp) ?_
    exact H _ _ s
  | some p =>
    refine r_if (fun e => absurd e (by simp)) (fun _ => ?_)
    unfold i_found.j1
    refine St.r_loadN0 s 1 rfl (by simp) ?_
    ((apply r_build; ((simp only [fillV, fill1, Value.cells, zeros_succ, zeros_zero, List.size_toArray, List.length_cons, List.length_nil, List.length_append, List.take_succ_cons, List.take_zero, List.take_nil, List.drop_succ_cons, List.drop_zero, List.drop_nil, List.cons_append, List.nil_append, List.append_nil, Nat.reduceAdd, Nat.reduceMul, Nat.reduceLeDiff, Nat.reduceEqDiff, and_self, and_true, true_and, if_true, Nat.le_refl, Nat.zero_add, Nat.add_zero, Nat.zero_mul, reduceIte, if_false] <;> rfl))))
    (refine St.r_storeN0 s 0 rfl rfl (by simp) (by simp [one1]) ?_; intro h s; try simp only [List.set_cons_zero, List.set_cons_succ] at s)
    refine St.r_loadN0 s 0 rfl (by simp) ?_
    exact H _ _ s
theorem ltO_nil : ltO [] = ltK := by
  funext a b; rfl
theorem setK_one {m : Nat} {g : Rt} {x : It} (mo : m % 2 = 1) (m3 : 3 ≤ m) (f : (rPt g).Fl m) (ha : Asc (ltO []) (rPt g).items) : ((rPt g).set (ltO []) m x).items = lput ltK (rPt g).items x := by
  have := (MT.set_items (x := x) (swoO []) mo m3 f ha).1
  rw [ltO_nil] at this ⊢
  exact this
theorem items_setK {m : Nat} (mo : m % 2 = 1) (m3 : 3 ≤ m) : ∀ l : List It, (l.foldl (MT.set (ltO []) m) none).items = setK l ∧ (l.foldl (MT.set (ltO []) m) none).Fl m := by
  refine asc_rev (P := fun l => (l.foldl (MT.set (ltO []) m) none).items = setK l ∧ (l.foldl (MT.set (ltO []) m) none).Fl m) ⟨rfl, trivial⟩ fun l x ⟨i1, i2⟩ => ?_
  rw [List.foldl_append, setK_snoc]
  have h := MT.set_items (x := x) (swoO []) mo m3 i2 (by rw [i1, ltO_nil]; exact setK_asc l)
  refine ⟨?_, h.2⟩
  have h1 := h.1
  rw [i1] at h1
  show (MT.set (ltO []) m (l.foldl (MT.set (ltO []) m) none) x).items = _
  rw [h1, ltO_nil]
/-- How the trees of these laws are made. -/
abbrev mk (d : Nat) : Value := .agg #[.slice none 0 0, .int .i64 d, .bool true]
theorem byKeys_ok {d : Int} (H : ∀ E' h', St h [] E' h' → Q (.agg #[.slice none 0 0, .int .i64 d, .bool true]) h') : l_byKeys.call #[.int .i64 d] h Q := by
  refine l_byKeys.body _ _ _ ?_
  unfold l_byKeys.sh
  have s := St.start h
  refine s.r_alloc fun t2 h s => ?_
  refine r_build (cs := [.slice none 0 0, .int .i64 d, .bool true]) rfl ?_
  refine St.r_storeN0 s 0 (ys := [.slice none 0 0, .int .i64 d, .bool true]) rfl rfl (by simp) (one3 rfl rfl rfl) ?_; intro h s
  refine St.r_loadN0 s 0 rfl (by simp) ?_
  exact H _ _ s
theorem Fits_ok {d : Int} (H : Q (.bool (decide (d = 0 ∨ (2 ≤ d ∧ d ≤ 128)))) h) : s_Fits.call #[.int .i64 d] h Q := by
  refine s_Fits.body _ _ _ ?_
  unfold s_Fits.sh
  refine r_cmpI ?_
  refine r_br (fun e => ?_) (fun e => ?_)
  · have e : d ≠ 0 := by simpa using e
    refine r_cmpI ?_
    refine r_br (fun e2 => ?_) (fun e2 => ?_)
    · have e2 : 2 ≤ d := by simpa using e2
      refine r_cmpI ?_
      rwa [show decide (d = 0 ∨ (2 ≤ d ∧ d ≤ 128)) = decide (d ≤ 128) by simp [e, e2]] at H
    · have e2 : ¬ 2 ≤ d := by simpa using e2
      rwa [show decide (d = 0 ∨ (2 ≤ d ∧ d ≤ 128)) = false by simp [e, e2]] at H
  · have e : d = 0 := by simpa using e
    rwa [show decide (d = 0 ∨ (2 ≤ d ∧ d ≤ 128)) = true by simp [e]] at H
theorem GItems_ok {l : List It} {v : Value} {d : Nat} {nl : Bool} (hd : d = 0 ∨ 2 ≤ d) (hd2 : d ≤ 512) (hr : Rdl 2 h v l.length (l.flatMap enc)) (hl : l.length ≤ 1073741824)
    (H : ∀ v' E' h', St h [] E' h' → Rdl 2 h' v' (setK l).length ((setK l).flatMap enc) → Q v' h') : i_GItems.call #[.agg #[.slice none 0 0, .int .i64 d, .bool nl], v] h Q := by
  obtain ⟨m3, m1, mo, me, mn0⟩ := dmax_ok hd hd2
  refine i_GItems.body _ _ _ _ ?_
  unfold i_GItems.sh
  have s := St.start h
  refine St.r_box (cs := [.slice none 0 0, .int .i64 d, .bool nl]) s fun t2 h1 s => ?_
  refine St.r_loadN0 s 0 rfl (by simp) ?_
  refine grow_ok (OwAt.nil _) hd hd2 (hr.st s) hl fun tb g lf cb A E1 h1 hg T => ?_
  have s := s.join T.st
  have e1 := (items_setK mo m3 l).1
  rw [← hg] at e1
  have hle := setK_len l
  refine Items_ok T.ok (by rw [e1]; omega) (E := A ++ E1 ++ [(t2, 0, [.slice none 0 0, .int .i64 d, .bool nl])]) (s.perm (by ((apply perm_rg; intro f; simp only [List.set_cons_zero, List.set_cons_succ, List.eraseIdx_cons_zero, List.eraseIdx_cons_succ, List.cons_append, List.nil_append, List.map_append, List.map_cons, List.map_nil, List.sum_append, List.sum_cons, List.sum_nil, List.map_flatMap, Nat.add_zero, Nat.zero_add]; ac_rfl)))) fun v' b o sp h2 w s => ?_
  rw [e1] at w s
  exact H _ _ _ s (w.rdl s 0 rfl)
theorem exMake_ok (H : ∀ E' h', St h [] E' h' → Q (.agg #[.slice none 0 0, .int .i64 2, .bool false]) h') : l_exMake.call #[] h Q := by
  refine l_exMake.body _ _ ?_
  unfold l_exMake.sh
  have s := St.start h
  refine s.r_alloc fun t0 h s => ?_
  ((apply r_build; ((simp only [fillV, fill1, Value.cells, zeros_succ, zeros_zero, List.size_toArray, List.length_cons, List.length_nil, List.length_append, List.take_succ_cons, List.take_zero, List.take_nil, List.drop_succ_cons, List.drop_zero, List.drop_nil, List.cons_append, List.nil_append, List.append_nil, Nat.reduceAdd, Nat.reduceMul, Nat.reduceLeDiff, Nat.reduceEqDiff, and_self, and_true, true_and, if_true, Nat.le_refl, Nat.zero_add, Nat.add_zero, Nat.zero_mul, reduceIte, if_false] <;> rfl))))
  (refine St.r_storeN0 s 0 rfl rfl (by simp) (by simp [one1]) ?_; intro h s; try simp only [List.set_cons_zero, List.set_cons_succ] at s)
  refine St.r_loadN0 s 0 rfl (by simp) ?_
  exact H _ _ s
def exI : List It := [(5, 1), (3, 2), (9, 3), (3, 4), (1, 5), (7, 6), (8, 7)]
theorem alive_ok (H : ∀ E' h', St h [] E' h' → Q (.bool true) h') : l_alive.call #[] h Q := by
  refine l_alive.body _ _ ?_
  unfold l_alive.sh
  refine exMake_ok fun E0 h1 s => ?_
  refine l_exItems.body _ _ ?_
  unfold l_exItems.sh
  (apply r_build; (simp only [fillV, fill1, Value.cells, zeros_succ, zeros_zero, List.size_toArray, List.length_cons, List.length_nil, List.length_append, List.take_succ_cons, List.take_zero, List.take_nil, List.drop_succ_cons, List.drop_zero, List.drop_nil, List.cons_append, List.nil_append, List.append_nil, Nat.reduceAdd, Nat.reduceMul, Nat.reduceLeDiff, Nat.reduceEqDiff, and_self, and_true, true_and, if_true, Nat.le_refl, Nat.zero_add, Nat.add_zero, Nat.zero_mul, reduceIte, if_false] <;> rfl))
  (apply r_build; (simp only [fillV, fill1, Value.cells, zeros_succ, zeros_zero, List.size_toArray, List.length_cons, List.length_nil, List.length_append, List.take_succ_cons, List.take_zero, List.take_nil, List.drop_succ_cons, List.drop_zero, List.drop_nil, List.cons_append, List.nil_append, List.append_nil, Nat.reduceAdd, Nat.reduceMul, Nat.reduceLeDiff, Nat.reduceEqDiff, and_self, and_true, true_and, if_true, Nat.le_refl, Nat.zero_add, Nat.add_zero, Nat.zero_mul, reduceIte, if_false] <;> rfl))
  (apply r_build; (simp only [fillV, fill1, Value.cells, zeros_succ, zeros_zero, List.size_toArray, List.length_cons, List.length_nil, List.length_append, List.take_succ_cons, List.take_zero, List.take_nil, List.drop_succ_cons, List.drop_zero, List.drop_nil, List.cons_append, List.nil_append, List.append_nil, Nat.reduceAdd, Nat.reduceMul, Nat.reduceLeDiff, Nat.reduceEqDiff, and_self, and_true, true_and, if_true, Nat.le_refl, Nat.zero_add, Nat.add_zero, Nat.zero_mul, reduceIte, if_false] <;> rfl))
  (apply r_build; (simp only [fillV, fill1, Value.cells, zeros_succ, zeros_zero, List.size_toArray, List.length_cons, List.length_nil, List.length_append, List.take_succ_cons, List.take_zero, List.take_nil, List.drop_succ_cons, List.drop_zero, List.drop_nil, List.cons_append, List.nil_append, List.append_nil, Nat.reduceAdd, Nat.reduceMul, Nat.reduceLeDiff, Nat.reduceEqDiff, and_self, and_true, true_and, if_true, Nat.le_refl, Nat.zero_add, Nat.add_zero, Nat.zero_mul, reduceIte, if_false] <;> rfl))
  (apply r_build; (simp only [fillV, fill1, Value.cells, zeros_succ, zeros_zero, List.size_toArray, List.length_cons, List.length_nil, List.length_append, List.take_succ_cons, List.take_zero, List.take_nil, List.drop_succ_cons, List.drop_zero, List.drop_nil, List.cons_append, List.nil_append, List.append_nil, Nat.reduceAdd, Nat.reduceMul, Nat.reduceLeDiff, Nat.reduceEqDiff, and_self, and_true, true_and, if_true, Nat.le_refl, Nat.zero_add, Nat.add_zero, Nat.zero_mul, reduceIte, if_false] <;> rfl))
  (apply r_build; (simp only [fillV, fill1, Value.cells, zeros_succ, zeros_zero, List.size_toArray, List.length_cons, List.length_nil, List.length_append, List.take_succ_cons, List.take_zero, List.take_nil, List.drop_succ_cons, List.drop_zero, List.drop_nil, List.cons_append, List.nil_append, List.append_nil, Nat.reduceAdd, Nat.reduceMul, Nat.reduceLeDiff, Nat.reduceEqDiff, and_self, and_true, true_and, if_true, Nat.le_refl, Nat.zero_add, Nat.add_zero, Nat.zero_mul, reduceIte, if_false] <;> rfl))
  (apply r_build; (simp only [fillV, fill1, Value.cells, zeros_succ, zeros_zero, List.size_toArray, List.length_cons, List.length_nil, List.length_append, List.take_succ_cons, List.take_zero, List.take_nil, List.drop_succ_cons, List.drop_zero, List.drop_nil, List.cons_append, List.nil_append, List.append_nil, Nat.reduceAdd, Nat.reduceMul, Nat.reduceLeDiff, Nat.reduceEqDiff, and_self, and_true, true_and, if_true, Nat.le_refl, Nat.zero_add, Nat.add_zero, Nat.zero_mul, reduceIte, if_false] <;> rfl))
  refine St.r_mkSl (sz := 2) (cs := exI.flatMap enc) s (by ((simp only [fillV, fill1, Value.cells, zeros_succ, zeros_zero, List.size_toArray, List.length_cons, List.length_nil, List.length_append, List.take_succ_cons, List.take_zero, List.take_nil, List.drop_succ_cons, List.drop_zero, List.drop_nil, List.cons_append, List.nil_append, List.append_nil, Nat.reduceAdd, Nat.reduceMul, Nat.reduceLeDiff, Nat.reduceEqDiff, and_self, and_true, true_and, if_true, Nat.le_refl, Nat.zero_add, Nat.add_zero, Nat.zero_mul, reduceIte, if_false] <;> rfl))) rfl fun q h1 s w => ?_
  have w : Own 2 (.slice (some ⟨q, 0, none⟩) 7 7) exI.length q 0 (exI.flatMap enc) [] := w
  have s : St h [] ((q, 0, exI.flatMap enc ++ []) :: E0) h1 := s
  refine (w.rdl s 0 rfl).slc (l := 0) (m := 3) rfl ⟨_, _, rfl, by decide, by decide, rfl⟩ (by decide) (by decide) fun v' r => ?_
  rw [Nat.zero_mul, List.drop_zero, Nat.sub_zero, flat_take encl exI 3 (by decide)] at r
  refine GItems_ok (l := exI.take 3) (d := 2) (.inr (by decide)) (by decide) r (by decide) fun v2 E' h' s2 r2 => ?_
  refine r2.lenV ?_
  refine r_cmpI ?_
  have e : (setK (exI.take 3)).length = 3 := by decide +kernel
  rw [e]
  exact H _ _ (s.join s2)
end Go.Proofs.Ythpmeccnddchpaa.Gi
end
section
namespace Go.Proofs.Ythpmeccnddchpaa.Gi
open Go.Hp Go.Proofs.Ythpmeccnddchpaa
set_option linter.unusedVariables false
set_option linter.unusedSimpArgs false
variable {h0 h : Heap} {Z E : List Rg} {Q : Value → Heap → Prop} {lt : It → It → Bool} {lf : Value}

theorem push_ok {F : List (Option It)} {o : Option It} {v : Value} {b off k : Nat} {sp : List Value} {KV : Value → Heap → Prop} (s : St h0 Z E h) (hk : E[k]? = some (b, off, F.flatMap foundC ++ sp)) (w : Own 3 v F.length b off (F.flatMap foundC) sp) (hF : F.length ≤ 2147483647)
    (H : ∀ v' b' o' sp' q h', St h0 Z ((q, 0, foundC o) :: E.set k (b', o', (F ++ [o]).flatMap foundC ++ sp')) h' → Own 3 v' (F ++ [o]).length b' o' ((F ++ [o]).flatMap foundC) sp' → KV v' h') :
    mkSl (if 1 * 3 = 0 then [] else zeros [(.int .i64 0), (.int .i64 0), (.bool false)] 1) 1 [(0 * 3, 3, .agg (foundC o).toArray)] 48 h fun t35 h => app 48 3 24 [(.int .i64 0), (.int .i64 0), (.bool false)] v t35 h KV := by
  refine St.r_mkSl (sz := 3) (cs := foundC o) s (by rcases o with _ | p <;> ((simp only [fillV, fill1, Value.cells, zeros_succ, zeros_zero, List.size_toArray, List.length_cons, List.length_nil, List.length_append, List.take_succ_cons, List.take_zero, List.take_nil, List.drop_succ_cons, List.drop_zero, List.drop_nil, List.cons_append, List.nil_append, List.append_nil, Nat.reduceAdd, Nat.reduceMul, Nat.reduceLeDiff, Nat.reduceEqDiff, and_self, and_true, true_and, if_true, Nat.le_refl, Nat.zero_add, Nat.add_zero, Nat.zero_mul, reduceIte, if_false] <;> rfl))) (by cases o <;> rfl) fun q h s wq => ?_
  refine s.r_appL (f := foundC) (L := F) (M := [o]) (k + 1) hk w rfl (by have := wq.rdl s 0 (by rw [List.append_nil]; rfl); simpa using this) (fun y _ => foundC_one y) (by rw [List.length_singleton]; omega) (by rw [List.length_singleton]; omega) fun v' b' o' sp' h s w' => ?_
  exact H v' b' o' sp' q h s w'
theorem GSet_ok {l : List It} {v : Value} {d : Nat} {nl : Bool} (hd : d = 0 ∨ 2 ≤ d) (hd2 : d ≤ 512) (hr : Rdl 2 h v l.length (l.flatMap enc)) (hl : l.length ≤ 1073741824)
    (H : ∀ w v' E' h', St h [] E' h' → Rdl 2 h' v' (setK l).length ((setK l).flatMap enc) → Q (.tuple #[w, v']) h') : i_GSet.call #[.agg #[.slice none 0 0, .int .i64 d, .bool nl], v] h Q := by
  obtain ⟨m3, m1, mo, me, mn0⟩ := dmax_ok hd hd2
  refine i_GSet.body _ _ _ _ ?_
  unfold i_GSet.sh
  have s := St.start h
  refine St.r_box (cs := [.slice none 0 0, .int .i64 d, .bool nl]) s fun t2 h1 s => ?_
  refine St.r_loadN0 s 0 rfl (by simp) ?_
  refine grow_ok (l := []) (OwAt.nil _) hd hd2 (Rdl.nil 2 _) (by simp) fun tb g lf cb A E1 h1 hg T => ?_
  have s := s.join T.st
  have hO := T.ord
  have e0 : rPt g = none := hg
  refine (hr.st s).lenV ?_
  refine loop_ghost (fun q st h' => ∃ (j : Nat) (v1 : Value) (b1 o1 : Nat) (p1 : List Value) (F : List (Option It)) (g : Rt) (R : List Rg), q = l.length - j ∧ j ≤ l.length ∧ st = [v1, .int .i64 (j : Nat)] ∧ F.length = j ∧ (rPt g).items = setK (l.take j) ∧ TreeOk (ltO []) (dmax d) 1 g ∧ Own 3 v1 F.length b1 o1 (F.flatMap foundC) p1 ∧
      St h [] ((b1, o1, F.flatMap foundC ++ p1) :: (tb, 0, hdr 1 (some ⟨cb, 0, none⟩) (rA g) (rPt g).items.length lf (dmin d : Nat) (dmax d : Nat)) :: (rAll g ++ (A ++ R))) h') (n0 := l.length)
    ⟨0, .slice none 0 0, 0, 0, [], [], g, E1 ++ [(t2, 0, [.slice none 0 0, .int .i64 d, .bool nl])], rfl, Nat.zero_le _, rfl, rfl, by rw [e0]; rfl, T.ok, Own.nil 3 0 0, (s.empty 0 0).perm (by ((apply perm_rg; intro f; simp only [List.set_cons_zero, List.set_cons_succ, List.eraseIdx_cons_zero, List.eraseIdx_cons_succ, List.cons_append, List.nil_append, List.map_append, List.map_cons, List.map_nil, List.sum_append, List.sum_cons, List.sum_nil, List.map_flatMap, Nat.add_zero, Nat.zero_add]; ac_rfl)))⟩ ?_
  clear s T e0 hg
  clear g
  rintro q st h1 ⟨j, v1, b1, o1, p1, F, g, R, rfl, hj, rfl, hF, e, M, w1, s⟩ K HK
  unfold i_GSet.l2.b
  refine r_cmpI ?_
  refine r_if (fun hlt => ?_) (fun hge => ?_)
  · have hlt : j < l.length := by have := of_decide_eq_true hlt; omega
    have hle := setK_len (l.take j)
    rw [List.length_take] at hle
    unfold i_GSet.j3
    refine (hr.st s).at (n := j) rfl encl rfl rfl hlt fun b o hb => ?_
    refine hb.loadN rfl ?_
    refine s.r_alloc fun t9 h1 s => ?_
    refine St.r_storeN0 s 0 rfl rfl (by simp) (enc1 _) ?_; intro h1 s
    have s : St h [] ((t9, 0, enc l[j]) :: (b1, o1, F.flatMap foundC ++ p1) :: (tb, 0, hdr 1 (some ⟨cb, 0, none⟩) (rA g) (rPt g).items.length lf (dmin d : Nat) (dmax d : Nat)) :: (rAll g ++ (A ++ R))) h1 := s
    refine St.r_loadN0 s 0 rfl (by simp) ?_
    refine Set_ok (mn := (dmin d : Nat)) (swoO []) hO (x := l[j]) (E := (t9, 0, enc l[j]) :: (b1, o1, F.flatMap foundC ++ p1) :: R) M (by omega) (by rw [e]; omega) (s.perm (by ((apply perm_rg; intro f; simp only [List.set_cons_zero, List.set_cons_succ, List.eraseIdx_cons_zero, List.eraseIdx_cons_succ, List.cons_append, List.nil_append, List.map_append, List.map_cons, List.map_nil, List.sum_append, List.sum_cons, List.sum_nil, List.map_flatMap, Nat.add_zero, Nat.zero_add]; ac_rfl)))) fun g' h1 e1 M' s => ?_
    have e2 : (rPt g').items = setK (l.take (j + 1)) := by
      rw [e1, List.take_succ_eq_append_getElem hlt, setK_snoc, ← e]
      exact setK_one mo m3 M.fl M.asc
    refine r_ext rfl ?_
    refine r_ext rfl ?_
    refine found_ok fun E2 h1 s2 => ?_
    have s := s.join s2
    have s : St h [] ((b1, o1, F.flatMap foundC ++ p1) :: (tb, 0, hdr 1 (some ⟨cb, 0, none⟩) (rA g') (rPt g').items.length lf (dmin d : Nat) (dmax d : Nat)) :: (rAll g' ++ (A ++ (R ++ ((t9, 0, enc l[j]) :: E2))))) h1 := s.perm (by ((apply perm_rg; intro f; simp only [List.set_cons_zero, List.set_cons_succ, List.eraseIdx_cons_zero, List.eraseIdx_cons_succ, List.cons_append, List.nil_append, List.map_append, List.map_cons, List.map_nil, List.sum_append, List.sum_cons, List.sum_nil, List.map_flatMap, Nat.add_zero, Nat.zero_add]; ac_rfl)))
    refine push_ok s (k := 0) rfl w1 (by omega) fun v' b' o' sp' q h1 s w' => ?_
    unfold i_GSet.j4
    refine r_add1 (by omega) ?_
    refine HK (l.length - (j + 1)) _ _ (by omega) ⟨j + 1, v', b', o', sp', _, g', (q, 0, foundC _) :: (R ++ ((t9, 0, enc l[j]) :: E2)), rfl, hlt, rfl, by rw [List.length_append, hF]; rfl, e2, M', w', s.perm (by simp only [List.set_cons_zero]; ((apply perm_rg; intro f; simp only [List.set_cons_zero, List.set_cons_succ, List.eraseIdx_cons_zero, List.eraseIdx_cons_succ, List.cons_append, List.nil_append, List.map_append, List.map_cons, List.map_nil, List.sum_append, List.sum_cons, List.sum_nil, List.map_flatMap, Nat.add_zero, Nat.zero_add]; ac_rfl)))⟩
  · have hge : j = l.length := by have := of_decide_eq_false hge; omega
    subst hge
    rw [List.take_length] at e
    have hle := setK_len l
    unfold i_GSet.j1
    refine Items_ok M (by rw [e]; omega) (E := A ++ R ++ [(b1, o1, F.flatMap foundC ++ p1)]) (s.perm (by ((apply perm_rg; intro f; simp only [List.set_cons_zero, List.set_cons_succ, List.eraseIdx_cons_zero, List.eraseIdx_cons_succ, List.cons_append, List.nil_append, List.map_append, List.map_cons, List.map_nil, List.sum_append, List.sum_cons, List.sum_nil, List.map_flatMap, Nat.add_zero, Nat.zero_add]; ac_rfl)))) fun v' b o sp h2 w s => ?_
    rw [e] at w s
    exact H _ _ _ _ s (w.rdl s 0 rfl)
theorem CloneI_ok {l : List It} {v : Value} (hr : Rdl 2 h v l.length (l.flatMap enc)) (hl : l.length ≤ 2147483647)
    (H : ∀ v' b o sp E' h', Own 2 v' l.length b o (l.flatMap enc) sp → St h [] ((b, o, l.flatMap enc ++ sp) :: E') h' → Q v' h') : sl_Clone_implItemI.call #[v] h Q := by
  refine sl_Clone_implItemI.body _ _ _ ?_
  unfold sl_Clone_implItemI.sh
  have s := St.start h
  have hr0 := hr
  obtain ⟨a, cap, e, _, hc, _⟩ := hr0
  subst e
  refine ⟨a, _, _, rfl, ?_⟩
  refine r_if (fun ha => ?_) (fun ha => ?_)
  · have : l = [] := by
      cases l with
      | nil => rfl
      | cons x r =>
        obtain ⟨b, o, e, _⟩ := hc (by simp)
        subst e; cases ha
    subst this
    exact H _ 0 0 [] _ _ (Own.nil 2 0 0) (s.empty 0 0)
  · unfold sl_Clone_implItemI.j1
    refine St.r_mkSl (sz := 2) (cs := []) s (by ((simp only [fillV, fill1, Value.cells, zeros_succ, zeros_zero, List.size_toArray, List.length_cons, List.length_nil, List.length_append, List.take_succ_cons, List.take_zero, List.take_nil, List.drop_succ_cons, List.drop_zero, List.drop_nil, List.cons_append, List.nil_append, List.append_nil, Nat.reduceAdd, Nat.reduceMul, Nat.reduceLeDiff, Nat.reduceEqDiff, and_self, and_true, true_and, if_true, Nat.le_refl, Nat.zero_add, Nat.add_zero, Nat.zero_mul, reduceIte, if_false] <;> rfl))) rfl fun q h s wq => ?_
    refine s.r_appL (f := enc) (L := []) (M := l) 0 rfl wq rfl (hr.st s) (fun _ _ => enc1 _) (by simp; omega) (by simp; omega) fun v' b' o' sp' h s w' => ?_
    exact H _ _ _ _ _ _ w' s
theorem with_ok {l : List It} {v : Value} {d : Nat} {x : It} (hd : d = 0 ∨ 2 ≤ d) (hd2 : d ≤ 512) (hr : Rdl 2 h v l.length (l.flatMap enc)) (ha : Asc ltK l) (hl : l.length ≤ 1073741823)
    (H : ∀ v' E' h', St h [] E' h' → Rdl 2 h' v' (lput ltK l x).length ((lput ltK l x).flatMap enc) → Q v' h') : l_with.call #[mk d, v, av x] h Q := by
  refine l_with.body _ _ _ _ _ ?_
  unfold l_with.sh
  have s := St.start h
  refine St.r_box (cs := [.slice none 0 0, .int .i64 d, .bool true]) s fun t3 h1 s => ?_
  refine St.r_box (cs := enc x) s fun t5 h1 s => ?_
  refine St.r_loadN0 s 1 rfl (by simp) ?_
  refine St.r_loadN0 s 0 rfl (by simp) ?_
  have e2 : setK (l ++ [x]) = lput ltK l x := setK_put ha
  have fin : ∀ {b o q : Nat} {sp : List Value} {R : List Rg} {g1 : Heap} {vc : Value}, St h [] ((b, o, l.flatMap enc ++ sp) :: (q, 0, enc x) :: (t5, 0, enc x) :: (t3, 0, [.slice none 0 0, .int .i64 d, .bool true]) :: R) g1 → Own 2 vc l.length b o (l.flatMap enc) sp → Own 2 (.slice (some ⟨q, 0, none⟩) 1 1) 1 q 0 (enc x) [] →
      app 30 2 16 [(.int .i64 0), (.int .i64 0)] vc (.slice (some ⟨q, 0, none⟩) 1 1) g1 fun t15 h => stillN 3 (ptr t3 0) (.agg #[.slice none 0 0, .int .i64 d, .bool true]) h ∧ i_GSet.call #[.agg #[.slice none 0 0, .int .i64 d, .bool true], t15] h fun t16 h => extr 0 t16 fun t17 => extr 1 t16 fun t18 => Q t18 h := fun {b o q sp R g1 vc} s w wq => by
    refine s.r_appL (f := enc) (L := l) (M := [x]) 0 rfl w rfl (by have := wq.rdl s 1 rfl; simpa using this) (fun _ _ => enc1 _) (by rw [List.length_singleton]; omega) (by rw [List.length_singleton]; omega) fun v' b' o' sp' g1 s w' => ?_
    have s : St h [] ((b', o', (l ++ [x]).flatMap enc ++ sp') :: (q, 0, enc x) :: (t5, 0, enc x) :: (t3, 0, [.slice none 0 0, .int .i64 d, .bool true]) :: R) g1 := s
    refine ⟨St.r_stillN0 s 3 (j := 0) rfl (by simp) rfl, ?_⟩
    refine GSet_ok hd hd2 (w'.rdl s 0 rfl) (by rw [List.length_append, List.length_singleton]; omega) fun v1 v2 E2 g2 s2 r2 => ?_
    rw [e2] at r2
    refine r_ext rfl ?_
    refine r_ext rfl ?_
    exact H _ _ _ (s.join s2) r2
  refine ⟨?_, ?_⟩
  · refine CloneI_ok (hr.st s) (by omega) fun v' b o sp E6 g6 w6 s6 => ?_
    have s := s.join s6
    have s : St h [] ((b, o, l.flatMap enc ++ sp) :: (t5, 0, enc x) :: (t3, 0, [.slice none 0 0, .int .i64 d, .bool true]) :: E6) g6 := s.perm (by ((apply perm_rg; intro f; simp only [List.set_cons_zero, List.set_cons_succ, List.eraseIdx_cons_zero, List.eraseIdx_cons_succ, List.cons_append, List.nil_append, List.map_append, List.map_cons, List.map_nil, List.sum_append, List.sum_cons, List.sum_nil, List.map_flatMap, Nat.add_zero, Nat.zero_add]; ac_rfl)))
    refine ⟨St.r_stillN0 s 2 (j := 0) rfl (by simp) rfl, St.r_stillN0 s 1 (j := 0) rfl (by simp) rfl, ?_⟩
    refine St.r_mkSl (sz := 2) (cs := enc x) s (by ((simp only [fillV, fill1, Value.cells, zeros_succ, zeros_zero, List.size_toArray, List.length_cons, List.length_nil, List.length_append, List.take_succ_cons, List.take_zero, List.take_nil, List.drop_succ_cons, List.drop_zero, List.drop_nil, List.cons_append, List.nil_append, List.append_nil, Nat.reduceAdd, Nat.reduceMul, Nat.reduceLeDiff, Nat.reduceEqDiff, and_self, and_true, true_and, if_true, Nat.le_refl, Nat.zero_add, Nat.add_zero, Nat.zero_mul, reduceIte, if_false] <;> rfl))) rfl fun q g6 s wq => ?_
    have s : St h [] ((b, o, l.flatMap enc ++ sp) :: (q, 0, enc x) :: (t5, 0, enc x) :: (t3, 0, [.slice none 0 0, .int .i64 d, .bool true]) :: E6) g6 := s.perm (List.Perm.swap _ _ _)
    exact ⟨St.r_stillN0 s 3 (j := 0) rfl (by simp) rfl, fin s w6 wq⟩
  · refine St.r_mkSl (sz := 2) (cs := enc x) s (by ((simp only [fillV, fill1, Value.cells, zeros_succ, zeros_zero, List.size_toArray, List.length_cons, List.length_nil, List.length_append, List.take_succ_cons, List.take_zero, List.take_nil, List.drop_succ_cons, List.drop_zero, List.drop_nil, List.cons_append, List.nil_append, List.append_nil, Nat.reduceAdd, Nat.reduceMul, Nat.reduceLeDiff, Nat.reduceEqDiff, and_self, and_true, true_and, if_true, Nat.le_refl, Nat.zero_add, Nat.add_zero, Nat.zero_mul, reduceIte, if_false] <;> rfl))) rfl fun q g1 s wq => ?_
    have s : St h [] ((q, 0, enc x) :: (t5, 0, enc x) :: (t3, 0, [.slice none 0 0, .int .i64 d, .bool true]) :: []) g1 := s
    refine ⟨St.r_stillN0 s 2 (j := 0) rfl (by simp) rfl, ?_⟩
    refine CloneI_ok (hr.st s) (by omega) fun v' b o sp E6 g6 w6 s6 => ?_
    have s := s.join s6
    have s : St h [] ((b, o, l.flatMap enc ++ sp) :: (q, 0, enc x) :: (t5, 0, enc x) :: (t3, 0, [.slice none 0 0, .int .i64 d, .bool true]) :: E6) g6 := s.perm (by ((apply perm_rg; intro f; simp only [List.set_cons_zero, List.set_cons_succ, List.eraseIdx_cons_zero, List.eraseIdx_cons_succ, List.cons_append, List.nil_append, List.map_append, List.map_cons, List.map_nil, List.sum_append, List.sum_cons, List.sum_nil, List.map_flatMap, Nat.add_zero, Nat.zero_add]; ac_rfl)))
    exact ⟨St.r_stillN0 s 3 (j := 0) rfl (by simp) rfl, fin s w6 wq⟩
end Go.Proofs.Ythpmeccnddchpaa.Gi
end
section
namespace Go.Proofs.Ythpmeccnddchpaa.Gi
open Go.Hp Go.Proofs.Ythpmeccnddchpaa
set_option linter.unusedVariables false
set_option linter.unusedSimpArgs false
variable {h0 h : Heap} {Z E : List Rg} {Q : Value → Heap → Prop} {lt : It → It → Bool} {lf : Value}

/-- What popping at one end takes, and leaves. -/
def pop1 (b : Bool) (L : List It) : Option It × List It := if b then (L.getLast?, L.dropLast) else (L.head?, L.tail)
theorem pop1_of {b : Bool} {r : Option It} {l l' : List It} (p : Popped b r l l') : pop1 b l = (r, l') := by
  unfold Popped at p
  unfold pop1
  cases r with
  | none => obtain ⟨rfl, rfl⟩ := p; cases b <;> rfl
  | some x =>
    unfold Ends at p
    cases b with
    | true => simp at p; subst p; simp
    | false => simp at p; subst p; rfl
def pops (bs : List Bool) (L : List It) : List (Option It) × List It := bs.foldl (fun s b => (s.1 ++ [(pop1 b s.2).1], (pop1 b s.2).2)) ([], L)
theorem pops_snoc (bs : List Bool) (b : Bool) (L : List It) : pops (bs ++ [b]) L = ((pops bs L).1 ++ [(pop1 b (pops bs L).2).1], (pop1 b (pops bs L).2).2) := by unfold pops; rw [List.foldl_append]; rfl
abbrev fb (b : Bool) : List Value := [.bool b]
theorem fbl (b : Bool) : (fb b).length = 1 := rfl
theorem GPops_ok {l : List It} {bs : List Bool} {v vk : Value} {d : Nat} {nl : Bool} (hd : d = 0 ∨ 2 ≤ d) (hd2 : d ≤ 512) (hr : Rdl 2 h v l.length (l.flatMap enc)) (hl : l.length ≤ 1073741824) (hk : Rdl 1 h vk bs.length (bs.flatMap fb)) (hkl : bs.length ≤ 1073741824)
    (H : ∀ w b1 o1 p1 v' b o sp E' h', Own 3 w (pops bs (setK l)).1.length b1 o1 ((pops bs (setK l)).1.flatMap foundC) p1 → Own 2 v' (pops bs (setK l)).2.length b o ((pops bs (setK l)).2.flatMap enc) sp → St h [] ((b1, o1, (pops bs (setK l)).1.flatMap foundC ++ p1) :: (b, o, (pops bs (setK l)).2.flatMap enc ++ sp) :: E') h' → Q (.tuple #[w, v']) h') : i_GPops.call #[.agg #[.slice none 0 0, .int .i64 d, .bool nl], v, vk] h Q := by
  obtain ⟨m3, m1, mo, me, mn0⟩ := dmax_ok hd hd2
  refine i_GPops.body _ _ _ _ _ ?_
  unfold i_GPops.sh
  have s := St.start h
  refine St.r_box (cs := [.slice none 0 0, .int .i64 d, .bool nl]) s fun t2 h1 s => ?_
  refine St.r_loadN0 s 0 rfl (by simp) ?_
  refine grow_ok (OwAt.nil _) hd hd2 (hr.st s) hl fun tb g lf cb A E1 h1 hg T => ?_
  have s := s.join T.st
  have hO := T.ord
  have e0 := (items_setK mo m3 l).1
  rw [← hg] at e0
  have hle := setK_len l
  have eL : (setK l).length ≤ 1073741824 := by omega
  generalize setK l = L0 at *
  rw [me] at s
  refine (hk.st s).lenV ?_
  refine loop_ghost (fun q st h' => ∃ (j : Nat) (v1 : Value) (b1 o1 : Nat) (p1 : List Value) (g : Rt) (R : List Rg), q = bs.length - j ∧ j ≤ bs.length ∧ st = [v1, .int .i64 (j : Nat)] ∧ (pops (bs.take j) L0).1.length = j ∧ (rPt g).items = (pops (bs.take j) L0).2 ∧ (rPt g).items.length ≤ 1073741824 ∧ TreeOk (ltO []) (dmax d) 1 g ∧ Own 3 v1 (pops (bs.take j) L0).1.length b1 o1 ((pops (bs.take j) L0).1.flatMap foundC) p1 ∧
      St h [] ((b1, o1, (pops (bs.take j) L0).1.flatMap foundC ++ p1) :: (tb, 0, hdr 1 (some ⟨cb, 0, none⟩) (rA g) (rPt g).items.length lf ((dmax d / 2 : Nat) : Int) (dmax d : Nat)) :: (rAll g ++ (A ++ R))) h') (n0 := bs.length)
    ⟨0, .slice none 0 0, 0, 0, [], g, E1 ++ [(t2, 0, [.slice none 0 0, .int .i64 d, .bool nl])], rfl, Nat.zero_le _, rfl, rfl, e0, by rw [e0]; exact eL, T.ok, Own.nil 3 0 0, (s.empty 0 0).perm (by ((apply perm_rg; intro f; simp only [List.set_cons_zero, List.set_cons_succ, List.eraseIdx_cons_zero, List.eraseIdx_cons_succ, List.cons_append, List.nil_append, List.map_append, List.map_cons, List.map_nil, List.sum_append, List.sum_cons, List.sum_nil, List.map_flatMap, Nat.add_zero, Nat.zero_add]; ac_rfl)))⟩ ?_
  clear s T e0 hg
  clear g
  rintro q st h1 ⟨j, v1, b1, o1, p1, g, R, rfl, hj, rfl, hF, e, hgl, M, w1, s⟩ K HK
  unfold i_GPops.l2.b
  refine r_cmpI ?_
  refine r_if (fun hlt => ?_) (fun hge => ?_)
  · have hlt : j < bs.length := by have := of_decide_eq_true hlt; omega
    have et : pops (bs.take (j + 1)) L0 = ((pops (bs.take j) L0).1 ++ [(pop1 bs[j] (pops (bs.take j) L0).2).1], (pop1 bs[j] (pops (bs.take j) L0).2).2) := by rw [List.take_succ_eq_append_getElem hlt, pops_snoc]
    have go : ∀ (r : Option It) (g' : Rt) h2, Popped bs[j] r (rPt g).items (rPt g').items → TreeOk (ltO []) (dmax d) 1 g' → St h [] ((tb, 0, hdr 1 (some ⟨cb, 0, none⟩) (rA g') (rPt g').items.length lf ((dmax d / 2 : Nat) : Int) (dmax d : Nat)) :: (rAll g' ++ (A ++ ((b1, o1, (pops (bs.take j) L0).1.flatMap foundC ++ p1) :: R)))) h2 →
        i_found.call #[old r, .bool r.isSome] h2 fun t27 h => mkSl (if 1 * 3 = 0 then [] else zeros [(.int .i64 0), (.int .i64 0), (.bool false)] 1) 1 [(0 * 3, 3, t27)] 48 h fun t28 h => app 48 3 24 [(.int .i64 0), (.int .i64 0), (.bool false)] v1 t28 h fun t29 h => i_GPops.j4 (ptr tb 0) t29 vk (.int .i64 bs.length) (.int .i64 (j : Nat)) h K Q := fun r g' h2 hp M' s => by
      have hpo := pop1_of hp
      rw [e] at hpo
      rw [hpo] at et
      refine found_ok fun E2 h2 s2 => ?_
      have s := s.join s2
      have s : St h [] ((b1, o1, (pops (bs.take j) L0).1.flatMap foundC ++ p1) :: (tb, 0, hdr 1 (some ⟨cb, 0, none⟩) (rA g') (rPt g').items.length lf ((dmax d / 2 : Nat) : Int) (dmax d : Nat)) :: (rAll g' ++ (A ++ (R ++ E2)))) h2 := s.perm (by ((apply perm_rg; intro f; simp only [List.set_cons_zero, List.set_cons_succ, List.eraseIdx_cons_zero, List.eraseIdx_cons_succ, List.cons_append, List.nil_append, List.map_append, List.map_cons, List.map_nil, List.sum_append, List.sum_cons, List.sum_nil, List.map_flatMap, Nat.add_zero, Nat.zero_add]; ac_rfl)))
      refine push_ok s (k := 0) rfl w1 (by omega) fun v' b' o' sp' q h2 s w' => ?_
      have hgl2 : (rPt g').items.length ≤ 1073741824 := by
        have := congrArg Prod.snd hpo
        dsimp only at this
        rw [← this, ← e]
        unfold pop1
        split
        · rw [List.length_dropLast]; omega
        · rw [List.length_tail]; omega
      have e1 : (pops (bs.take (j + 1)) L0).1 = (pops (bs.take j) L0).1 ++ [r] := by rw [et]
      have e2 : (rPt g').items = (pops (bs.take (j + 1)) L0).2 := by rw [et]
      rw [← e1] at w' s
      unfold i_GPops.j4
      refine r_add1 (by omega) ?_
      refine HK (bs.length - (j + 1)) _ _ (by omega) ⟨j + 1, v', b', o', sp', g', (q, 0, foundC _) :: (R ++ E2), rfl, hlt, rfl, by rw [e1, List.length_append, hF]; rfl, e2, hgl2, M', w', s.perm (by simp only [List.set_cons_zero]; ((apply perm_rg; intro f; simp only [List.set_cons_zero, List.set_cons_succ, List.eraseIdx_cons_zero, List.eraseIdx_cons_succ, List.cons_append, List.nil_append, List.map_append, List.map_cons, List.map_nil, List.sum_append, List.sum_cons, List.sum_nil, List.map_flatMap, Nat.add_zero, Nat.zero_add]; ac_rfl)))⟩
    unfold i_GPops.j3
    refine (hk.st s).at (n := j) rfl fbl rfl rfl hlt fun b o hb => ?_
    refine hb.load0 rfl ?_
    refine r_if (fun eb => ?_) (fun eb => ?_)
    · rw [eb] at go
      refine PopMax.ok (swoO []) hO (E := (b1, o1, (pops (bs.take j) L0).1.flatMap foundC ++ p1) :: R) M (by omega) (s.perm (by ((apply perm_rg; intro f; simp only [List.set_cons_zero, List.set_cons_succ, List.eraseIdx_cons_zero, List.eraseIdx_cons_succ, List.cons_append, List.nil_append, List.map_append, List.map_cons, List.map_nil, List.sum_append, List.sum_cons, List.sum_nil, List.map_flatMap, Nat.add_zero, Nat.zero_add]; ac_rfl)))) fun r g' h2 hp M' _ s => ?_
      refine r_ext rfl ?_
      refine r_ext rfl ?_
      exact go r g' h2 hp M' s
    · rw [eb] at go
      refine PopMin.ok (swoO []) hO (E := (b1, o1, (pops (bs.take j) L0).1.flatMap foundC ++ p1) :: R) M (by omega) (s.perm (by ((apply perm_rg; intro f; simp only [List.set_cons_zero, List.set_cons_succ, List.eraseIdx_cons_zero, List.eraseIdx_cons_succ, List.cons_append, List.nil_append, List.map_append, List.map_cons, List.map_nil, List.sum_append, List.sum_cons, List.sum_nil, List.map_flatMap, Nat.add_zero, Nat.zero_add]; ac_rfl)))) fun r g' h2 hp M' _ s => ?_
      refine r_ext rfl ?_
      refine r_ext rfl ?_
      exact go r g' h2 hp M' s
  · have hge : j = bs.length := by have := of_decide_eq_false hge; omega
    subst hge
    rw [List.take_length] at e w1 s
    unfold i_GPops.j1
    refine Items_ok M (by omega) (E := A ++ R ++ [(b1, o1, (pops bs L0).1.flatMap foundC ++ p1)]) (s.perm (by ((apply perm_rg; intro f; simp only [List.set_cons_zero, List.set_cons_succ, List.eraseIdx_cons_zero, List.eraseIdx_cons_succ, List.cons_append, List.nil_append, List.map_append, List.map_cons, List.map_nil, List.sum_append, List.sum_cons, List.sum_nil, List.map_flatMap, Nat.add_zero, Nat.zero_add]; ac_rfl)))) fun v' b o sp h2 w s => ?_
    rw [e] at w s
    have s2 := s.perm (E' := (b1, o1, (pops bs L0).1.flatMap foundC ++ p1) :: (b, o, (pops bs L0).2.flatMap enc ++ sp) :: (((tb, 0, hdr 1 (some ⟨cb, 0, none⟩) (rA g) (pops bs L0).2.length lf ((dmax d / 2 : Nat) : Int) (dmax d : Nat)) :: rAll g) ++ (A ++ R))) (by ((apply perm_rg; intro f; simp only [List.set_cons_zero, List.set_cons_succ, List.eraseIdx_cons_zero, List.eraseIdx_cons_succ, List.cons_append, List.nil_append, List.map_append, List.map_cons, List.map_nil, List.sum_append, List.sum_cons, List.sum_nil, List.map_flatMap, Nat.add_zero, Nat.zero_add]; ac_rfl)))
    exact H _ _ _ _ _ _ _ _ _ _ w1 w s2
theorem least_ok {l : List It} {v : Value} {d : Nat} (hd : d = 0 ∨ 2 ≤ d) (hd2 : d ≤ 512) (hr : Rdl 2 h v l.length (l.flatMap enc)) (ha : Asc ltK l) (hl : l.length ≤ 1073741823)
    (H : ∀ v' E' h', St h [] E' h' → Rdl 2 h' v' l.tail.length (l.tail.flatMap enc) → Q (.tuple #[av (l.head?.getD emp), v', .bool l.head?.isSome]) h') : l_least.call #[mk d, v] h Q := by
  refine l_least.body _ _ _ _ ?_
  unfold l_least.sh
  have s := St.start h
  refine St.r_box (cs := [.slice none 0 0, .int .i64 d, .bool true]) s fun t2 h1 s => ?_
  refine s.r_alloc fun t4 h1 s => ?_
  refine St.r_loadN0 s 1 rfl (by simp) ?_
  refine St.r_mkSl (sz := 1) (cs := fb false) s (by ((simp only [fillV, fill1, Value.cells, zeros_succ, zeros_zero, List.size_toArray, List.length_cons, List.length_nil, List.length_append, List.take_succ_cons, List.take_zero, List.take_nil, List.drop_succ_cons, List.drop_zero, List.drop_nil, List.cons_append, List.nil_append, List.append_nil, Nat.reduceAdd, Nat.reduceMul, Nat.reduceLeDiff, Nat.reduceEqDiff, and_self, and_true, true_and, if_true, Nat.le_refl, Nat.zero_add, Nat.add_zero, Nat.zero_mul, reduceIte, if_false] <;> rfl))) rfl fun q h1 s wq => ?_
  refine GPops_ok (bs := [false]) hd hd2 (hr.st s) (by omega) (by have := wq.rdl s 0 rfl; simpa using this) (by simp) fun w b1 o1 p1 v' b o sp E2 h2 w1 w2 s2 => ?_
  have e1 : pops [false] (setK l) = ([l.head?], l.tail) := by rw [setK_self l ha]; rfl
  rw [e1] at w1 w2 s2
  have s := s.join s2
  have s : St h [] ((b1, o1, [l.head?].flatMap foundC ++ p1) :: (t4, 0, enc emp) :: (b, o, l.tail.flatMap enc ++ sp) :: (q, 0, fb false) :: (t2, 0, [.slice none 0 0, .int .i64 d, .bool true]) :: E2) h2 := s.perm (by ((apply perm_rg; intro f; simp only [List.set_cons_zero, List.set_cons_succ, List.eraseIdx_cons_zero, List.eraseIdx_cons_succ, List.cons_append, List.nil_append, List.map_append, List.map_cons, List.map_nil, List.sum_append, List.sum_cons, List.sum_nil, List.map_flatMap, Nat.add_zero, Nat.zero_add]; ac_rfl)))
  have r1 := w1.rdl s 0 rfl
  refine r_ext rfl ?_
  refine r_ext rfl ?_
  refine r1.lenV ?_
  refine r_cmpI ?_
  refine r_br (fun _ => ?_) (fun e => absurd e (by simp))
  refine r1.at (n := 0) rfl foundC_len rfl rfl (by simp) fun b3 o3 hb3 => ?_
  have hb3 : Rw h2 b3 o3 (foundC l.head?) := hb3
  refine r_fld (n := 2) ?_
  have hld : (foundC l.head?)[2]? = some (.bool l.head?.isSome) := by cases l.head? <;> rfl
  refine hb3.load (j := 2) hld ?_
  refine r_not ?_
  cases hh : l.head? with
  | none =>
    have hl0 : l = [] := List.head?_eq_none_iff.1 hh
    subst hl0
    refine r_if (fun _ => ?_) (fun e => absurd e (by simp))
    refine r_build (cs := enc emp) rfl ?_
    refine St.r_storeN0 s 1 (ys := enc emp) rfl rfl (by simp) (enc1 _) ?_; intro h2 s
    refine St.r_loadN0 s 1 rfl (by simp) ?_
    exact H _ _ _ s (hr.st s)
  | some x =>
    rw [hh] at H
    refine r_if (fun e => absurd e (by simp)) (fun _ => ?_)
    unfold l_least.j1
    refine r1.at (n := 0) rfl foundC_len rfl rfl (by simp) fun b4 o4 hb4 => ?_
    have hb4 : Rw h2 b4 o4 (foundC l.head?) := hb4
    rw [hh] at hb4
    refine r_fld (n := 0) ?_
    have hb5 : Rw h2 b4 (o4 + 0) (enc x) := hb4.sub 0 2 (by simp)
    refine hb5.loadN rfl ?_
    refine St.r_storeN0 s 1 (ys := enc x) rfl rfl (by simp) (enc1 _) ?_; intro h3 s
    refine St.r_loadN0 s 1 rfl (by simp) ?_
    have s : St h [] ((b1, o1, [l.head?].flatMap foundC ++ p1) :: (t4, 0, enc x) :: (b, o, l.tail.flatMap enc ++ sp) :: (q, 0, fb false) :: (t2, 0, [.slice none 0 0, .int .i64 d, .bool true]) :: E2) h3 := s
    exact H _ _ _ s (w2.rdl s 2 rfl)
end Go.Proofs.Ythpmeccnddchpaa.Gi
end
section
namespace Go.Hp
set_option linter.unusedVariables false
set_option linter.unusedSimpArgs false

/-- What it costs to join the two least numbers of a list again and again. -/
inductive HC : List Int → Int → Prop
  | stop {l : List Int} : l.length ≤ 1 → HC l 0
  | step {l : List Int} {x y : Int} {r : List Int} {c : Int} : l.Perm (x :: y :: r) → x ≤ y → (∀ z ∈ r, y ≤ z) → HC ((x + y) :: r) c → HC l (x + y + c)
theorem HC.perm {l l' : List Int} {c : Int} (h : HC l c) (p : l.Perm l') : HC l' c := by
  cases h with
  | stop h => exact .stop (by rw [← p.length_eq]; exact h)
  | step h1 h2 h3 h4 => exact .step (p.symm.trans h1) h2 h3 h4
theorem HC.det {l : List Int} {c : Int} (h : HC l c) : ∀ {l' : List Int} {c' : Int}, l.Perm l' → HC l' c' → c = c' := by
  induction h with
  | stop h =>
    intro l' c' p k
    cases k with
    | stop _ => rfl
    | step k1 _ _ _ => have := k1.length_eq; have := p.length_eq; simp at *; omega
  | @step l x y r c h1 h2 h3 h4 ih =>
    intro l' c' p k
    cases k with
    | stop k => have := h1.length_eq; have := p.length_eq; simp at *; omega
    | @step _ x' y' r' c' k1 k2 k3 k4 =>
      have q : (x :: y :: r).Perm (x' :: y' :: r') := h1.symm.trans (p.trans k1)
      have e : x = x' := by
        have m1 : x ∈ x' :: y' :: r' := q.mem_iff.1 (List.mem_cons_self ..)
        have m2 : x' ∈ x :: y :: r := q.mem_iff.2 (List.mem_cons_self ..)
        have a1 : x' ≤ x := by
          rcases List.mem_cons.1 m1 with e | e
          · omega
          · rcases List.mem_cons.1 e with e | e
            · omega
            · have := k3 x e; omega
        have a2 : x ≤ x' := by
          rcases List.mem_cons.1 m2 with e | e
          · omega
          · rcases List.mem_cons.1 e with e | e
            · omega
            · have := h3 x' e; omega
        omega
      subst e
      have q := q.cons_inv
      have e : y = y' := by
        have m1 : y ∈ y' :: r' := q.mem_iff.1 (List.mem_cons_self ..)
        have m2 : y' ∈ y :: r := q.mem_iff.2 (List.mem_cons_self ..)
        have a1 : y' ≤ y := by
          rcases List.mem_cons.1 m1 with e | e
          · omega
          · exact k3 y e
        have a2 : y ≤ y' := by
          rcases List.mem_cons.1 m2 with e | e
          · omega
          · exact h3 y' e
        omega
      subst e
      have q := q.cons_inv
      rw [ih (List.Perm.cons _ q) k4]
/-- One round of taking two least ones out. -/
theorem HC.round {L L1 L2 : List Int} {x y : Int} (p1 : L.Perm (x :: L1)) (m1 : ∀ z ∈ L, x ≤ z) (p2 : L1.Perm (y :: L2)) (m2 : ∀ z ∈ L1, y ≤ z) {c : Int} (h : HC (L2 ++ [x + y]) c) : HC L (x + y + c) := by
  refine .step (p1.trans (List.Perm.cons x p2)) ?_ (fun z hz => m2 z (p2.mem_iff.2 (List.mem_cons_of_mem _ hz))) (h.perm (List.perm_append_singleton _ _))
  exact m1 y (p1.mem_iff.2 (List.mem_cons_of_mem _ (p2.mem_iff.2 (List.mem_cons_self ..))))
theorem perm_sum {l r : List Int} (p : l.Perm r) : l.sum = r.sum := by
  induction p with
  | nil => rfl
  | cons x _ ih => rw [List.sum_cons, List.sum_cons, ih]
  | swap x y l => simp only [List.sum_cons]; omega
  | trans _ _ h1 h2 => exact h1.trans h2
/-- The weight of a queue's item. -/
abbrev wt (p : KI) : Int := p.1 / 128
/-- What holds ahead of the n-th join. -/
structure HInv (W0 : List Int) (n : Nat) (Q : List KI) (cost last : Int) : Prop where
  asc : Asc ltK Q
  nn : ∀ p ∈ Q, 0 ≤ p.1 ∧ p.1 % 128 < n
  sum : (Q.map wt).sum = W0.sum
  lst : ∀ a b r, (Q.map wt).Perm (a :: b :: r) → last ≤ a + b
  hc : ∀ c', HC (Q.map wt) c' → HC W0 (cost + c')
theorem HInv.two {W0 : List Int} {n : Nat} {x y : KI} {r : List KI} {cost last : Int} (I : HInv W0 n (x :: y :: r) cost last) (hn : n < 128) :
    last ≤ wt x + wt y ∧ 0 ≤ wt x + wt y ∧ wt x + wt y ≤ W0.sum ∧ HInv W0 (n + 1) (lput ltK r ((wt x + wt y) * 128 + n, 0)) (cost + (wt x + wt y)) (wt x + wt y) ∧ (lput ltK r ((wt x + wt y) * 128 + n, 0)).length = r.length + 1 := by
  obtain ⟨ax, ay⟩ := List.pairwise_cons.1 I.asc
  obtain ⟨ay, ar⟩ := List.pairwise_cons.1 ay
  have nx := I.nn x (List.mem_cons_self ..)
  have ny := I.nn y (List.mem_cons_of_mem _ (List.mem_cons_self ..))
  have nr : ∀ p ∈ r, 0 ≤ p.1 ∧ p.1 % 128 < n := fun p hp => I.nn p (List.mem_cons_of_mem _ (List.mem_cons_of_mem _ hp))
  have lxy := ltK_t.1 (ax y (List.mem_cons_self ..))
  have hs : wt x + (wt y + (r.map wt).sum) = W0.sum := I.sum
  have hr0 : 0 ≤ (r.map wt).sum := by
    have : ∀ l : List KI, (∀ p ∈ l, 0 ≤ p.1) → 0 ≤ (l.map wt).sum := fun l => by
      induction l with
      | nil => intro _; exact Int.le_refl _
      | cons p l ih =>
        intro h
        have h1 := h p (List.mem_cons_self ..)
        have h2 := ih fun q hq => h q (List.mem_cons_of_mem _ hq)
        show 0 ≤ wt p + (l.map wt).sum
        have h3 : 0 ≤ wt p := by show 0 ≤ p.1 / 128; omega
        omega
    exact this r fun p hp => (nr p hp).1
  have hx0 : 0 ≤ wt x := by show 0 ≤ x.1 / 128; omega
  have hy0 : 0 ≤ wt y := by show 0 ≤ y.1 / 128; omega
  have hxy : wt x ≤ wt y := by show x.1 / 128 ≤ y.1 / 128; omega
  have hyr : ∀ z ∈ r, wt y ≤ wt z := fun z hz => by
    have := ltK_t.1 (ay z hz)
    show y.1 / 128 ≤ z.1 / 128; omega
  have hne : ∀ p ∈ r, p.1 ≠ ((wt x + wt y) * 128 + n, (0 : Int)).1 := fun p hp e => by
    have h1 := (nr p hp).2
    have e : p.1 = (wt x + wt y) * 128 + n := e
    omega
  have pm := lputK_perm hne
  have ew : wt ((wt x + wt y) * 128 + n, (0 : Int)) = wt x + wt y := by
    show ((wt x + wt y) * 128 + (n : Int)) / 128 = _; omega
  have pw : ((lput ltK r ((wt x + wt y) * 128 + n, 0)).map wt).Perm ((wt x + wt y) :: r.map wt) := by
    have := pm.map wt
    rw [List.map_cons, ew] at this
    exact this
  refine ⟨I.lst _ _ _ (List.Perm.refl _), by omega, by omega, ⟨lputK_asc ar, fun p hp => ?_, ?_, fun a b r' pr => ?_, fun c' h => ?_⟩, ?_⟩
  · rcases (mem_lputK ar).1 hp with e | ⟨e, _⟩
    · subst e
      show 0 ≤ (wt x + wt y) * 128 + (n : Int) ∧ ((wt x + wt y) * 128 + (n : Int)) % 128 < ((n + 1 : Nat) : Int)
      omega
    · have := nr p e; omega
  · rw [perm_sum pw, List.sum_cons]; omega
  · have q := pw.symm.trans pr
    have m : ∀ c, c ∈ a :: b :: r' → c = wt x + wt y ∨ wt y ≤ c := fun c hc => by
      rcases List.mem_cons.1 (q.mem_iff.2 hc) with e | e
      · exact .inl e
      · obtain ⟨z, hz, rfl⟩ := List.mem_map.1 e
        exact .inr (hyr z hz)
    have := m a (List.mem_cons_self ..)
    have := m b (List.mem_cons_of_mem _ (List.mem_cons_self ..))
    omega
  · rw [Int.add_assoc]
    exact I.hc _ (.step (List.Perm.refl _) hxy (fun z hz => by obtain ⟨u, hu, rfl⟩ := List.mem_map.1 hz; exact hyr u hu) (h.perm pw))
  · rw [pm.length_eq]; rfl
/-- The queue of a list of weights. -/
def hq (l : List Int) : List KI := (l.zipIdx).map fun p => (p.1 * 128 + (p.2 : Int), 0)
/-- The queue behind some weights. -/
structure HQ (l : List Int) (Q : List KI) : Prop where
  asc : Asc ltK Q
  nn : ∀ p ∈ Q, 0 ≤ p.1 ∧ p.1 % 128 < l.length
  wts : (Q.map wt).Perm l
  len : Q.length = l.length
theorem HQ.nil : HQ [] [] := ⟨List.Pairwise.nil, fun _ h => absurd h List.not_mem_nil, List.Perm.nil, rfl⟩
theorem HQ.put {l : List Int} {Q : List KI} (I : HQ l Q) {w : Int} (hw : 0 ≤ w) (hl : l.length < 128) : HQ (l ++ [w]) (lput ltK Q (w * 128 + l.length, 0)) := by
  have hne : ∀ p ∈ Q, p.1 ≠ (w * 128 + l.length, (0 : Int)).1 := fun p hp e => by
    have h1 := (I.nn p hp).2
    have e : p.1 = w * 128 + l.length := e
    omega
  have pm := lputK_perm hne
  refine ⟨lputK_asc I.asc, fun p hp => ?_, ?_, by rw [pm.length_eq, List.length_cons, List.length_append, I.len]; rfl⟩
  · rw [List.length_append, List.length_singleton]
    rcases (mem_lputK I.asc).1 hp with e | ⟨e, _⟩
    · subst e
      show 0 ≤ w * 128 + (l.length : Int) ∧ (w * 128 + (l.length : Int)) % 128 < ((l.length + 1 : Nat) : Int)
      omega
    · have := I.nn p e; omega
  · have h := pm.map wt
    rw [List.map_cons] at h
    have ew : wt (w * 128 + l.length, (0 : Int)) = w := by show (w * 128 + (l.length : Int)) / 128 = _; omega
    rw [ew] at h
    exact h.trans ((List.Perm.cons w I.wts).trans (List.perm_append_singleton w l).symm)
theorem HQ.start {l : List Int} {Q : List KI} (I : HQ l Q) : HInv l l.length Q 0 0 := by
  refine ⟨I.asc, I.nn, perm_sum I.wts, fun a b r p => ?_, fun c' h => by rw [Int.zero_add]; exact h.perm I.wts⟩
  have m : ∀ c, c ∈ a :: b :: r → 0 ≤ c := fun c hc => by
    obtain ⟨z, hz, rfl⟩ := List.mem_map.1 (p.mem_iff.2 hc)
    have := (I.nn z hz).1
    show 0 ≤ z.1 / 128; omega
  have := m a (List.mem_cons_self ..)
  have := m b (List.mem_cons_of_mem _ (List.mem_cons_self ..))
  omega
end Go.Hp
end
section
namespace Go.Proofs.Ythpmeccnddchpaa.Gi
open Go.Hp Go.Proofs.Ythpmeccnddchpaa
set_option linter.unusedVariables false
set_option linter.unusedSimpArgs false
variable {h0 h : Heap} {Z E : List Rg} {Q : Value → Heap → Prop} {lt : It → It → Bool} {lf : Value}

abbrev f8 (n : Int) : List Value := [.int .u8 n]
theorem f8l (n : Int) : (f8 n).length = 1 := rfl
theorem fi1 (n : Int) : ∀ y ∈ fi n, one1 y = true := by simp [one1]
/-- What taking out two least ones comes to, behind r of them. -/
def Two (L : List Int) : Nat → List Int → Int → Prop
  | 0, L1, c => L1 = L ∧ c = 0
  | 1, L1, c => L.Perm (c :: L1) ∧ ∀ z ∈ L, c ≤ z
  | _, L2, c => ∃ x y L1, L.Perm (x :: L1) ∧ (∀ z ∈ L, x ≤ z) ∧ L1.Perm (y :: L2) ∧ (∀ z ∈ L1, y ≤ z) ∧ c = x + y
theorem sum_nn : ∀ {l : List Int}, (∀ z ∈ l, 0 ≤ z) → 0 ≤ l.sum
  | [], _ => Int.le_refl _
  | x :: l, h => by
    have := sum_nn fun z hz => h z (List.mem_cons_of_mem _ hz)
    have := h x (List.mem_cons_self ..)
    rw [List.sum_cons]; omega
theorem Joining_ok {l : List Int} {v : Value} (hb : ∀ n ∈ l, 0 ≤ n ∧ n ≤ 255) (hr : Rdl 1 h v l.length (l.flatMap f8)) (hl : l.length ≤ 40) (H : ∀ c E' h', HC l c → St h [] E' h' → Q (.int .i64 c) h') : s_Joining.call #[v] h Q := by
  refine s_Joining.body _ _ _ ?_
  unfold s_Joining.sh
  refine hr.lenV ?_
  refine loop_ghost (fun q st h' => ∃ (j : Nat) (v1 : Value) (b1 o1 : Nat) (p1 : List Value) (R : List Rg), q = l.length - j ∧ j ≤ l.length ∧ st = [v1, .int .i64 (j : Nat)] ∧ Own 1 v1 (l.take j).length b1 o1 ((l.take j).flatMap fi) p1 ∧
      St h [] ((b1, o1, (l.take j).flatMap fi ++ p1) :: R) h') (n0 := l.length)
    ⟨0, .slice none 0 0, 0, 0, [], [], rfl, Nat.zero_le _, rfl, Own.nil 1 0 0, (St.start h).empty 0 0⟩ ?_
  rintro q st g ⟨j, v1, b1, o1, p1, R, rfl, hj, rfl, w, s⟩ K HK
  unfold s_Joining.l13.b
  refine r_cmpI ?_
  refine r_if (fun hlt => ?_) (fun hge => ?_)
  · have hlt : j < l.length := by have := of_decide_eq_true hlt; omega
    have hbj := hb l[j] (List.getElem_mem hlt)
    unfold s_Joining.j14
    refine (hr.st s).at (n := j) rfl f8l rfl rfl hlt fun b o hrd => ?_
    refine hrd.load0 rfl ?_
    refine r_cv8 hbj.1 hbj.2 ?_
    refine St.r_mkSl (sz := 1) (cs := fi l[j]) s (by ((simp only [fillV, fill1, Value.cells, zeros_succ, zeros_zero, List.size_toArray, List.length_cons, List.length_nil, List.length_append, List.take_succ_cons, List.take_zero, List.take_nil, List.drop_succ_cons, List.drop_zero, List.drop_nil, List.cons_append, List.nil_append, List.append_nil, Nat.reduceAdd, Nat.reduceMul, Nat.reduceLeDiff, Nat.reduceEqDiff, and_self, and_true, true_and, if_true, Nat.le_refl, Nat.zero_add, Nat.add_zero, Nat.zero_mul, reduceIte, if_false] <;> rfl))) rfl fun q g s wq => ?_
    refine s.r_appL (f := fi) (L := l.take j) (M := [l[j]]) 1 rfl w rfl (by have := wq.rdl s 0 rfl; simpa using this) (fun _ _ => fi1 _) (by rw [List.length_take, List.length_singleton]; omega) (by rw [List.length_take, List.length_singleton]; omega) fun v' b' o' sp' g s w' => ?_
    rw [← List.take_succ_eq_append_getElem hlt] at w' s
    unfold s_Joining.j15
    refine r_add1 (by omega) ?_
    exact HK (l.length - (j + 1)) _ _ (by omega) ⟨j + 1, v', b', o', sp', _, rfl, hlt, rfl, w', s.front 1 rfl⟩
  · have hge : j = l.length := by have := of_decide_eq_false hge; omega
    subst hge
    rw [List.take_length] at w s
    clear HK
    unfold s_Joining.j1
    have hsum : l.sum ≤ 10200 := by
      have : ∀ l : List Int, (∀ n ∈ l, 0 ≤ n ∧ n ≤ 255) → l.sum ≤ 255 * l.length := fun l => by
        induction l with
        | nil => intro _; simp
        | cons x l ih =>
          intro h
          have := ih fun n hn => h n (List.mem_cons_of_mem _ hn)
          have := h x (List.mem_cons_self ..)
          rw [List.sum_cons, List.length_cons]; omega
      have := this l hb
      omega
    refine loop_ghost (fun q st h' => ∃ (L : List Int) (c : Int) (v1 : Value) (b1 o1 : Nat) (p1 : List Value) (R : List Rg), q = L.length ∧ st = [v1, .int .i64 c] ∧ L.length ≤ l.length ∧ (∀ z ∈ L, 0 ≤ z) ∧ L.sum = l.sum ∧ 0 ≤ c ∧ c ≤ (l.length - L.length : Nat) * 10200 ∧ (∀ c', HC L c' → HC l (c + c')) ∧ Own 1 v1 L.length b1 o1 (L.flatMap fi) p1 ∧
        St h [] ((b1, o1, L.flatMap fi ++ p1) :: R) h') (n0 := l.length)
      ⟨l, 0, v1, b1, o1, p1, R, rfl, rfl, Nat.le_refl _, fun z hz => (hb z hz).1, rfl, Int.le_refl _, by omega, fun c' hc => by rw [Int.zero_add]; exact hc, w, s⟩ ?_
    clear w s
    rintro q st g ⟨L, c, v1, b1, o1, p1, R, rfl, rfl, hLl, hL0, hLs, hc0, hc1, hHC, w, s⟩ K HK
    unfold s_Joining.l3.b
    refine w.lenV ?_
    refine r_cmpI ?_
    refine r_if (fun hgt => ?_) (fun hle => ?_)
    · have hgt : 1 < L.length := by have := of_decide_eq_true hgt; omega
      unfold s_Joining.j4
      refine loop_ghost (fun q st h' => ∃ (r : Nat) (L1 : List Int) (bo : Int) (v1 : Value) (b1 o1 : Nat) (p1 : List Value) (R : List Rg), q = 2 - r ∧ r ≤ 2 ∧ st = [v1, .int .i64 bo, .int .i64 (r : Nat)] ∧ Two L r L1 bo ∧ L1.length + r = L.length ∧ (∀ z ∈ L1, 0 ≤ z) ∧ 0 ≤ bo ∧ bo + L1.sum = L.sum ∧ Own 1 v1 L1.length b1 o1 (L1.flatMap fi) p1 ∧
          St h [] ((b1, o1, L1.flatMap fi ++ p1) :: R) h') (n0 := 2)
        ⟨0, L, 0, v1, b1, o1, p1, R, rfl, by omega, rfl, ⟨rfl, rfl⟩, rfl, hL0, Int.le_refl _, by omega, w, s⟩ ?_
      clear w s
      rintro q st g ⟨r, L1, bo, v1, b1, o1, p1, R, rfl, hr2, rfl, hT, hlen, hL10, hbo0, hbs, w, s⟩ K2 HK2
      have hs1 := sum_nn hL10
      unfold s_Joining.l6.b
      refine r_cmpI ?_
      refine r_if (fun hlt => ?_) (fun hge => ?_)
      · have hlt : r < 2 := by have := of_decide_eq_true hlt; omega
        have hne : 0 < L1.length := by omega
        unfold s_Joining.j7
        refine w.lenV ?_
        refine loop_ghost (fun q st h' => ∃ (i a : Nat) (ha : a < L1.length), q = L1.length - i ∧ i ≤ L1.length ∧ st = [.int .i64 (a : Nat), .int .i64 (i : Nat)] ∧ h' = g ∧ ∀ j (hj : j < L1.length), j < i → L1[a] ≤ L1[j]) (n0 := L1.length)
          ⟨0, 0, hne, rfl, Nat.zero_le _, rfl, rfl, fun j _ hj => absurd hj (Nat.not_lt_zero _)⟩ ?_
        rintro q st g ⟨i, a, ha, rfl, hi, rfl, rfl, hmin⟩ K3 HK3
        have rL := w.rdl s 0 rfl
        unfold s_Joining.l10.b
        refine r_cmpI ?_
        refine r_if (fun hlt3 => ?_) (fun hge3 => ?_)
        · have hlt3 : i < L1.length := by have := of_decide_eq_true hlt3; omega
          unfold s_Joining.j11
          refine rL.at (n := i) rfl fil rfl rfl hlt3 fun b o hrd => ?_
          refine hrd.load0 rfl ?_
          refine rL.at (n := a) rfl fil rfl rfl ha fun b o hrd => ?_
          refine hrd.load0 rfl ?_
          refine r_cmpI ?_
          refine r_if (fun e => ?_) (fun e => ?_)
          · have e : L1[i] < L1[a] := of_decide_eq_true e
            unfold s_Joining.j12
            refine r_add1 (by omega) ?_
            refine HK3 (L1.length - (i + 1)) _ _ (by omega) ⟨i + 1, i, hlt3, rfl, hlt3, rfl, rfl, fun j hj hji => ?_⟩
            rcases Nat.lt_or_ge j i with h | h
            · have := hmin j hj h; omega
            · have : j = i := by omega
              subst this; exact Int.le_refl _
          · have e : ¬ L1[i] < L1[a] := of_decide_eq_false e
            unfold s_Joining.j12
            refine r_add1 (by omega) ?_
            refine HK3 (L1.length - (i + 1)) _ _ (by omega) ⟨i + 1, a, ha, rfl, hlt3, rfl, rfl, fun j hj hji => ?_⟩
            rcases Nat.lt_or_ge j i with h | h
            · exact hmin j hj h
            · have : j = i := by omega
              subst this; omega
        · have hge3 : i = L1.length := by have := of_decide_eq_false hge3; omega
          subst hge3
          clear HK3
          have hmin : ∀ z ∈ L1, L1[a] ≤ z := fun z hz => by
            obtain ⟨j, hj, rfl⟩ := List.getElem_of_mem hz
            exact hmin j hj hj
          have hpm : L1.Perm (L1[a] :: (L1.take a ++ L1.drop (a + 1))) := by
            have e : L1 = L1.take a ++ L1[a] :: L1.drop (a + 1) := by rw [← List.drop_eq_getElem_cons ha, List.take_append_drop]
            conv => lhs; rw [e]
            exact List.perm_middle
          have hsm := perm_sum hpm
          rw [List.sum_cons] at hsm
          have ha0 := hL10 _ (List.getElem_mem ha)
          have hn2 : ∀ z ∈ L1.take a ++ L1.drop (a + 1), 0 ≤ z := fun z hz => hL10 z (hpm.mem_iff.2 (List.mem_cons_of_mem _ hz))
          have hs2 := sum_nn hn2
          have hl2 : (L1.take a ++ L1.drop (a + 1)).length + 1 = L1.length := by have := hpm.length_eq; rw [List.length_cons] at this; omega
          unfold s_Joining.j9
          refine rL.at (n := a) rfl fil rfl rfl ha fun b o hrd => ?_
          refine hrd.load0 rfl ?_
          refine r_addI (by omega) (by omega) ?_
          refine slcG0 fil rL (j := a) rfl (by omega) fun v2 r2 => ?_
          refine r_add1 (by omega) ?_
          refine slcG1 fil rL (i := a + 1) rfl (by omega) fun v3 r3 => ?_
          have u := St.start g
          refine St.r_mkSl (sz := 1) (cs := []) u rfl rfl fun q g2 u wq => ?_
          refine u.r_appL (f := fi) (L := []) (M := L1.take a) 0 rfl wq rfl (r2.st u) (fun _ _ => fi1 _) (by rw [List.length_nil, List.length_take]; omega) (by rw [List.length_nil, List.length_take]; omega) fun v4 b4 o4 p4 g2 u w4 => ?_
          rw [List.nil_append] at w4
          have u : St g [] [(b4, o4, (L1.take a).flatMap fi ++ p4)] g2 := u
          refine u.r_appL (f := fi) (L := L1.take a) (M := L1.drop (a + 1)) 0 rfl w4 rfl (r3.st u) (fun _ _ => fi1 _) (by rw [List.length_drop, List.length_take]; omega) (by rw [List.length_drop, List.length_take]; omega) fun v5 b5 o5 p5 g2 u w5 => ?_
          have s2 := s.join u
          unfold s_Joining.j8
          refine r_add1 (by omega) ?_
          refine HK2 (2 - (r + 1)) _ _ (by omega) ⟨r + 1, L1.take a ++ L1.drop (a + 1), bo + L1[a], v5, b5, o5, p5, _, rfl, by omega, rfl, ?_, by omega, hn2, by omega, by omega, w5, s2⟩
          match r, hlt, hT with
          | 0, _, ⟨e1, e2⟩ => subst e1 e2; rw [Int.zero_add]; exact ⟨hpm, hmin⟩
          | 1, _, ⟨e1, e2⟩ => exact ⟨bo, L1[a], L1, e1, e2, hpm, hmin, rfl⟩
      · have hge : r = 2 := by have := of_decide_eq_false hge; omega
        subst hge
        clear HK2
        obtain ⟨x, y, Lm, t1, t2, t3, t4, t5⟩ := hT
        unfold s_Joining.j5
        refine r_addI (by omega) (by omega) ?_
        refine St.r_mkSl (sz := 1) (cs := fi bo) s (by ((simp only [fillV, fill1, Value.cells, zeros_succ, zeros_zero, List.size_toArray, List.length_cons, List.length_nil, List.length_append, List.take_succ_cons, List.take_zero, List.take_nil, List.drop_succ_cons, List.drop_zero, List.drop_nil, List.cons_append, List.nil_append, List.append_nil, Nat.reduceAdd, Nat.reduceMul, Nat.reduceLeDiff, Nat.reduceEqDiff, and_self, and_true, true_and, if_true, Nat.le_refl, Nat.zero_add, Nat.add_zero, Nat.zero_mul, reduceIte, if_false] <;> rfl))) rfl fun q g s wq => ?_
        refine s.r_appL (f := fi) (L := L1) (M := [bo]) 1 rfl w rfl (by have := wq.rdl s 0 rfl; simpa using this) (fun _ _ => fi1 _) (by rw [List.length_singleton]; omega) (by rw [List.length_singleton]; omega) fun v' b' o' sp' g s w' => ?_
        refine HK L1.length.succ _ _ (by omega) ⟨L1 ++ [bo], c + bo, v', b', o', sp', _, by rw [List.length_append]; rfl, rfl, by rw [List.length_append, List.length_singleton]; omega, fun z hz => ?_, by rw [List.sum_append, List.sum_singleton]; omega, by omega, by rw [List.length_append, List.length_singleton]; omega, fun c' hc => ?_, w', s.front 1 rfl⟩
        · rcases List.mem_append.1 hz with e | e
          · exact hL10 z e
          · rw [List.mem_singleton.1 e]; exact hbo0
        · rw [t5, Int.add_assoc]
          exact hHC _ (by rw [t5] at hc; exact HC.round t1 t2 t3 t4 hc)
    · have hle : L.length ≤ 1 := by have := of_decide_eq_false hle; omega
      unfold s_Joining.j2
      exact H c _ g (by have := hHC 0 (.stop hle); rwa [Int.add_zero] at this) s
theorem l_FnHuffman_ok {l : List Int} {d : Int} {v : Value} (hb : ∀ n ∈ l, 0 ≤ n ∧ n ≤ 255) (hr : Rdl 1 h v l.length (l.flatMap f8)) (H : ∀ E' h', St h [] E' h' → Q (.bool true) h') : l_FnHuffman.call #[.int .i64 d, v] h Q := by
  have live : l_alive.call #[] h Q := alive_ok fun E3 h3 s3 => H _ _ s3
  refine l_FnHuffman.body _ _ _ _ ?_
  unfold l_FnHuffman.sh
  refine hr.lenV ?_
  refine r_cmpI ?_
  refine r_if (fun _ => H _ _ (St.start h)) (fun _ => ?_)
  unfold l_FnHuffman.j1
  refine Fits_ok ?_
  refine r_not ?_
  refine r_br (fun hd => ?_) (fun _ => live)
  have hd : d = 0 ∨ (2 ≤ d ∧ d ≤ 128) := by have h := hd; simp at h; omega
  obtain ⟨d, rfl⟩ : ∃ k : Nat, d = k := ⟨d.toNat, by omega⟩
  have d1 : d = 0 ∨ 2 ≤ d := by omega
  have d2 : d ≤ 512 := by omega
  refine hr.lenV ?_
  refine r_cmpI ?_
  refine r_if (fun _ => live) (fun hl => ?_)
  have hl : l.length ≤ 40 := by have := of_decide_eq_false hl; omega
  clear live
  unfold l_FnHuffman.j2
  refine byKeys_ok fun E1 g s => ?_
  refine s.r_alloc fun t5 g s => ?_
  refine St.r_storeN0 s 0 (ys := [.slice none 0 0, .int .i64 d, .bool true]) rfl rfl (by simp) (one3 rfl rfl rfl) ?_; intro g s
  have s : St h [] ((t5, 0, [.slice none 0 0, .int .i64 d, .bool true]) :: E1) g := s
  refine (hr.st s).lenV ?_
  refine loop_ghost (fun q st h' => ∃ (j : Nat) (v1 : Value) (Qu : List It) (R : List Rg), q = l.length - j ∧ j ≤ l.length ∧ st = [v1, .int .i64 (j : Nat)] ∧ HQ (l.take j) Qu ∧ Rdl 2 h' v1 Qu.length (Qu.flatMap enc) ∧ St h [] ((t5, 0, [.slice none 0 0, .int .i64 d, .bool true]) :: R) h') (n0 := l.length)
    ⟨0, .slice none 0 0, [], E1, rfl, Nat.zero_le _, rfl, HQ.nil, Rdl.nil 2 _, s⟩ ?_
  clear s
  rintro q st g ⟨j, v1, Qu, R, rfl, hj, rfl, I, rq, s⟩ K HK
  have hlen := I.len
  rw [List.length_take] at hlen
  unfold l_FnHuffman.l9.b
  refine r_cmpI ?_
  refine r_if (fun hlt => ?_) (fun hge => ?_)
  · have hlt : j < l.length := by have := of_decide_eq_true hlt; omega
    have hbj := hb l[j] (List.getElem_mem hlt)
    unfold l_FnHuffman.j10
    refine (hr.st s).at (n := j) rfl f8l rfl rfl hlt fun b o hrd => ?_
    refine hrd.load0 rfl ?_
    refine St.r_loadN0 s 0 rfl (by simp) ?_
    refine r_cv8 hbj.1 hbj.2 ?_
    refine r_shlN 7 (by decide) (p := 128) rfl (by omega) (by omega) ?_
    refine r_addI (by omega) (by omega) ?_
    refine r_build (cs := enc (l[j] * 128 + (j : Int), 0)) rfl ?_
    refine with_ok d1 d2 rq I.asc (by omega) fun v2 E2 g2 s2 r2 => ?_
    have s := (s.join s2).perm List.perm_append_comm
    unfold l_FnHuffman.j11
    refine r_add1 (by omega) ?_
    have hp := I.put (w := l[j]) hbj.1 (by rw [List.length_take]; omega)
    rw [List.length_take, show min j l.length = j by omega, ← List.take_succ_eq_append_getElem hlt] at hp
    exact HK (l.length - (j + 1)) _ _ (by omega) ⟨j + 1, v2, _, _, rfl, hlt, rfl, hp, r2, s⟩
  · have hge : j = l.length := by have := of_decide_eq_false hge; omega
    subst hge
    rw [List.take_length] at I
    clear HK
    have hlen := I.len
    unfold l_FnHuffman.j3
    refine (hr.st s).lenV ?_
    have hsum : l.sum ≤ 10200 ∧ 0 ≤ l.sum := by
      have : ∀ l : List Int, (∀ n ∈ l, 0 ≤ n ∧ n ≤ 255) → l.sum ≤ 255 * l.length := fun l => by
        induction l with
        | nil => intro _; simp
        | cons x l ih =>
          intro h
          have := ih fun n hn => h n (List.mem_cons_of_mem _ hn)
          have := h x (List.mem_cons_self ..)
          rw [List.sum_cons, List.length_cons]; omega
      have := this l hb
      have := sum_nn fun z hz => (hb z hz).1
      omega
    refine loop_ghost (fun q st h' => ∃ (n : Nat) (v1 : Value) (Qu : List It) (c la : Int) (R : List Rg), q = 2 * l.length - n ∧ st = [v1, .int .i64 c, .int .i64 la, .int .i64 (n : Nat)] ∧ Qu.length + n = 2 * l.length ∧ l.length ≤ n ∧ (n + 1 ≤ 2 * l.length ∨ l.length = 0) ∧ HInv l n Qu c la ∧ 0 ≤ c ∧ c ≤ n * 10200 ∧ Rdl 2 h' v1 Qu.length (Qu.flatMap enc) ∧ St h [] ((t5, 0, [.slice none 0 0, .int .i64 d, .bool true]) :: R) h') (n0 := l.length)
      ⟨l.length, v1, Qu, 0, 0, R, by omega, rfl, by omega, Nat.le_refl _, by omega, I.start, Int.le_refl _, by omega, rq, s⟩ ?_
    clear s rq I hlen
    rintro q st g ⟨n, v1, Qu, c, la, R, rfl, rfl, hqn, hn1, hn2, I, hc0, hc1, rq, s⟩ K HK
    unfold l_FnHuffman.l5.b
    refine (hr.st s).lenV ?_
    refine r_mulI (by omega) (by omega) ?_
    refine r_subI (by omega) (by omega) ?_
    refine r_cmpI ?_
    refine r_if (fun hlt => ?_) (fun hge => ?_)
    · have hlt : n + 1 < 2 * l.length := by have := of_decide_eq_true hlt; omega
      unfold l_FnHuffman.j6
      refine St.r_loadN0 s 0 rfl (by simp) ?_
      match Qu, hqn, I, rq with
      | [], hqn, _, _ => simp at hqn; omega
      | [x], hqn, _, _ => simp at hqn; omega
      | x :: y :: r, hqn, I, rq =>
        simp only [List.length_cons] at hqn
        obtain ⟨b1, b2, b3, I', hl'⟩ := I.two (by omega)
        obtain ⟨ax, ay⟩ := List.pairwise_cons.1 I.asc
        refine least_ok d1 d2 rq I.asc (by simp only [List.length_cons]; omega) fun v2 E2 g2 s2 r2 => ?_
        have s := (s.join s2).perm List.perm_append_comm
        have r2 : Rdl 2 g2 v2 (y :: r).length ((y :: r).flatMap enc) := r2
        refine r_ext rfl ?_
        refine r_ext rfl ?_
        refine r_ext rfl ?_
        have u := St.start g2
        refine u.r_alloc fun t12 g3 u => ?_
        refine St.r_storeN0 u 0 (ys := enc x) rfl rfl (by simp) (enc1 _) ?_; intro g3 u
        have u : St g2 [] [(t12, 0, enc x)] g3 := u
        have s : St h [] ((t12, 0, enc x) :: (t5, 0, [.slice none 0 0, .int .i64 d, .bool true]) :: (R ++ E2)) g3 := s.join u
        refine St.r_loadN0 s 1 rfl (by simp) ?_
        refine least_ok d1 d2 (r2.st u) ay (by simp only [List.length_cons]; omega) fun v3 E3 g4 s4 r4 => ?_
        have s := (s.join s4).perm List.perm_append_comm
        have r4 : Rdl 2 g4 v3 r.length (r.flatMap enc) := r4
        refine r_ext rfl ?_
        refine r_ext rfl ?_
        refine r_ext rfl ?_
        have u := St.start g4
        refine u.r_alloc fun t15 g5 u => ?_
        refine St.r_storeN0 u 0 (ys := enc y) rfl rfl (by simp) (enc1 _) ?_; intro g5 u
        have u : St g4 [] [(t15, 0, enc y)] g5 := u
        have s : St h [] ((t15, 0, enc y) :: (t12, 0, enc x) :: (t5, 0, [.slice none 0 0, .int .i64 d, .bool true]) :: (R ++ E2 ++ E3)) g5 := s.join u
        refine r_fld (n := 0) ?_
        refine St.r_load0 s 1 rfl rfl ?_
        refine r_shrN 7 (by decide) (p := 128) rfl ?_
        refine r_fld (n := 0) ?_
        refine St.r_load0 s 0 rfl rfl ?_
        refine r_shrN 7 (by decide) (p := 128) rfl ?_
        have b2 : 0 ≤ x.1 / 128 + y.1 / 128 := b2
        have b3 : x.1 / 128 + y.1 / 128 ≤ l.sum := b3
        have b1 : la ≤ x.1 / 128 + y.1 / 128 := b1
        refine r_addI (by omega) (by omega) ?_
        refine r_not ?_
        refine r_br (fun _ => ?_) (fun e => absurd e (by simp))
        refine r_not ?_
        refine r_br (fun _ => ?_) (fun e => absurd e (by simp))
        refine r_cmpI ?_
        refine r_if (fun e => absurd (of_decide_eq_true e) (by omega)) (fun _ => ?_)
        unfold l_FnHuffman.j8
        refine r_addI (by omega) (by omega) ?_
        refine St.r_loadN0 s 2 rfl (by simp) ?_
        refine r_shlN 7 (by decide) (p := 128) rfl (by omega) (by omega) ?_
        refine r_addI (by omega) (by omega) ?_
        refine r_build (cs := enc ((x.1 / 128 + y.1 / 128) * 128 + (n : Int), 0)) rfl ?_
        refine with_ok d1 d2 (r4.st u) (List.pairwise_cons.1 ay).2 (by omega) fun v5 E5 g6 s6 r6 => ?_
        have s := s.join s6
        have s : St h [] ((t5, 0, [.slice none 0 0, .int .i64 d, .bool true]) :: (E5 ++ ((t15, 0, enc y) :: (t12, 0, enc x) :: (R ++ E2 ++ E3)))) g6 := s.perm (by ((apply perm_rg; intro f; simp only [List.set_cons_zero, List.set_cons_succ, List.eraseIdx_cons_zero, List.eraseIdx_cons_succ, List.cons_append, List.nil_append, List.map_append, List.map_cons, List.map_nil, List.sum_append, List.sum_cons, List.sum_nil, List.map_flatMap, Nat.add_zero, Nat.zero_add]; ac_rfl)))
        unfold l_FnHuffman.j7
        refine r_add1 (by omega) ?_
        exact HK (2 * l.length - (n + 1)) _ _ (by omega) ⟨n + 1, v5, _, c + (x.1 / 128 + y.1 / 128), x.1 / 128 + y.1 / 128, _, rfl, rfl, by rw [show (lput ltK r ((x.1 / 128 + y.1 / 128) * 128 + (n : Int), 0)).length = r.length + 1 from hl']; omega, by omega, by omega, I', by omega, by omega, r6, s⟩
    · have hge : 2 * l.length ≤ n + 1 := by have := of_decide_eq_false hge; omega
      clear HK
      unfold l_FnHuffman.j4
      have hcf := I.hc 0 (.stop (by rw [List.length_map]; omega))
      refine Joining_ok hb (hr.st s) hl fun c2 E2 g2 hc2 s2 => ?_
      have s := s.join s2
      have e : c = c2 := by have := HC.det hcf (List.Perm.refl _) hc2; omega
      subst e
      refine r_cmpI ?_
      refine r_br (fun _ => ?_) (fun e => absurd e (by simp))
      refine rq.lenV ?_
      refine hr.lenV ?_
      refine r_minI ?_
      refine r_cmpI ?_
      have e : ((Qu.length : Int) == min 1 (l.length : Int)) = true := by simp; omega
      rw [e]
      refine r_br (fun _ => ?_) (fun e => absurd e (by simp))
      exact alive_ok fun E3 h3 s3 => H _ _ (s.join s3)
end Go.Proofs.Ythpmeccnddchpaa.Gi
end
