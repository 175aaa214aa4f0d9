/-
  What handing on all items of a map comes to.
  Conditions: nobody writes the map's nodes meanwhile.
-/
import Derived.Test.YtlihjljdndbpdaaHx
import Derived.Test.YtlihjljdndbpdaaKgIi
import Derived.Test.YtlihjljdndbpdaaS3
import Derived.Test.YtlihjljdndbpdaaS23
namespace Go.Proofs.Ytlihjljdndbpdaa.Ii
open Go.Hp Go.Proofs.Ytlihjljdndbpdaa
set_option linter.unusedVariables false
set_option linter.unusedSimpArgs false
variable {h0 h : Heap} {Z E : List Rg} {Q : Value → Heap → Prop}

theorem isoLoad_ro {tr : Value} {pb po n : Nat} (hp : cl h pb po = some (ptr n 0)) (H : Q (ptr n 0) h) : Map_ii_isoLoad.call #[tr, ptr pb po, .bool false] h Q := by
  refine Map_ii_isoLoad.body _ _ _ _ _ ?_
  unfold Map_ii_isoLoad.sh
  refine r_br (fun e => absurd e (by decide)) (fun _ => ?_)
  unfold Map_ii_isoLoad.j1
  refine r_nil ?_
  exact r_ld hp H
theorem allZ_leaf {d : Nd It} (hz : ∀ r ∈ GT.all enc (h := 0) d, r ∈ Z) : (d.n, 0, [.int .u64 d.iso, .int .i64 d.cnt, d.iv, .pointer none]) ∈ Z ∧ (d.ib, d.io, d.its.flatMap enc ++ d.isp) ∈ Z := by
  have hz : ∀ r ∈ d.leaf enc, r ∈ Z := hz
  exact ⟨hz _ (List.mem_cons_self ..), hz _ (List.mem_cons_of_mem _ (List.mem_cons_self ..))⟩
theorem allZ_inner {k : Nat} {d : Nd It} {ts : List (GT It k)} (hz : ∀ r ∈ GT.all enc (h := k + 1) (d, ts), r ∈ Z) :
    (d.n, 0, [.int .u64 d.iso, .int .i64 d.cnt, d.iv, ptr d.kb 0]) ∈ Z ∧ (d.ib, d.io, d.its.flatMap enc ++ d.isp) ∈ Z ∧ (d.kb, 0, [d.kv]) ∈ Z ∧ (d.krb, d.kro, (ts.map GT.id).flatMap fp ++ d.ksp) ∈ Z ∧ ∀ c ∈ ts, ∀ r ∈ c.all enc, r ∈ Z := by
  have hz : ∀ r ∈ d.inner enc (ts.map GT.id) ++ ts.flatMap (GT.all enc), r ∈ Z := hz
  have h1 : ∀ r ∈ d.inner enc (ts.map GT.id), r ∈ Z := fun r hr => hz r (List.mem_append.2 (.inl hr))
  refine ⟨h1 _ (List.mem_cons_self ..), h1 _ (List.mem_cons_of_mem _ (List.mem_cons_self ..)), h1 _ (List.mem_cons_of_mem _ (List.mem_cons_of_mem _ (List.mem_cons_self ..))), ?_, fun c hc r hr => hz r (List.mem_append.2 (.inr (List.mem_flatMap.2 ⟨c, hc, hr⟩)))⟩
  have := h1 _ (List.mem_cons_of_mem _ (List.mem_cons_of_mem _ (List.mem_cons_of_mem _ (List.mem_cons_self ..))))
  rw [mfp] at this; exact this
/-- The kid's cell. -/
theorem kidcell {k : Nat} {ts : List (GT It k)} {krb kro i : Nat} {ksp : List Value} {c : GT It k} (hk : (krb, kro, (ts.map GT.id).flatMap fp ++ ksp) ∈ Z) (hc : ts[i]? = some c) (s : St h0 Z E h) : cl h krb (kro + i * 1) = some (ptr c.id 0) := by
  have hi : i < (ts.map GT.id).length := by rw [List.length_map]; exact (List.getElem?_eq_some_iff.1 hc).1
  refine s.clz hk (i * 1) rfl ?_
  rw [List.getElem?_append_left (by rw [flat_len fpl]; omega)]
  have := flat_get (f := fp) fpl (ts.map GT.id) i hi 0 (by decide)
  rw [Nat.add_zero] at this
  rw [this]
  have e : (ts.map GT.id)[i] = c.id := by
    have : (ts.map GT.id)[i]? = some c.id := by rw [List.getElem?_map, hc]; rfl
    exact (List.getElem?_eq_some_iff.1 this).2
  rw [e]; rfl

theorem nodeScan_ok {cont : List It → Bool} {f tr : Value} {J : List It → Heap → Prop} {iso : Int} {m N : Nat} (hm : m ≤ 1024) (hJ : ∀ p h, J p h → ∃ E, St h0 Z E h)
    (cb : ∀ (p : List It) (x : It) (h : Heap) (K : Value → Heap → Prop), p.length < N → J p h → (∀ h', J (p ++ [x]) h' → K (.bool (cont (p ++ [x]))) h') → callV Try.prog f #[kv x.1, vv x.2] h K) :
    ∀ {k : Nat} (t : GT It k) {lo : Nat} (g : Gd iso t) (fl : t.pt.Fl m lo) (hz : ∀ r ∈ t.all enc, r ∈ Z) (hzb : ∀ r ∈ t.all enc, r.2.2 ≠ [] → h0.size ≤ r.1) {pb po : Nat} (hp : ∀ E h, St h0 Z E h → cl h pb po = some (ptr t.id 0)) {p : List It} {h : Heap} {Q : Value → Heap → Prop}, p.length + t.pt.items.length ≤ N → J p h →
      (∀ h', J (feed cont p t.pt.items).1 h' → Q (.bool (feed cont p t.pt.items).2) h') → Map_ii_nodeScan.call #[tr, ptr pb po, f, .bool false] h Q
  | 0, (d : Nd It), lo, g, fl, hz, hzb, pb, po, hp, p, h, Q, hN, hj, H => by
    obtain ⟨own, n, is', cnt, its, iv, ib, io, isp, kb, kv', krb, kro, ksp⟩ := d
    obtain ⟨z1, z2⟩ := allZ_leaf hz
    have w : Own 2 iv its.length ib io (its.flatMap enc) isp := g.wf.1
    have hl : its.length ≤ m := fl.2
    have hp : ∀ E h, St h0 Z E h → cl h pb po = some (ptr n 0) := hp
    have hN : p.length + its.length ≤ N := hN
    have H : ∀ h', J (feed cont p its).1 h' → Q (.bool (feed cont p its).2) h' := H
    refine Map_ii_nodeScan.body _ _ _ _ _ _ ?_
    unfold Map_ii_nodeScan.sh
    obtain ⟨E, s⟩ := hJ p h hj
    refine isoLoad_ro (hp E h s) ?_
    refine leaf_ok (a := none) (s.clz z1 3 rfl rfl) ?_
    refine r_if (fun _ => ?_) (fun e => absurd e (by simp))
    refine loop_up (n := its.length) (fun j => [.int .i64 j]) (fun j h => (feed cont p (its.take j)).2 = true ∧ J (feed cont p (its.take j)).1 h) ⟨rfl, hj⟩ ?_
    rintro j h hjl ⟨hf, hj⟩ K HK
    obtain ⟨E, s⟩ := hJ _ h hj
    unfold Map_ii_nodeScan.l8.b
    refine r_nil ?_
    refine r_fld ?_
    refine s.r_lz0 z1 (j := 2) rfl ?_
    refine w.lenV ?_
    refine r_cmpI ?_
    refine r_if (fun hlt => ?_) (fun hge => ?_)
    · have hlt : j < its.length := by simpa using hlt
      have hx : its[j]? = some its[j] := List.getElem?_eq_getElem hlt
      unfold Map_ii_nodeScan.j9
      refine r_nil ?_
      refine r_fld ?_
      refine s.r_lz0 z1 (j := 2) rfl ?_
      refine w.idx (n := j) rfl hlt ?_
      refine r_fld ?_
      refine s.r_load1FZ encl (r := 1) z2 hx rfl ?_
      refine r_nil ?_
      refine r_fld ?_
      refine s.r_lz0 z1 (j := 2) rfl ?_
      refine w.idx (n := j) rfl hlt ?_
      refine r_fld ?_
      refine s.r_load1FZ encl (r := 0) z2 hx rfl ?_
      have hfl := feed_len (cont := cont) (its.take j) p
      rw [List.length_take] at hfl
      refine cb _ its[j] h _ (by omega) hj fun h' hj' => ?_
      refine r_not ?_
      have et : its.take (j + 1) = its.take j ++ [its[j]] := List.take_succ_eq_append_getElem hlt
      have ef : feed cont p (its.take (j + 1)) = ((feed cont p (its.take j)).1 ++ [its[j]], cont ((feed cont p (its.take j)).1 ++ [its[j]])) := by rw [et, feed_step hf, feed_one]
      refine r_if (fun hc => ?_) (fun hc => ?_)
      · have hc : cont ((feed cont p (its.take j)).1 ++ [its[j]]) = false := by simpa using hc
        have ea : feed cont p its = ((feed cont p (its.take j)).1 ++ [its[j]], false) := by
          have e0 := feed_stop (cont := cont) (p := p) (a := its.take (j + 1)) (b := its.drop (j + 1)) (by rw [ef]; exact hc)
          rw [List.take_append_drop, ef] at e0
          exact e0
        have := H h' (by rw [ea]; exact hj')
        rw [ea] at this; exact this
      · have hc : cont ((feed cont p (its.take j)).1 ++ [its[j]]) = true := by simpa using hc
        unfold Map_ii_nodeScan.j10
        refine r_add (z := ((j + 1 : Nat) : Int)) (by rw [i64w (by omega) (by omega)]; omega) ?_
        exact HK h' hlt ⟨by rw [ef]; exact hc, by rw [ef]; exact hj'⟩
    · have hge : j = its.length := by simp at hge; omega
      subst hge
      rw [List.take_length] at hf hj
      unfold Map_ii_nodeScan.j7
      have := H h hj
      rw [hf] at this; exact this
  | k + 1, t, lo, g, fl, hz, hzb, pb, po, hp, p, h, Q, hN, hj, H => by
    obtain ⟨d, ts⟩ := t
    obtain ⟨own, n, is', cnt, its, iv, ib, io, isp, kb, kv', krb, kro, ksp⟩ := d
    obtain ⟨z1, z2, z3, z4, z5⟩ := allZ_inner hz
    have w : Own 2 iv its.length ib io (its.flatMap enc) isp := g.wf.1.1
    have wK : Own 1 kv' ts.length krb kro ((ts.map GT.id).map fun m => ptr m 0) ksp := g.wf.2.1
    have hkl : ts.length = its.length + 1 := g.wf.2.2.1
    have hl : its.length ≤ m := fl.2.1
    have hp : ∀ E h, St h0 Z E h → cl h pb po = some (ptr n 0) := hp
    have hpl : ∀ i, ((ts.take i).map fun t => t.pt.items) = (((ts.map GT.pt).take i).map PT.items) := fun i => by rw [← List.map_take, List.map_map]; rfl
    have hsplit : ∀ i (hi : i ≤ its.length) c, ts[i]? = some c → PT.items (h := k + 1) (its, ts.map GT.pt) = lz (its.take i) ((ts.take i).map fun t => t.pt.items) ++ (c.pt.items ++ rz (its.drop i) (((ts.map GT.pt).drop (i + 1)).map PT.items)) := by
      intro i hi c hc
      obtain ⟨c', hc', _, e⟩ := PT.around (t := ((its, ts.map GT.pt) : PT It (k + 1))) fl hi
      have hc' : (ts.map GT.pt)[i]? = some c' := hc'
      rw [List.getElem?_map, hc] at hc'
      have : c' = c.pt := (Option.some.inj hc').symm
      subst this
      rw [hpl]; exact e
    have hN : p.length + (PT.items (h := k + 1) (its, ts.map GT.pt)).length ≤ N := hN
    have H : ∀ h', J (feed cont p (PT.items (h := k + 1) (its, ts.map GT.pt))).1 h' → Q (.bool (feed cont p (PT.items (h := k + 1) (its, ts.map GT.pt))).2) h' := H
    refine Map_ii_nodeScan.body _ _ _ _ _ _ ?_
    unfold Map_ii_nodeScan.sh
    obtain ⟨E, s⟩ := hJ p h hj
    refine isoLoad_ro (hp E h s) ?_
    refine leaf_ok (a := some ⟨kb, 0, Option.none⟩) (s.clz z1 3 rfl rfl) ?_
    refine r_if (fun e => absurd e (by simp)) (fun _ => ?_)
    unfold Map_ii_nodeScan.j1
    refine loop_up (n := its.length) (fun j => [.int .i64 j]) (fun j h => (feed cont p (lz (its.take j) ((ts.take j).map fun t => t.pt.items))).2 = true ∧ J (feed cont p (lz (its.take j) ((ts.take j).map fun t => t.pt.items))).1 h) ⟨rfl, hj⟩ ?_
    rintro j h hjl ⟨hf, hj⟩ K HK
    obtain ⟨E, s⟩ := hJ _ h hj
    obtain ⟨c, hc⟩ : ∃ c, ts[j]? = some c := ⟨ts[j]'(by omega), List.getElem?_eq_getElem (by omega)⟩
    have hcm := List.mem_of_getElem? hc
    have hfc : PT.Fl m (m / 2) c.pt := fl.2.2.2 _ (List.mem_map.2 ⟨c, hcm, rfl⟩)
    unfold Map_ii_nodeScan.l3.b
    refine r_nil ?_
    refine r_fld ?_
    refine s.r_lz0 z1 (j := 2) rfl ?_
    refine w.lenV ?_
    refine r_cmpI ?_
    refine r_if (fun hlt => ?_) (fun hge => ?_)
    · have hlt : j < its.length := by simpa using hlt
      have hx : its[j]? = some its[j] := List.getElem?_eq_getElem hlt
      have et : its.take (j + 1) = its.take j ++ [its[j]] := List.take_succ_eq_append_getElem hlt
      have ek : ts.take (j + 1) = ts.take j ++ [c] := by rw [List.take_add_one, hc]; rfl
      have ez : lz (its.take (j + 1)) ((ts.take (j + 1)).map fun t => t.pt.items) = lz (its.take j) ((ts.take j).map fun t => t.pt.items) ++ (c.pt.items ++ [its[j]]) := by
        rw [et, ek, List.map_append, List.map_cons, List.map_nil, lz_snoc _ _ _ _ (by simp; omega)]
      obtain ⟨rest, hrest⟩ : ∃ rest, rz (its.drop j) (((ts.map GT.pt).drop (j + 1)).map PT.items) = its[j] :: rest := by
        have e1 : its.drop j = its[j] :: its.drop (j + 1) := List.drop_eq_getElem_cons hlt
        have e2 : (ts.map GT.pt).drop (j + 1) = (ts.map GT.pt)[j + 1]'(by simp; omega) :: (ts.map GT.pt).drop (j + 1 + 1) := List.drop_eq_getElem_cons (by simp; omega)
        rw [e1, e2, List.map_cons, rz_cons]; exact ⟨_, rfl⟩
      have hs := hsplit j hjl c hc
      rw [hrest] at hs
      have hsl := congrArg List.length hs
      simp only [List.length_append, List.length_cons] at hsl
      have hfl := feed_len (cont := cont) (lz (its.take j) ((ts.take j).map fun t => t.pt.items)) p
      have hfl2 := feed_len (cont := cont) (lz (its.take j) ((ts.take j).map fun t => t.pt.items) ++ c.pt.items) p
      rw [List.length_append] at hfl2
      unfold Map_ii_nodeScan.j4
      refine r_nil ?_
      refine r_fld ?_
      refine s.r_lz0 z1 (j := 3) rfl ?_
      refine r_nil ?_
      refine s.r_lz0 z3 (j := 0) rfl ?_
      refine wK.idx (n := j) rfl (by omega) ?_
      refine nodeScan_ok hm hJ cb c (g.kid hcm) hfc (z5 c hcm) (fun r hr => hzb r (List.mem_append.2 (.inr (List.mem_flatMap.2 ⟨c, hcm, hr⟩)))) (fun E h s => kidcell z4 hc s) (by omega) hj fun h' hj' => ?_
      refine r_not ?_
      refine r_if (fun hr => ?_) (fun hr => ?_)
      · have hr : (feed cont (feed cont p (lz (its.take j) ((ts.take j).map fun t => t.pt.items))).1 c.pt.items).2 = false := by simpa using hr
        have ea : feed cont p (PT.items (h := k + 1) (its, ts.map GT.pt)) = ((feed cont (feed cont p (lz (its.take j) ((ts.take j).map fun t => t.pt.items))).1 c.pt.items).1, false) := by
          rw [hs, feed_step hf, feed_stop hr]
        have := H h' (by rw [ea]; exact hj')
        rw [ea] at this; exact this
      · have hr : (feed cont (feed cont p (lz (its.take j) ((ts.take j).map fun t => t.pt.items))).1 c.pt.items).2 = true := by simpa using hr
        have hf1 : feed cont p (lz (its.take j) ((ts.take j).map fun t => t.pt.items) ++ c.pt.items) = feed cont (feed cont p (lz (its.take j) ((ts.take j).map fun t => t.pt.items))).1 c.pt.items := feed_step hf
        rw [← hf1] at hr hj'
        have ef : feed cont p (lz (its.take (j + 1)) ((ts.take (j + 1)).map fun t => t.pt.items)) = ((feed cont p (lz (its.take j) ((ts.take j).map fun t => t.pt.items) ++ c.pt.items)).1 ++ [its[j]], cont ((feed cont p (lz (its.take j) ((ts.take j).map fun t => t.pt.items) ++ c.pt.items)).1 ++ [its[j]])) := by
          rw [ez, ← List.append_assoc, feed_step hr, feed_one]
        obtain ⟨E, s⟩ := hJ _ h' hj'
        unfold Map_ii_nodeScan.j6
        refine r_nil ?_
        refine r_fld ?_
        refine s.r_lz0 z1 (j := 2) rfl ?_
        refine w.idx (n := j) rfl hlt ?_
        refine r_fld ?_
        refine s.r_load1FZ encl (r := 1) z2 hx rfl ?_
        refine r_nil ?_
        refine r_fld ?_
        refine s.r_lz0 z1 (j := 2) rfl ?_
        refine w.idx (n := j) rfl hlt ?_
        refine r_fld ?_
        refine s.r_load1FZ encl (r := 0) z2 hx rfl ?_
        refine cb _ its[j] h' _ (by omega) hj' fun h2 hj2 => ?_
        refine r_not ?_
        refine r_if (fun hb => ?_) (fun hb => ?_)
        · have hb : cont ((feed cont p (lz (its.take j) ((ts.take j).map fun t => t.pt.items) ++ c.pt.items)).1 ++ [its[j]]) = false := by simpa using hb
          have ea : feed cont p (PT.items (h := k + 1) (its, ts.map GT.pt)) = ((feed cont p (lz (its.take j) ((ts.take j).map fun t => t.pt.items) ++ c.pt.items)).1 ++ [its[j]], false) := by
            rw [hs, ← List.append_assoc, feed_step hr]; simp only [feed, hb, Bool.false_eq_true, if_false]
          have := H h2 (by rw [ea]; exact hj2)
          rw [ea] at this; exact this
        · have hb : cont ((feed cont p (lz (its.take j) ((ts.take j).map fun t => t.pt.items) ++ c.pt.items)).1 ++ [its[j]]) = true := by simpa using hb
          unfold Map_ii_nodeScan.j5
          refine r_add (z := ((j + 1 : Nat) : Int)) (by rw [i64w (by omega) (by omega)]; omega) ?_
          exact HK h2 hlt ⟨by rw [ef]; exact hb, by rw [ef]; exact hj2⟩
    · have hge : j = its.length := by simp at hge; omega
      subst hge
      have hs := hsplit its.length hjl c hc
      have hr0 : rz (its.drop its.length) (((ts.map GT.pt).drop (its.length + 1)).map PT.items) = [] := by rw [List.drop_length]; rfl
      rw [hr0, List.append_nil] at hs
      have hsl := congrArg List.length hs
      simp only [List.length_append] at hsl
      have hfl := feed_len (cont := cont) (lz (its.take its.length) ((ts.take its.length).map fun t => t.pt.items)) p
      unfold Map_ii_nodeScan.j2
      refine r_nil ?_
      refine r_fld ?_
      refine s.r_lz0 z1 (j := 3) rfl ?_
      refine r_nil ?_
      refine s.r_lz0 z3 (j := 0) rfl ?_
      refine r_nil ?_
      refine r_fld ?_
      refine s.r_lz0 z1 (j := 3) rfl ?_
      refine r_nil ?_
      refine s.r_lz0 z3 (j := 0) rfl ?_
      refine wK.lenV ?_
      refine r_sub (z := ((its.length : Nat) : Int)) (by rw [i64w (by omega) (by omega)]; omega) ?_
      refine wK.idx (n := its.length) rfl (by omega) ?_
      refine nodeScan_ok hm hJ cb c (g.kid hcm) hfc (z5 c hcm) (fun r hr => hzb r (List.mem_append.2 (.inr (List.mem_flatMap.2 ⟨c, hcm, hr⟩)))) (fun E h s => kidcell z4 hc s) (by omega) hj fun h' hj' => ?_
      have ea : feed cont p (PT.items (h := k + 1) (its, ts.map GT.pt)) = feed cont (feed cont p (lz (its.take its.length) ((ts.take its.length).map fun t => t.pt.items))).1 c.pt.items := by rw [hs, feed_step hf]
      have := H h' (by rw [ea]; exact hj')
      rw [ea] at this; exact this
end Go.Proofs.Ytlihjljdndbpdaa.Ii
