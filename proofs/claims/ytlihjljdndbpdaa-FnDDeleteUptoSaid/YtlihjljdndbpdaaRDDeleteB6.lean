/-
  Texts of this claim, laid together: Cd Ce Cf Cg Ch Ci Cjf Cku Da Db Dc Dd De Df Dh LBulk.
  Conditions: as each of them tells.
-/
import Derived.Test.YtlihjljdndbpdaaRDDeleteB5
import Derived.Test.YtlihjljdndbpdaaRows
import Derived.JoinedCond
section
namespace Go.Proofs.Ytlihjljdndbpdaa
open Go.Hp
set_option linter.unusedVariables false
set_option linter.unusedSimpArgs false
variable {h0 h : Heap} {Z E : List Rg} {Q : Value → Heap → Prop}

abbrev It := Int × Int
/-- An item as the laws have it. -/
abbrev encA (p : It) : List Value := [.int .i64 p.1, .int .i64 p.2]
/-- A node as data in memory: its items and its kids. -/
def ArgT (h : Heap) : {k : Nat} → PT It k → Value → Value → Prop
  | 0, its, vi, vk => Rdl 2 h vi (its : List It).length ((its : List It).flatMap encA) ∧ ∃ a cap, vk = .slice a 0 cap
  | k + 1, t, vi, vk => Rdl 2 h vi t.1.length (t.1.flatMap encA) ∧ t.2 ≠ [] ∧ ∃ cs : List (Value × Value × Int), cs.length = t.2.length ∧ Rdl 3 h vk cs.length (cs.flatMap fun c => [c.1, c.2.1, .int .i64 c.2.2]) ∧
      ∀ j (h1 : j < t.2.length) (h2 : j < cs.length), ArgT h t.2[j] cs[j].1 cs[j].2.1
theorem ArgT.fr {h h' : Heap} (f : Fr (fun _ _ => False) h h') : ∀ {k : Nat} {x : PT It k} {vi vk : Value}, ArgT h x vi vk → ArgT h' x vi vk
  | 0, _, _, _, ⟨h1, h2⟩ => ⟨h1.fr f (fun _ _ e => e), h2⟩
  | k + 1, _, _, _, ⟨h1, h2, cs, h3, h4, h5⟩ => ⟨h1.fr f (fun _ _ e => e), h2, cs, h3, h4.fr f (fun _ _ e => e), fun j j1 j2 => ArgT.fr f (h5 j j1 j2)⟩

theorem ArgT.one {h : Heap} : ∀ {k : Nat} {x : PT It k} {vi vk : Value}, ArgT h x vi vk → one1 vi = true ∧ one1 vk = true
  | 0, _, _, _, ⟨h1, _, _, h2⟩ => ⟨h1.one, by rw [h2]; rfl⟩
  | k + 1, _, _, _, ⟨h1, h2, cs, h3, h4, h5⟩ => ⟨h1.one, h4.one⟩
theorem plant_items {t3 t5 n : Nat} {a0 t4 vi vk vc c1 c2 kp : Value} {its : List It} (hr : Rdl 2 h0 vi its.length (its.flatMap encA)) (hl : its.length ≤ 2147483647)
    (s : St h0 Z ((t5, 0, [ptr n 0]) :: (t3, 0, [vi, vk, vc]) :: (n, 0, [c1, c2, .slice none 0 0, kp]) :: E) h)
    (H : ∀ iv ib io isp h', St h0 Z ((t5, 0, [ptr n 0]) :: (t3, 0, [vi, vk, vc]) :: (n, 0, [c1, c2, iv, kp]) :: (ib, io, its.flatMap enc ++ isp) :: E) h' → Own 2 iv its.length ib io (its.flatMap enc) isp → i_plantedMap.j2 a0 (ptr t3 0) t4 (ptr t5 0) h' Q) :
    i_plantedMap.j1 a0 (ptr t3 0) t4 (ptr t5 0) h Q := by
  unfold i_plantedMap.j1
  refine r_fld ?_
  refine St.r_load0 s 1 rfl rfl ?_
  refine (hr.st s).lenV ?_
  refine loop_intro (fun t h => ∃ j : Nat, t = [.int .i64 j] ∧ j ≤ its.length ∧ ∃ iv ib io isp, St h0 Z ((t5, 0, [ptr n 0]) :: (t3, 0, [vi, vk, vc]) :: (n, 0, [c1, c2, iv, kp]) :: (ib, io, (its.take j).flatMap enc ++ isp) :: E) h ∧ Own 2 iv j ib io ((its.take j).flatMap enc) isp)
    (fun t _ => its.length - (Hp.iv (t.getD 0 undef)).toNat) ⟨0, rfl, by omega, _, 0, 0, [], (s.empty 0 0).perm (by ((apply perm_rg; intro f; simp only [List.set_cons_zero, List.set_cons_succ, List.eraseIdx_cons_zero, List.eraseIdx_cons_succ, List.cons_append, List.nil_append, List.map_append, List.map_cons, List.map_nil, List.sum_append, List.sum_cons, List.sum_nil, List.map_flatMap, Nat.add_zero, Nat.zero_add]; ac_rfl))), Own.nil 2 0 0⟩ ?_
  rintro t h ⟨j, rfl, hj, iv, ib, io, isp, s, w⟩
  unfold i_plantedMap.l7.b
  refine r_cmpI ?_
  refine r_if (fun hlt => ?_) (fun hge => ?_)
  · have hlt : j < its.length := by simpa using hlt
    unfold i_plantedMap.j8
    refine (hr.st s).at rfl (fun _ => rfl) rfl rfl hlt fun b o hb => ?_
    refine hb.loadN rfl ?_
    refine s.r_alloc fun t7 h s => ?_
    refine St.r_storeN0 s 0 rfl rfl (by simp) (by simp [one1]) ?_
    intro h s
    try simp only [List.set_cons_zero, List.set_cons_succ] at s
    refine St.r_loadN0 s 1 rfl (by simp) ?_
    refine r_fld ?_
    refine St.r_load0 s 0 rfl rfl ?_
    refine r_fld ?_
    refine St.r_load0 s 0 rfl rfl ?_
    refine DoorItem_ok ((s.front 4 rfl).front 4 rfl) w (by omega) fun iv' b' o' sp' h s w' => ?_
    unfold i_plantedMap.j9
    refine r_add (z := ((j + 1 : Nat) : Int)) (by rw [i64w (by omega) (by omega)]; omega) ?_
    have ht : (its.take (j + 1)).flatMap enc = (its.take j).flatMap enc ++ enc its[j] := by
      rw [List.take_succ_eq_append_getElem hlt, List.flatMap_append]; simp
    refine ⟨⟨j + 1, rfl, hlt, iv', b', o', sp', ?_, by rw [ht]; exact w'⟩, by simp; omega⟩
    rw [ht]
    exact (s.perm (E' := (t7, 0, encA its[j]) :: (t5, 0, [ptr n 0]) :: (t3, 0, [vi, vk, vc]) :: (n, 0, [c1, c2, iv', kp]) :: (b', o', ((its.take j).flatMap enc ++ enc its[j]) ++ sp') :: E) (by ((apply perm_rg; intro f; simp only [List.set_cons_zero, List.set_cons_succ, List.eraseIdx_cons_zero, List.eraseIdx_cons_succ, List.cons_append, List.nil_append, List.map_append, List.map_cons, List.map_nil, List.sum_append, List.sum_cons, List.sum_nil, List.map_flatMap, Nat.add_zero, Nat.zero_add]; ac_rfl)))).drop 1
  · have hge : j = its.length := by simp at hge; omega
    subst hge
    rw [List.take_length] at s w
    exact H _ _ _ _ h s w

theorem i_plantedMap_ok : ∀ {k : Nat} (x : PT It k) {h : Heap} {tb : Nat} {iso : Int} {vi vk vc : Value} {Q : Value → Heap → Prop}, cl h tb 0 = some (.int .u64 iso) → ArgT h x vi vk → x.Sh 2147483647 → x.items.length ≤ 4611686018427387903 → one1 vc = true →
    (∀ (t : GT It k) h', t.pt = x → t.Wf enc 2 iso → t.Cn → t.Mine → St h [] (t.rgs enc true) h' → Q (.agg #[ptr t.id 0]) h') → i_plantedMap.call #[ptr tb 0, .agg #[vi, vk, vc]] h Q
  | 0, its, h, tb, iso, vi, vk, vc, Q, hi, ⟨hr, ⟨a, cap, hvk⟩⟩, hsh, hsz, hvc, H => by
    subst hvk
    refine i_plantedMap.body _ _ _ _ ?_
    unfold i_plantedMap.sh
    have s := St.start h
    refine St.r_box (cs := [vi, .slice a 0 cap, vc]) s fun t3 h s => ?_
    refine s.r_alloc fun t4 h s => ?_
    refine Map_ii_DoorLeaf_ok (s.base hi) fun n h s1 => ?_
    have s := s.join s1
    refine s.r_alloc fun t5 h s => ?_
    refine St.r_storeN0 s 0 rfl rfl (by simp) (by simp [one1]) ?_; intro h s
    refine r_fld ?_
    refine St.r_load0 s 3 rfl rfl ?_
    refine r_len ?_
    refine r_cmpI ?_
    refine r_if (fun e => absurd e (by decide)) (fun _ => ?_)
    refine plant_items (E := [(t4, 0, [.pointer none])]) (vi := vi) (vk := .slice a 0 cap) (vc := vc) (c1 := .int .u64 iso) (c2 := .int .i64 0) (kp := .pointer none) (n := n) hr (Nat.le_trans hsh (by decide)) (s.perm (by ((apply perm_rg; intro f; simp only [List.set_cons_zero, List.set_cons_succ, List.eraseIdx_cons_zero, List.eraseIdx_cons_succ, List.cons_append, List.nil_append, List.map_append, List.map_cons, List.map_nil, List.sum_append, List.sum_cons, List.sum_nil, List.map_flatMap, Nat.add_zero, Nat.zero_add]; ac_rfl)))) fun iv ib io isp h s w => ?_
    unfold i_plantedMap.j2
    refine r_fld ?_
    refine St.r_load0 s 1 rfl rfl ?_
    refine r_len ?_
    refine loop_intro (fun t h' => t = [.int .i64 0] ∧ h' = h) (fun _ _ => 0) ⟨rfl, rfl⟩ ?_
    rintro _ _ ⟨rfl, rfl⟩
    unfold i_plantedMap.l4.b
    refine r_cmpI ?_
    refine r_if (fun e => absurd e (by decide)) (fun _ => ?_)
    unfold i_plantedMap.j3
    refine St.r_loadN0 s 0 rfl (by simp) ?_
    refine DoorUpdateCount_leaf (s.front 2 rfl) w fun h s => ?_
    refine St.r_loadN0 s 1 rfl (by simp) ?_
    refine St.r_storeN0 s 4 rfl rfl (by simp) (by simp [one1]) ?_; intro h s
    refine St.r_loadN0 s 4 rfl (by simp) ?_
    refine H (⟨true, n, iso, (its : List It).length, its, iv, ib, io, isp, 0, .slice none 0 0, 0, 0, []⟩ : Nd It) h rfl ⟨w, by simp⟩ rfl rfl ?_
    exact (s.perm (E' := (t5, 0, [ptr n 0]) :: (t3, 0, [vi, .slice a 0 cap, vc]) :: (t4, 0, [ptr n 0]) :: (n, 0, [.int .u64 iso, .int .i64 (its : List It).length, iv, .pointer none]) :: (ib, io, (its : List It).flatMap enc ++ isp) :: []) (by ((apply perm_rg; intro f; simp only [List.set_cons_zero, List.set_cons_succ, List.eraseIdx_cons_zero, List.eraseIdx_cons_succ, List.cons_append, List.nil_append, List.map_append, List.map_cons, List.map_nil, List.sum_append, List.sum_cons, List.sum_nil, List.map_flatMap, Nat.add_zero, Nat.zero_add]; ac_rfl)))).drop 3
  | k + 1, x, h, tb, iso, vi, vk, vc, Q, hi, ⟨hr, hne, cs, hcl, hrk, hks⟩, hsh, hsz, hvc, H => by
    have hkl : x.2.length ≠ 0 := fun e => hne (List.length_eq_zero_iff.1 e)
    refine i_plantedMap.body _ _ _ _ ?_
    unfold i_plantedMap.sh
    have s := St.start h
    refine St.r_box (cs := [vi, vk, vc]) s fun t3 h s => ?_
    refine s.r_alloc fun t4 h s => ?_
    refine Map_ii_DoorLeaf_ok (s.base hi) fun n0 h s1 => ?_
    have s := s.join s1
    refine s.r_alloc fun t5 h s => ?_
    refine St.r_storeN0 s 0 rfl rfl (by simp) (by simp [one1]) ?_; intro h s
    refine r_fld ?_
    refine St.r_load0 s 3 rfl rfl ?_
    refine (hrk.st s).lenV ?_
    refine r_cmpI ?_
    refine r_if (fun _ => ?_) (fun e => absurd (of_decide_eq_false e) (by omega))
    refine Map_ii_DoorInner_ok (s.base hi) fun n kb h s1 => ?_
    have s := s.join s1
    refine St.r_storeN0 s 2 rfl rfl (by simp) (by simp [one1]) ?_; intro h s
    refine plant_items (its := x.1) (E := [(t4, 0, [.pointer none]), (kb, 0, [.slice none 0 0])]) (vi := vi) (vk := vk) (vc := vc) (c1 := .int .u64 iso) (c2 := .int .i64 0) (kp := ptr kb 0) (n := n) hr (Nat.le_trans hsh.1 (by decide))
      ((s.perm (E' := (n0, 0, [.int .u64 iso, .int .i64 0, .slice none 0 0, .pointer none]) :: (t5, 0, [ptr n 0]) :: (t3, 0, [vi, vk, vc]) :: (n, 0, [.int .u64 iso, .int .i64 0, .slice none 0 0, ptr kb 0]) :: [(t4, 0, [.pointer none]), (kb, 0, [.slice none 0 0])]) (by ((apply perm_rg; intro f; simp only [List.set_cons_zero, List.set_cons_succ, List.eraseIdx_cons_zero, List.eraseIdx_cons_succ, List.cons_append, List.nil_append, List.map_append, List.map_cons, List.map_nil, List.sum_append, List.sum_cons, List.sum_nil, List.map_flatMap, Nat.add_zero, Nat.zero_add]; ac_rfl)))).drop 1) fun iv ib io isp h s w => ?_
    unfold i_plantedMap.j2
    refine r_fld ?_
    refine St.r_load0 s 1 rfl rfl ?_
    refine (hrk.st s).lenV ?_
    refine loop_intro (fun t h' => ∃ j : Nat, t = [.int .i64 j] ∧ j ≤ x.2.length ∧ ∃ (ts : List (GT It k)) (kv : Value) (rb ro : Nat) (ksp : List Value), ts.map GT.pt = x.2.take j ∧ (∀ t, t ∈ ts → t.Wf enc 2 iso ∧ t.Cn ∧ t.Mine) ∧ Own 1 kv j rb ro ((ts.map GT.id).map fun m => ptr m 0) ksp ∧
        St _ [] ((t5, 0, [ptr n 0]) :: (t3, 0, [vi, vk, vc]) :: (t4, 0, [.pointer none]) :: (n, 0, [.int .u64 iso, .int .i64 0, iv, ptr kb 0]) :: (ib, io, x.1.flatMap enc ++ isp) :: (kb, 0, [kv]) :: (rb, ro, ((ts.map GT.id).map fun m => ptr m 0) ++ ksp) :: ts.flatMap (GT.rgs enc true)) h')
      (fun t _ => x.2.length - (Hp.iv (t.getD 0 undef)).toNat) ⟨0, rfl, by omega, [], .slice none 0 0, 0, 0, [], rfl, (fun t ht => absurd ht List.not_mem_nil), Own.nil 1 0 0, (s.empty 0 0).perm (by ((apply perm_rg; intro f; simp only [List.set_cons_zero, List.set_cons_succ, List.eraseIdx_cons_zero, List.eraseIdx_cons_succ, List.cons_append, List.nil_append, List.map_append, List.map_cons, List.map_nil, List.sum_append, List.sum_cons, List.sum_nil, List.map_flatMap, Nat.add_zero, Nat.zero_add]; ac_rfl)))⟩ ?_
    rintro t h ⟨j, rfl, hj, ts, kv, rb, ro, ksp, hts, hw, wkk, s⟩
    have htl : ts.length = j := by have := congrArg List.length hts; simp at this; omega
    unfold i_plantedMap.l4.b
    refine r_cmpI ?_
    refine r_if (fun hlt => ?_) (fun hge => ?_)
    · have hlt : j < x.2.length := by simp at hlt; omega
      unfold i_plantedMap.j5
      refine (hrk.st s).at (n := j) rfl (fun _ => rfl) rfl rfl (by omega) fun b o hb => ?_
      refine hb.loadN rfl ?_
      refine s.r_alloc fun t9 h s => ?_
      have hak := hks j hlt (by omega)
      refine St.r_storeN0 s 0 rfl rfl (by simp) (by simp [hak.one]; rfl) ?_; intro h s
      refine St.r_loadN0 s 1 rfl (by simp) ?_
      refine St.r_loadN0 s 0 rfl (by simp) ?_
      refine i_plantedMap_ok x.2[j] (s.base hi) (hak.fr s.fr) (hsh.2.2 _ (List.getElem_mem hlt)) ?_ rfl fun t h ht1 ht2 ht3 ht4 s1 => ?_
      · have h1 : x.items.length = x.1.length + ((x.2.map PT.items).map List.length).sum := inter_length _ _
        have h2 : (x.2[j].items).length ≤ ((x.2.map PT.items).map List.length).sum := mem_le_sum (by
          rw [List.map_map]; exact List.mem_map.2 ⟨x.2[j], List.getElem_mem hlt, rfl⟩)
        omega
      have s := (s.join s1).perm List.perm_append_comm
      refine ⟨St.r_stillN0 s 1 rfl (by simp) rfl, ?_⟩
      refine DoorAppend_ok (((s.front 7 rfl).front 7 rfl).front 6 rfl) wkk (by have := hsh.1; have := hsh.2.1; omega) fun kv' b' o' sp' h s w' => ?_
      unfold i_plantedMap.j6
      refine r_add (z := ((j + 1 : Nat) : Int)) (by have := hsh.1; have := hsh.2.1; rw [i64w (by omega) (by omega)]; omega) ?_
      refine ⟨⟨j + 1, rfl, hlt, ts ++ [t], kv', b', o', sp', ?_, fun t' ht' => ?_, ?_, ?_⟩, by simp; omega⟩
      · rw [List.map_append, hts, List.take_succ_eq_append_getElem hlt, List.map_cons, ht1]; rfl
      · rcases List.mem_append.1 ht' with e | e
        · exact hw t' e
        · rw [List.mem_singleton.1 e]; exact ⟨ht2, ht3, ht4⟩
      · rw [List.map_append, List.map_append]; exact w'
      · refine (s.perm (E' := (t9, 0, [cs[j].1, cs[j].2.1, .int .i64 cs[j].2.2]) :: _) ?_).drop 1
        rw [List.map_append, List.map_append, List.flatMap_append, List.flatMap_cons, List.flatMap_nil, List.append_nil]
        ((apply perm_rg; intro f; simp only [List.set_cons_zero, List.set_cons_succ, List.eraseIdx_cons_zero, List.eraseIdx_cons_succ, List.cons_append, List.nil_append, List.map_append, List.map_cons, List.map_nil, List.sum_append, List.sum_cons, List.sum_nil, List.map_flatMap, Nat.add_zero, Nat.zero_add]; ac_rfl))
    · have hge : j = x.2.length := by simp at hge; omega
      subst hge
      rw [List.take_length] at hts
      unfold i_plantedMap.j3
      refine St.r_loadN0 s 0 rfl (by simp) ?_
      have hsum : ∀ i, i ≤ ts.length → ((List.range i).map fun j => (ts.map fun t => t.nd.cnt)[j]?.getD 0).sum = ((((ts.map fun t => t.pt.items).map List.length).take i).sum : Nat) := fun i hi => by
        rw [sum_range _ i (by simpa using hi), ← List.map_take, GT.Cn.sum (fun t ht => (hw t (List.mem_of_mem_take ht)).2.1), ← List.map_take, ← List.map_take]
      have hit : x.items.length = x.1.length + ((ts.map fun t => t.pt.items).map List.length).sum := by
        have h1 : x.items.length = x.1.length + ((x.2.map PT.items).map List.length).sum := inter_length _ _
        rw [h1, ← hts, List.map_map, List.map_map, List.map_map]; rfl
      have hxl : ts.length ≤ 2147483648 := by have := hsh.1; have := hsh.2.1; omega
      refine DoorUpdateCount_inner (c := fun j => (ts.map fun t => t.nd.cnt)[j]?.getD 0) (ids := ts.map GT.id) (((s.front 6 rfl).front 6 rfl).front 5 rfl) w (by simpa [htl] using wkk) (by simp; omega) (fun i hi => ?_) (fun i hi => ?_) fun h s => ?_
      · have hi' : i < ts.length := by simpa using hi
        obtain ⟨a1, a2, a3, hm⟩ := GT.top (enc := enc) (hw ts[i] (List.getElem_mem hi')).2.2.nd
        refine ⟨a1, a2, a3, ?_⟩
        simp only [List.getElem_map, List.getElem?_map, List.getElem?_eq_getElem hi', Option.map_some, Option.getD_some]
        refine List.mem_append.2 (.inl ?_)
        refine List.mem_cons_of_mem _ (List.mem_cons_of_mem _ (List.mem_cons_of_mem _ (List.mem_cons_of_mem _ ?_)))
        exact List.mem_flatMap.2 ⟨ts[i], List.getElem_mem hi', hm⟩
      · rw [hsum i (by simpa using hi)]
        have := sum_take_le ((ts.map fun t => t.pt.items).map List.length) i
        omega
      · rw [show (ts.map GT.id).length = ts.length by simp, hsum _ (Nat.le_refl _), List.take_of_length_le (by simp)] at s
        refine St.r_loadN0 s 3 rfl (by simp) ?_
        refine St.r_storeN0 s 5 rfl rfl (by simp) (by simp [one1]) ?_; intro h s
        refine St.r_loadN0 s 5 rfl (by simp) ?_
        have hpt : GT.pt (h := k + 1) ((⟨true, n, iso, (x.1.length : Int) + (((ts.map fun t => t.pt.items).map List.length).sum : Nat), x.1, iv, ib, io, isp, kb, kv, rb, ro, ksp⟩ : Nd It), ts) = x := by
          show (x.1, ts.map GT.pt) = x
          rw [hts]; rfl
        refine H ((⟨true, n, iso, (x.1.length : Int) + (((ts.map fun t => t.pt.items).map List.length).sum : Nat), x.1, iv, ib, io, isp, kb, kv, rb, ro, ksp⟩ : Nd It), ts) h hpt ⟨⟨w, by simp⟩, by rw [htl]; exact wkk, by rw [htl]; exact hsh.2.1, fun t ht => ⟨(hw t ht).1, fun e => by simp at e⟩⟩ ⟨by rw [hpt, hit, Int.natCast_add], fun t ht => (hw t ht).2.1⟩ ⟨rfl, fun t ht => (hw t ht).2.2⟩ ?_
        refine (s.perm (E' := (t5, 0, [ptr n 0]) :: (t3, 0, [vi, vk, vc]) :: (t4, 0, [ptr n 0]) :: _) ?_).drop 3
        unfold GT.rgs Nd.inner
        simp only [if_true]
        ((apply perm_rg; intro f; simp only [List.set_cons_zero, List.set_cons_succ, List.eraseIdx_cons_zero, List.eraseIdx_cons_succ, List.cons_append, List.nil_append, List.map_append, List.map_cons, List.map_nil, List.sum_append, List.sum_cons, List.sum_nil, List.map_flatMap, Nat.add_zero, Nat.zero_add]; ac_rfl))
end Go.Proofs.Ytlihjljdndbpdaa
end
section
namespace Go.Proofs.Ytlihjljdndbpdaa
open Go.Hp
set_option linter.unusedVariables false
set_option linter.unusedSimpArgs false
variable {h0 h : Heap} {Z E : List Rg} {Q : Value → Heap → Prop}

theorem DoorPlant_ok {tb n : Nat} {iso cnt c0 mn mx : Int} {ctr root : Option Addr} {a1 a2 a3 : Value} (s : St h0 Z ((tb, 0, hdr iso ctr root c0 mn mx) :: E) h) (hn : (n, 0, [a1, .int .i64 cnt, a2, a3]) ∈ E ++ Z)
    (H : ∀ h', St h0 Z ((tb, 0, hdr iso ctr (some ⟨n, 0, none⟩) cnt mn mx) :: E) h' → Q (.tuple #[]) h') : Map_ii_DoorPlant.call #[ptr tb 0, .agg #[ptr n 0]] h Q := by
  refine Map_ii_DoorPlant.body _ _ _ _ ?_
  unfold Map_ii_DoorPlant.sh
  refine St.r_box (cs := [ptr n 0]) s fun t h s => ?_
  refine r_fld ?_
  refine St.r_load0 s 0 rfl rfl ?_
  refine r_fld ?_
  refine St.r_load0 s 0 rfl rfl ?_
  refine r_nil ?_
  refine r_fld ?_
  refine s.r_loadM (xs := [a1, .int .i64 cnt, a2, a3]) (List.mem_cons_of_mem _ (List.mem_cons_of_mem _ hn)) rfl ?_
  refine r_nil ?_
  refine r_fld ?_
  refine St.r_store0 s 1 rfl (by simp) rfl ?_
  intro h s
  try simp only [List.set_cons_zero, List.set_cons_succ] at s
  refine r_nil ?_
  refine r_fld ?_
  refine St.r_store0 s 1 rfl (by simp) rfl ?_
  intro h s
  try simp only [List.set_cons_zero, List.set_cons_succ] at s
  exact H h (s.drop 1)

theorem i_standMap_ok {k : Nat} (x : PT It k) {d : Int} {vi vk vc : Value} (ha : ArgT h x vi vk) (hsh : x.Sh 2147483647) (hsz : x.items.length ≤ 4611686018427387903) (hvc : one1 vc = true) (h1 : 2 ≤ d) (h2 : d ≤ 1073741824) (hne : x.its ≠ [])
    (H : ∀ (t : GT It k) tb h', t.pt = x → t.Wf enc 2 0 → t.Cn → t.Mine → St h [] ((tb, 0, hdr 0 none (some ⟨t.id, 0, none⟩) x.items.length (d - 1) (2 * d - 1)) :: t.rgs enc true) h' → Q (ptr tb 0) h') : i_standMap.call #[.int .i64 d, .agg #[vi, vk, vc]] h Q := by
  refine i_standMap.body _ _ _ _ ?_
  unfold i_standMap.sh
  have s := St.start h
  refine St.r_box (cs := [vi, vk, vc]) s fun t3 h s => ?_
  refine NewMap_ii_ok s h1 h2 fun tb h s => ?_
  refine r_fld ?_
  refine St.r_load0 s 1 rfl rfl ?_
  obtain ⟨len, hl, hlen⟩ : ∃ len, Rdl 2 _ vi len (x.its.flatMap encA) ∧ len ≠ 0 := by
    have hx : x.its.length ≠ 0 := fun e => hne (List.length_eq_zero_iff.1 e)
    cases k with
    | zero => exact ⟨_, ha.1, hx⟩
    | succ k => exact ⟨_, ha.1, hx⟩
  refine (hl.st s).lenV ?_
  refine r_cmpI ?_
  refine r_br (fun e => absurd (of_decide_eq_false e) (by omega)) (fun _ => ?_)
  refine St.r_loadN0 s 1 rfl (by simp) ?_
  refine i_plantedMap_ok x (s.get (k := 0) (j := 0) rfl (by simp)) (ha.fr s.fr) hsh hsz hvc fun t h ht1 ht2 ht3 ht4 s1 => ?_
  have s := s.join s1
  obtain ⟨a1, a2, a3, hm⟩ := GT.top (enc := enc) ht4.nd
  refine DoorPlant_ok (n := t.id) (cnt := t.nd.cnt) (E := t.rgs enc true ++ [(t3, 0, [vi, vk, vc])]) (s.perm (by ((apply perm_rg; intro f; simp only [List.set_cons_zero, List.set_cons_succ, List.eraseIdx_cons_zero, List.eraseIdx_cons_succ, List.cons_append, List.nil_append, List.map_append, List.map_cons, List.map_nil, List.sum_append, List.sum_cons, List.sum_nil, List.map_flatMap, Nat.add_zero, Nat.zero_add]; ac_rfl)))) (List.mem_append.2 (.inl (List.mem_append.2 (.inl hm)))) fun h s => ?_
  unfold i_standMap.j1
  refine H t tb h ht1 ht2 ht3 ht4 ?_
  rw [ht3.cnt, ht1] at s
  exact (s.perm (E' := (t3, 0, [vi, vk, vc]) :: (tb, 0, hdr 0 none (some ⟨t.id, 0, none⟩) x.items.length (d - 1) (2 * d - 1)) :: t.rgs enc true) (by ((apply perm_rg; intro f; simp only [List.set_cons_zero, List.set_cons_succ, List.eraseIdx_cons_zero, List.eraseIdx_cons_succ, List.cons_append, List.nil_append, List.map_append, List.map_cons, List.map_nil, List.sum_append, List.sum_cons, List.sum_nil, List.map_flatMap, Nat.add_zero, Nat.zero_add]; ac_rfl)))).drop 1

theorem isoLoad_read {cb co : Nat} {tr v : Value} (hc : cl h cb co = some v) (H : Q v h) : Map_ii_isoLoad.call #[tr, ptr cb co, .bool false] h Q := by
  refine Map_ii_isoLoad.body _ _ _ _ _ ?_
  unfold Map_ii_isoLoad.sh
  refine r_br (fun e => absurd e (by decide)) (fun _ => ?_)
  unfold Map_ii_isoLoad.j1
  refine r_nil ?_
  exact ⟨_, v, rfl, hc, H⟩

theorem Map_ii_Len_ok {tb : Nat} {v : Value} (hc : cl h tb 3 = some v) (H : Q v h) : Map_ii_Len.call #[ptr tb 0] h Q := by
  refine Map_ii_Len.body _ _ _ ?_
  unfold Map_ii_Len.sh
  refine r_nil (r_fld ?_)
  exact ⟨_, v, rfl, hc, H⟩

theorem Map_ii_Height_ok {k : Nat} {t : GT It k} {tb : Nat} (hr : cl h tb 2 = some (ptr t.id 0)) (ht : t.At enc 2 h) (hk : k ≤ 1000000) (H : Q (.int .i64 ((k + 1 : Nat) : Int)) h) : Map_ii_Height.call #[ptr tb 0] h Q := by
  refine Map_ii_Height.body _ _ _ ?_
  unfold Map_ii_Height.sh
  have s := St.start h
  refine r_nil ?_
  refine r_fld ?_
  refine s.r_loadB hr ?_
  refine r_neNilP ?_
  refine r_if (fun _ => ?_) (fun e => absurd e (by simp))
  refine r_nil ?_
  refine r_fld ?_
  refine s.r_loadB hr ?_
  refine loop_intro (fun l h' => h' = h ∧ ∃ (j : Nat) (t' : GT It j), j ≤ k ∧ t'.At enc 2 h ∧ l = [.int .i64 ((k - j : Nat) : Int), ptr t'.id 0]) (fun l _ => k - (Hp.iv (l.getD 0 undef)).toNat) ⟨rfl, k, t, Nat.le_refl _, ht, by simp⟩ ?_
  rintro l h' ⟨rfl, j, t', hj, ht', rfl⟩
  unfold Map_ii_Height.l2.b
  refine r_add (z := ((k - j + 1 : Nat) : Int)) (by rw [i64w (by omega) (by omega)]; omega) ?_
  cases j with
  | zero =>
    refine mapNode_ii_leaf_ok (a := none) ht'.2 ?_
    refine r_if (fun _ => ?_) (fun e => absurd e (by simp))
    exact H
  | succ j =>
    refine mapNode_ii_leaf_ok (a := some ⟨t'.1.kb, 0, none⟩) ht'.2.1 ?_
    refine r_if (fun e => absurd e (by simp)) (fun _ => ?_)
    unfold Map_ii_Height.j3
    refine r_nil ?_
    refine r_fld ?_
    refine s.r_loadB ht'.2.1 ?_
    refine r_nil ?_
    refine s.r_loadB ht'.2.2.1 ?_
    have hl : 0 < t'.2.length := by have := ht'.2.2.2.2.1; omega
    refine ht'.2.2.2.1.at1 rfl hl fun b o hb => ?_
    refine hb.load0 rfl ?_
    exact ⟨⟨rfl, j, t'.2[0], by omega, ht'.2.2.2.2.2 _ (List.getElem_mem hl), by simp; omega⟩, by simp; omega⟩

abbrev I (n : Int) : Value := .int .i64 n
/-- The keys and the values that are gathered. -/
def Acc (h0 : Heap) (Z E : List Rg) (h : Heap) (kv vv : Value) (A B : List Int) : Prop := ∃ kb ko vb vo sp1 sp2, St h0 Z ((kb, ko, A.map I ++ sp1) :: (vb, vo, B.map I ++ sp2) :: E) h ∧ Own 1 kv A.length kb ko (A.map I) sp1 ∧ Own 1 vv B.length vb vo (B.map I) sp2
theorem Acc.key {kv vv : Value} {A B : List Int} {x : Int} {K : Value → Heap → Prop} (a : Acc h0 Z E h kv vv A B) (hA : A.length ≤ 1099511627776) (H : ∀ kv' h', Acc h0 Z E h' kv' vv (A ++ [x]) B → K kv' h') :
    mkSl (if 1 * 1 = 0 then [] else zeros [(.int .i64 0)] 1) 1 [(0 * 1, 1, .int .i64 x)] 3 h fun t h => app 3 1 8 [(.int .i64 0)] kv t h K := by
  obtain ⟨kb, ko, vb, vo, sp1, sp2, s, w1, w2⟩ := a
  refine s.r_mkSl (sz := 1) (cs := [I x]) (by ((simp only [fillV, fill1, Value.cells, zeros_succ, zeros_zero, List.size_toArray, List.length_cons, List.length_nil, List.length_append, List.take_succ_cons, List.take_zero, List.take_nil, List.drop_succ_cons, List.drop_zero, List.drop_nil, List.cons_append, List.nil_append, List.append_nil, Nat.reduceAdd, Nat.reduceMul, Nat.reduceLeDiff, Nat.reduceEqDiff, and_self, and_true, true_and, if_true, Nat.le_refl, Nat.zero_add, Nat.add_zero, Nat.zero_mul, reduceIte, if_false] <;> rfl))) rfl fun q h s wq => ?_
  refine s.r_app 1 (sz := 1) (n := 1) (new := [I x]) rfl w1 rfl (wq.rdl s 0 rfl) (by simp [one1]) (by omega) (by omega) fun v' b' o' sp' h s w1' => ?_
  refine H v' h ⟨b', o', vb, vo, sp', sp2, ?_, by simpa using w1', w2⟩
  rw [List.map_append]; exact s.drop 1
theorem Acc.val {kv vv : Value} {A B : List Int} {x : Int} {K : Value → Heap → Prop} (a : Acc h0 Z E h kv vv A B) (hB : B.length ≤ 1099511627776) (H : ∀ vv' h', Acc h0 Z E h' kv vv' A (B ++ [x]) → K vv' h') :
    mkSl (if 1 * 1 = 0 then [] else zeros [(.int .i64 0)] 1) 1 [(0 * 1, 1, .int .i64 x)] 3 h fun t h => app 3 1 8 [(.int .i64 0)] vv t h K := by
  obtain ⟨kb, ko, vb, vo, sp1, sp2, s, w1, w2⟩ := a
  refine s.r_mkSl (sz := 1) (cs := [I x]) (by ((simp only [fillV, fill1, Value.cells, zeros_succ, zeros_zero, List.size_toArray, List.length_cons, List.length_nil, List.length_append, List.take_succ_cons, List.take_zero, List.take_nil, List.drop_succ_cons, List.drop_zero, List.drop_nil, List.cons_append, List.nil_append, List.append_nil, Nat.reduceAdd, Nat.reduceMul, Nat.reduceLeDiff, Nat.reduceEqDiff, and_self, and_true, true_and, if_true, Nat.le_refl, Nat.zero_add, Nat.add_zero, Nat.zero_mul, reduceIte, if_false] <;> rfl))) rfl fun q h s wq => ?_
  refine s.r_app 2 (sz := 1) (n := 1) (new := [I x]) rfl w2 rfl (wq.rdl s 0 rfl) (by simp [one1]) (by omega) (by omega) fun v' b' o' sp' h s w2' => ?_
  refine H v' h ⟨kb, ko, b', o', sp1, sp', ?_, w1, by simpa using w2'⟩
  rw [List.map_append]; exact s.drop 1
theorem Acc.at {kv vv : Value} {A B : List Int} (a : Acc h0 Z E h kv vv A B) {k : Nat} {t : GT It k} {iso : Int} (w : t.Wf enc 2 iso) (hz : ∀ r, r ∈ t.all enc → r ∈ Z) : t.At enc 2 h := by
  obtain ⟨kb, ko, vb, vo, sp1, sp2, s, w1, w2⟩ := a
  exact GT.At.of w fun r hr => s.z r (hz r hr)
theorem take_map {α β : Type} (f : α → β) (A : List β) {l : List α} {j : Nat} (hj : j < l.length) : A ++ (l.take (j + 1)).map f = (A ++ (l.take j).map f) ++ [f l[j]] := by
  rw [List.take_succ_eq_append_getElem hj, List.map_append, List.map_cons, List.map_nil, List.append_assoc]

theorem nodeKV : ∀ {k : Nat} (t : GT It k) {h0 h : Heap} {Z E : List Rg} {iso : Int} {A B : List Int} {tr kv vv : Value} {cb co : Nat} {Q : Value → Heap → Prop}, t.Wf enc 2 iso → (∀ r, r ∈ t.all enc → r ∈ Z) →
    Acc h0 Z E h kv vv A B → cl h cb co = some (ptr t.id 0) → A.length + t.pt.items.length ≤ 1099511627776 → B.length + t.pt.items.length ≤ 1099511627776 →
    (∀ kv' vv' h', Acc h0 Z E h' kv' vv' (A ++ t.pt.items.map Prod.fst) (B ++ t.pt.items.map Prod.snd) → Q (.tuple #[kv', vv']) h') →
    Map_ii_nodeKeyValues.call #[tr, ptr cb co, kv, vv, .bool false] h Q
  | 0, t, h0, h, Z, E, iso, A, B, tr, kv, vv, cb, co, Q, w, hz, a, hc, hA, hB, H => by
    refine Map_ii_nodeKeyValues.body _ _ _ _ _ _ _ ?_
    unfold Map_ii_nodeKeyValues.sh
    refine isoLoad_read hc ?_
    refine mapNode_ii_leaf_ok (a := none) (a.at w hz).2 ?_
    refine r_if (fun _ => ?_) (fun e => absurd e (by simp))
    have hlen : t.pt.items.length = (Nd.its t).length := rfl
    refine loop_intro (fun l h' => ∃ (j : Nat) (kv' vv' : Value), j ≤ (Nd.its t).length ∧ l = [kv', vv', .int .i64 j] ∧ Acc h0 Z E h' kv' vv' (A ++ ((Nd.its t).take j).map Prod.fst) (B ++ ((Nd.its t).take j).map Prod.snd))
      (fun l _ => (Nd.its t).length - (Hp.iv (l.getD 2 undef)).toNat) ⟨0, kv, vv, by omega, rfl, by simpa using a⟩ ?_
    rintro l h ⟨j, kv, vv, hj, rfl, a⟩
    unfold Map_ii_nodeKeyValues.l7.b
    refine r_nil (r_fld ?_)
    refine (⟨_, _, rfl, (a.at w hz).1.iv, ?_⟩ : load1 _ _ _)
    refine (a.at w hz).1.its.lenV ?_
    refine r_cmpI ?_
    refine r_if (fun hlt => ?_) (fun hge => ?_)
    · have hlt : j < (Nd.its t).length := by simpa using hlt
      unfold Map_ii_nodeKeyValues.j8
      refine r_nil (r_fld ?_)
      refine (⟨_, _, rfl, (a.at w hz).1.iv, ?_⟩ : load1 _ _ _)
      refine (a.at w hz).1.its.at rfl (fun _ => rfl) rfl rfl hlt fun b o hb => ?_
      refine r_fld (hb.load rfl ?_)
      refine a.key (by simp; omega) fun kv h a => ?_
      refine r_nil (r_fld ?_)
      refine (⟨_, _, rfl, (a.at w hz).1.iv, ?_⟩ : load1 _ _ _)
      refine (a.at w hz).1.its.at rfl (fun _ => rfl) rfl rfl hlt fun b o hb => ?_
      refine r_fld (hb.load rfl ?_)
      refine a.val (by simp; omega) fun vv h a => ?_
      unfold Map_ii_nodeKeyValues.j9
      refine r_add (z := ((j + 1 : Nat) : Int)) (by rw [i64w (by omega) (by omega)]; omega) ?_
      exact ⟨⟨j + 1, kv, vv, hlt, rfl, by rw [take_map _ _ hlt, take_map _ _ hlt]; exact a⟩, by simp; omega⟩
    · have hge : j = (Nd.its t).length := by simp at hge; omega
      subst hge
      rw [List.take_length] at a
      unfold Map_ii_nodeKeyValues.j6
      exact H _ _ h a
  | k + 1, t, h0, h, Z, E, iso, A, B, tr, kv, vv, cb, co, Q, w, hz, a, hc, hA, hB, H => by
    have hz' : ∀ q, q ∈ t.2 → ∀ r, r ∈ q.all enc → r ∈ Z := fun q hq r hr => hz r (List.mem_append.2 (.inr (List.mem_flatMap.2 ⟨q, hq, hr⟩)))
    have hkl : (t.2.map fun q => q.pt.items).length = t.1.its.length + 1 := by rw [List.length_map]; exact w.2.2.1
    have hit : t.pt.items = inter t.1.its (t.2.map fun q => q.pt.items) := by
      show inter t.1.its ((t.2.map GT.pt).map PT.items) = _
      rw [List.map_map]; rfl
    have hlen := inter_length t.1.its (t.2.map fun q => q.pt.items)
    rw [← hit] at hlen
    have hin := inter_pre hkl
    have hpl : ∀ i, i ≤ t.1.its.length → (pre t.1.its (t.2.map fun q => q.pt.items) i).length ≤ t.pt.items.length := fun i hi => by
      rw [hit, hin, List.length_append]
      have := pre_le (its := t.1.its) (ks := t.2.map fun q => q.pt.items) hi
      omega
    refine Map_ii_nodeKeyValues.body _ _ _ _ _ _ _ ?_
    unfold Map_ii_nodeKeyValues.sh
    refine isoLoad_read hc ?_
    refine mapNode_ii_leaf_ok (a := some ⟨t.1.kb, 0, none⟩) (a.at w hz).2.1 ?_
    refine r_if (fun e => absurd e (by simp)) (fun _ => ?_)
    unfold Map_ii_nodeKeyValues.j1
    refine loop_intro (fun l h' => ∃ (j : Nat) (kv' vv' : Value), j ≤ t.1.its.length ∧ l = [kv', vv', .int .i64 j] ∧ Acc h0 Z E h' kv' vv' (A ++ (pre t.1.its (t.2.map fun q => q.pt.items) j).map Prod.fst) (B ++ (pre t.1.its (t.2.map fun q => q.pt.items) j).map Prod.snd))
      (fun l _ => t.1.its.length - (Hp.iv (l.getD 2 undef)).toNat) ⟨0, kv, vv, by omega, rfl, by simpa [pre] using a⟩ ?_
    rintro l h ⟨j, kv, vv, hj, rfl, a⟩
    unfold Map_ii_nodeKeyValues.l3.b
    refine r_nil (r_fld ?_)
    refine (⟨_, _, rfl, (a.at w hz).1.iv, ?_⟩ : load1 _ _ _)
    refine (a.at w hz).1.its.lenV ?_
    refine r_cmpI ?_
    refine r_if (fun hlt => ?_) (fun hge => ?_)
    · have hlt : j < t.1.its.length := by simpa using hlt
      have hjk : j < t.2.length := by have := w.2.2.1; omega
      unfold Map_ii_nodeKeyValues.j4
      refine r_nil (r_fld ?_)
      refine (⟨_, _, rfl, (a.at w hz).2.1, ?_⟩ : load1 _ _ _)
      refine r_nil ?_
      refine (⟨_, _, rfl, (a.at w hz).2.2.1, ?_⟩ : load1 _ _ _)
      refine (a.at w hz).2.2.2.1.at1 rfl hjk fun b o hb => ?_
      have hps := pre_succ (its := t.1.its) (ks := t.2.map fun q => q.pt.items) hlt (by rw [hkl]; omega)
      have hpl' := hpl (j + 1) hlt
      have hps' := congrArg List.length hps
      simp only [List.length_append, List.length_cons, List.length_nil, List.getElem_map] at hps'
      refine nodeKV t.2[j] (w.2.2.2 _ (List.getElem_mem hjk)).1 (hz' _ (List.getElem_mem hjk)) a (hb 0 (by simp)) (by simp; omega) (by simp; omega) fun kv vv h a => ?_
      refine r_ext rfl ?_
      refine r_ext rfl ?_
      refine r_nil ?_
      refine r_fld ?_
      refine (⟨_, _, rfl, (a.at w hz).1.iv, ?_⟩ : load1 _ _ _)
      refine (a.at w hz).1.its.at rfl (fun _ => rfl) rfl rfl hlt fun b o hb => ?_
      refine r_fld (hb.load rfl ?_)
      refine a.key (by simp; omega) fun kv h a => ?_
      refine r_nil (r_fld ?_)
      refine (⟨_, _, rfl, (a.at w hz).1.iv, ?_⟩ : load1 _ _ _)
      refine (a.at w hz).1.its.at rfl (fun _ => rfl) rfl rfl hlt fun b o hb => ?_
      refine r_fld (hb.load rfl ?_)
      refine a.val (by simp; omega) fun vv h a => ?_
      unfold Map_ii_nodeKeyValues.j5
      refine r_add (z := ((j + 1 : Nat) : Int)) (by rw [i64w (by omega) (by omega)]; omega) ?_
      refine ⟨⟨j + 1, kv, vv, hlt, rfl, ?_⟩, by simp; omega⟩
      rw [hps]
      simpa using a
    · have hge : j = t.1.its.length := by simp at hge; omega
      subst hge
      have hjk : t.1.its.length < t.2.length := by have := w.2.2.1; omega
      unfold Map_ii_nodeKeyValues.j2
      refine r_nil (r_fld ?_)
      refine (⟨_, _, rfl, (a.at w hz).2.1, ?_⟩ : load1 _ _ _)
      refine r_nil ?_
      refine (⟨_, _, rfl, (a.at w hz).2.2.1, ?_⟩ : load1 _ _ _)
      refine r_nil (r_fld ?_)
      refine (⟨_, _, rfl, (a.at w hz).2.1, ?_⟩ : load1 _ _ _)
      refine r_nil ?_
      refine (⟨_, _, rfl, (a.at w hz).2.2.1, ?_⟩ : load1 _ _ _)
      refine (a.at w hz).2.2.2.1.lenV ?_
      have hl := congrArg List.length hin
      rw [← hit] at hl hin
      simp only [List.length_append, List.getElem_map] at hl
      refine r_sub (z := (t.1.its.length : Int)) (by have := w.2.2.1; rw [i64w (by omega) (by omega)]; omega) ?_
      refine (a.at w hz).2.2.2.1.at1 (n := t.1.its.length) rfl hjk fun b o hb => ?_
      refine nodeKV t.2[t.1.its.length] (w.2.2.2 _ (List.getElem_mem hjk)).1 (hz' _ (List.getElem_mem hjk)) a (hb 0 (by simp)) (by simp; omega) (by simp; omega) fun kv vv h a => ?_
      refine r_ext rfl ?_
      refine r_ext rfl ?_
      refine H _ _ h ?_
      rw [hin]
      simpa using a

/-- A map that stands: its head and its tree lie in memory. -/
structure StandR (h : Heap) (tb : Nat) {k : Nat} (t : GT It k) : Prop where
  root : cl h tb 2 = some (ptr t.id 0)
  cnt : cl h tb 3 = some (.int .i64 t.pt.items.length)
  wf : ∃ iso, t.Wf enc 2 iso
  ok : ∀ r, r ∈ t.all enc → r.Ok h

theorem keyValues_ok {k : Nat} {t : GT It k} {tb : Nat} (r : StandR h tb t) (hl : t.pt.items.length ≤ 1073741824)
    (H : ∀ kv vv E' h', St h [] E' h' → Rdl 1 h' kv t.pt.items.length ((t.pt.items.map Prod.fst).map I) → Rdl 1 h' vv t.pt.items.length ((t.pt.items.map Prod.snd).map I) → Q (.tuple #[kv, vv]) h') : Map_ii_keyValues.call #[ptr tb 0, .bool false] h Q := by
  refine Map_ii_keyValues.body _ _ _ _ ?_
  unfold Map_ii_keyValues.sh
  have s := St.start h
  refine Map_ii_Len_ok r.cnt ?_
  refine s.r_mks (sz := 1) (n := 0) rfl (by omega) (by omega) (by omega) fun kv kb h s w1 => ?_
  refine Map_ii_Len_ok (s.base r.cnt) ?_
  refine s.r_mks (sz := 1) (n := 0) rfl (by omega) (by omega) (by omega) fun vv vb h s w2 => ?_
  refine r_nil ?_
  refine r_fld ?_
  refine s.r_loadB r.root ?_
  refine r_neNilP ?_
  refine r_if (fun _ => ?_) (fun e => absurd e (by simp))
  refine r_nil ?_
  refine r_fld ?_
  obtain ⟨iso, w⟩ := r.wf
  have s := s.addZ r.ok
  rw [zeros_zero] at s w1 w2
  refine nodeKV t (E := []) (A := []) (B := []) w (fun x hx => List.mem_append.2 (.inl hx)) ⟨kb, 0, vb, 0, _, _, (s.perm (by ((apply perm_rg; intro f; simp only [List.set_cons_zero, List.set_cons_succ, List.eraseIdx_cons_zero, List.eraseIdx_cons_succ, List.cons_append, List.nil_append, List.map_append, List.map_cons, List.map_nil, List.sum_append, List.sum_cons, List.sum_nil, List.map_flatMap, Nat.add_zero, Nat.zero_add]; ac_rfl)))), w1, w2⟩ (s.base r.root) (by simp; omega) (by simp; omega) fun kv vv h a => ?_
  refine r_ext rfl ?_
  refine r_ext rfl ?_
  unfold Map_ii_keyValues.j1
  obtain ⟨kb, ko, vb, vo, sp1, sp2, s, w1, w2⟩ := a
  simp only [List.nil_append] at s w1 w2
  refine H _ _ _ h (s.subZ fun _ h => absurd h List.not_mem_nil) ?_ ?_
  · have := w1.rdl s 0 rfl; simpa using this
  · have := w2.rdl s 1 rfl; simpa using this

theorem KeyValues_ok {k : Nat} {t : GT It k} {tb : Nat} (r : StandR h tb t) (hl : t.pt.items.length ≤ 1073741824)
    (H : ∀ kv vv E' h', St h [] E' h' → Rdl 1 h' kv t.pt.items.length ((t.pt.items.map Prod.fst).map I) → Rdl 1 h' vv t.pt.items.length ((t.pt.items.map Prod.snd).map I) → Q (.tuple #[kv, vv]) h') : Map_ii_KeyValues.call #[ptr tb 0] h Q := by
  refine Map_ii_KeyValues.body _ _ _ ?_
  unfold Map_ii_KeyValues.sh
  refine keyValues_ok r hl fun kv vv E' h' s h1 h2 => ?_
  refine r_ext rfl ?_
  refine r_ext rfl ?_
  exact H _ _ _ _ s h1 h2
end Go.Proofs.Ytlihjljdndbpdaa
end
section
namespace Go.Proofs.Ytlihjljdndbpdaa
open Go.Hp
set_option linter.unusedVariables false
set_option linter.unusedSimpArgs false
variable {h0 h : Heap} {Z E : List Rg} {Q : Value → Heap → Prop}

def exPT : PT It 1 := ([(4, 1)], [([(2, 2)] : List It), ([(6, 3)] : List It)])
theorem l_exNode_ok (H : ∀ vi vk E' h', St h [] E' h' → ArgT h' exPT vi vk → Q (.agg #[vi, vk, .int .i64 0]) h') : l_exNode.call #[] h Q := by
  refine l_exNode.body _ _ ?_
  unfold l_exNode.sh
  have s := St.start h
  refine s.r_alloc fun t0 h s => ?_
  ((apply r_build; ((simp only [fillV, fill1, Value.cells, zeros_succ, zeros_zero, List.size_toArray, List.length_cons, List.length_nil, List.length_append, List.take_succ_cons, List.take_zero, List.take_nil, List.drop_succ_cons, List.drop_zero, List.drop_nil, List.cons_append, List.nil_append, List.append_nil, Nat.reduceAdd, Nat.reduceMul, Nat.reduceLeDiff, Nat.reduceEqDiff, and_self, and_true, true_and, if_true, Nat.le_refl, Nat.zero_add, Nat.add_zero, Nat.zero_mul, reduceIte, if_false] <;> rfl))))
  refine s.r_mkSl (sz := 2) (cs := [I 4, I 1]) (by ((simp only [fillV, fill1, Value.cells, zeros_succ, zeros_zero, List.size_toArray, List.length_cons, List.length_nil, List.length_append, List.take_succ_cons, List.take_zero, List.take_nil, List.drop_succ_cons, List.drop_zero, List.drop_nil, List.cons_append, List.nil_append, List.append_nil, Nat.reduceAdd, Nat.reduceMul, Nat.reduceLeDiff, Nat.reduceEqDiff, and_self, and_true, true_and, if_true, Nat.le_refl, Nat.zero_add, Nat.add_zero, Nat.zero_mul, reduceIte, if_false] <;> rfl))) rfl fun t2 h s w2 => ?_
  ((apply r_build; ((simp only [fillV, fill1, Value.cells, zeros_succ, zeros_zero, List.size_toArray, List.length_cons, List.length_nil, List.length_append, List.take_succ_cons, List.take_zero, List.take_nil, List.drop_succ_cons, List.drop_zero, List.drop_nil, List.cons_append, List.nil_append, List.append_nil, Nat.reduceAdd, Nat.reduceMul, Nat.reduceLeDiff, Nat.reduceEqDiff, and_self, and_true, true_and, if_true, Nat.le_refl, Nat.zero_add, Nat.add_zero, Nat.zero_mul, reduceIte, if_false] <;> rfl))))
  refine s.r_mkSl (sz := 2) (cs := [I 2, I 2]) (by ((simp only [fillV, fill1, Value.cells, zeros_succ, zeros_zero, List.size_toArray, List.length_cons, List.length_nil, List.length_append, List.take_succ_cons, List.take_zero, List.take_nil, List.drop_succ_cons, List.drop_zero, List.drop_nil, List.cons_append, List.nil_append, List.append_nil, Nat.reduceAdd, Nat.reduceMul, Nat.reduceLeDiff, Nat.reduceEqDiff, and_self, and_true, true_and, if_true, Nat.le_refl, Nat.zero_add, Nat.add_zero, Nat.zero_mul, reduceIte, if_false] <;> rfl))) rfl fun t4 h s w4 => ?_
  ((apply r_build; ((simp only [fillV, fill1, Value.cells, zeros_succ, zeros_zero, List.size_toArray, List.length_cons, List.length_nil, List.length_append, List.take_succ_cons, List.take_zero, List.take_nil, List.drop_succ_cons, List.drop_zero, List.drop_nil, List.cons_append, List.nil_append, List.append_nil, Nat.reduceAdd, Nat.reduceMul, Nat.reduceLeDiff, Nat.reduceEqDiff, and_self, and_true, true_and, if_true, Nat.le_refl, Nat.zero_add, Nat.add_zero, Nat.zero_mul, reduceIte, if_false] <;> rfl))))
  ((apply r_build; ((simp only [fillV, fill1, Value.cells, zeros_succ, zeros_zero, List.size_toArray, List.length_cons, List.length_nil, List.length_append, List.take_succ_cons, List.take_zero, List.take_nil, List.drop_succ_cons, List.drop_zero, List.drop_nil, List.cons_append, List.nil_append, List.append_nil, Nat.reduceAdd, Nat.reduceMul, Nat.reduceLeDiff, Nat.reduceEqDiff, and_self, and_true, true_and, if_true, Nat.le_refl, Nat.zero_add, Nat.add_zero, Nat.zero_mul, reduceIte, if_false] <;> rfl))))
  refine s.r_mkSl (sz := 2) (cs := [I 6, I 3]) (by ((simp only [fillV, fill1, Value.cells, zeros_succ, zeros_zero, List.size_toArray, List.length_cons, List.length_nil, List.length_append, List.take_succ_cons, List.take_zero, List.take_nil, List.drop_succ_cons, List.drop_zero, List.drop_nil, List.cons_append, List.nil_append, List.append_nil, Nat.reduceAdd, Nat.reduceMul, Nat.reduceLeDiff, Nat.reduceEqDiff, and_self, and_true, true_and, if_true, Nat.le_refl, Nat.zero_add, Nat.add_zero, Nat.zero_mul, reduceIte, if_false] <;> rfl))) rfl fun t7 h s w7 => ?_
  ((apply r_build; ((simp only [fillV, fill1, Value.cells, zeros_succ, zeros_zero, List.size_toArray, List.length_cons, List.length_nil, List.length_append, List.take_succ_cons, List.take_zero, List.take_nil, List.drop_succ_cons, List.drop_zero, List.drop_nil, List.cons_append, List.nil_append, List.append_nil, Nat.reduceAdd, Nat.reduceMul, Nat.reduceLeDiff, Nat.reduceEqDiff, and_self, and_true, true_and, if_true, Nat.le_refl, Nat.zero_add, Nat.add_zero, Nat.zero_mul, reduceIte, if_false] <;> rfl))))
  refine s.r_mkSl (sz := 3) (cs := [.slice (some ⟨t4, 0, none⟩) 1 1, .slice none 0 0, I 0, .slice (some ⟨t7, 0, none⟩) 1 1, .slice none 0 0, I 0]) (by ((simp only [fillV, fill1, Value.cells, zeros_succ, zeros_zero, List.size_toArray, List.length_cons, List.length_nil, List.length_append, List.take_succ_cons, List.take_zero, List.take_nil, List.drop_succ_cons, List.drop_zero, List.drop_nil, List.cons_append, List.nil_append, List.append_nil, Nat.reduceAdd, Nat.reduceMul, Nat.reduceLeDiff, Nat.reduceEqDiff, and_self, and_true, true_and, if_true, Nat.le_refl, Nat.zero_add, Nat.add_zero, Nat.zero_mul, reduceIte, if_false] <;> rfl))) rfl fun t9 h s w9 => ?_
  ((apply r_build; ((simp only [fillV, fill1, Value.cells, zeros_succ, zeros_zero, List.size_toArray, List.length_cons, List.length_nil, List.length_append, List.take_succ_cons, List.take_zero, List.take_nil, List.drop_succ_cons, List.drop_zero, List.drop_nil, List.cons_append, List.nil_append, List.append_nil, Nat.reduceAdd, Nat.reduceMul, Nat.reduceLeDiff, Nat.reduceEqDiff, and_self, and_true, true_and, if_true, Nat.le_refl, Nat.zero_add, Nat.add_zero, Nat.zero_mul, reduceIte, if_false] <;> rfl))))
  refine St.r_storeN0 s 4 rfl rfl (by simp) (by simp [one1]) ?_; intro h s
  refine St.r_loadN0 s 4 rfl (by simp) ?_
  refine H _ _ _ h s ⟨w2.rdl s 3 rfl, by simp [exPT], [(.slice (some ⟨t4, 0, none⟩) 1 1, .slice none 0 0, 0), (.slice (some ⟨t7, 0, none⟩) 1 1, .slice none 0 0, 0)], rfl, w9.rdl s 0 rfl, fun j h1 h2 => ?_⟩
  match j, h1, h2 with
  | 0, h1, h2 => exact ⟨w4.rdl s 2 rfl, _, _, rfl⟩
  | 1, h1, h2 => exact ⟨w7.rdl s 1 rfl, _, _, rfl⟩

theorem i_DKeyValues_ok {k : Nat} (x : PT It k) {d : Int} {vi vk vc : Value} (ha : ArgT h x vi vk) (hsh : x.Sh 2147483647) (hsz : x.items.length ≤ 1073741824) (hvc : one1 vc = true) (h1 : 2 ≤ d) (h2 : d ≤ 1073741824) (hne : x.its ≠ []) (hk : k ≤ 1000000)
    (H : ∀ kv vv E' h', St h [] E' h' → Rdl 1 h' kv x.items.length ((x.items.map Prod.fst).map I) → Rdl 1 h' vv x.items.length ((x.items.map Prod.snd).map I) → Q (.tuple #[kv, vv, .int .i64 x.items.length, .int .i64 ((k + 1 : Nat) : Int)]) h') : i_DKeyValues.call #[.int .i64 d, .agg #[vi, vk, vc]] h Q := by
  refine i_DKeyValues.body _ _ _ _ ?_
  unfold i_DKeyValues.sh
  have s := St.start h
  refine St.r_box (cs := [vi, vk, vc]) s fun t3 h s => ?_
  refine St.r_loadN0 s 0 rfl (by simp) ?_
  refine i_standMap_ok x (ha.fr s.fr) hsh (by omega) hvc h1 h2 hne fun t tb h ht1 ht2 ht3 ht4 s1 => ?_
  have s := s.join s1
  have r : StandR h tb t := ⟨s.get (k := 0) (j := 2) rfl (by simp), by have := s.get (k := 0) (j := 3) rfl (by simp); rw [ht1]; exact this, ⟨0, ht2⟩, fun q hq => s.ok (by
    rw [← ht4.all] at hq
    exact List.mem_append.2 (.inl (List.mem_append.2 (.inl (List.mem_cons_of_mem _ hq)))))⟩
  refine KeyValues_ok r (by rw [ht1]; exact hsz) fun kv vv E' h' s2 hk hv => ?_
  have r' : ∀ {b o : Nat} {v : Value}, cl h b o = some v → cl h' b o = some v := fun e => s2.base e
  refine r_ext rfl ?_
  refine r_ext rfl ?_
  refine Map_ii_Len_ok (r' r.cnt) ?_
  refine Map_ii_Height_ok (t := t) (r' r.root) ((GT.At.of ht2 r.ok).fr s2.fr) (by omega) ?_
  rw [ht1] at hk hv ⊢
  exact H kv vv _ h' (s.join s2) hk hv

theorem l_aliveD_ok (H : ∀ E' h', St h [] E' h' → Q (.bool true) h') : l_aliveD.call #[] h Q := by
  refine l_aliveD.body _ _ ?_
  unfold l_aliveD.sh
  have s := St.start h
  refine l_exNode_ok fun vi vk E' h s1 ha => ?_
  have s := s.join s1
  refine i_DKeyValues_ok exPT ha ⟨by decide, rfl, fun q hq => (by
    rcases List.mem_cons.1 hq with e | e
    · rw [e]; show 1 ≤ 2147483647; decide
    · rcases List.mem_cons.1 e with e | e
      · rw [e]; show 1 ≤ 2147483647; decide
      · exact absurd e List.not_mem_nil)⟩ (by decide) rfl (by decide) (by decide) (by decide) (by decide) fun kv vv E' h s2 hk hv => ?_
  have s := s.join s2
  refine r_ext rfl ?_
  refine r_ext rfl ?_
  refine r_ext rfl ?_
  refine r_ext rfl ?_
  refine hk.lenV ?_
  refine r_cmpI ?_
  refine r_br (fun _ => ?_) (fun e => absurd e (by decide))
  refine hv.lenV ?_
  refine r_cmpI ?_
  refine r_br (fun _ => ?_) (fun e => absurd e (by decide))
  refine r_cmpI ?_
  refine r_br (fun _ => ?_) (fun e => absurd e (by decide))
  refine r_cmpI ?_
  exact H _ h s
end Go.Proofs.Ytlihjljdndbpdaa
end
section
namespace Go.Proofs.Ytlihjljdndbpdaa
open Go.Hp
set_option linter.unusedVariables false
set_option linter.unusedSimpArgs false
variable {h0 h : Heap} {Z E : List Rg} {Q : Value → Heap → Prop}

theorem l_fit_ok {d : Int} (H : Q (.bool (decide (2 ≤ d ∧ d ≤ 128))) h) : l_fit.call #[.int .i64 d] h Q := by
  refine l_fit.body _ _ _ ?_
  unfold l_fit.sh
  refine r_cmpI ?_
  refine r_br (fun e => ?_) (fun e => ?_)
  · have e : 0 < d := by simpa using e
    refine s_Fits.body _ _ _ ?_
    unfold s_Fits.sh
    refine r_cmpI ?_
    refine r_br (fun _ => ?_) (fun e => absurd e (by simp; omega))
    refine r_cmpI ?_
    refine r_br (fun e => ?_) (fun e => ?_)
    · refine r_cmpI ?_
      have e : 2 ≤ d := by simpa using e
      simpa [e] using H
    · have e : ¬ 2 ≤ d := by simpa using e
      simpa [e] using H
  · have e : ¬ 2 ≤ d := (by have h : d ≤ 0 := (by simpa using e); omega)
    simpa [e] using H

theorem s_Rank_nil {k : Int} (H : Q (.int .i64 k) h) : s_Rank.call #[.slice none 0 0, .int .i64 k] h Q := by
  refine s_Rank.body _ _ _ _ ?_
  unfold s_Rank.sh
  refine r_len ?_
  refine r_cmpI ?_
  exact r_if (fun _ => H) (fun e => absurd e (by simp))

theorem s_Before_nil {p q : It} (H : ∀ E' h', St h [] E' h' → Q (.bool (decide (p.1 < q.1))) h') : s_Before.call #[.slice none 0 0, .agg (encA p).toArray, .agg (encA q).toArray] h Q := by
  refine s_Before.body _ _ _ _ _ ?_
  unfold s_Before.sh
  have s := St.start h
  refine s.r_box fun t4 h s => ?_
  refine s.r_box fun t5 h s => ?_
  refine r_fld ?_
  refine St.r_load0 s 1 rfl rfl ?_
  refine r_fld ?_
  refine St.r_load0 s 0 rfl rfl ?_
  refine s_Rank_nil ?_
  refine ⟨St.r_still0 s 0 rfl rfl, ?_⟩
  refine s_Rank_nil ?_
  refine r_cmpI ?_
  exact H _ _ s

/-- Keys that ascend strictly. -/
def Asc (l : List It) : Prop := ∀ i (h1 : i + 1 < l.length), l[i].1 < l[i + 1].1
theorem s_Rising_nil {l : List It} {v : Value} (hr : Rdl 2 h v l.length (l.flatMap encA)) (hl : l.length ≤ 4611686018427387903) (H : ∀ (b : Bool) E' h', (b = true ↔ Asc l) → St h [] E' h' → Q (.bool b) h') : s_Rising.call #[.slice none 0 0, v] h Q := by
  refine s_Rising.body _ _ _ _ ?_
  unfold s_Rising.sh
  have s := St.start h
  refine loop_intro (fun t h' => ∃ (j : Nat) (E' : List Rg), t = [.int .i64 ((j + 1 : Nat) : Int)] ∧ (j ≤ l.length) ∧ (∀ i (h1 : i + 1 < l.length), i < j → l[i].1 < l[i + 1].1) ∧ St h [] E' h') (fun t _ => l.length + 1 - (Hp.iv (t.getD 0 undef)).toNat) ⟨0, [], rfl, by omega, fun i h1 h2 => by omega, s⟩ ?_
  rintro t h' ⟨j, E', rfl, hj, hlt, s⟩
  unfold s_Rising.l2.b
  refine (hr.st s).lenV ?_
  refine r_cmpI ?_
  refine r_if (fun e => ?_) (fun e => ?_)
  · have e : j + 1 < l.length := by have := of_decide_eq_true e; simp at this; omega
    unfold s_Rising.j3
    refine r_sub (z := (j : Int)) (by rw [i64w (by omega) (by omega)]; omega) ?_
    refine (hr.st s).at rfl (fun _ => rfl) rfl rfl (show j < l.length by omega) fun b o hb => ?_
    refine hb.loadN rfl ?_
    refine (hr.st s).at rfl (fun _ => rfl) rfl rfl e fun b o hb => ?_
    refine hb.loadN rfl ?_
    refine s_Before_nil fun E2 h s2 => ?_
    have s := s.join s2
    refine r_not ?_
    refine r_if (fun e2 => ?_) (fun e2 => ?_)
    · refine H false _ _ ⟨fun e => (by cases e), fun ha => ?_⟩ s
      have h1 := ha j e
      simp at e2; omega
    · unfold s_Rising.j4
      refine r_add (z := ((j + 1 + 1 : Nat) : Int)) (by rw [i64w (by omega) (by omega)]; omega) ?_
      refine ⟨⟨j + 1, _, rfl, by omega, fun i h1 h2 => ?_, s⟩, by simp; omega⟩
      rcases Nat.lt_or_ge i j with h3 | h3
      · exact hlt i h1 h3
      · have : i = j := by omega
        subst this; simpa using e2
  · have e : ¬ j + 1 < l.length := by have := of_decide_eq_false e; simp at this; omega
    unfold s_Rising.j1
    exact H true _ _ ⟨fun _ i h1 => hlt i h1 (by omega), fun _ => rfl⟩ s

theorem Asc.lt {l : List It} (ha : Asc l) : ∀ i j (h1 : i < j) (h2 : j < l.length), l[i].1 < l[j].1 := fun i j h1 h2 => by
  induction j with
  | zero => omega
  | succ j ih =>
    have := ha j h2
    rcases Nat.lt_or_ge i j with h3 | h3
    · have := ih h3 (by omega); omega
    · have : i = j := by omega
      subst this; exact this
end Go.Proofs.Ytlihjljdndbpdaa
end
section
namespace Go.Proofs.Ytlihjljdndbpdaa
open Go.Hp
set_option linter.unusedVariables false
set_option linter.unusedSimpArgs false
variable {h0 h : Heap} {Z E : List Rg} {Q : Value → Heap → Prop}

theorem one_encA : ∀ (l : List It) (y : Value), y ∈ l.flatMap encA → one1 y = true := fun l y hy => by
  obtain ⟨p, _, hp⟩ := List.mem_flatMap.1 hy
  simp only [List.mem_cons, List.not_mem_nil, or_false] at hp
  rcases hp with rfl | rfl <;> rfl

theorem s_NodeItems_ok : ∀ {k : Nat} (t : DT k) {h : Heap} {vi vk vc : Value} {Q : Value → Heap → Prop}, ArgD h t vi vk → t.bulk ≤ 1073741824 → one1 vc = true →
    (∀ v E' h', St h [] E' h' → Rdl 2 h' v t.items.length (t.items.flatMap encA) → Q v h') → s_NodeItems.call #[.agg #[vi, vk, vc]] h Q
  | 0, e, _, _, _, _, _, _, _, _, _ => e.elim
  | k + 1, t, h, vi, vk, vc, Q, ⟨hr, cs, hcl, hrk, hks⟩, hb, hvc, H => by
    have hbulk : 1 + t.1.length + (t.2.map DT.bulk).sum ≤ 1073741824 := hb
    have hkl : t.2.length ≤ (t.2.map DT.bulk).sum := sum_ge_length DT.bulk (fun a => by
      cases k with
      | zero => exact a.elim
      | succ k => show 1 ≤ 1 + _ + _; omega) t.2
    have hit : t.items = inter t.1 (t.2.map DT.items) := rfl
    have hin := inter_pre2 t.1 (t.2.map DT.items)
    have hil := DT.items_le t
    rw [List.length_map] at hin
    refine s_NodeItems.body _ _ _ ?_
    unfold s_NodeItems.sh
    have s := St.start h
    refine St.r_box (cs := [vi, vk, vc]) s fun b h s => ?_
    refine r_fld ?_
    refine St.r_load0 s 0 rfl rfl ?_
    refine (hrk.st s).lenV ?_
    refine r_fld ?_
    refine St.r_load0 s 0 rfl rfl ?_
    refine (hr.st s).lenV ?_
    have hmax : (if (t.1.length : Int) > (cs.length : Int) then (t.1.length : Int) else (cs.length : Int)) = ((max t.2.length t.1.length : Nat) : Int) := by split <;> omega
    refine ⟨_, _, _, rfl, rfl, ?_⟩
    rw [hmax]
    refine loop_intro (fun l h' => ∃ (j : Nat) (v : Value) (rb ro : Nat) (sp : List Value) (E' : List Rg), j ≤ max t.2.length t.1.length ∧ l = [v, .int .i64 j] ∧ St _ [] ((b, 0, [vi, vk, vc]) :: (rb, ro, (pre2 t.1 (t.2.map DT.items) j).flatMap encA ++ sp) :: E') h' ∧
        Own 2 v (pre2 t.1 (t.2.map DT.items) j).length rb ro ((pre2 t.1 (t.2.map DT.items) j).flatMap encA) sp) (fun l _ => max t.2.length t.1.length - (Hp.iv (l.getD 1 undef)).toNat)
      ⟨0, _, 0, 0, [], [], by omega, rfl, (s.empty 0 0).perm (by simp only [pre2]; ((apply perm_rg; intro f; simp only [List.set_cons_zero, List.set_cons_succ, List.eraseIdx_cons_zero, List.eraseIdx_cons_succ, List.cons_append, List.nil_append, List.map_append, List.map_cons, List.map_nil, List.sum_append, List.sum_cons, List.sum_nil, List.map_flatMap, Nat.add_zero, Nat.zero_add]; ac_rfl))), Own.nil 2 0 0⟩ ?_
    rintro l h ⟨j, v, rb, ro, sp, E', hj, rfl, s, w⟩
    unfold s_NodeItems.l2.b
    refine r_cmpI ?_
    refine r_if (fun hlt => ?_) (fun hge => ?_)
    · have hlt : j < max t.2.length t.1.length := by have := of_decide_eq_true hlt; simp at this; omega
      have hps := pre2_succ t.1 (t.2.map DT.items) j
      have hpl := pre2_le (its := t.1) (ks := t.2.map DT.items) (show j + 1 ≤ max t.2.length t.1.length from hlt)
      rw [← hin, ← hit] at hpl
      have hpl' := congrArg List.length hps
      simp only [List.length_append] at hpl'
      -- behind the kid's items
      have step : ∀ (A : List It), A = pre2 t.1 (t.2.map DT.items) j ++ (t.2.map DT.items)[j]?.getD [] → ∀ (v : Value) (rb ro : Nat) (sp : List Value) (E' : List Rg) (h : Heap), St _ [] ((b, 0, [vi, vk, vc]) :: (rb, ro, A.flatMap encA ++ sp) :: E') h →
          Own 2 v A.length rb ro (A.flatMap encA) sp →
          s_NodeItems.j5 (ptr b 0) v (.int .i64 j) (.int .i64 ((max t.2.length t.1.length : Nat) : Int)) (.int .i64 j) h (fun l' h' => (∃ (j : Nat) (v : Value) (rb ro : Nat) (sp : List Value) (E' : List Rg), j ≤ max t.2.length t.1.length ∧ l' = [v, .int .i64 j] ∧ St _ [] ((b, 0, [vi, vk, vc]) :: (rb, ro, (pre2 t.1 (t.2.map DT.items) j).flatMap encA ++ sp) :: E') h' ∧
            Own 2 v (pre2 t.1 (t.2.map DT.items) j).length rb ro ((pre2 t.1 (t.2.map DT.items) j).flatMap encA) sp) ∧ max t.2.length t.1.length - (Hp.iv (l'.getD 1 undef)).toNat < max t.2.length t.1.length - j) Q := fun A hA v rb ro sp E' h s w => by
        have hAl := congrArg List.length hA
        rw [List.length_append] at hAl
        unfold s_NodeItems.j5
        refine r_fld ?_
        refine St.r_load0 s 0 rfl rfl ?_
        refine (hr.st s).lenV ?_
        refine r_cmpI ?_
        refine r_if (fun e => ?_) (fun e => ?_)
        · have e : j < t.1.length := by simpa using e
          refine r_fld ?_
          refine St.r_load0 s 0 rfl rfl ?_
          refine (hr.st s).at rfl (fun _ => rfl) rfl rfl e fun b' o' hb' => ?_
          refine hb'.loadN rfl ?_
          refine s.r_mkSl (sz := 2) (cs := encA t.1[j]) (by ((simp only [fillV, fill1, Value.cells, zeros_succ, zeros_zero, List.size_toArray, List.length_cons, List.length_nil, List.length_append, List.take_succ_cons, List.take_zero, List.take_nil, List.drop_succ_cons, List.drop_zero, List.drop_nil, List.cons_append, List.nil_append, List.append_nil, Nat.reduceAdd, Nat.reduceMul, Nat.reduceLeDiff, Nat.reduceEqDiff, and_self, and_true, true_and, if_true, Nat.le_refl, Nat.zero_add, Nat.add_zero, Nat.zero_mul, reduceIte, if_false] <;> rfl))) rfl fun q h s wq => ?_
          refine s.r_app 2 (sz := 2) (n := 1) (new := encA t.1[j]) rfl w rfl (wq.rdl s 0 rfl) (by simp [one1]) (by omega) (by omega) fun v' b' o' sp' h s w' => ?_
          unfold s_NodeItems.j4
          refine r_add (z := ((j + 1 : Nat) : Int)) (by rw [i64w (by omega) (by omega)]; omega) ?_
          have hx : pre2 t.1 (t.2.map DT.items) (j + 1) = A ++ [t.1[j]] := by rw [hps, hA, List.getElem?_eq_getElem e, List.append_assoc]; rfl
          refine ⟨⟨j + 1, v', b', o', sp', E', hlt, rfl, ?_, ?_⟩, by simp; omega⟩
          · rw [hx, List.flatMap_append]
            have hsing : [t.1[j]].flatMap encA = encA t.1[j] := by simp
            rw [hsing]
            exact s.drop 1
          · rw [hx, List.flatMap_append, List.length_append]
            have hsing : [t.1[j]].flatMap encA = encA t.1[j] := by simp
            rw [hsing]
            exact w'
        · have e : ¬ j < t.1.length := by simpa using e
          unfold s_NodeItems.j4
          refine r_add (z := ((j + 1 : Nat) : Int)) (by rw [i64w (by omega) (by omega)]; omega) ?_
          have hx : pre2 t.1 (t.2.map DT.items) (j + 1) = A := by rw [hps, hA, List.getElem?_eq_none (by omega : t.1.length ≤ j)]; simp
          refine ⟨⟨j + 1, v, rb, ro, sp, E', hlt, rfl, ?_, ?_⟩, by simp; omega⟩
          · rw [hx]; exact s
          · rw [hx]; exact w
      unfold s_NodeItems.j3
      refine r_fld ?_
      refine St.r_load0 s 0 rfl rfl ?_
      refine (hrk.st s).lenV ?_
      refine r_cmpI ?_
      refine r_if (fun e => ?_) (fun e => ?_)
      · have e : j < t.2.length := by have := of_decide_eq_true e; omega
        refine r_fld ?_
        refine St.r_load0 s 0 rfl rfl ?_
        refine (hrk.st s).at (n := j) rfl (fun _ => rfl) rfl rfl (by omega) fun b' o' hb' => ?_
        refine hb'.loadN rfl ?_
        have hkb : t.2[j].bulk ≤ (t.2.map DT.bulk).sum := mem_le_sum (List.mem_map.2 ⟨_, List.getElem_mem e, rfl⟩)
        refine s_NodeItems_ok t.2[j] ((hks j e (by omega)).fr s.fr) (by omega) rfl fun v' E2 h s2 hv => ?_
        have s := (s.join s2).perm List.perm_append_comm
        have hg : (t.2.map DT.items)[j]?.getD [] = t.2[j].items := by simp [e]
        refine s.r_app 1 (sz := 2) (n := t.2[j].items.length) (new := t.2[j].items.flatMap encA) rfl w rfl hv (one_encA _) (by rw [hg] at hpl'; omega) (by rw [hg] at hpl'; omega) fun v' b' o' sp' h s w' => ?_
        refine step _ rfl v' b' o' sp' (E' ++ E2) h ?_ ?_
        · rw [hg, List.flatMap_append]; exact s
        · rw [hg, List.flatMap_append, List.length_append]; exact w'
      · have e : ¬ j < t.2.length := by have := of_decide_eq_false e; omega
        have hg : (t.2.map DT.items)[j]?.getD [] = [] := by simp [List.getElem?_eq_none (show t.2.length ≤ j by omega)]
        refine step _ rfl v rb ro sp E' h ?_ ?_
        · rw [hg, List.append_nil]; exact s
        · rw [hg, List.append_nil]; exact w
    · have hge : j = max t.2.length t.1.length := by have := of_decide_eq_false hge; simp at this; omega
      subst hge
      unfold s_NodeItems.j1
      rw [← hin, ← hit] at s w
      exact H v _ h s (w.rdl s 1 rfl)
end Go.Proofs.Ytlihjljdndbpdaa
end
section
namespace Go.Proofs.Ytlihjljdndbpdaa
open Go.Hp
set_option linter.unusedVariables false
set_option linter.unusedSimpArgs false
variable {h0 h : Heap} {Z E : List Rg} {Q : Value → Heap → Prop}

abbrev encN (c : Value × Value × Int) : List Value := [c.1, c.2.1, .int .i64 c.2.2]
theorem s_Levels_ok : ∀ {k : Nat} (t : DT k) {g : Heap} {vi vk vc : Value} {Q : Value → Heap → Prop}, ArgD g t vi vk → t.bulk ≤ 1073741824 → k ≤ 1099511627776 → one1 vc = true →
    (∀ E' h', St g [] E' h' → Q (.tuple #[.int .i64 t.lv.1, .bool t.lv.2]) h') → s_Levels.call #[.agg #[vi, vk, vc]] g Q
  | 0, e, _, _, _, _, _, _, _, _, _, _ => e.elim
  | k + 1, t, g, vi, vk, vc, Q, ⟨hr, cs, hcl, hrk, hks⟩, hb, hkb, hvc, H => by
    have hbulk := t.kids_le
    refine s_Levels.body _ _ _ ?_
    unfold s_Levels.sh
    have s := St.start g
    refine St.r_box (cs := [vi, vk, vc]) s fun b h s => ?_
    refine r_fld ?_
    refine St.r_load0 s 0 rfl rfl ?_
    refine (hrk.st s).lenV ?_
    refine r_cmpI ?_
    have hkb2 : ∀ j (hj : j < t.2.length), t.2[j].bulk ≤ 1073741824 := fun j hj => by
      have := t.kid_le (List.getElem_mem hj)
      omega
    match ht : t.2 with
    | [] =>
      have hlv : t.lv = (1, true) := by unfold DT.lv; rw [ht]
      rw [ht] at hcl
      refine r_if (fun _ => ?_) (fun e => absurd e (by simp at hcl; simp [hcl]))
      have := H _ _ s
      rw [hlv] at this
      exact this
    | q :: qs =>
      have htl : t.2.length = qs.length + 1 := by rw [ht]; rfl
      refine r_if (fun e => absurd (eq_of_beq e) (by omega)) (fun _ => ?_)
      unfold s_Levels.j1
      refine r_fld ?_
      refine St.r_load0 s 0 rfl rfl ?_
      refine (hrk.st s).lenV ?_
      refine r_fld ?_
      refine St.r_load0 s 0 rfl rfl ?_
      refine (hr.st s).lenV ?_
      refine r_add (z := ((t.1.length + 1 : Nat) : Int)) (by rw [i64w (by omega) (by omega)]; omega) ?_
      refine r_cmpI ?_
      refine r_if (fun e => ?_) (fun e => ?_)
      · have e : qs.length ≠ t.1.length := by simp at e; omega
        have hlv : t.lv = (0, false) := by unfold DT.lv; rw [ht]; simp only [if_neg e]
        have := H _ _ s
        rw [hlv] at this
        exact this
      · have e : qs.length = t.1.length := by simp at e; omega
        have hlv : t.lv = (q.lv.1 + 1, q.lv.2 && qs.all fun x => x.lv.2 && x.lv.1 == q.lv.1) := by
          conv => lhs; unfold DT.lv
          rw [ht]; simp only [if_pos e]
        unfold s_Levels.j2
        refine r_fld ?_
        refine St.r_load0 s 0 rfl rfl ?_
        refine (hrk.st s).at (n := 0) rfl (fun _ => rfl) rfl rfl (by omega) fun b' o' hb' => ?_
        refine hb'.loadN rfl ?_
        have hgg : ∀ j (hj : j < t.2.length), t.2[j] = (q :: qs)[j]'(by rw [← ht]; exact hj) := fun j hj => List.getElem_of_eq ht hj
        have hkq : ArgD g q cs[0].1 cs[0].2.1 := by have := hks 0 (by rw [ht]; simp) (by omega); rw [hgg] at this; exact this
        have hqb : q.bulk ≤ 1073741824 := by have := hkb2 0 (by rw [ht]; simp); rw [hgg] at this; exact this
        have hql := q.lv_le
        refine s_Levels_ok q (hkq.fr s.fr) hqb (by omega) rfl fun E2 h s2 => ?_
        have s := (s.join s2).perm List.perm_append_comm
        refine r_ext rfl ?_
        refine r_ext rfl ?_
        refine r_fld ?_
        refine St.r_load0 s 0 rfl rfl ?_
        refine hrk.slc (l := 1) (m := cs.length) ⟨_, _, rfl, by omega, by omega, rfl⟩ rfl (by omega) (Nat.le_refl _) fun vt hvt => ?_
        rw [show 1 * 3 = 1 * 3 from rfl, flat_drop (f := encN) (sz := 3) (fun _ => rfl), List.take_of_length_le (by rw [flat_len (f := encN) (sz := 3) (fun _ => rfl)]; simp)] at hvt
        refine (hvt.st s).lenV ?_
        refine loop_intro (fun l h' => ∃ (j : Nat) (bb : Bool) (E' : List Rg), j ≤ qs.length ∧ l = [.bool bb, .int .i64 j] ∧ bb = (q.lv.2 && (qs.take j).all fun x => x.lv.2 && x.lv.1 == q.lv.1) ∧ St g [] E' h') (fun l _ => qs.length - (Hp.iv (l.getD 1 undef)).toNat)
          ⟨0, _, _, by omega, rfl, by simp, s⟩ ?_
        rintro l h2 ⟨j, bb, E', hj, rfl, hbb, s⟩
        unfold s_Levels.l4.b
        refine r_cmpI ?_
        refine r_if (fun hlt => ?_) (fun hge => ?_)
        · have hlt : j < qs.length := by have := of_decide_eq_true hlt; simp at this; omega
          unfold s_Levels.j5
          have hdl : j < (cs.drop 1).length := by simp; omega
          have hvt2 : Rdl 3 h2 vt (cs.drop 1).length ((cs.drop 1).flatMap encN) := by rw [List.length_drop]; exact hvt.st s
          refine hvt2.at (n := j) rfl (fun _ => rfl) rfl rfl hdl fun b' o' hb' => ?_
          refine hb'.loadN rfl ?_
          refine s.r_alloc fun t7 h s => ?_
          have hkj : ArgD g qs[j] (cs.drop 1)[j].1 (cs.drop 1)[j].2.1 := by
            have := hks (j + 1) (by rw [ht]; simp; omega) (by omega)
            rw [hgg] at this
            simpa [Nat.add_comm] using this
          have hjb : qs[j].bulk ≤ 1073741824 := by have := hkb2 (j + 1) (by rw [ht]; simp; omega); rw [hgg] at this; exact this
          refine St.r_storeN0 s 0 rfl rfl (by simp) (by simp only [List.mem_cons, List.not_mem_nil, or_false]; intro y hy; rcases hy with rfl | rfl | rfl; exact hkj.one.1; exact hkj.one.2; rfl) ?_; intro h s
          refine St.r_loadN0 s 0 rfl (by simp) ?_
          have hjl := qs[j].lv_le
          refine s_Levels_ok qs[j] (hkj.fr s.fr) hjb (by omega) rfl fun E3 h s3 => ?_
          have s := s.join s3
          refine r_ext rfl ?_
          refine r_ext rfl ?_
          have fin : ∀ (b2 : Bool), b2 = (bb && (qs[j].lv.2 && qs[j].lv.1 == q.lv.1)) → s_Levels.j6 (.int .i64 q.lv.1) (.bool b2) vt (.int .i64 ((cs.length - 1 : Nat) : Int)) (.int .i64 j) h (fun l' h' => (∃ (j : Nat) (bb : Bool) (E' : List Rg), j ≤ qs.length ∧ l' = [.bool bb, .int .i64 j] ∧ bb = (q.lv.2 && (qs.take j).all fun x => x.lv.2 && x.lv.1 == q.lv.1) ∧ St g [] E' h') ∧
              qs.length - (Hp.iv (l'.getD 1 undef)).toNat < qs.length - j) Q := fun b2 hb2 => by
            unfold s_Levels.j6
            refine r_add (z := ((j + 1 : Nat) : Int)) (by rw [i64w (by omega) (by omega)]; omega) ?_
            refine ⟨⟨j + 1, b2, _, hlt, rfl, ?_, s⟩, by simp; omega⟩
            rw [hb2, hbb, List.take_succ_eq_append_getElem hlt, List.all_append]
            simp [Bool.and_assoc]
          refine r_br (fun e1 => ?_) (fun e1 => fin _ (by simp at e1; simp [e1]))
          refine r_br (fun e2 => ?_) (fun e2 => fin _ (by simp at e2; simp [e2]))
          refine r_cmpI ?_
          exact fin _ (by simp [e1, e2]; rw [Bool.eq_iff_iff]; simp; omega)
        · have hge : j = qs.length := by have := of_decide_eq_false hge; simp at this; omega
          subst hge
          unfold s_Levels.j3
          refine r_add (z := ((q.lv.1 + 1 : Nat) : Int)) (by rw [i64w (by omega) (by omega)]; omega) ?_
          have := H _ _ s
          rw [hlv] at this
          rw [hbb, List.take_length]
          exact this

theorem s_Filled_ok : ∀ {k : Nat} (t : DT k) {g : Heap} {vi vk vc : Value} {d least : Int} {Q : Value → Heap → Prop}, ArgD g t vi vk → t.bulk ≤ 1073741824 → 0 ≤ d → d ≤ 1073741824 → one1 vc = true →
    (∀ E' h', St g [] E' h' → Q (.bool (t.fl d least)) h') → s_Filled.call #[.int .i64 d, .int .i64 least, .agg #[vi, vk, vc]] g Q
  | 0, e, _, _, _, _, _, _, _, _, _, _, _, _, _ => e.elim
  | k + 1, t, g, vi, vk, vc, d, least, Q, ⟨hr, cs, hcl, hrk, hks⟩, hb, hd0, hd, hvc, H => by
    have hbulk := t.kids_le
    have hfl : t.fl d least = (decide (least ≤ t.1.length) && decide ((t.1.length : Int) ≤ 2 * d - 1) && t.2.all fun q => q.fl d (d - 1)) := rfl
    have no : ∀ {E' h'}, St g [] E' h' → t.fl d least = false → Q (.bool false) h' := fun s e => by have := H _ _ s; rwa [e] at this
    refine s_Filled.body _ _ _ _ _ ?_
    unfold s_Filled.sh
    have s := St.start g
    refine St.r_box (cs := [vi, vk, vc]) s fun b h s => ?_
    refine r_fld ?_
    refine St.r_load0 s 0 rfl rfl ?_
    refine (hr.st s).lenV ?_
    refine r_cmpI ?_
    refine r_br (fun e1 => ?_) (fun e1 => no s (by have := of_decide_eq_true (show decide ((t.1.length : Int) < least) = true from e1); rw [hfl]; simp; omega))
    have e1 := of_decide_eq_false (show decide ((t.1.length : Int) < least) = false from e1)
    refine r_fld ?_
    refine St.r_load0 s 0 rfl rfl ?_
    refine (hr.st s).lenV ?_
    refine ⟨_, _, _, rfl, rfl, ?_⟩
    rw [i64w (n := 2 * d) (by omega) (by omega)]
    refine r_sub (z := 2 * d - 1) (by rw [i64w (by omega) (by omega)]) ?_
    refine r_cmpI ?_
    refine r_if (fun e2 => no s (by have := of_decide_eq_true e2; rw [hfl]; simp; omega)) (fun e2 => ?_)
    have e2 := of_decide_eq_false e2
    unfold s_Filled.j1
    refine r_fld ?_
    refine St.r_load0 s 0 rfl rfl ?_
    refine (hrk.st s).lenV ?_
    refine loop_intro (fun l h' => ∃ (j : Nat) (E' : List Rg), j ≤ t.2.length ∧ l = [.int .i64 j] ∧ ((t.2.take j).all fun x => x.fl d (d - 1)) = true ∧ St g [] E' h') (fun l _ => t.2.length - (Hp.iv (l.getD 0 undef)).toNat)
      ⟨0, _, by omega, rfl, by simp, s⟩ ?_
    rintro l h2 ⟨j, E', hj, rfl, hall, s⟩
    unfold s_Filled.l3.b
    refine r_cmpI ?_
    refine r_if (fun hlt => ?_) (fun hge => ?_)
    · have hlt : j < t.2.length := by have := of_decide_eq_true hlt; simp at this; omega
      unfold s_Filled.j4
      refine (hrk.st s).at (n := j) rfl (fun _ => rfl) rfl rfl (by omega) fun b' o' hb' => ?_
      refine hb'.loadN rfl ?_
      refine s.r_alloc fun t8 h s => ?_
      have hkj := hks j hlt (by omega)
      have hjb : t.2[j].bulk ≤ 1073741824 := by have := t.kid_le (List.getElem_mem hlt); omega
      refine St.r_storeN0 s 0 rfl rfl (by simp) (by simp only [List.mem_cons, List.not_mem_nil, or_false]; intro y hy; rcases hy with rfl | rfl | rfl; exact hkj.one.1; exact hkj.one.2; rfl) ?_; intro h s
      refine r_sub (z := d - 1) (by rw [i64w (by omega) (by omega)]) ?_
      refine St.r_loadN0 s 0 rfl (by simp) ?_
      refine s_Filled_ok t.2[j] (hkj.fr s.fr) hjb hd0 hd rfl fun E3 h s3 => ?_
      have s := s.join s3
      refine r_not ?_
      refine r_if (fun e3 => no s ?_) (fun e3 => ?_)
      · have e3 : t.2[j].fl d (d - 1) = false := by simpa using e3
        have : (t.2.all fun q => q.fl d (d - 1)) = false := by
          rw [List.all_eq_false]
          exact ⟨_, List.getElem_mem hlt, by rw [e3]; decide⟩
        rw [hfl, this]; simp
      · unfold s_Filled.j5
        refine r_add (z := ((j + 1 : Nat) : Int)) (by rw [i64w (by omega) (by omega)]; omega) ?_
        refine ⟨⟨j + 1, _, hlt, rfl, ?_, s⟩, by simp; omega⟩
        have e3 : t.2[j].fl d (d - 1) = true := by simpa using e3
        rw [List.take_succ_eq_append_getElem hlt, List.all_append, hall]
        simp [e3]
    · have hge : j = t.2.length := by have := of_decide_eq_false hge; simp at this; omega
      subst hge
      rw [List.take_length] at hall
      unfold s_Filled.j2
      have := H _ _ s
      rw [hfl, hall] at this
      have h1 : least ≤ (t.1.length : Int) := by omega
      have h2 : (t.1.length : Int) ≤ 2 * d - 1 := by omega
      simpa [h1, h2] using this

/-- Whether a node is the root of a valid tree of a degree. -/
def validB (d : Int) {k : Nat} (t : DT k) : Prop := match k, t with
  | 0, e => e.elim
  | _ + 1, t => (t.1 = [] ∧ t.2 = []) ∨ (t.lv.2 = true ∧ t.fl (if d = 0 then 32 else d) 1 = true ∧ Asc t.items)

theorem s_Valid_ok {k : Nat} (t : DT (k + 1)) {g : Heap} {vi vk vc v2 : Value} {d : Int} {Q : Value → Heap → Prop} (ha : ArgD g t vi vk) (hb : t.bulk ≤ 1073741824) (hk : k ≤ 1099511627775) (hd0 : 0 ≤ d) (hd : d ≤ 1073741824) (hvc : one1 vc = true) (hv2 : one1 v2 = true)
    (H : ∀ (b : Bool) E' h', (b = true ↔ validB d t) → St g [] E' h' → Q (.bool b) h') : s_Valid.call #[.agg #[.slice none 0 0, .int .i64 d, v2], .agg #[vi, vk, vc]] g Q := by
  have ha' := ha
  obtain ⟨hr, cs, hcl, hrk, hks⟩ := ha
  have hbulk := t.kids_le
  refine s_Valid.body _ _ _ _ ?_
  unfold s_Valid.sh
  have s := St.start g
  refine St.r_box (cs := [.slice none 0 0, .int .i64 d, v2]) s fun b2 h s => ?_
  refine St.r_box (cs := [vi, vk, vc]) s fun b3 h s => ?_
  refine r_fld ?_
  refine St.r_load0 s 0 rfl rfl ?_
  refine (hr.st s).lenV ?_
  refine r_cmpI ?_
  have main : ¬ (t.1 = [] ∧ t.2 = []) → s_Valid.j1 (ptr b2 0) (ptr b3 0) h Q := fun hne => by
    unfold s_Valid.j1
    refine St.r_loadN0 s 0 rfl (by simp) ?_
    refine s_Levels_ok t (ha'.fr s.fr) hb (by omega) hvc fun E1 h s1 => ?_
    have s := (s.join s1).perm List.perm_append_comm
    refine r_ext rfl ?_
    refine r_ext rfl ?_
    refine r_br (fun e1 => ?_) (fun e1 => H false _ _ ⟨fun e => (by cases e), fun hv => ?_⟩ s)
    · refine r_fld ?_
      refine St.r_load0 s 1 rfl rfl ?_
      refine St.r_loadN0 s 0 rfl (by simp) ?_
      refine s_Width.body _ _ _ ?_
      unfold s_Width.sh
      refine r_cmpI ?_
      have rest : ∀ (w : Int), w = (if d = 0 then 32 else d) → stillN 3 (ptr b3 0) (.agg #[vi, vk, vc]) h ∧ s_Filled.call #[.int .i64 w, .int .i64 1, .agg #[vi, vk, vc]] h fun t28 h => br t28 true (fld 0 (ptr b2 0) fun t31 =>
          load1 t31 h fun t32 => loadN 3 (ptr b3 0) h fun t33 => s_NodeItems.call #[t33] h fun t34 h => still1 t31 t32 h ∧ s_Rising.call #[t32, t34] h fun t35 h => Q t35 h) (Q (.bool false) h) := fun w hw => by
        refine ⟨St.r_stillN0 s 0 (j := 0) (n := 3) rfl (by simp) rfl, ?_⟩
        refine s_Filled_ok t (ha'.fr s.fr) hb (by rw [hw]; split <;> omega) (by rw [hw]; split <;> omega) hvc fun E2 h s2 => ?_
        have s := (s.join s2).perm List.perm_append_comm
        rw [hw]
        refine r_br (fun e2 => ?_) (fun e2 => H false _ _ ⟨fun e => (by cases e), fun hv => ?_⟩ s)
        · refine r_fld ?_
          refine St.r_load0 s 1 rfl rfl ?_
          refine St.r_loadN0 s 0 rfl (by simp) ?_
          refine s_NodeItems_ok t (ha'.fr s.fr) hb hvc fun v E3 h s3 hv => ?_
          have hil := t.items_le
          have s := (s.join s3).perm List.perm_append_comm
          refine ⟨St.r_still0 s 1 rfl rfl, ?_⟩
          refine s_Rising_nil hv (by omega) fun bb E4 h hbb s4 => ?_
          refine H bb _ _ ⟨fun e => .inr ⟨e1, e2, hbb.1 e⟩, fun hv => ?_⟩ (s.join s4)
          rcases hv with hv | hv
          · exact absurd hv hne
          · exact hbb.2 hv.2.2
        · rcases hv with hv | hv
          · exact absurd hv hne
          · rw [hv.2.1] at e2; cases e2
      refine r_if (fun e => rest 32 (by have := eq_of_beq e; rw [if_pos this])) (fun e => ?_)
      unfold s_Width.j1
      exact rest d (by have : d ≠ 0 := by simpa using e
                       rw [if_neg this])
    · rcases hv with hv | hv
      · exact absurd hv hne
      · rw [hv.1] at e1; cases e1
  refine r_br (fun e => ?_) (fun e => main fun hh => ?_)
  · have e : t.1 = [] := List.length_eq_zero_iff.1 (by have := eq_of_beq e; omega)
    refine r_fld ?_
    refine St.r_load0 s 0 rfl rfl ?_
    refine (hrk.st s).lenV ?_
    refine r_cmpI ?_
    refine r_if (fun e2 => ?_) (fun e2 => main fun hh => ?_)
    · have e2 : t.2 = [] := List.length_eq_zero_iff.1 (by have := eq_of_beq e2; omega)
      exact H true _ _ ⟨fun _ => .inl ⟨e, e2⟩, fun _ => rfl⟩ s
    · rw [hh.2] at hcl
      simp at hcl
      rw [hcl] at e2
      simp at e2
  · rw [hh.1] at e
    simp at e

theorem l_validD_ok {k : Nat} (t : DT (k + 1)) {g : Heap} {vi vk vc : Value} {d : Int} {Q : Value → Heap → Prop} (ha : ArgD g t vi vk) (hb : t.bulk ≤ 1073741824) (hk : k ≤ 1099511627775) (hvc : one1 vc = true)
    (H : ∀ (b : Bool) E' h', (b = true ↔ 2 ≤ d ∧ d ≤ 128 ∧ validB d t) → St g [] E' h' → Q (.bool b) h') : l_validD.call #[.int .i64 d, .agg #[vi, vk, vc]] g Q := by
  refine l_validD.body _ _ _ _ ?_
  unfold l_validD.sh
  have s := St.start g
  refine St.r_box (cs := [vi, vk, vc]) s fun b3 h s => ?_
  refine l_fit_ok ?_
  refine r_br (fun e => ?_) (fun e => H false _ _ ⟨fun e => (by cases e), fun hv => ?_⟩ s)
  · have e : 2 ≤ d ∧ d ≤ 128 := of_decide_eq_true e
    ((apply r_build; ((simp only [fillV, fill1, Value.cells, zeros_succ, zeros_zero, List.size_toArray, List.length_cons, List.length_nil, List.length_append, List.take_succ_cons, List.take_zero, List.take_nil, List.drop_succ_cons, List.drop_zero, List.drop_nil, List.cons_append, List.nil_append, List.append_nil, Nat.reduceAdd, Nat.reduceMul, Nat.reduceLeDiff, Nat.reduceEqDiff, and_self, and_true, true_and, if_true, Nat.le_refl, Nat.zero_add, Nat.add_zero, Nat.zero_mul, reduceIte, if_false] <;> rfl))))
    refine St.r_loadN0 s 0 rfl (by simp) ?_
    refine s_Valid_ok t (ha.fr s.fr) hb hk (by omega) (by omega) hvc rfl fun b E' h hbb s2 => ?_
    exact H b _ _ ⟨fun e2 => ⟨e.1, e.2, hbb.1 e2⟩, fun hv => hbb.2 hv.2.2⟩ (s.join s2)
  · simp at e
    have := hv.2.1
    have := e hv.1
    omega
end Go.Proofs.Ytlihjljdndbpdaa
end
section
namespace Go.Proofs.Ytlihjljdndbpdaa
open Go.Hp
set_option linter.unusedVariables false
set_option linter.unusedSimpArgs false
variable {h0 h : Heap} {Z E : List Rg} {Q : Value → Heap → Prop}

/-- What is found, as the laws have it. -/
abbrev foundV (o : Option It) : Value := match o with
  | some p => .agg #[I p.1, I p.2, .bool true]
  | none => .agg #[I 0, I 0, .bool false]
end Go.Proofs.Ytlihjljdndbpdaa
end
section
namespace Go.Proofs.Ytlihjljdndbpdaa
open Go.Hp
set_option linter.unusedVariables false
set_option linter.unusedSimpArgs false
variable {h0 h : Heap} {Z E : List Rg} {Q : Value → Heap → Prop}

theorem exists_list {α β : Type} {R : α → β → Prop} : ∀ (l : List α), (∀ a, a ∈ l → ∃ b, R a b) → ∃ l' : List β, l'.length = l.length ∧ ∀ i (h1 : i < l.length) (h2 : i < l'.length), R l[i] l'[i]
  | [], _ => ⟨[], rfl, fun i h1 => absurd h1 (Nat.not_lt_zero _)⟩
  | a :: r, h => by
    obtain ⟨b, hb⟩ := h a (List.mem_cons_self ..)
    obtain ⟨l', h1, h2⟩ := exists_list r fun x hx => h x (List.mem_cons_of_mem _ hx)
    refine ⟨b :: l', by simp [h1], fun i i1 i2 => ?_⟩
    cases i with
    | zero => exact hb
    | succ i => exact h2 i (by simpa using i1) (by simpa using i2)

theorem lv_pos : ∀ {k : Nat} (t : DT k), t.lv.2 = true → 1 ≤ t.lv.1
  | 0, e => e.elim
  | k + 1, t => by
    unfold DT.lv
    split
    · intro _; exact Nat.le_refl _
    · split
      · intro _; exact Nat.succ_le_succ (Nat.zero_le _)
      · intro h; cases h

/-- What a tree takes from a node as data. -/
structure Uni {k n : Nat} (t : DT k) (x : PT It n) : Prop where
  its : x.its = t.its
  items : x.items = t.items
  sh : ∀ m, t.bulk ≤ m → x.Sh m
  arg : ∀ h vi vk, ArgD h t vi vk → ArgT h x vi vk
  fl : ∀ d lo : Nat, 1 ≤ d → t.fl d lo = true → x.Fl (2 * d - 1) lo

theorem uni_of : ∀ {k : Nat} (t : DT k) (n : Nat), t.lv = (n + 1, true) → ∃ x : PT It n, Uni t x
  | 0, e, _, _ => e.elim
  | k + 1, t, n, h => by
    match ht : t.2 with
    | [] =>
      have hl : t.lv = (1, true) := by unfold DT.lv; rw [ht]
      rw [hl] at h
      have hn : n = 0 := by have := congrArg Prod.fst h; simp at this; omega
      subst hn
      refine ⟨t.1, rfl, ?_, fun m hm => ?_, fun h vi vk ⟨hr, cs, hcl, hrk, _⟩ => ⟨hr, ?_⟩, fun d lo h1 hf => ?_⟩
      · show t.1 = inter t.1 (t.2.map DT.items); rw [ht]; rfl
      · have := t.kids_le; show t.1.length ≤ m; omega
      · rw [ht] at hcl
        have hc0 : cs.length = 0 := hcl
        obtain ⟨a, cap, e, _⟩ := hrk
        rw [hc0] at e
        exact ⟨a, cap, e⟩
      · have : t.fl d lo = (decide ((lo : Int) ≤ t.1.length) && decide ((t.1.length : Int) ≤ 2 * d - 1) && t.2.all fun q => DT.fl d (d - 1) q) := rfl
        rw [this] at hf
        simp only [Bool.and_eq_true, decide_eq_true_eq] at hf
        show lo ≤ t.1.length ∧ t.1.length ≤ 2 * d - 1
        omega
    | q :: qs =>
      by_cases e : qs.length = t.1.length
      · have hl : t.lv = (q.lv.1 + 1, q.lv.2 && qs.all fun x => x.lv.2 && x.lv.1 == q.lv.1) := by
          conv => lhs; unfold DT.lv
          rw [ht]; simp only [if_pos e]
        rw [hl] at h
        have hn := congrArg Prod.fst h
        have hb := congrArg Prod.snd h
        simp only at hn hb
        have hq : q.lv.2 = true := by cases hh : q.lv.2 <;> simp_all
        have hp := lv_pos q hq
        obtain ⟨n, rfl⟩ : ∃ m, n = m + 1 := ⟨n - 1, by omega⟩
        have hall : ∀ x, x ∈ t.2 → x.lv = (n + 1, true) := fun x hx => by
          rw [ht] at hx
          rcases List.mem_cons.1 hx with rfl | hx
          · exact Prod.ext (by simp only; omega) hq
          · rw [hq, Bool.true_and, List.all_eq_true] at hb
            have := hb x hx
            simp only [Bool.and_eq_true, beq_iff_eq] at this
            exact Prod.ext (by simp only; omega) this.1
        obtain ⟨xs, hxl, hxs⟩ := exists_list t.2 fun x hx => uni_of x n (hall x hx)
        refine ⟨(t.1, xs), rfl, ?_, fun m hm => ?_, fun h vi vk ⟨hr, cs, hcl, hrk, hks⟩ => ⟨hr, ?_, cs, ?_, hrk, fun j h1 h2 => ?_⟩, fun d lo h1 hf => ?_⟩
        · show inter t.1 (xs.map PT.items) = inter t.1 (t.2.map DT.items)
          congr 1
          refine List.ext_getElem (by simp [hxl]) fun i h1 h2 => ?_
          simp only [List.getElem_map]
          exact (hxs i (by simpa using h2) (by simpa using h1)).items
        · have hk := t.kids_le
          refine ⟨by show t.1.length ≤ m; omega, by show xs.length = t.1.length + 1; rw [hxl, ht, List.length_cons, e], fun x hx => ?_⟩
          obtain ⟨i, hi, rfl⟩ := List.getElem_of_mem (show x ∈ xs from hx)
          have := t.kid_le (List.getElem_mem (show i < t.2.length by omega))
          exact (hxs i (by omega) hi).sh m (by omega)
        · show xs ≠ []
          intro hh
          rw [hh, ht] at hxl
          simp at hxl
        · show cs.length = xs.length
          rw [hxl]; exact hcl
        · have h1' : j < xs.length := h1
          exact (hxs j (by omega) h1').arg h _ _ (hks j (by omega) h2)
        · have : t.fl d lo = (decide ((lo : Int) ≤ t.1.length) && decide ((t.1.length : Int) ≤ 2 * d - 1) && t.2.all fun q => DT.fl d (d - 1) q) := rfl
          rw [this] at hf
          simp only [Bool.and_eq_true, decide_eq_true_eq, List.all_eq_true] at hf
          refine ⟨by show lo ≤ t.1.length; omega, by show t.1.length ≤ _; omega, by show xs.length = t.1.length + 1; rw [hxl, ht, List.length_cons, e], fun x hx => ?_⟩
          obtain ⟨i, hi, rfl⟩ := List.getElem_of_mem (show x ∈ xs from hx)
          have h3 := hf.2 _ (List.getElem_mem (show i < t.2.length by omega))
          have e4 : (2 * d - 1) / 2 = d - 1 := by omega
          rw [e4]
          refine (hxs i (by omega) hi).fl d (d - 1) h1 ?_
          rw [show ((d - 1 : Nat) : Int) = (d : Int) - 1 by omega]; exact h3
      · have hl : t.lv = (0, false) := by unfold DT.lv; rw [ht]; simp only [if_neg e]
        rw [hl] at h
        cases h

theorem i_standMap_empty {g : Heap} {d : Int} {a0 a1 : Option Addr} {c0 c1 : Nat} {vc : Value} (h1 : 2 ≤ d) (h2 : d ≤ 1073741824)
    (H : ∀ tb h', St g [] [(tb, 0, hdr 0 none none 0 (d - 1) (2 * d - 1))] h' → Q (ptr tb 0) h') : i_standMap.call #[I d, .agg #[.slice a0 0 c0, .slice a1 0 c1, vc]] g Q := by
  refine i_standMap.body _ _ _ _ ?_
  unfold i_standMap.sh
  have s := St.start g
  refine St.r_box (cs := [.slice a0 0 c0, .slice a1 0 c1, vc]) s fun t3 h s => ?_
  refine NewMap_ii_ok s h1 h2 fun tb h s => ?_
  refine r_fld ?_
  refine St.r_load0 s 1 rfl rfl ?_
  refine r_len ?_
  refine r_cmpI ?_
  refine r_br (fun _ => ?_) (fun e => absurd e (by decide))
  refine r_fld ?_
  refine St.r_load0 s 1 rfl rfl ?_
  refine r_len ?_
  refine r_cmpI ?_
  refine r_if (fun e => absurd e (by decide)) (fun _ => ?_)
  unfold i_standMap.j1
  exact H tb h (s.sub (by simp))

set_option maxRecDepth 100000 in
theorem eqFound : ∀ (d : Nat) (o : Option It), EqV Try.prog (d + 3) 32 (foundV o) (foundV o) true := fun d o => by
  have key : ∀ (a b : Int) (c : Bool), EqV Try.prog (d + 3) 32 (.agg #[I a, I b, .bool c]) (.agg #[I a, I b, .bool c]) true := fun a b c => by
    refine .inr (.inr (.inr ⟨_, _, _, Try.underlying32, by kernel_rfl, rfl, rfl, ?_⟩))
    refine ⟨by decide, .agg #[I a, I b], .agg #[I a, I b], true, ⟨_, Try.underlying27, .inl ⟨by kernel_rfl, _, Try.type27, rfl⟩⟩, ⟨_, Try.underlying27, .inl ⟨by kernel_rfl, _, Try.type27, rfl⟩⟩, ?_, .inr ⟨rfl, ?_⟩⟩
    · refine .inr (.inr (.inr ⟨_, _, _, Try.underlying27, by kernel_rfl, rfl, rfl, ?_⟩))
      refine ⟨by decide, I a, I a, true, ⟨_, Try.underlying3, .inr ⟨by kernel_rfl, rfl⟩⟩, ⟨_, Try.underlying3, .inr ⟨by kernel_rfl, rfl⟩⟩, .inl ⟨_, _, a, a, Try.underlying3, rfl, rfl, by simp⟩, .inr ⟨rfl, ?_⟩⟩
      refine ⟨by decide, I b, I b, true, ⟨_, Try.underlying3, .inr ⟨by kernel_rfl, rfl⟩⟩, ⟨_, Try.underlying3, .inr ⟨by kernel_rfl, rfl⟩⟩, .inl ⟨_, _, b, b, Try.underlying3, rfl, rfl, by simp⟩, .inr ⟨rfl, rfl⟩⟩
    · refine ⟨by decide, .bool c, .bool c, true, ⟨_, Try.underlying4, .inr ⟨by kernel_rfl, rfl⟩⟩, ⟨_, Try.underlying4, .inr ⟨by kernel_rfl, rfl⟩⟩, .inr (.inl ⟨c, c, Try.underlying4, rfl, rfl, by simp⟩), .inr ⟨rfl, rfl⟩⟩
  cases o with
  | none => exact key 0 0 false
  | some p => exact key p.1 p.2 true
end Go.Proofs.Ytlihjljdndbpdaa
end
section
namespace Go.Proofs.Ytlihjljdndbpdaa
open Go.Hp
set_option linter.unusedVariables false
set_option linter.unusedSimpArgs false
variable {h0 h : Heap} {Z E : List Rg} {Q : Value → Heap → Prop}
/-- A node as data in memory, whose kids' counts are right. -/
def ArgC (h : Heap) : {k : Nat} → PT It k → Value → Value → Prop
  | 0, its, vi, vk => Rdl 2 h vi (its : List It).length ((its : List It).flatMap encA) ∧ Rdl 3 h vk 0 []
  | k + 1, t, vi, vk => Rdl 2 h vi t.1.length (t.1.flatMap encA) ∧ ∃ cs : List (Value × Value × Int), cs.length = t.2.length ∧ Rdl 3 h vk cs.length (cs.flatMap encN) ∧
      ∀ j (h1 : j < t.2.length) (h2 : j < cs.length), ArgC h t.2[j] cs[j].1 cs[j].2.1 ∧ cs[j].2.2 = t.2[j].items.length
theorem ArgC.fr {h h' : Heap} (f : Fr (fun _ _ => False) h h') : ∀ {k : Nat} {x : PT It k} {vi vk : Value}, ArgC h x vi vk → ArgC h' x vi vk
  | 0, _, _, _, ⟨h1, h2⟩ => ⟨h1.fr f (fun _ _ e => e), h2.fr f (fun _ _ e => e)⟩
  | k + 1, _, _, _, ⟨h1, cs, h3, h4, h5⟩ => ⟨h1.fr f (fun _ _ e => e), cs, h3, h4.fr f (fun _ _ e => e), fun j j1 j2 => ⟨ArgC.fr f (h5 j j1 j2).1, (h5 j j1 j2).2⟩⟩
theorem ArgC.one {h : Heap} : ∀ {k : Nat} {x : PT It k} {vi vk : Value}, ArgC h x vi vk → one1 vi = true ∧ one1 vk = true
  | 0, _, _, _, ⟨h1, h2⟩ => ⟨h1.one, h2.one⟩
  | k + 1, _, _, _, ⟨h1, cs, h3, h4, h5⟩ => ⟨h1.one, h4.one⟩
theorem ArgC.its {h : Heap} : ∀ {k : Nat} {x : PT It k} {vi vk : Value}, ArgC h x vi vk → Rdl 2 h vi x.its.length (x.its.flatMap encA)
  | 0, _, _, _, r => r.1
  | _ + 1, _, _, _, r => r.1
/-- The tree as data of any shape. -/
def toD : {k : Nat} → PT It k → DT (k + 1)
  | 0, its => ((its : List It), [])
  | _ + 1, t => (t.1, t.2.map toD)
theorem ArgC.toD {h : Heap} : ∀ {k : Nat} {x : PT It k} {vi vk : Value}, ArgC h x vi vk → ArgD h (toD x) vi vk
  | 0, _, _, _, ⟨h1, h2⟩ => ⟨h1, [], rfl, h2, fun j j1 => absurd j1 (Nat.not_lt_zero _)⟩
  | k + 1, x, _, _, ⟨h1, cs, h3, h4, h5⟩ => ⟨h1, cs, by show cs.length = (x.2.map _).length; rw [List.length_map]; exact h3, h4, fun j j1 j2 => by
      have j1' : j < x.2.length := by have : j < (x.2.map Go.Proofs.Ytlihjljdndbpdaa.toD).length := j1; rwa [List.length_map] at this
      have := ArgC.toD (h5 j j1' j2).1
      have e : (x.2.map Go.Proofs.Ytlihjljdndbpdaa.toD)[j]'j1 = Go.Proofs.Ytlihjljdndbpdaa.toD (x.2[j]'j1') := List.getElem_map ..
      show ArgD h ((x.2.map Go.Proofs.Ytlihjljdndbpdaa.toD)[j]'j1) _ _
      rw [e]; exact this⟩
theorem DoorCount_ok {n : Nat} {v : Value} (hc : cl h n 1 = some v) (H : ∀ E' h', St h [] E' h' → Q v h') : DoorMapNode_ii_DoorCount.call #[.agg #[ptr n 0]] h Q := by
  refine DoorMapNode_ii_DoorCount.body _ _ _ ?_
  unfold DoorMapNode_ii_DoorCount.sh
  have s := St.start h
  refine St.r_box (cs := [ptr n 0]) s fun t1 h s => ?_
  refine r_fld ?_
  refine St.r_load0 s 0 rfl rfl ?_
  refine r_nil ?_
  refine r_fld ?_
  refine s.r_loadB hc ?_
  exact H _ _ s
theorem DoorLen_ok {n len : Nat} {v : Value} {xs : List Value} (hc : cl h n 2 = some v) (hr : Rdl 2 h v len xs) (H : ∀ E' h', St h [] E' h' → Q (.int .i64 len) h') : DoorMapNode_ii_DoorLen.call #[.agg #[ptr n 0]] h Q := by
  refine DoorMapNode_ii_DoorLen.body _ _ _ ?_
  unfold DoorMapNode_ii_DoorLen.sh
  have s := St.start h
  refine St.r_box (cs := [ptr n 0]) s fun t1 h s => ?_
  refine r_fld ?_
  refine St.r_load0 s 0 rfl rfl ?_
  refine r_nil ?_
  refine r_fld ?_
  refine s.r_loadB hc ?_
  refine hr.lenV ?_
  exact H _ _ s
theorem DoorAt_ok {n i : Nat} {v : Value} {l : List It} (hc : cl h n 2 = some v) (hr : Rdl 2 h v l.length (l.flatMap enc)) (hi : i < l.length) (H : ∀ E' h', St h [] E' h' → Q (.tuple #[.int .i64 l[i].1, .int .i64 l[i].2]) h') : DoorMapNode_ii_DoorAt.call #[.agg #[ptr n 0], .int .i64 i] h Q := by
  refine DoorMapNode_ii_DoorAt.body _ _ _ _ ?_
  unfold DoorMapNode_ii_DoorAt.sh
  have s := St.start h
  refine St.r_box (cs := [ptr n 0]) s fun t1 h s => ?_
  refine r_fld ?_
  refine St.r_load0 s 0 rfl rfl ?_
  refine r_nil ?_
  refine r_fld ?_
  refine s.r_loadB hc ?_
  refine hr.at (n := i) rfl (fun _ => rfl) rfl rfl hi fun b o hb => ?_
  refine r_fld ?_
  refine (hb.st s).load (j := 1) rfl ?_
  refine r_fld ?_
  refine St.r_load0 s 0 rfl rfl ?_
  refine r_nil ?_
  refine r_fld ?_
  refine s.r_loadB hc ?_
  refine hr.at (n := i) rfl (fun _ => rfl) rfl rfl hi fun b o hb => ?_
  refine r_fld ?_
  refine (hb.st s).load (j := 0) rfl ?_
  exact H _ _ s
theorem DoorIsLeaf_ok {n : Nat} {a : Option Addr} (hc : cl h n 3 = some (.pointer a)) (H : ∀ E' h', St h [] E' h' → Q (.bool a.isNone) h') : DoorMapNode_ii_DoorIsLeaf.call #[.agg #[ptr n 0]] h Q := by
  refine DoorMapNode_ii_DoorIsLeaf.body _ _ _ ?_
  unfold DoorMapNode_ii_DoorIsLeaf.sh
  have s := St.start h
  refine St.r_box (cs := [ptr n 0]) s fun t1 h s => ?_
  refine r_fld ?_
  refine St.r_load0 s 0 rfl rfl ?_
  refine mapNode_ii_leaf_ok (s.base hc) ?_
  exact H _ _ s
theorem DoorKids_ok {n kb len : Nat} {v : Value} {xs : List Value} (hc : cl h n 3 = some (ptr kb 0)) (hk : cl h kb 0 = some v) (hr : Rdl 1 h v len xs) (H : ∀ E' h', St h [] E' h' → Q (.int .i64 len) h') : DoorMapNode_ii_DoorKids.call #[.agg #[ptr n 0]] h Q := by
  refine DoorMapNode_ii_DoorKids.body _ _ _ ?_
  unfold DoorMapNode_ii_DoorKids.sh
  have s := St.start h
  refine St.r_box (cs := [ptr n 0]) s fun t1 h s => ?_
  refine r_fld ?_
  refine St.r_load0 s 0 rfl rfl ?_
  refine r_nil ?_
  refine r_fld ?_
  refine s.r_loadB hc ?_
  refine r_nil ?_
  refine s.r_loadB hk ?_
  refine hr.lenV ?_
  exact H _ _ s
theorem DoorKid_ok {n kb i : Nat} {v : Value} {l : List Nat} (hc : cl h n 3 = some (ptr kb 0)) (hk : cl h kb 0 = some v) (hr : Rdl 1 h v l.length (l.map fun m => ptr m 0)) (hi : i < l.length) (H : ∀ E' h', St h [] E' h' → Q (.agg #[ptr l[i] 0]) h') : DoorMapNode_ii_DoorKid.call #[.agg #[ptr n 0], .int .i64 i] h Q := by
  refine DoorMapNode_ii_DoorKid.body _ _ _ _ ?_
  unfold DoorMapNode_ii_DoorKid.sh
  have s := St.start h
  refine St.r_box (cs := [ptr n 0]) s fun t2 h s => ?_
  refine s.r_alloc fun t4 h s => ?_
  refine r_fld ?_
  refine St.r_load0 s 1 rfl rfl ?_
  refine r_nil ?_
  refine r_fld ?_
  refine s.r_loadB hc ?_
  refine r_nil ?_
  refine s.r_loadB hk ?_
  refine hr.at1 (n := i) rfl hi fun b o hb => ?_
  refine (hb.st s).load0 rfl ?_
  ((apply r_build; ((simp only [fillV, fill1, Value.cells, zeros_succ, zeros_zero, List.size_toArray, List.length_cons, List.length_nil, List.length_append, List.take_succ_cons, List.take_zero, List.take_nil, List.drop_succ_cons, List.drop_zero, List.drop_nil, List.cons_append, List.nil_append, List.append_nil, Nat.reduceAdd, Nat.reduceMul, Nat.reduceLeDiff, Nat.reduceEqDiff, and_self, and_true, true_and, if_true, Nat.le_refl, Nat.zero_add, Nat.add_zero, Nat.zero_mul, reduceIte, if_false] <;> rfl))))
  refine St.r_storeN0 s 0 (ys := [ptr l[i] 0]) rfl rfl (by simp) (by simp [one1]) ?_; intro h s
  refine St.r_loadN0 s 0 rfl (by simp) ?_
  exact H _ _ s
end Go.Proofs.Ytlihjljdndbpdaa
end
section
namespace Go.Proofs.Ytlihjljdndbpdaa
open Go.Hp
set_option linter.unusedVariables false
set_option linter.unusedSimpArgs false
variable {h0 h : Heap} {Z E : List Rg} {Q : Value → Heap → Prop}
theorem one3 {a b c : Value} (h1 : one1 a = true) (h2 : one1 b = true) (h3 : one1 c = true) : ∀ y ∈ [a, b, c], one1 y = true := fun y hy => by
  rcases List.mem_cons.1 hy with rfl | hy
  · exact h1
  · rcases List.mem_cons.1 hy with rfl | hy
    · exact h2
    · rw [List.mem_singleton.1 hy]; exact h3
theorem lift_head {d : Nd It} (hd : NdAt enc 2 h0 d) (hl : d.its.length ≤ 1073741824) {t1 t2 t3 : Nat} {z2 : List Value} {c : Value} (s : St h0 [] ((t1, 0, [ptr d.n 0]) :: (t2, 0, z2) :: (t3, 0, [.slice none 0 0, .slice none 0 0, c]) :: E) h)
    (H : ∀ vi R h', St h0 [] ((t1, 0, [ptr d.n 0]) :: (t2, 0, z2) :: (t3, 0, [vi, .slice none 0 0, c]) :: R) h' → (∃ b o sp, Own 2 vi d.its.length b o (d.its.flatMap encA) sp ∧ (b, o, d.its.flatMap encA ++ sp) ∈ R) → i_liftedMap.j1 (ptr t1 0) (ptr t2 0) (ptr t3 0) h' Q) :
    loopC (fun c s h K1 => i_liftedMap.l6.b (c.getD 0 undef) (c.getD 1 undef) (c.getD 2 undef) (c.getD 3 undef) (s.getD 0 undef) h K1 Q) [ptr t1 0, ptr t2 0, ptr t3 0, .int .i64 d.its.length] [(.int .i64 0)] h := by
  refine loop_ghost (fun q st h' => ∃ j vi b o sp R, q = d.its.length - j ∧ j ≤ d.its.length ∧ st = [.int .i64 (j : Nat)] ∧ Own 2 vi (d.its.take j).length b o ((d.its.take j).flatMap encA) sp ∧
      St h0 [] ((t1, 0, [ptr d.n 0]) :: (t2, 0, z2) :: (t3, 0, [vi, .slice none 0 0, c]) :: (b, o, (d.its.take j).flatMap encA ++ sp) :: R) h') (n0 := d.its.length)
    ⟨0, .slice none 0 0, 0, 0, [], E, rfl, Nat.zero_le _, rfl, Own.nil 2 0 0, (s.empty 0 0).perm (by simp only [List.take_zero, List.flatMap_nil, List.append_nil]; ((apply perm_rg; intro f; simp only [List.set_cons_zero, List.set_cons_succ, List.eraseIdx_cons_zero, List.eraseIdx_cons_succ, List.cons_append, List.nil_append, List.map_append, List.map_cons, List.map_nil, List.sum_append, List.sum_cons, List.sum_nil, List.map_flatMap, Nat.add_zero, Nat.zero_add]; ac_rfl)))⟩ ?_
  clear s
  rintro q st h ⟨j, vi, b, o, sp, R, rfl, hj, rfl, w, s⟩ K HK
  unfold i_liftedMap.l6.b
  refine r_cmpI ?_
  refine r_if (fun hlt => ?_) (fun hge => ?_)
  · have hlt : j < d.its.length := by simpa using hlt
    have et : d.its.take (j + 1) = d.its.take j ++ [d.its[j]] := List.take_succ_eq_append_getElem hlt
    have hll : (d.its.take j).length ≤ 1073741824 := by rw [List.length_take]; omega
    unfold i_liftedMap.j7
    refine St.r_loadN0 s 0 rfl (by simp) ?_
    refine DoorAt_ok (l := d.its) (cl_fr s.fr hd.iv) (hd.its.st s) hlt fun E2 h s2 => ?_
    have s := (s.join s2).perm List.perm_append_comm
    have s : St h0 [] ((t1, 0, [ptr d.n 0]) :: (t2, 0, z2) :: (t3, 0, [vi, .slice none 0 0, c]) :: (b, o, (d.its.take j).flatMap encA ++ sp) :: (R ++ E2)) h := s
    refine r_ext rfl ?_
    refine r_ext rfl ?_
    refine r_fld ?_
    refine St.r_load0 s 2 rfl rfl ?_
    (apply r_build; (simp only [fillV, fill1, Value.cells, zeros_succ, zeros_zero, List.size_toArray, List.length_cons, List.length_nil, List.length_append, List.take_succ_cons, List.take_zero, List.take_nil, List.drop_succ_cons, List.drop_zero, List.drop_nil, List.cons_append, List.nil_append, List.append_nil, Nat.reduceAdd, Nat.reduceMul, Nat.reduceLeDiff, Nat.reduceEqDiff, and_self, and_true, true_and, if_true, Nat.le_refl, Nat.zero_add, Nat.add_zero, Nat.zero_mul, reduceIte, if_false] <;> rfl))
    refine St.r_mkSl (sz := 2) (cs := encA d.its[j]) s (by ((simp only [fillV, fill1, Value.cells, zeros_succ, zeros_zero, List.size_toArray, List.length_cons, List.length_nil, List.length_append, List.take_succ_cons, List.take_zero, List.take_nil, List.drop_succ_cons, List.drop_zero, List.drop_nil, List.cons_append, List.nil_append, List.append_nil, Nat.reduceAdd, Nat.reduceMul, Nat.reduceLeDiff, Nat.reduceEqDiff, and_self, and_true, true_and, if_true, Nat.le_refl, Nat.zero_add, Nat.add_zero, Nat.zero_mul, reduceIte, if_false] <;> rfl))) rfl fun q h s wq => ?_
    refine s.r_appL (f := encA) (L := d.its.take j) (M := [d.its[j]]) 4 rfl w rfl (by have := wq.rdl s 0 rfl; simpa using this) (fun _ _ => by simp [one1]) (by rw [List.length_singleton]; omega) (by rw [List.length_singleton]; omega) fun vi' b' o' sp' h s w' => ?_
    rw [← et] at w' s
    refine r_fld ?_
    refine St.r_store0 s 3 rfl (by simp) w'.one ?_; intro h s
    unfold i_liftedMap.j8
    refine r_add1 (by omega) ?_
    exact HK (d.its.length - (j + 1)) _ _ (by omega) ⟨j + 1, vi', b', o', sp', _, rfl, hlt, rfl, w', s.tail rfl⟩
  · have hge : j = d.its.length := by have := of_decide_eq_false hge; omega
    subst hge
    rw [List.take_length] at w s
    exact H vi _ h s ⟨b, o, sp, w, List.mem_cons_self ..⟩
theorem lifted_ok : ∀ {k : Nat} (t : GT It k) {h : Heap} {Q : Value → Heap → Prop}, t.At enc 2 h → t.Cn → t.pt.Sh 1073741823 →
    (∀ vi vk A h', St h [] A h' → (∀ g, (∀ r ∈ A, r.Ok g) → ArgC g t.pt vi vk) → one1 vi = true → one1 vk = true → Q (.agg #[vi, vk, .int .i64 t.pt.items.length]) h') → i_liftedMap.call #[.agg #[ptr t.id 0]] h Q := by
  intro k
  induction k with
  | zero =>
    intro t h Q ha hc hs H
    have hnd := GT.At.nd ha
    have hs : t.nd.its.length ≤ 1073741823 := hs
    refine i_liftedMap.body _ _ _ ?_
    unfold i_liftedMap.sh
    have s := St.start h
    refine St.r_box (cs := [ptr t.id 0]) s fun t1 h s => ?_
    refine s.r_alloc fun t2 h s => ?_
    refine St.r_loadN0 s 1 rfl (by simp) ?_
    refine DoorCount_ok (cl_fr s.fr hnd.cnt) fun E2 h s2 => ?_
    have s := (s.join s2).perm List.perm_append_comm
    ((apply r_build; ((simp only [fillV, fill1, Value.cells, zeros_succ, zeros_zero, List.size_toArray, List.length_cons, List.length_nil, List.length_append, List.take_succ_cons, List.take_zero, List.take_nil, List.drop_succ_cons, List.drop_zero, List.drop_nil, List.cons_append, List.nil_append, List.append_nil, Nat.reduceAdd, Nat.reduceMul, Nat.reduceLeDiff, Nat.reduceEqDiff, and_self, and_true, true_and, if_true, Nat.le_refl, Nat.zero_add, Nat.add_zero, Nat.zero_mul, reduceIte, if_false] <;> rfl))))
    refine s.r_alloc fun t3 h s => ?_
    refine St.r_storeN0 s 0 (ys := [.slice none 0 0, .slice none 0 0, .int .i64 t.nd.cnt]) rfl rfl (by simp) (by simp [one1]) ?_; intro h s
    have s : St _ [] ((t3, 0, [.slice none 0 0, .slice none 0 0, .int .i64 t.nd.cnt]) :: (t2, 0, [.slice none 0 0, .slice none 0 0, .int .i64 0]) :: (t1, 0, [ptr t.id 0]) :: E2) h := s
    refine St.r_loadN0 s 2 rfl (by simp) ?_
    refine DoorLen_ok (cl_fr s.fr hnd.iv) (hnd.its.st s) fun E3 h s3 => ?_
    have s := (s.join s3).perm List.perm_append_comm
    refine lift_head hnd (by omega) (E := E2 ++ E3) (s.perm (by ((apply perm_rg; intro f; simp only [List.set_cons_zero, List.set_cons_succ, List.eraseIdx_cons_zero, List.eraseIdx_cons_succ, List.cons_append, List.nil_append, List.map_append, List.map_cons, List.map_nil, List.sum_append, List.sum_cons, List.sum_nil, List.map_flatMap, Nat.add_zero, Nat.zero_add]; ac_rfl)))) fun vi R h s hrow => ?_
    obtain ⟨b, o, sp, w, hm⟩ := hrow
    unfold i_liftedMap.j1
    refine St.r_loadN0 s 0 rfl (by simp) ?_
    refine DoorIsLeaf_ok (a := none) (cl_fr s.fr ha.2) fun E4 h s4 => ?_
    have s := (s.join s4).perm List.perm_append_comm
    refine r_not ?_
    refine r_if (fun e => absurd e (by simp)) (fun _ => ?_)
    unfold i_liftedMap.j2
    have s : St _ [] ((t1, 0, [ptr t.id 0]) :: (t2, 0, [.slice none 0 0, .slice none 0 0, .int .i64 0]) :: (t3, 0, [vi, .slice none 0 0, .int .i64 t.nd.cnt]) :: (R ++ E4)) h := s
    refine St.r_loadN0 s 2 rfl (by simp) ?_
    refine St.r_storeN0 s 1 (ys := [vi, .slice none 0 0, .int .i64 t.nd.cnt]) rfl rfl (by simp) (one3 w.one rfl rfl) ?_; intro h s
    refine St.r_loadN0 s 1 rfl (by simp) ?_
    have ec : t.nd.cnt = t.pt.items.length := hc.cnt
    rw [ec] at s ⊢
    refine H vi (.slice none 0 0) _ h s (fun g hg => ⟨?_, Rdl.nil 3 g⟩) w.one rfl
    exact w.rdlO (hg _ (List.mem_cons_of_mem _ (List.mem_cons_of_mem _ (List.mem_cons_of_mem _ (List.mem_append.2 (.inl hm))))))
  | succ k ih =>
    intro t h Q ha hc hs H
    have hnd := GT.At.nd ha
    obtain ⟨_, c1, c2, c3, c4, c5⟩ := ha
    have hs1 : t.1.its.length ≤ 1073741823 := hs.1
    refine i_liftedMap.body _ _ _ ?_
    unfold i_liftedMap.sh
    have s := St.start h
    refine St.r_box (cs := [ptr t.id 0]) s fun t1 h s => ?_
    refine s.r_alloc fun t2 h s => ?_
    refine St.r_loadN0 s 1 rfl (by simp) ?_
    refine DoorCount_ok (cl_fr s.fr hnd.cnt) fun E2 h s2 => ?_
    have s := (s.join s2).perm List.perm_append_comm
    ((apply r_build; ((simp only [fillV, fill1, Value.cells, zeros_succ, zeros_zero, List.size_toArray, List.length_cons, List.length_nil, List.length_append, List.take_succ_cons, List.take_zero, List.take_nil, List.drop_succ_cons, List.drop_zero, List.drop_nil, List.cons_append, List.nil_append, List.append_nil, Nat.reduceAdd, Nat.reduceMul, Nat.reduceLeDiff, Nat.reduceEqDiff, and_self, and_true, true_and, if_true, Nat.le_refl, Nat.zero_add, Nat.add_zero, Nat.zero_mul, reduceIte, if_false] <;> rfl))))
    refine s.r_alloc fun t3 h s => ?_
    refine St.r_storeN0 s 0 (ys := [.slice none 0 0, .slice none 0 0, .int .i64 t.nd.cnt]) rfl rfl (by simp) (by simp [one1]) ?_; intro h s
    have s : St _ [] ((t3, 0, [.slice none 0 0, .slice none 0 0, .int .i64 t.nd.cnt]) :: (t2, 0, [.slice none 0 0, .slice none 0 0, .int .i64 0]) :: (t1, 0, [ptr t.id 0]) :: E2) h := s
    refine St.r_loadN0 s 2 rfl (by simp) ?_
    refine DoorLen_ok (cl_fr s.fr hnd.iv) (hnd.its.st s) fun E3 h s3 => ?_
    have s := (s.join s3).perm List.perm_append_comm
    refine lift_head hnd (by show t.1.its.length ≤ _; omega) (E := E2 ++ E3) (s.perm (by ((apply perm_rg; intro f; simp only [List.set_cons_zero, List.set_cons_succ, List.eraseIdx_cons_zero, List.eraseIdx_cons_succ, List.cons_append, List.nil_append, List.map_append, List.map_cons, List.map_nil, List.sum_append, List.sum_cons, List.sum_nil, List.map_flatMap, Nat.add_zero, Nat.zero_add]; ac_rfl)))) fun vi R h s hrow => ?_
    obtain ⟨b, o, sp, w, hm⟩ := hrow
    unfold i_liftedMap.j1
    refine St.r_loadN0 s 0 rfl (by simp) ?_
    refine DoorIsLeaf_ok (a := some ⟨t.1.kb, 0, none⟩) (cl_fr s.fr c1) fun E4 h s4 => ?_
    have s := (s.join s4).perm List.perm_append_comm
    refine r_not ?_
    refine r_if (fun _ => ?_) (fun e => absurd e (by simp))
    have s : St _ [] ((t1, 0, [ptr t.id 0]) :: (t2, 0, [.slice none 0 0, .slice none 0 0, .int .i64 0]) :: (t3, 0, [vi, .slice none 0 0, .int .i64 t.nd.cnt]) :: (R ++ E4)) h := s
    refine St.r_loadN0 s 0 rfl (by simp) ?_
    have c3' : ∀ {g : Heap} {Z E : List Rg}, St _ Z E g → Rdl 1 g t.1.kv t.2.length (t.2.map fun k => ptr k.id 0) := fun s => c3.st s
    refine DoorKids_ok (cl_fr s.fr c1) (cl_fr s.fr c2) (c3' s) fun E5 h s5 => ?_
    have s := (s.join s5).perm List.perm_append_comm
    have hkl : t.2.length = t.1.its.length + 1 := c4
    refine loop_ghost (fun q st h' => ∃ (j : Nat) (cs : List (Value × Value × Int)) (vk : Value) (b2 o2 : Nat) (p2 : List Value) (R2 : List Rg), q = t.2.length - j ∧ j ≤ t.2.length ∧ st = [.int .i64 (j : Nat)] ∧ cs.length = j ∧ Own 3 vk cs.length b2 o2 (cs.flatMap encN) p2 ∧
        St _ [] ((t1, 0, [ptr t.id 0]) :: (t2, 0, [.slice none 0 0, .slice none 0 0, .int .i64 0]) :: (t3, 0, [vi, vk, .int .i64 t.nd.cnt]) :: (b2, o2, cs.flatMap encN ++ p2) :: (R ++ R2)) h' ∧
        (∀ c ∈ cs, one1 c.1 = true ∧ one1 c.2.1 = true) ∧
        (∀ g, (∀ r ∈ R2, r.Ok g) → ∀ i (h1 : i < t.2.length) (h2 : i < cs.length), ArgC g (t.2[i]).pt cs[i].1 cs[i].2.1 ∧ cs[i].2.2 = (t.2[i]).pt.items.length)) (n0 := t.2.length)
      ⟨0, [], .slice none 0 0, 0, 0, [], E4 ++ E5, rfl, Nat.zero_le _, rfl, rfl, Own.nil 3 0 0, (s.empty 0 0).perm (by ((apply perm_rg; intro f; simp only [List.set_cons_zero, List.set_cons_succ, List.eraseIdx_cons_zero, List.eraseIdx_cons_succ, List.cons_append, List.nil_append, List.map_append, List.map_cons, List.map_nil, List.sum_append, List.sum_cons, List.sum_nil, List.map_flatMap, Nat.add_zero, Nat.zero_add]; ac_rfl))), fun _ h => (List.not_mem_nil h).elim, fun g _ i _ h2 => absurd h2 (Nat.not_lt_zero _)⟩ ?_
    clear s s5 s4
    rintro q st h ⟨j, cs, vk, b2, o2, p2, R2, rfl, hj, rfl, hcs, w2, s, hone, harg⟩ K HK
    unfold i_liftedMap.l3.b
    refine r_cmpI ?_
    refine r_if (fun hlt => ?_) (fun hge => ?_)
    · have hlt : j < t.2.length := by simpa using hlt
      have hkm : t.2[j] ∈ t.2 := List.getElem_mem hlt
      unfold i_liftedMap.j4
      refine r_fld ?_
      refine St.r_load0 s 2 rfl rfl ?_
      refine St.r_loadN0 s 0 rfl (by simp) ?_
      refine DoorKid_ok (l := t.2.map fun k => k.id) (i := j) (cl_fr s.fr c1) (cl_fr s.fr c2) (by rw [List.map_map, List.length_map]; exact c3' s) (by rw [List.length_map]; exact hlt) fun E6 h s6 => ?_
      rw [List.getElem_map]
      have s := (s.join s6).perm List.perm_append_comm
      have s : St _ [] ((t1, 0, [ptr t.id 0]) :: (t2, 0, [.slice none 0 0, .slice none 0 0, .int .i64 0]) :: (t3, 0, [vi, vk, .int .i64 t.nd.cnt]) :: (b2, o2, cs.flatMap encN ++ p2) :: ((R ++ R2) ++ E6)) h := s
      refine ⟨s.r_still0 2 rfl rfl, ?_⟩
      refine ih t.2[j] ((c5 _ hkm).fr s.fr) (hc.2 _ hkm) (hs.2.2 _ (List.mem_map.2 ⟨_, hkm, rfl⟩)) fun kvi kvk A h s7 hA hk1 hk2 => ?_
      have s := (s.join s7).perm List.perm_append_comm
      have s : St _ [] ((t1, 0, [ptr t.id 0]) :: (t2, 0, [.slice none 0 0, .slice none 0 0, .int .i64 0]) :: (t3, 0, [vi, vk, .int .i64 t.nd.cnt]) :: (b2, o2, cs.flatMap encN ++ p2) :: (((R ++ R2) ++ E6) ++ A)) h := s
      refine ⟨s.r_still0 2 rfl rfl, ?_⟩
      refine St.r_mkSl (sz := 3) (cs := encN (kvi, kvk, (t.2[j].pt.items.length : Nat))) s (by ((simp only [fillV, fill1, Value.cells, zeros_succ, zeros_zero, List.size_toArray, List.length_cons, List.length_nil, List.length_append, List.take_succ_cons, List.take_zero, List.take_nil, List.drop_succ_cons, List.drop_zero, List.drop_nil, List.cons_append, List.nil_append, List.append_nil, Nat.reduceAdd, Nat.reduceMul, Nat.reduceLeDiff, Nat.reduceEqDiff, and_self, and_true, true_and, if_true, Nat.le_refl, Nat.zero_add, Nat.add_zero, Nat.zero_mul, reduceIte, if_false] <;> rfl))) rfl fun q1 h s wq => ?_
      refine ⟨s.r_still0 3 rfl rfl, ?_⟩
      refine s.r_appL (f := encN) (L := cs) (M := [(kvi, kvk, ((t.2[j].pt.items.length : Nat) : Int))]) 4 rfl w2 rfl (by have := wq.rdl s 0 rfl; simpa using this) (fun y hy => by rw [List.mem_singleton.1 hy]; exact one3 hk1 hk2 rfl) (by rw [List.length_singleton]; omega) (by rw [List.length_singleton]; omega) fun vk' b2' o2' p2' h s w2' => ?_
      refine r_fld ?_
      refine St.r_store0 s 3 rfl (by simp) w2'.one ?_; intro h s
      unfold i_liftedMap.j5
      refine r_add1 (by omega) ?_
      refine HK (t.2.length - (j + 1)) _ _ (by omega) ⟨j + 1, _, vk', b2', o2', p2', R2 ++ (E6 ++ A), rfl, hlt, rfl, by rw [List.length_append, hcs]; rfl, w2', (s.tail rfl).perm (by simp only [List.set_cons_succ, List.set_cons_zero]; ((apply perm_rg; intro f; simp only [List.set_cons_zero, List.set_cons_succ, List.eraseIdx_cons_zero, List.eraseIdx_cons_succ, List.cons_append, List.nil_append, List.map_append, List.map_cons, List.map_nil, List.sum_append, List.sum_cons, List.sum_nil, List.map_flatMap, Nat.add_zero, Nat.zero_add]; ac_rfl))), fun c hcm => ?_, fun g hg i h1 h2 => ?_⟩
      · rcases List.mem_append.1 hcm with e | e
        · exact hone c e
        · rw [List.mem_singleton.1 e]; exact ⟨hk1, hk2⟩
      · rcases Nat.lt_or_ge i cs.length with h3 | h3
        · rw [List.getElem_append_left h3]
          exact harg g (fun r hr => hg r (List.mem_append.2 (.inl hr))) i h1 h3
        · have : i = j := by rw [List.length_append, List.length_singleton] at h2; omega
          subst this
          rw [List.getElem_append_right h3]
          simp only [hcs, Nat.sub_self, List.getElem_cons_zero]
          exact ⟨hA g fun r hr => hg r (List.mem_append.2 (.inr (List.mem_append.2 (.inr hr)))), trivial⟩
    · have hge : j = t.2.length := by have := of_decide_eq_false hge; omega
      unfold i_liftedMap.j2
      refine St.r_loadN0 s 2 rfl (by simp) ?_
      refine St.r_storeN0 s 1 (ys := [vi, vk, .int .i64 t.nd.cnt]) rfl rfl (by simp) (one3 w.one w2.one rfl) ?_; intro h s
      refine St.r_loadN0 s 1 rfl (by simp) ?_
      have ec : t.nd.cnt = t.pt.items.length := hc.cnt
      rw [ec] at s ⊢
      refine H vi vk _ h s (fun g hg => ⟨w.rdlO (hg _ (List.mem_cons_of_mem _ (List.mem_cons_of_mem _ (List.mem_cons_of_mem _ (List.mem_cons_of_mem _ (List.mem_append.2 (.inl hm))))))), cs, by show cs.length = (t.2.map GT.pt).length; rw [List.length_map]; omega, w2.rdlO (hg _ (List.mem_cons_of_mem _ (List.mem_cons_of_mem _ (List.mem_cons_of_mem _ (List.mem_cons_self ..))))), fun i h1 h2 => ?_⟩) w.one w2.one
      have h1' : i < t.2.length := by have : i < (t.2.map GT.pt).length := h1; rwa [List.length_map] at this
      have := harg g (fun r hr => hg r (List.mem_cons_of_mem _ (List.mem_cons_of_mem _ (List.mem_cons_of_mem _ (List.mem_cons_of_mem _ (List.mem_append.2 (.inr hr))))))) i h1' h2
      have e : (t.2.map GT.pt)[i]'h1 = (t.2[i]'h1').pt := List.getElem_map ..
      show ArgC g ((t.2.map GT.pt)[i]'h1) _ _ ∧ _ = (((t.2.map GT.pt)[i]'h1).items.length : Int)
      rw [e]; exact this
end Go.Proofs.Ytlihjljdndbpdaa
end
section
namespace Go.Proofs.Ytlihjljdndbpdaa
open Go.Hp
set_option linter.unusedVariables false
set_option linter.unusedSimpArgs false
theorem toD_items : ∀ {k : Nat} (x : PT It k), (toD x).items = x.items
  | 0, x => rfl
  | k + 1, x => by
    show inter x.1 ((x.2.map toD).map DT.items) = inter x.1 (x.2.map PT.items)
    rw [List.map_map]
    congr 1
    exact List.map_congr_left fun c _ => toD_items c
theorem toD_its : ∀ {k : Nat} (x : PT It k), (toD x).1 = x.its
  | 0, _ => rfl
  | _ + 1, _ => rfl
theorem toD_lv {m : Nat} : ∀ {k lo : Nat} {x : PT It k}, x.Fl m lo → (toD x).lv = (k + 1, true)
  | 0, _, x, _ => rfl
  | k + 1, lo, x, f => by
    have hl : x.2.length = x.1.length + 1 := f.2.2.1
    obtain ⟨q, r, hq⟩ : ∃ q r, x.2 = q :: r := head_of (by omega)
    have hk : ∀ c ∈ x.2, (toD c).lv = (k + 1, true) := fun c hc => toD_lv (f.2.2.2 c hc)
    have e : (toD x).2 = toD q :: r.map toD := by show x.2.map toD = _; rw [hq]; rfl
    have e1 : (toD x).1 = x.1 := rfl
    have hr : (r.map toD).length = (toD x).1.length := by rw [List.length_map, e1]; rw [hq] at hl; simp at hl; exact hl
    unfold DT.lv
    rw [e]
    simp only [if_pos hr]
    have h1 := hk q (by rw [hq]; simp)
    rw [h1]
    simp only [Bool.true_and, Prod.mk.injEq, true_and, List.all_map, List.all_eq_true, Function.comp]
    intro c hc
    rw [hk c (by rw [hq]; exact List.mem_cons_of_mem _ hc)]
    simp
theorem toD_fl {d : Nat} (hd : 1 ≤ d) : ∀ {k lo : Nat} {x : PT It k}, x.Fl (2 * d - 1) lo → (toD x).fl d lo = true
  | 0, lo, x, f => by
    have f : lo ≤ List.length (α := It) x ∧ List.length (α := It) x ≤ 2 * d - 1 := f
    show (decide ((lo : Int) ≤ (List.length (α := It) x : Nat)) && decide (((List.length (α := It) x : Nat) : Int) ≤ 2 * d - 1) && true) = true
    simp only [Bool.and_eq_true, decide_eq_true_eq, and_true]
    omega
  | k + 1, lo, x, f => by
    have h1 := f.1
    have h2 := f.2.1
    show (decide ((lo : Int) ≤ (x.1.length : Nat)) && decide (((x.1.length : Nat) : Int) ≤ 2 * d - 1) && (x.2.map toD).all fun q => DT.fl d (d - 1) q) = true
    simp only [Bool.and_eq_true, decide_eq_true_eq, List.all_map, List.all_eq_true, Function.comp]
    refine ⟨⟨by omega, by omega⟩, fun c hc => ?_⟩
    have h3 := f.2.2.2 c hc
    rw [show (2 * d - 1) / 2 = d - 1 by omega] at h3
    have := toD_fl hd h3
    rw [show ((d - 1 : Nat) : Int) = (d : Int) - 1 by omega] at this
    exact this
theorem toD_bulk {m : Nat} (hm : 3 ≤ m) : ∀ {k lo : Nat} {x : PT It k}, x.Fl m lo → 1 ≤ lo → (toD x).bulk ≤ 2 * x.items.length
  | 0, lo, x, f, h => by
    have f : lo ≤ List.length (α := It) x := f.1
    show 1 + List.length (α := It) x + 0 ≤ 2 * List.length (α := It) x
    omega
  | k + 1, lo, x, f, h => by
    have h1 := f.1
    have hs : ∀ l : List (PT It k), (∀ c ∈ l, c ∈ x.2) → ((l.map toD).map DT.bulk).sum ≤ 2 * ((l.map PT.items).map List.length).sum := fun l => by
      induction l with
      | nil => intro _; simp
      | cons a r ih =>
        intro hl
        have i1 := ih fun c hc => hl c (List.mem_cons_of_mem _ hc)
        have i2 := toD_bulk hm (f.2.2.2 a (hl a (by simp))) (by omega)
        simp only [List.map_cons, List.sum_cons]
        omega
    have := hs x.2 fun _ h => h
    show 1 + x.1.length + ((x.2.map toD).map DT.bulk).sum ≤ 2 * (inter x.1 (x.2.map PT.items)).length
    rw [inter_length]
    omega
theorem toD_valid {d : Nat} (hd : 2 ≤ d) {k : Nat} {x : PT It k} (f : x.Fl (2 * d - 1) 1) (ha : Asc x.items) : validB d (toD x) := by
  refine .inr ⟨?_, ?_, ?_⟩
  · rw [toD_lv f]
  · rw [if_neg (by omega)]; exact toD_fl (by omega) f
  · rw [toD_items]; exact ha
end Go.Proofs.Ytlihjljdndbpdaa
end
section
namespace Go.Proofs.Ytlihjljdndbpdaa
open Go.Hp
set_option linter.unusedVariables false
set_option linter.unusedSimpArgs false
variable {h0 h : Heap} {Z E : List Rg} {Q : Value → Heap → Prop}
theorem RightCounts_ok : ∀ {k : Nat} (x : PT It k) {g : Heap} {vi vk : Value} {Q : Value → Heap → Prop}, ArgC g x vi vk → (toD x).bulk ≤ 1073741824 →
    (∀ E' h', St g [] E' h' → Q (.bool true) h') → s_RightCounts.call #[.agg #[vi, vk, .int .i64 x.items.length]] g Q := by
  intro k
  induction k with
  | zero =>
    intro x g vi vk Q ha hb H
    have hone := ha.one
    refine s_RightCounts.body _ _ _ ?_
    unfold s_RightCounts.sh
    have s := St.start g
    refine St.r_box (cs := [vi, vk, .int .i64 x.items.length]) s fun t1 h s => ?_
    refine r_fld ?_
    refine St.r_load0 s 0 rfl rfl ?_
    refine (ha.2.st s).lenV ?_
    refine loop_ghost (fun q st h' => q = 0 ∧ st = [.int .i64 0] ∧ h' = h) (n0 := 0) ⟨rfl, rfl, rfl⟩ ?_
    rintro q st _ ⟨rfl, rfl, rfl⟩ K HK
    unfold s_RightCounts.l2.b
    refine r_cmpI ?_
    refine r_if (fun e => absurd e (by simp)) (fun _ => ?_)
    unfold s_RightCounts.j1
    refine r_fld ?_
    refine St.r_load0 s 0 rfl rfl ?_
    refine St.r_loadN0 s 0 rfl (by simp) ?_
    refine s_NodeItems_ok (toD x) ((ha.fr s.fr).toD) hb rfl fun v E2 h s2 hv => ?_
    have s := (s.join s2).perm List.perm_append_comm
    have s : St g [] ((t1, 0, [vi, vk, .int .i64 x.items.length]) :: E2) h := s
    refine ⟨St.r_still0 s 0 (j := 2) rfl rfl, ?_⟩
    refine hv.lenV ?_
    rw [toD_items]
    refine r_cmpI ?_
    have := H _ _ s
    simpa using this
  | succ k ih =>
    intro x g vi vk Q ha hb H
    have ha0 := ha
    have hone := ha.one
    obtain ⟨hr, cs, hcl, hrk, hks⟩ := ha
    refine s_RightCounts.body _ _ _ ?_
    unfold s_RightCounts.sh
    have s := St.start g
    refine St.r_box (cs := [vi, vk, .int .i64 x.items.length]) s fun t1 h s => ?_
    refine r_fld ?_
    refine St.r_load0 s 0 rfl rfl ?_
    refine Rdl.lenV (by assumption) ?_
    have hkb : cs.length ≤ 1073741824 := by
      have h1 := (toD x).kids_le
      have h2 : (toD x).2.length = x.2.length := List.length_map ..
      omega
    refine loop_ghost (fun q st h' => ∃ (j : Nat) (R : List Rg), q = cs.length - j ∧ j ≤ cs.length ∧ st = [.int .i64 (j : Nat)] ∧ St g [] ((t1, 0, [vi, vk, .int .i64 x.items.length]) :: R) h') (n0 := cs.length)
      ⟨0, [], rfl, Nat.zero_le _, rfl, s⟩ ?_
    clear s
    rintro q st h ⟨j, R, rfl, hj, rfl, s⟩ K HK
    unfold s_RightCounts.l2.b
    refine r_cmpI ?_
    refine r_if (fun hlt => ?_) (fun hge => ?_)
    · have hlt : j < cs.length := by have := of_decide_eq_true hlt; omega
      have hlt2 : j < x.2.length := by omega
      obtain ⟨ka, kc⟩ := hks j hlt2 hlt
      have kone := ka.one
      unfold s_RightCounts.j3
      refine (hrk.st s).at (n := j) (f := encN) rfl (fun _ => rfl) rfl rfl hlt fun b o hbb => ?_
      refine hbb.loadN rfl ?_
      refine s.r_alloc fun t4 h s => ?_
      refine St.r_storeN0 s 0 (ys := [cs[j].1, cs[j].2.1, .int .i64 cs[j].2.2]) rfl rfl (by simp) (one3 kone.1 kone.2 rfl) ?_; intro h s
      refine St.r_loadN0 s 0 rfl (by simp) ?_
      have hkb2 : (toD x.2[j]).bulk ≤ 1073741824 := by
        have := (toD x).kid_le (q := toD x.2[j]) (by show toD x.2[j] ∈ x.2.map toD; exact List.mem_map.2 ⟨_, List.getElem_mem hlt2, rfl⟩)
        omega
      have key := ih x.2[j] (g := h) (vi := cs[j].1) (vk := cs[j].2.1) (Q := fun t13 h => notV t13 fun t14 => ifV t14 (Q (.bool false) h) (s_RightCounts.j4 (ptr t1 0) vk (.int .i64 cs.length) (.int .i64 j) h K Q)) (ka.fr s.fr) hkb2 fun E2 h s2 => by
        have s := (s.join s2).perm List.perm_append_comm
        have s : St g [] ((t4, 0, [cs[j].1, cs[j].2.1, .int .i64 cs[j].2.2]) :: (t1, 0, [vi, vk, .int .i64 x.items.length]) :: (R ++ E2)) h := s
        refine r_not ?_
        refine r_if (fun e => absurd e (by simp)) (fun _ => ?_)
        unfold s_RightCounts.j4
        refine r_add1 (by omega) ?_
        exact HK (cs.length - (j + 1)) _ _ (by omega) ⟨j + 1, _, rfl, hlt, rfl, s.tail rfl⟩
      rw [← kc] at key
      exact key
    · unfold s_RightCounts.j1
      refine r_fld ?_
      refine St.r_load0 s 0 rfl rfl ?_
      refine St.r_loadN0 s 0 rfl (by simp) ?_
      refine s_NodeItems_ok (toD x) ((ha0.fr s.fr).toD) hb rfl fun v E2 h s2 hv => ?_
      have s := (s.join s2).perm List.perm_append_comm
      have s : St g [] ((t1, 0, [vi, vk, .int .i64 x.items.length]) :: (R ++ E2)) h := s
      refine ⟨St.r_still0 s 0 (j := 2) rfl rfl, ?_⟩
      refine hv.lenV ?_
      rw [toD_items]
      refine r_cmpI ?_
      have := H _ _ s
      simpa using this
theorem NodeHeight_ok {k : Nat} (t : DT (k + 1)) {g : Heap} {vi vk vc : Value} (ha : ArgD g t vi vk) (hb : t.bulk ≤ 1073741824) (hk : k ≤ 1099511627775) (hvc : one1 vc = true)
    (H : ∀ E' h', St g [] E' h' → Q (.int .i64 ((if t.1 = [] then 0 else t.lv.1 : Nat) : Int)) h') : s_NodeHeight.call #[.agg #[vi, vk, vc]] g Q := by
  have hr := ha.1
  refine s_NodeHeight.body _ _ _ ?_
  unfold s_NodeHeight.sh
  have s := St.start g
  refine St.r_box (cs := [vi, vk, vc]) s fun t1 h s => ?_
  refine r_fld ?_
  refine St.r_load0 s 0 rfl rfl ?_
  refine Rdl.lenV (by assumption) ?_
  refine r_cmpI ?_
  by_cases e : t.1 = []
  · rw [if_pos e] at H
    refine r_if (fun _ => H _ _ s) (fun e2 => absurd e2 (by rw [e]; simp))
  · rw [if_neg e] at H
    refine r_if (fun e2 => absurd e2 (by simpa using e)) (fun _ => ?_)
    unfold s_NodeHeight.j1
    refine St.r_loadN0 s 0 rfl (by simp) ?_
    refine s_Levels_ok t (ha.fr s.fr) hb (by omega) hvc fun E2 h s2 => ?_
    refine r_ext rfl ?_
    refine r_ext rfl ?_
    exact H _ _ (s.join s2)
theorem holds_ok {d : Nat} (hd : 2 ≤ d) (hd2 : d ≤ 512) {k : Nat} (x : PT It k) {L : List It} {g : Heap} {vi vk v : Value} (ha : ArgC g x vi vk) (hv : validB d (toD x)) (hb : (toD x).bulk ≤ 1073741824) (hk : k ≤ 1099511627775) (hL : L = x.items) (hr : Rdl 2 g v L.length (L.flatMap encA))
    (H : ∀ E' h', St g [] E' h' → Q (.bool true) h') : l_holds.call #[.agg #[.slice none 0 0, .int .i64 d, .bool false], .agg #[vi, vk, .int .i64 x.items.length], v] g Q := by
  subst hL
  have hone := ha.one
  have hil := (toD x).items_le
  rw [toD_items] at hil
  refine l_holds.body _ _ _ _ _ ?_
  unfold l_holds.sh
  have s := St.start g
  refine St.r_box (cs := [.slice none 0 0, .int .i64 d, .bool false]) s fun t3 h s => ?_
  refine St.r_box (cs := [vi, vk, .int .i64 x.items.length]) s fun t4 h s => ?_
  refine St.r_loadN0 s 1 rfl (by simp) ?_
  refine St.r_loadN0 s 0 rfl (by simp) ?_
  refine s_Valid_ok (toD x) ((ha.fr s.fr).toD) hb hk (by omega) (by omega) rfl rfl fun b E2 h hbv s2 => ?_
  have hb1 : b = true := hbv.2 hv
  subst hb1
  have s := (s.join s2).perm List.perm_append_comm
  have s : St g [] ((t4, 0, [vi, vk, .int .i64 x.items.length]) :: (t3, 0, [.slice none 0 0, .int .i64 d, .bool false]) :: E2) h := s
  refine r_br (fun _ => ?_) (fun e => absurd e (by decide))
  refine St.r_loadN0 s 0 rfl (by simp) ?_
  refine RightCounts_ok x (ha.fr s.fr) hb fun E3 h s3 => ?_
  have s := (s.join s3).perm List.perm_append_comm
  have s : St g [] ((t4, 0, [vi, vk, .int .i64 x.items.length]) :: (t3, 0, [.slice none 0 0, .int .i64 d, .bool false]) :: (E2 ++ E3)) h := s
  refine r_br (fun _ => ?_) (fun e => absurd e (by decide))
  refine St.r_loadN0 s 0 rfl (by simp) ?_
  refine s_NodeItems_ok (toD x) ((ha.fr s.fr).toD) hb rfl fun v2 E4 h s4 hv2 => ?_
  rw [toD_items] at hv2
  have s := s.join s4
  exact Ii.EqualI_ok hv2 (hr.st s) (by omega) (H _ _ s)
/-- The tree below a map's root; none is the tree of no items. -/
def mt0 : MT It → (k : Nat) × PT It k
  | none => ⟨0, ([] : List It)⟩
  | some t => t
def mh : MT It → Nat
  | none => 0
  | some t => t.1 + 1
theorem mt0_items (y : MT It) : (mt0 y).2.items = y.items := by cases y <;> rfl
theorem Sh_mono {m m' : Nat} (h : m ≤ m') : ∀ {k : Nat} {x : PT It k}, x.Sh m → x.Sh m'
  | 0, _, s => Nat.le_trans s h
  | _ + 1, _, s => ⟨Nat.le_trans s.1 h, s.2.1, fun c hc => Sh_mono h (s.2.2 c hc)⟩
theorem fell_ok {tb m : Nat} {cnt mn mx : Int} {ctr : Option Addr} {g : Ii.Rt} (M : Ii.MapOk m 0 g) (hl : (Ii.rPt g).items.length ≤ 1073741822) (s : St h0 Z ((tb, 0, Ii.hdr 0 ctr (Ii.rA g) cnt mn mx) :: (Ii.rAll g ++ E)) h)
    (H : ∀ vi vk A h', St h0 Z (A ++ ((tb, 0, Ii.hdr 0 ctr (Ii.rA g) cnt mn mx) :: (Ii.rAll g ++ E))) h' → (∀ g', (∀ r ∈ A, r.Ok g') → ArgC g' (mt0 (Ii.rPt g)).2 vi vk) → one1 vi = true → one1 vk = true → Q (.agg #[vi, vk, .int .i64 (Ii.rPt g).items.length]) h') : i_fellMap.call #[ptr tb 0] h Q := by
  refine i_fellMap.body _ _ _ ?_
  unfold i_fellMap.sh
  refine s.r_alloc fun t2 h s => ?_
  refine Map_ii_DoorRoot.body _ _ _ ?_
  unfold Map_ii_DoorRoot.sh
  refine s.r_alloc fun t9 h s => ?_
  refine r_nil ?_
  refine r_fld ?_
  refine St.r_load0 s 2 rfl rfl ?_
  (apply r_build; (simp only [fillV, fill1, Value.cells, zeros_succ, zeros_zero, List.size_toArray, List.length_cons, List.length_nil, List.length_append, List.take_succ_cons, List.take_zero, List.take_nil, List.drop_succ_cons, List.drop_zero, List.drop_nil, List.cons_append, List.nil_append, List.append_nil, Nat.reduceAdd, Nat.reduceMul, Nat.reduceLeDiff, Nat.reduceEqDiff, and_self, and_true, true_and, if_true, Nat.le_refl, Nat.zero_add, Nat.add_zero, Nat.zero_mul, reduceIte, if_false] <;> rfl))
  refine r_nil ?_
  refine r_fld ?_
  refine St.r_load0 s 2 rfl rfl ?_
  refine r_neNilP ?_
  refine St.r_storeN0 s 0 (ys := [.pointer (Ii.rA g)]) rfl rfl (by simp) (by simp [one1]) ?_; intro h s
  refine ⟨St.r_still1 s 2 (j := 2) rfl rfl, ?_⟩
  refine St.r_loadN0 s 0 rfl (by simp) ?_
  refine r_ext rfl ?_
  refine r_ext rfl ?_
  refine s.r_alloc fun t3 h s => ?_
  refine St.r_storeN0 s 0 (ys := [.pointer (Ii.rA g)]) rfl rfl (by simp) (by simp [one1]) ?_; intro h s
  refine r_not ?_
  cases g with
  | none =>
    refine r_if (fun _ => ?_) (fun e => absurd e (by simp [Ii.rA]))
    have s : St h0 Z ((t3, 0, [.pointer none]) :: (t9, 0, [.pointer none]) :: (t2, 0, [.slice none 0 0, .slice none 0 0, .int .i64 0]) :: (tb, 0, Ii.hdr 0 ctr none cnt mn mx) :: E) h := s
    ((apply r_build; ((simp only [fillV, fill1, Value.cells, zeros_succ, zeros_zero, List.size_toArray, List.length_cons, List.length_nil, List.length_append, List.take_succ_cons, List.take_zero, List.take_nil, List.drop_succ_cons, List.drop_zero, List.drop_nil, List.cons_append, List.nil_append, List.append_nil, Nat.reduceAdd, Nat.reduceMul, Nat.reduceLeDiff, Nat.reduceEqDiff, and_self, and_true, true_and, if_true, Nat.le_refl, Nat.zero_add, Nat.add_zero, Nat.zero_mul, reduceIte, if_false] <;> rfl))))
    refine St.r_storeN0 s 2 (ys := [.slice none 0 0, .slice none 0 0, .int .i64 0]) rfl rfl (by simp) (by simp [one1]) ?_; intro h s
    refine St.r_loadN0 s 2 rfl (by simp) ?_
    exact H (.slice none 0 0) (.slice none 0 0) [(t3, 0, [.pointer none]), (t9, 0, [.pointer none]), (t2, 0, [.slice none 0 0, .slice none 0 0, .int .i64 0])] h s (fun g' _ => ⟨Rdl.nil 2 g', Rdl.nil 3 g'⟩) rfl rfl
  | some t =>
    obtain ⟨k, t⟩ := t
    refine r_if (fun e => absurd e (by simp [Ii.rA])) (fun _ => ?_)
    unfold i_fellMap.j1
    refine St.r_loadN0 s 0 rfl (by simp) ?_
    have hat : t.At enc 2 h := GT.At.of M.gd.wf fun r hr => s.ok (List.mem_append.2 (.inl (by
      refine List.mem_cons_of_mem _ (List.mem_cons_of_mem _ (List.mem_cons_of_mem _ (List.mem_cons_of_mem _ (List.mem_append.2 (.inl hr)))))
      )))
    have hm1 := M.m1
    have hsh : t.pt.Sh 1073741823 := by
      have f : t.pt.Fl m 1 := M.fl
      exact Sh_mono (by omega) f.sh
    refine lifted_ok t hat M.gd.cn hsh fun vi vk A h s2 hA o1 o2 => ?_
    have s := (s.join s2).perm List.perm_append_comm
    have s : St h0 Z ((t3, 0, [ptr t.id 0]) :: (t9, 0, [ptr t.id 0]) :: (t2, 0, [.slice none 0 0, .slice none 0 0, .int .i64 0]) :: (((tb, 0, Ii.hdr 0 ctr (Ii.rA (some ⟨k, t⟩)) cnt mn mx) :: (Ii.rAll (some ⟨k, t⟩) ++ E)) ++ A)) h := s
    refine St.r_storeN0 s 2 (ys := [vi, vk, .int .i64 t.pt.items.length]) rfl rfl (by simp) (one3 o1 o2 rfl) ?_; intro h s
    refine St.r_loadN0 s 2 rfl (by simp) ?_
    refine H vi vk ((t3, 0, [ptr t.id 0]) :: (t9, 0, [ptr t.id 0]) :: (t2, 0, [vi, vk, .int .i64 t.pt.items.length]) :: A) h (s.perm ?_) (fun g' hg => hA g' fun r hr => hg r (List.mem_cons_of_mem _ (List.mem_cons_of_mem _ (List.mem_cons_of_mem _ hr)))) o1 o2
    refine List.Perm.cons _ (List.Perm.cons _ (List.Perm.cons _ ?_))
    exact List.perm_append_comm
end Go.Proofs.Ytlihjljdndbpdaa
end
section
namespace Go.Proofs.Ytlihjljdndbpdaa
open Go.Hp
set_option linter.unusedVariables false
set_option linter.unusedSimpArgs false
variable {h0 h : Heap} {Z E : List Rg} {Q : Value → Heap → Prop}
theorem asc_iff {l : List It} : Asc l ↔ Go.Hp.Asc Ii.lt l := by
  unfold Go.Hp.Asc
  rw [List.pairwise_iff_getElem]
  constructor
  · intro h i j h1 h2 h3
    rw [Ii.lt_t]
    exact Asc.lt h i j h3 h2
  · intro h i h1
    have := h i (i + 1) (by omega) h1 (by omega)
    rw [Ii.lt_t] at this
    exact this
/-- What standing a map gives. -/
def Stands (d : Nat) (m0 : MT It) (h : Heap) (vi vk vc : Value) : Prop := ∀ {Q : Value → Heap → Prop}, (∀ (g : Ii.Rt) tb h', Ii.rPt g = m0 → Ii.MapOk (2 * d - 1) 0 g →
    St h [] ((tb, 0, Ii.hdr 0 none (Ii.rA g) (Ii.rPt g).items.length ((d - 1 : Nat) : Int) ((2 * d - 1 : Nat) : Int)) :: Ii.rAll g) h' → Q (ptr tb 0) h') → i_standMap.call #[.int .i64 d, .agg #[vi, vk, vc]] h Q
theorem stands_of {d k : Nat} {t : DT (k + 1)} {g : Heap} {vi vk vc : Value} (ha : ArgD g t vi vk) (hb : t.bulk ≤ 268435456) (hvc : one1 vc = true) (hd : 2 ≤ d) (hd2 : d ≤ 128) (hv : validB d t) :
    ∃ m0 : MT It, m0.items = t.items ∧ mh m0 = (if t.1 = [] then 0 else t.lv.1) ∧ ∀ h, Fr (fun _ _ => False) g h → Stands d m0 h vi vk vc := by
  have ha' := ha
  obtain ⟨hr, cs, hcl, hrk, hks⟩ := ha
  have c1 : ((d - 1 : Nat) : Int) = (d : Int) - 1 := by omega
  have c2 : ((2 * d - 1 : Nat) : Int) = 2 * (d : Int) - 1 := by omega
  rcases hv with ⟨he1, he2⟩ | ⟨hlv, hfl, hasc⟩
  · have hnil : t.items = [] := by show inter t.1 (t.2.map DT.items) = []; rw [he1, he2]; rfl
    obtain ⟨a0, c0, e0, _⟩ := hr
    obtain ⟨a1, c1', e1, _⟩ := hrk
    rw [hcl, he2] at e1
    rw [he1] at e0
    subst e0; subst e1
    refine ⟨none, hnil.symm, by rw [if_pos he1]; rfl, fun h f Q H => ?_⟩
    refine i_standMap_empty (by omega) (by omega) fun tb h' s => ?_
    refine H none tb h' rfl (Ii.MapOk.none (by omega) (by omega) (by omega)) ?_
    rw [c1, c2]; exact s
  · rw [if_neg (by omega)] at hfl
    have hne0 : t.1 ≠ [] := by
      have h1 : (1 : Int) ≤ t.1.length := by
        have : t.fl d 1 = (decide ((1 : Int) ≤ t.1.length) && decide ((t.1.length : Int) ≤ 2 * d - 1) && t.2.all fun q => q.fl d (d - 1)) := rfl
        rw [this] at hfl
        simp only [Bool.and_eq_true, decide_eq_true_eq] at hfl
        exact hfl.1.1
      intro hh
      rw [hh] at h1
      simp at h1
    have hp := lv_pos t hlv
    obtain ⟨x, hx⟩ := uni_of t (t.lv.1 - 1) (Prod.ext (by simp only; omega) hlv)
    have hne : x.its ≠ [] := by rw [hx.its]; exact hne0
    have hil := t.items_le
    have hF : x.Fl (2 * d - 1) 1 := hx.fl d 1 (by omega) hfl
    refine ⟨some ⟨_, x⟩, hx.items, by rw [if_neg hne0]; show t.lv.1 - 1 + 1 = _; omega, fun h f Q H => ?_⟩
    refine i_standMap_ok x (hx.arg _ _ _ (ha'.fr f)) (hx.sh _ (by omega)) (by rw [hx.items]; omega) hvc (by omega) (by omega) hne fun t' tb h' e1 e2 e3 e4 s => ?_
    have er : Ii.rPt (some ⟨_, t'⟩) = some ⟨_, x⟩ := by show some (⟨_, t'.pt⟩ : (k : Nat) × PT It k) = _; rw [e1]
    refine H (some ⟨_, t'⟩) tb h' er ⟨⟨e2, e3, e4⟩, by rw [er]; exact hF, ?_, by omega, by omega, by omega⟩ ?_
    · rw [er]
      show Go.Hp.Asc Ii.lt x.items
      rw [hx.items]; exact asc_iff.1 hasc
    · rw [er, c1, c2]
      rw [e4.all] at s
      exact s
end Go.Proofs.Ytlihjljdndbpdaa
end
section
namespace Go.Proofs.Ytlihjljdndbpdaa
open Go.Hp
set_option linter.unusedVariables false
set_option linter.unusedSimpArgs false
variable {h0 h : Heap} {Z E : List Rg} {Q : Value → Heap → Prop}
theorem fits3_ok {k : Nat} {t : DT (k + 1)} {g : Heap} {vi vk vc : Value} (ha : ArgD g t vi vk) (hb : t.bulk ≤ 268435456) (H : ∀ E' h', St g [] E' h' → Q (.bool true) h') : l_zzFits3.call #[.agg #[vi, vk, vc]] g Q := by
  have hbulk := t.kids_le
  obtain ⟨hr, cs, hcl, hrk, hks⟩ := ha
  refine l_zzFits3.body _ _ _ ?_
  unfold l_zzFits3.sh
  have s := St.start g
  refine St.r_box (cs := [vi, vk, vc]) s fun t1 h s => ?_
  refine r_fld ?_
  refine St.r_load0 s 0 rfl rfl ?_
  refine Rdl.lenV (by assumption) ?_
  refine r_cmpI ?_
  refine r_if (fun e => absurd (of_decide_eq_true e) (by omega)) (fun _ => ?_)
  unfold l_zzFits3.j1
  refine r_fld ?_
  refine St.r_load0 s 0 rfl rfl ?_
  refine Rdl.lenV (by assumption) ?_
  refine r_cmpI ?_
  refine r_if (fun e => absurd (of_decide_eq_true e) (by omega)) (fun _ => ?_)
  unfold l_zzFits3.j2
  exact H _ _ s
theorem eqF (o : Option It) : EqV Try.prog 10000 32 (.agg (Ii.foundC o).toArray) (.agg (Ii.foundC o).toArray) true := by
  have := eqFound 9997 o
  cases o <;> exact this
theorem its_ne {m : Nat} {y : MT It} (f : y.Fl m) : (if (toD (mt0 y).2).1 = [] then 0 else (toD (mt0 y).2).lv.1) = mh y := by
  cases y with
  | none => rfl
  | some t =>
    obtain ⟨k, x⟩ := t
    have f : x.Fl m 1 := f
    have h1 := f.le.1
    show (if (toD x).1 = [] then 0 else (toD x).lv.1) = k + 1
    rw [toD_lv f, if_neg]
    rw [toD_its]
    intro e; rw [e] at h1; simp at h1
theorem bulk_mt {m : Nat} (hm : 3 ≤ m) {y : MT It} (f : y.Fl m) : (toD (mt0 y).2).bulk ≤ 2 * y.items.length + 1 := by
  cases y with
  | none => exact Nat.le_refl _
  | some t =>
    obtain ⟨k, x⟩ := t
    have f : x.Fl m 1 := f
    have := toD_bulk hm f (Nat.le_refl _)
    show (toD x).bulk ≤ 2 * x.items.length + 1
    omega
theorem valid_mt {d : Nat} (hd : 2 ≤ d) {y : MT It} (f : y.Fl (2 * d - 1)) (ha : Go.Hp.Asc Ii.lt y.items) : validB d (toD (mt0 y).2) := by
  cases y with
  | none => exact .inl ⟨rfl, rfl⟩
  | some t => exact toD_valid hd f (asc_iff.2 ha)
theorem fc {o : Option It} {b : Nat} {R : List Rg} {g : Heap} (s : St g [] ((b, 0, List.take 0 [.int .i64 0, .int .i64 0, .bool false] ++ Ii.foundC o ++ List.drop (0 + 3) [.int .i64 0, .int .i64 0, .bool false]) :: R) h) : St g [] ((b, 0, Ii.foundC o) :: R) h := by
  have e : List.take 0 [Value.int .i64 0, .int .i64 0, .bool false] ++ Ii.foundC o ++ List.drop (0 + 3) [Value.int .i64 0, .int .i64 0, .bool false] = Ii.foundC o := by simp
  rw [e] at s; exact s
end Go.Proofs.Ytlihjljdndbpdaa
end
section
namespace Go.Proofs.Ytlihjljdndbpdaa
open Go.Hp
set_option linter.unusedVariables false
set_option linter.unusedSimpArgs false
variable {h0 h : Heap} {Z E : List Rg} {Q : Value → Heap → Prop}
/-- What FnDDelete does with the tree that is left. -/
def endD (s0 s4 s8 s9 s10 due : Value) (f : Int → Int → Int) (h : Heap) (Q : Value → Heap → Prop) : Prop :=
  loadN 3 s4 h fun t34 =>
    loadN 3 s10 h fun t36 =>
    s_NodeHeight.call #[t34] h fun t35 h =>
    stillN 3 s10 t36 h ∧ s_NodeHeight.call #[t36] h fun t37 h =>
    arith f t35 t37 fun t38 =>
    loadN 3 s9 h fun t39 =>
    loadN 3 s8 h fun t40 =>
    eqR (EqV Try.prog 10000 32) t39 t40 fun t41 =>
    br t41 true (buildV [(.slice none 0 0), (.int .i64 0), (.bool false)] [(1, 1, s0)] fun t44 =>
    loadN 3 s10 h fun t45 =>
    l_holds.call #[t44, t45, due] h fun t47 h =>
    br t47 true (cmpI (fun a b => a == b) t38 (.int .i64 0) fun t51 =>
    br t51 false (cmpI (fun a b => a == b) t38 (.int .i64 1) fun t54 =>
    br t54 true (l_aliveD.call #[] h fun t58 h =>
    Q t58 h) (Q (.bool false) h)) (l_aliveD.call #[] h fun t58_2 h =>
    Q t58_2 h)) (Q (.bool false) h)) (Q (.bool false) h)
theorem endD_ok {d : Nat} (hd : 2 ≤ d) (hd2 : d ≤ 128) {k : Nat} {t : DT (k + 1)} {g : Heap} {vi vk vi' vk' vd : Value} {c : Int} {s4 s8 s9 s10 : Nat} {R : List Rg} {y : MT It} {o : Option It} {f : Int → Int → Int}
    (ha : ArgD g t vi vk) (hb : t.bulk ≤ 268435456) (hk : k ≤ 1048576) (hy : mh y ≤ k + 2) (hyl : y.items.length ≤ 268435457) (yf : y.Fl (2 * d - 1)) (ya : Go.Hp.Asc Ii.lt y.items)
    (hf : IntKind.i64.wrap (f ((if t.1 = [] then 0 else t.lv.1 : Nat) : Int) (mh y)) = 0 ∨ IntKind.i64.wrap (f ((if t.1 = [] then 0 else t.lv.1 : Nat) : Int) (mh y)) = 1)
    (hc : ArgC h (mt0 y).2 vi' vk') (hdue : Rdl 2 h vd y.items.length (y.items.flatMap encA))
    (s : St g [] ((s10, 0, [vi', vk', .int .i64 y.items.length]) :: (s9, 0, Ii.foundC o) :: (s8, 0, Ii.foundC o) :: (s4, 0, [vi, vk, .int .i64 c]) :: R) h)
    (H : ∀ E' h', St g [] E' h' → Q (.bool true) h') : endD (.int .i64 d) (ptr s4 0) (ptr s8 0) (ptr s9 0) (ptr s10 0) vd f h Q := by
  unfold endD
  have hbk := bulk_mt (by omega) yf
  have hbv := valid_mt hd yf ya
  have hmk : (mt0 y).1 ≤ k + 1 := by
    cases y with
    | none => exact Nat.zero_le _
    | some t => have : t.1 + 1 ≤ k + 2 := hy; show t.1 ≤ _; omega
  have live : ∀ {E' h'}, St g [] E' h' → l_aliveD.call #[] h' Q := fun s => l_aliveD_ok fun E' h' s' => H _ _ (s.join s')
  refine St.r_loadN0 s 3 rfl (by simp) ?_
  refine St.r_loadN0 s 0 rfl (by simp) ?_
  refine NodeHeight_ok t (ha.fr s.fr) (by omega) (by omega) rfl fun E2 h2 s2 => ?_
  have s := (s.join s2).perm List.perm_append_comm
  have s : St g [] ((s10, 0, [vi', vk', .int .i64 y.items.length]) :: (s9, 0, Ii.foundC o) :: (s8, 0, Ii.foundC o) :: (s4, 0, [vi, vk, .int .i64 c]) :: (R ++ E2)) h2 := s
  have hc := hc.fr s2.fr
  have hdue := hdue.st s2
  refine ⟨St.r_stillN0 s 0 (j := 0) (n := 3) rfl (by simp) rfl, ?_⟩
  refine NodeHeight_ok (toD (mt0 y).2) hc.toD (by omega) (by omega) rfl fun E3 h3 s3 => ?_
  rw [its_ne yf]
  have s := (s.join s3).perm List.perm_append_comm
  have s : St g [] ((s10, 0, [vi', vk', .int .i64 y.items.length]) :: (s9, 0, Ii.foundC o) :: (s8, 0, Ii.foundC o) :: (s4, 0, [vi, vk, .int .i64 c]) :: ((R ++ E2) ++ E3)) h3 := s
  have hc := hc.fr s3.fr
  have hdue := hdue.st s3
  refine ⟨_, _, _, rfl, rfl, ?_⟩
  refine St.r_loadN0 s 1 rfl (by simp [Ii.foundC_len]) ?_
  refine St.r_loadN0 s 2 rfl (by simp [Ii.foundC_len]) ?_
  have eo : ((Ii.foundC o).drop 0).take 3 = Ii.foundC o := by cases o <;> rfl
  rw [eo]
  refine ⟨_, _, true, rfl, rfl, eqF o, ?_⟩
  refine r_br (fun _ => ?_) (fun e => absurd e (by decide))
  ((apply r_build; ((simp only [fillV, fill1, Value.cells, zeros_succ, zeros_zero, List.size_toArray, List.length_cons, List.length_nil, List.length_append, List.take_succ_cons, List.take_zero, List.take_nil, List.drop_succ_cons, List.drop_zero, List.drop_nil, List.cons_append, List.nil_append, List.append_nil, Nat.reduceAdd, Nat.reduceMul, Nat.reduceLeDiff, Nat.reduceEqDiff, and_self, and_true, true_and, if_true, Nat.le_refl, Nat.zero_add, Nat.add_zero, Nat.zero_mul, reduceIte, if_false] <;> rfl))))
  refine St.r_loadN0 s 0 rfl (by simp) ?_
  have hit : (mt0 y).2.items.length = y.items.length := by rw [mt0_items]
  have key := holds_ok (Q := fun t47 h => br t47 true (cmpI (fun a b => a == b) (.int .i64 (IntKind.i64.wrap (f ((if t.1 = [] then 0 else t.lv.1 : Nat) : Int) (mh y)))) (.int .i64 0) fun t51 =>
    br t51 false (cmpI (fun a b => a == b) (.int .i64 (IntKind.i64.wrap (f ((if t.1 = [] then 0 else t.lv.1 : Nat) : Int) (mh y)))) (.int .i64 1) fun t54 =>
    br t54 true (l_aliveD.call #[] h fun t58 h =>
    Q t58 h) (Q (.bool false) h)) (l_aliveD.call #[] h fun t58_2 h =>
    Q t58_2 h)) (Q (.bool false) h)) hd (by omega) (mt0 y).2 hc hbv (by omega) (by omega) (mt0_items y).symm hdue fun E4 h4 s4 => by
      have s := s.join s4
      refine r_br (fun _ => ?_) (fun e => absurd e (by decide))
      rcases hf with e | e
      · rw [e]
        refine r_cmpI ?_
        refine r_br (fun e => absurd e (by decide)) (fun _ => ?_)
        exact live s
      · rw [e]
        refine r_cmpI ?_
        refine r_br (fun _ => ?_) (fun e => absurd e (by decide))
        refine r_cmpI ?_
        refine r_br (fun _ => ?_) (fun e => absurd e (by decide))
        exact live s
  rw [hit] at key
  exact key
theorem Cut_ok {l : List It} {v : Value} {i : Nat} (hr : Rdl 2 h v l.length (l.flatMap encA)) (hl : l.length ≤ 1073741824) (hi : i < l.length)
    (H : ∀ v' b o sp E' h', Own 2 v' (l.take i ++ l.drop (i + 1)).length b o ((l.take i ++ l.drop (i + 1)).flatMap encA) sp → St h [] ((b, o, (l.take i ++ l.drop (i + 1)).flatMap encA ++ sp) :: E') h' → Q (.tuple #[v', .agg #[.int .i64 l[i].1, .int .i64 l[i].2, .bool true]]) h') : s_Cut.call #[v, .int .i64 i] h Q := by
  refine s_Cut.body _ _ _ _ ?_
  unfold s_Cut.sh
  have s := St.start h
  refine s.r_alloc fun t5 h1 s => ?_
  refine r_cmpI ?_
  refine r_br (fun _ => ?_) (fun e => absurd (of_decide_eq_true e) (by omega))
  refine hr.lenV ?_
  refine r_cmpI ?_
  refine r_if (fun e => absurd (of_decide_eq_true e) (by omega)) (fun _ => ?_)
  unfold s_Cut.j1
  refine Ii.slcF0 (hr.st s) rfl (by omega) fun v1 r1 => ?_
  refine r_add1 (by omega) ?_
  refine Ii.slcF1 (hr.st s) rfl hi fun v2 r2 => ?_
  refine hr.at (n := i) rfl (fun _ => rfl) rfl rfl hi fun b o hb => ?_
  refine (hb.st s).loadN rfl ?_
  ((apply r_build; ((simp only [fillV, fill1, Value.cells, zeros_succ, zeros_zero, List.size_toArray, List.length_cons, List.length_nil, List.length_append, List.take_succ_cons, List.take_zero, List.take_nil, List.drop_succ_cons, List.drop_zero, List.drop_nil, List.cons_append, List.nil_append, List.append_nil, Nat.reduceAdd, Nat.reduceMul, Nat.reduceLeDiff, Nat.reduceEqDiff, and_self, and_true, true_and, if_true, Nat.le_refl, Nat.zero_add, Nat.add_zero, Nat.zero_mul, reduceIte, if_false] <;> rfl))))
  have s0 := St.start h1
  refine St.r_mkSl (sz := 2) (cs := []) s0 (by ((simp only [fillV, fill1, Value.cells, zeros_succ, zeros_zero, List.size_toArray, List.length_cons, List.length_nil, List.length_append, List.take_succ_cons, List.take_zero, List.take_nil, List.drop_succ_cons, List.drop_zero, List.drop_nil, List.cons_append, List.nil_append, List.append_nil, Nat.reduceAdd, Nat.reduceMul, Nat.reduceLeDiff, Nat.reduceEqDiff, and_self, and_true, true_and, if_true, Nat.le_refl, Nat.zero_add, Nat.add_zero, Nat.zero_mul, reduceIte, if_false] <;> rfl))) rfl fun q h2 s0 wq => ?_
  refine ⟨(hb.st (s.join s0)).stillN rfl, ?_⟩
  refine s0.r_appL (f := encA) (L := []) (M := l.take i) 0 rfl wq rfl (r1.st s0) (fun _ _ => by simp [one1]) (by simp; omega) (by simp; omega) fun va ba oa pa h3 s0 wa => ?_
  rw [List.nil_append] at wa
  have s0 : St h1 [] [(ba, oa, (l.take i).flatMap encA ++ pa)] h3 := s0
  refine ⟨(hb.st (s.join s0)).stillN rfl, ?_⟩
  refine s0.r_appL (f := encA) (L := l.take i) (M := l.drop (i + 1)) 0 rfl wa rfl (r2.st s0) (fun _ _ => by simp [one1]) (by simp; omega) (by simp; omega) fun vb bb ob pb h4 s0 wb => ?_
  have s0 : St h1 [] [(bb, ob, (l.take i ++ l.drop (i + 1)).flatMap encA ++ pb)] h4 := s0
  refine ⟨(hb.st (s.join s0)).stillN rfl, ?_⟩
  have s := s.join s0
  refine St.r_storeN0 s 1 (ys := [.int .i64 l[i].1, .int .i64 l[i].2, .bool true]) rfl rfl (by simp) (by simp [one1]) ?_; intro h5 s
  refine St.r_loadN0 s 1 rfl (by simp) ?_
  exact H vb bb ob pb _ h5 wb s
theorem Drop_ok {l : List It} {v : Value} {x : It} (hr : Rdl 2 h v l.length (l.flatMap encA)) (hl : l.length ≤ 1073741824)
    (H : ∀ v' E' h', St h [] E' h' → Rdl 2 h' v' (ldel Ii.lt l x).length ((ldel Ii.lt l x).flatMap encA) → Q (.tuple #[v', .agg (Ii.foundC (lget Ii.lt l x)).toArray]) h') : s_Drop.call #[.slice none 0 0, v, .agg (encA x).toArray] h Q := by
  refine s_Drop.body _ _ _ _ _ ?_
  unfold s_Drop.sh
  have s := St.start h
  refine s.r_box fun t5 h1 s => ?_
  refine s.r_alloc fun t7 h1 s => ?_
  refine St.r_loadN0 s 1 rfl (by simp) ?_
  refine Ii.Place_nil (x := x) (hr.st s) (by omega) fun E2 h1 s2 => ?_
  have s := (s.join s2).perm List.perm_append_comm
  have s : St h [] ((t7, 0, [.int .i64 0, .int .i64 0, .bool false]) :: (t5, 0, encA x) :: E2) h1 := s
  refine r_ext rfl ?_
  refine r_ext rfl ?_
  refine r_not ?_
  cases e : lget Ii.lt l x with
  | none =>
    rw [e, ldel_none e] at H
    refine r_if (fun _ => ?_) (fun e2 => absurd e2 (by simp))
    ((apply r_build; ((simp only [fillV, fill1, Value.cells, zeros_succ, zeros_zero, List.size_toArray, List.length_cons, List.length_nil, List.length_append, List.take_succ_cons, List.take_zero, List.take_nil, List.drop_succ_cons, List.drop_zero, List.drop_nil, List.cons_append, List.nil_append, List.append_nil, Nat.reduceAdd, Nat.reduceMul, Nat.reduceLeDiff, Nat.reduceEqDiff, and_self, and_true, true_and, if_true, Nat.le_refl, Nat.zero_add, Nat.add_zero, Nat.zero_mul, reduceIte, if_false] <;> rfl))))
    refine St.r_storeN0 s 0 (ys := [.int .i64 0, .int .i64 0, .bool false]) rfl rfl (by simp) (by simp [one1]) ?_; intro h1 s
    refine St.r_loadN0 s 0 rfl (by simp) ?_
    exact H v _ h1 s (hr.st s)
  | some y =>
    rw [e, ldel_some e] at H
    obtain ⟨hp, hy, _⟩ := lget_some e
    refine r_if (fun e2 => absurd e2 (by simp)) (fun _ => ?_)
    unfold s_Drop.j1
    refine Cut_ok (hr.st s) hl hp fun v' b o sp E3 h3 w s3 => ?_
    have s := (s.join s3).perm List.perm_append_comm
    have s : St h [] ((t7, 0, [.int .i64 0, .int .i64 0, .bool false]) :: (t5, 0, encA x) :: (E2 ++ ((b, o, (l.take (pos Ii.lt l x) ++ l.drop (pos Ii.lt l x + 1)).flatMap encA ++ sp) :: E3))) h3 := s
    refine r_ext rfl ?_
    refine r_ext rfl ?_
    refine St.r_storeN0 s 0 (ys := [.int .i64 l[pos Ii.lt l x].1, .int .i64 l[pos Ii.lt l x].2, .bool true]) rfl rfl (by simp) (by simp [one1]) ?_; intro h3 s
    refine St.r_loadN0 s 0 rfl (by simp) ?_
    have r := w.rdlO (s.ok (List.mem_append.2 (.inl (List.mem_cons_of_mem _ (List.mem_cons_of_mem _ (List.mem_append.2 (.inr (List.mem_cons_self ..))))))))
    subst hy
    exact H v' _ h3 s r
theorem DDelete_ok {d : Nat} (hd : 2 ≤ d) (hd2 : d ≤ 128) {m0 : MT It} {g : Heap} {vi vk vc : Value} {kx : Int} (hs : ∀ h, Fr (fun _ _ => False) g h → Stands d m0 h vi vk vc) (h1 : one1 vi = true) (h2 : one1 vk = true) (h3 : one1 vc = true) (hl : m0.items.length ≤ 268435456)
    (H : ∀ (y : MT It) vi' vk' E' h', y.items = ldel Ii.lt m0.items (kx, 0) → (mh y = mh m0 ∨ mh y + 1 = mh m0) → y.Fl (2 * d - 1) → Go.Hp.Asc Ii.lt y.items → St g [] E' h' → ArgC h' (mt0 y).2 vi' vk' → Q (.tuple #[.agg (Ii.foundC (Ii.fnd m0.items kx)).toArray, .agg #[vi', vk', .int .i64 y.items.length]]) h') :
    i_DDelete.call #[.int .i64 d, .agg #[vi, vk, vc], .int .i64 kx] g Q := by
  refine i_DDelete.body _ _ _ _ _ ?_
  unfold i_DDelete.sh
  have s := St.start g
  refine St.r_box (cs := [vi, vk, vc]) s fun t4 h s => ?_
  refine s.r_alloc fun t6 h s => ?_
  refine s.r_alloc fun t7 h s => ?_
  refine St.r_loadN0 s 2 rfl (by simp) ?_
  refine hs h s.fr fun gm tb h e M s2 => ?_
  subst e
  have hd3 : ((d - 1 : Nat) : Int) = (((2 * d - 1) / 2 : Nat) : Int) := by congr 1; omega
  rw [hd3] at s2
  have s := s.join s2
  have s : St g [] ((tb, 0, Ii.hdr 0 none (Ii.rA gm) (Ii.rPt gm).items.length (((2 * d - 1) / 2 : Nat) : Int) ((2 * d - 1 : Nat) : Int)) :: (Ii.rAll gm ++ [(t7, 0, [.slice none 0 0, .slice none 0 0, .int .i64 0]), (t6, 0, [.int .i64 0, .int .i64 0, .bool false]), (t4, 0, [vi, vk, vc])])) h := s
  have hl : (Ii.rPt gm).items.length ≤ 268435456 := hl
  refine Ii.Delete_okH (x := (kx, 0)) M (by omega) s fun g' h e1 M' hH s => ?_
  refine r_ext rfl ?_
  refine r_ext rfl ?_
  have hfn : (if (lget Ii.lt (Ii.rPt gm).items (kx, 0)).isSome = true then some (kx, ((lget Ii.lt (Ii.rPt gm).items (kx, 0)).getD Ii.emp).2) else none) = Ii.fnd (Ii.rPt gm).items kx := Ii.fnd_pair _ _
  refine Ii.pair_ok (p := (kx, ((lget Ii.lt (Ii.rPt gm).items (kx, 0)).getD Ii.emp).2)) fun E2 h s2 => ?_
  rw [hfn]
  have s := (s.join s2).perm List.perm_append_comm
  have hle : (Ii.rPt g').items.length ≤ (Ii.rPt gm).items.length := by rw [e1]; exact (ldel_sub _ _).length_le
  refine fell_ok M' (by omega) (E := [(t7, 0, [.slice none 0 0, .slice none 0 0, .int .i64 0]), (t6, 0, [.int .i64 0, .int .i64 0, .bool false]), (t4, 0, [vi, vk, vc])] ++ E2) (s.perm (by simp only [List.cons_append, List.append_assoc, List.nil_append]; exact List.Perm.refl _)) fun vi' vk' A h s hA o1 o2 => ?_
  have s : St g [] ((t6, 0, [.int .i64 0, .int .i64 0, .bool false]) :: (t7, 0, [.slice none 0 0, .slice none 0 0, .int .i64 0]) :: (A ++ ((tb, 0, Ii.hdr 0 none (Ii.rA g') (Ii.rPt g').items.length (((2 * d - 1) / 2 : Nat) : Int) ((2 * d - 1 : Nat) : Int)) :: (Ii.rAll g' ++ ((t4, 0, [vi, vk, vc]) :: E2))))) h := s.perm (by ((apply perm_rg; intro f; simp only [List.set_cons_zero, List.set_cons_succ, List.eraseIdx_cons_zero, List.eraseIdx_cons_succ, List.cons_append, List.nil_append, List.map_append, List.map_cons, List.map_nil, List.sum_append, List.sum_cons, List.sum_nil, List.map_flatMap, Nat.add_zero, Nat.zero_add]; ac_rfl)))
  refine St.r_storeN0 s 0 rfl (Ii.foundC_len _) (by simp) (Ii.foundC_one _) ?_; intro h s
  refine St.r_storeN0 s 1 (ys := [vi', vk', .int .i64 (Ii.rPt g').items.length]) rfl rfl (by simp) (one3 o1 o2 rfl) ?_; intro h s
  refine St.r_loadN0 s 0 rfl (by simp [Ii.foundC_len]) ?_
  refine St.r_loadN0 s 1 rfl (by simp) ?_
  have hAr := hA h fun r hr => s.ok (List.mem_append.2 (.inl (List.mem_cons_of_mem _ (List.mem_cons_of_mem _ (List.mem_append.2 (.inl hr))))))
  have hh : ∀ q : Ii.Rt, mh (Ii.rPt q) = Ii.rH q := fun q => by cases q <;> rfl
  have := H (Ii.rPt g') vi' vk' _ h e1 (by rw [hh, hh]; exact hH) M'.fl M'.asc s hAr
  generalize Ii.fnd (Ii.rPt gm).items kx = o at *
  cases o <;> exact this
theorem l_FnDDelete_ok {k : Nat} (t : DT (k + 1)) {g : Heap} {vi vk : Value} {d c kx : Int} (ha : ArgD g t vi vk) (hb : t.bulk ≤ 1048576) (hk : k ≤ 1048576) (H : ∀ E' h', St g [] E' h' → Q (.bool true) h') : l_FnDDelete.call #[.int .i64 d, .agg #[vi, vk, .int .i64 c], .int .i64 kx] g Q := by
  have h1 : one1 vi = true := ha.1.one
  have h2 : one1 vk = true := by obtain ⟨_, cs, _, hrk, _⟩ := ha; exact hrk.one
  have live : ∀ {E' h'}, St g [] E' h' → l_aliveD.call #[] h' Q := fun s => l_aliveD_ok fun E' h' s' => H _ _ (s.join s')
  have hil := t.items_le
  refine l_FnDDelete.body _ _ _ _ _ ?_
  unfold l_FnDDelete.sh
  have s := St.start g
  refine St.r_box (cs := [vi, vk, .int .i64 c]) s fun t4 h s => ?_
  refine St.r_loadN0 s 0 rfl (by simp) ?_
  refine fits3_ok (ha.fr s.fr) (by omega) fun E2 h s2 => ?_
  have s := (s.join s2).perm List.perm_append_comm
  refine r_not ?_
  refine r_if (fun e => absurd e (by decide)) (fun _ => ?_)
  unfold l_FnDDelete.j1
  refine St.r_loadN0 s 0 rfl (by simp) ?_
  refine l_validD_ok t (ha.fr s.fr) (by omega) (by omega) rfl fun b E3 h hbv s3 => ?_
  have s := (s.join s3).perm List.perm_append_comm
  refine r_not ?_
  refine r_if (fun e => live s) (fun e => ?_)
  obtain ⟨hd1, hd2, hv⟩ := hbv.1 (by simpa using e)
  obtain ⟨d, rfl⟩ : ∃ n : Nat, d = n := ⟨d.toNat, by omega⟩
  have hd1 : 2 ≤ d := by omega
  have hd2 : d ≤ 128 := by omega
  obtain ⟨m0, e1, e2, hs⟩ := stands_of (vc := .int .i64 c) ha (by omega) rfl hd1 hd2 hv
  unfold l_FnDDelete.j2
  refine St.r_loadN0 s 0 rfl (by simp) ?_
  refine s_NodeItems_ok t (ha.fr s.fr) (by omega) rfl fun v E4 h s4 hvi => ?_
  have s := (s.join s4).perm List.perm_append_comm
  refine r_build (cs := encA (kx, 0)) (by ((simp only [fillV, fill1, Value.cells, zeros_succ, zeros_zero, List.size_toArray, List.length_cons, List.length_nil, List.length_append, List.take_succ_cons, List.take_zero, List.take_nil, List.drop_succ_cons, List.drop_zero, List.drop_nil, List.cons_append, List.nil_append, List.append_nil, Nat.reduceAdd, Nat.reduceMul, Nat.reduceLeDiff, Nat.reduceEqDiff, and_self, and_true, true_and, if_true, Nat.le_refl, Nat.zero_add, Nat.add_zero, Nat.zero_mul, reduceIte, if_false] <;> rfl))) ?_
  refine Drop_ok (x := (kx, 0)) hvi (by omega) fun v2 E5 h s5 r5 => ?_
  have s := (s.join s5).perm List.perm_append_comm
  refine r_ext rfl ?_
  refine r_ext rfl ?_
  have s : St g [] ((t4, 0, [vi, vk, .int .i64 c]) :: ((([] ++ E2) ++ E3) ++ E4 ++ E5)) h := s.perm (List.Perm.of_eq (by simp))
  generalize (([] ++ E2) ++ E3) ++ E4 ++ E5 = R at s
  -- from here on the heap is the base
  have u := St.start h
  refine u.r_alloc fun t8 h' u => ?_
  refine St.r_storeN0 u 0 rfl (Ii.foundC_len _) (by simp) (Ii.foundC_one _) ?_; intro h' u
  have u : St h [] [(t8, 0, Ii.foundC (lget Ii.lt t.items (kx, 0)))] h' := fc u
  refine St.r_loadN0 (s.join u) 1 rfl (by simp) ?_
  refine DDelete_ok hd1 hd2 (fun h'' f => hs h'' ((s.join u).fr.trans f (fun _ _ _ e => e))) h1 h2 rfl (by rw [e1]; omega) fun y vi' vk' E6 h' y2 mh2 y3 y4 s6 hc => ?_
  have u := (u.join s6).perm List.perm_append_comm
  rw [e1] at y2
  have hyl : (ldel Ii.lt t.items (kx, 0)).length ≤ t.items.length := (ldel_sub _ _).length_le
  have hlv := t.lv_le
  have hm0 : mh m0 ≤ k + 1 := by rw [e2]; split <;> omega
  rw [e1]
  have efn : Ii.fnd t.items kx = lget Ii.lt t.items (kx, 0) := rfl
  rw [efn]
  refine r_ext rfl ?_
  refine r_ext rfl ?_
  have hone := hc.one
  have s1 := St.start h'
  refine s1.r_alloc fun s9 h' s1 => ?_
  refine s1.r_alloc fun s10 h' s1 => ?_
  refine St.r_storeN0 s1 1 rfl (Ii.foundC_len _) (by simp) (Ii.foundC_one _) ?_; intro h' s1
  refine St.r_storeN0 s1 0 (ys := [vi', vk', .int .i64 y.items.length]) rfl rfl (by simp) (one3 hone.1 hone.2 rfl) ?_; intro h' s1
  have s1 : St _ [] ((s10, 0, [vi', vk', .int .i64 y.items.length]) :: (s9, 0, Ii.foundC (lget Ii.lt t.items (kx, 0))) :: []) h' := (fc (s1.perm (List.Perm.swap _ _ _))).perm (List.Perm.swap _ _ _)
  have u := u.join s1
  have s := s.join u
  refine endD_ok (o := lget Ii.lt t.items (kx, 0)) (c := c) (R := E6 ++ R) (f := (· - ·)) hd1 hd2 ha (by omega) hk (by omega) (by rw [y2]; omega) y3 y4 ?_ (hc.fr s1.fr) ?_ (s.perm ?_) H
  · rw [← e2]
    rcases mh2 with e | e
    · left; rw [e]; rw [Int.sub_self]; decide
    · right; rw [← e]; rw [show (((mh y + 1 : Nat) : Int) - (mh y : Int)) = 1 by omega]; decide
  · rw [y2]; exact r5.st u
  · ((apply perm_rg; intro f; simp only [List.set_cons_zero, List.set_cons_succ, List.eraseIdx_cons_zero, List.eraseIdx_cons_succ, List.cons_append, List.nil_append, List.map_append, List.map_cons, List.map_nil, List.sum_append, List.sum_cons, List.sum_nil, List.map_flatMap, Nat.add_zero, Nat.zero_add]; ac_rfl))
end Go.Proofs.Ytlihjljdndbpdaa
end
section
namespace Go.Proofs.Ytlihjljdndbpdaa
open Go.Hp Go.ChangeShapes Go.WideShapes Go.ChangeAt Go.RowKit
set_option linter.unusedVariables false
set_option linter.unusedSimpArgs false

section
variable {H : Type}
theorem bulk_all : ∀ l : List (DataW H), Rows.uptoBulkAll l = (l.map Rows.uptoBulk).sum
  | [] => rfl
  | d :: r => by simp only [Rows.uptoBulkAll, List.map_cons, List.sum_cons, bulk_all r]
theorem bulk_agg (l : List (DataW H)) : Rows.uptoBulk (.agg l) = (l.map Rows.uptoBulk).sum + 1 := by simp only [Rows.uptoBulk, bulk_all]
theorem bulk_slice (e s : List (DataW H)) : Rows.uptoBulk (.slice e s) = (e.map Rows.uptoBulk).sum + (s.map Rows.uptoBulk).sum + 1 := by simp only [Rows.uptoBulk, bulk_all]
theorem bulk_one : ∀ d : DataW H, 1 ≤ Rows.uptoBulk d
  | .lit l => by cases l <;> simp only [Rows.uptoBulk] <;> omega
  | .nil => by simp only [Rows.uptoBulk]; omega
  | .ptr d => by simp only [Rows.uptoBulk]; omega
  | .slice e s => by simp only [Rows.uptoBulk]; omega
  | .agg l => by simp only [Rows.uptoBulk]; omega
  | .iface _ d => by simp only [Rows.uptoBulk]; omega
  | .map l => by simp only [Rows.uptoBulk]; omega
  | .held _ => by simp only [Rows.uptoBulk]; omega
theorem bulk_of {ds : List (DataW H)} (hk : Rows.uptoSmall H ds = true) {d : DataW H} (hd : d ∈ ds) : Rows.uptoBulk d ≤ 1048576 := by
  have h : Rows.uptoBulkAll ds ≤ 1048576 := of_decide_eq_true hk
  rw [bulk_all] at h
  exact Nat.le_trans (mem_le_sum (List.mem_map.2 ⟨d, hd, rfl⟩)) h
end

set_option maxRecDepth 100000 in
theorem nodeTy : ∃ f0 f1 f2 g0 g1, NodeTy Try.prog 25 22 23 27 3 f0 f1 f2 g0 g1 := ⟨_, _, _, _, _, Try.underlying25, ⟨rfl, rfl, rfl⟩, ⟨rfl, rfl, rfl⟩, by kernel_rfl, ⟨by kernel_rfl, by kernel_rfl, by kernel_rfl⟩, Try.underlying22, Try.underlying23, Try.underlying3, Try.underlying27, by kernel_rfl, ⟨rfl, rfl⟩, ⟨by kernel_rfl, by kernel_rfl⟩, ⟨Try.underlying3, Try.underlying3⟩⟩

set_option maxRecDepth 100000 in
/-- A node among the arguments. -/
theorem open_arg {H : Type} {en : TypeId × Value → H} {W : World} {base : Nat} {v : Value} {d : DataW H} {ps : List MemPlace} (hval : Value.okWide Try.prog W .any base 25 v) (hd : DataW.Trod en Try.prog W 0 (fun _ => true) true 25 v d ps) (hb : Rows.uptoBulk d ≤ 1048576) :
    ∃ (k : Nat) (t : DT (k + 1)) (vi vk : Value) (c : Int), k ≤ 1048576 ∧ v = .agg #[vi, vk, .int .i64 c] ∧ ArgD W.heap t vi vk ∧ t.bulk ≤ 1048576 := by
  obtain ⟨cs, hv, hsz⟩ := okWide_struct Try.underlying25 hval
  subst hv
  obtain ⟨fuel, hf⟩ := hd
  obtain ⟨_, _, _, _, _, hty⟩ := nodeTy
  obtain ⟨k, hk⟩ : ∃ k, Rows.uptoBulk d = k + 1 := ⟨Rows.uptoBulk d - 1, by have := bulk_one d; omega⟩
  obtain ⟨t, vi, vk, c, hc, ha, hbk⟩ := open_node hty bulk_one bulk_agg bulk_slice (k + 1) fuel _ _ hf (Nat.le_of_eq hk)
  refine ⟨k, t, vi, vk, c, by omega, ?_, ha, Nat.le_trans hbk hb⟩
  have : cs.toList = [vi, vk, .int .i64 c] := hc
  rw [← Array.toArray_toList (xs := cs), this]
end Go.Proofs.Ytlihjljdndbpdaa
end
