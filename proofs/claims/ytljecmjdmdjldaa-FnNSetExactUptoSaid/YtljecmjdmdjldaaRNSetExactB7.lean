/-
  Texts of this claim, laid together: Nz.
  Conditions: as each of them tells.
-/
import Derived.Test.YtljecmjdmdjldaaRNSetExactB6
set_option linter.unusedVariables false
set_option linter.unusedSimpArgs false
open List (set_cons_zero set_cons_succ eraseIdx_cons_zero eraseIdx_cons_succ cons_append nil_append map_append map_cons map_flatMap map_nil flatMap_cons flatMap_append flatMap_nil append_nil append_assoc length_cons length_nil length_append take_succ_cons drop_succ_cons take_zero drop_zero take_nil drop_nil size_toArray length_map)
section
namespace Go.Proofs.Ytljecmjdmdjldaa.Gi
open Go.Hp Go.Proofs.Ytljecmjdmdjldaa
variable {h0 h : Heap} {Z E : List Rg} {Q : Value → Heap → Prop} {lt : It → It → Bool} {lf : Value}
theorem argT_toD {h : Heap} : ∀ {k : Nat} {x : PT It k} {vi vk : Value}, ArgT h x vi vk → ArgD h (toD x) vi vk
  | 0, x, vi, vk, ⟨hr, a, cap, e⟩ => ⟨hr, [], rfl, ⟨a, cap, e, rfl, fun h => absurd rfl h, Nat.zero_le _⟩, fun j j1 => absurd j1 (Nat.not_lt_zero _)⟩
  | k + 1, x, vi, vk, ⟨hr, _, cs, hcl, hrk, hks⟩ => by
    have hx2 : (toD x).2.length = x.2.length := List.length_map ..
    refine ⟨hr, cs, by rw [hx2]; exact hcl, hrk, fun j j1 j2 => ?_⟩
    have j1' : j < x.2.length := by omega
    have e : (x.2.map toD)[j]'(by rw [List.length_map]; exact j1') = toD (x.2[j]) := List.getElem_map ..
    show ArgD h ((x.2.map toD)[j]'(by rw [List.length_map]; exact j1')) _ _
    rw [e]; exact argT_toD (hks j j1' j2)
theorem valid_data {ow : List Int} {ov : Value} {nl : Bool} {d : Int} {k : Nat} {t : DT (k + 1)} {g0 g : Heap} {E : List Rg} {vi vk vc : Value} (s : St g0 [] E g) (ho : OwAt g0 ow ov) (ha : ArgD g0 t vi vk) (hb : t.bulk ≤ 1048576) (hk : k ≤ 1048576) (hvc : one1 vc = true) {K : Value → Heap → Prop}
    (H0 : ∀ E' h', St g0 [] (E ++ E') h' → K (.bool false) h')
    (H : ∀ (d' : Nat) (m0 : MT It) E' h', d = d' → (d' = 0 ∨ 2 ≤ d') → d' ≤ 128 → m0.items = t.items → m0.Fl (dmax d') → Asc (ltO ow) m0.items → ArgD g0 (toD (mt0 m0).2) vi vk → (∀ h, Fr (fun _ _ => False) g0 h → Stands ow ov nl d' m0 h vi vk vc) → St g0 [] (E ++ E') h' → K (.bool true) h') :
    l_valid.call #[.agg #[ov, .int .i64 d, .bool nl], .agg #[vi, vk, vc]] g K := by
  refine l_valid_ok t (ho.st s) (ha.fr s.fr) (by omega) (by omega) hvc fun b E' h' hbb s2 => ?_
  have s := (s.join s2).perm List.perm_append_comm
  cases b with
  | false => exact H0 _ _ s
  | true =>
    obtain ⟨hd, hv⟩ := hbb.1 rfl; obtain ⟨d', rfl⟩ : ∃ n : Nat, d = n := ⟨d.toNat, by omega⟩; obtain ⟨m0, e1, e2, e3, e4, e5, hst⟩ := stands_of2 (nl := nl) ho ha (by omega) hvc (by omega) (by omega) hv; refine H d' m0 _ _ rfl (by omega) (by omega) e1 e3 e4 ?_ hst s
    rcases e5 with ⟨he1, he2, rfl⟩ | ⟨n, x, rfl, hx⟩
    · obtain ⟨hr, cs, hcl, hrk, hks⟩ := ha
      rw [he2] at hcl
      have hc0 : cs = [] := List.length_eq_zero_iff.1 hcl
      subst hc0; rw [he1] at hr; exact ⟨hr, [], rfl, hrk, fun j j1 => absurd j1 (Nat.not_lt_zero _)⟩
    · exact argT_toD (hx.arg _ _ _ ha)
def putR {k : Nat} (r : PT It k × Option (It × PT It k)) : (k : Nat) × PT It k := match r with
  | (l, none) => ⟨k, l⟩
  | (l, some (md, r)) => ⟨k + 1, (([md], [l, r]) : List It × List (PT It k))⟩
theorem set_put {ow : List Int} {m : Nat} (mo : m % 2 = 1) (m3 : 3 ≤ m) {m0 : MT It} {x : It} (f : m0.Fl m) (ha : Asc (ltO ow) m0.items) : mt0 (m0.set (ltO ow) m x) = putR ((mt0 m0).2.put (ltO ow) m x) := by
  cases m0 with
  | none =>
    have e : PT.put (ltO ow) m (h := 0) [] x = (ins [] (pos (ltO ow) [] x) x, none) := put0_lt (by rfl) (by show 0 < m; omega)
    show mt0 (some ⟨0, ([x] : List It)⟩) = putR (PT.put (ltO ow) m (h := 0) [] x)
    rw [e]; rfl
  | some t =>
    rw [MT.put_set (swoO ow) mo m3 (t := t) (x := x) f ha]
    show _ = putR (t.2.put (ltO ow) m x)
    cases t.2.put (ltO ow) m x with
    | mk l o => cases o with
      | none => rfl
      | some p => rfl
theorem Width_ok {d : Int} (H : Q (.int .i64 (if d = 0 then 32 else d)) h) : s_Width.call #[.int .i64 d] h Q := by
  refine s_Width.body _ _ _ ?_; unfold s_Width.sh; refine r_cmpI ?_; refine r_if (fun e => ?_) (fun e => ?_)
  · rw [if_pos (eq_of_beq e)] at H; exact H
  · unfold s_Width.j1
    rw [if_neg (by simpa using e)] at H; exact H
theorem setJ1 {k : Nat} (u : VT k) {c : Int} {t6 t8 : Nat} {R : List Rg} {h1 : Heap} (hau : ArgV h1 u) (hb : (toD u.pt).bulk ≤ 1073741824) (s : St h [] ((t8, 0, [u.vi, u.vk, .int .i64 c]) :: (t6, 0, zN) :: R) h1)
    (H : ∀ v1 v2 E' h', St h [] E' h' → ArgC h' u.pt v1 v2 → Q (.agg #[v1, v2, .int .i64 u.pt.items.length]) h') : s_SetNode.j1 (ptr t6 0) (ptr t8 0) h1 Q := by
  unfold s_SetNode.j1; refine St.r_loadN0 s 0 rfl (by simp) ?_; refine WithCountsV_ok u.pt hau.toD hb rfl fun t A h2 te tc s2 hA o1 o2 => ?_
  have s := (s.join s2).perm List.perm_append_comm
  have s : St h [] ((t8, 0, [u.vi, u.vk, .int .i64 c]) :: (t6, 0, zN) :: (R ++ A)) h2 := s
  refine St.r_storeN0 s 1 (ys := [t.vi, t.vk, .int .i64 u.pt.items.length]) rfl rfl (by simp) (one3 o1 o2 rfl) ?_; intro h2 s
  have s : St h [] ((t8, 0, [u.vi, u.vk, .int .i64 c]) :: (t6, 0, [t.vi, t.vk, .int .i64 u.pt.items.length]) :: (R ++ A)) h2 := s
  refine St.r_loadN0 s 1 rfl (by simp) ?_; refine H _ _ _ _ s ?_
  have := (hA h2 fun r hr => s.ok (List.mem_append_left _ (List.mem_cons_of_mem _ (List.mem_cons_of_mem _ (List.mem_append_right _ hr))))).toC tc
  rw [te] at this; exact this
theorem SetNode_ok {ow : List Int} {ov : Value} {nl : Bool} {d k : Nat} {x0 : PT It k} {vi vk vc : Value} {x : It} (hd : d = 0 ∨ 2 ≤ d) (hd2 : d ≤ 512) (ho : OwAt h ow ov) (ha : ArgD h (toD x0) vi vk) (hvc : one1 vc = true) {lo : Nat} (fl : x0.Fl (dmax d) lo) (hb : (toD x0).bulk ≤ 1073741823) (hbz : (toD (putR (x0.put (ltO ow) (dmax d) x)).2).bulk ≤ 1073741824)
    (H : ∀ v1 v2 E' h', St h [] E' h' → ArgC h' (putR (x0.put (ltO ow) (dmax d) x)).2 v1 v2 → Q (.agg #[v1, v2, .int .i64 (putR (x0.put (ltO ow) (dmax d) x)).2.items.length]) h') :
    s_SetNode.call #[.agg #[ov, .int .i64 d, .bool nl], .agg #[vi, vk, vc], av x] h Q := by
  obtain ⟨w, hwd, hw, hw2, hdw⟩ : ∃ w : Nat, (if (d : Int) = 0 then 32 else (d : Int)) = w ∧ 2 ≤ w ∧ w ≤ 512 ∧ dmax d = 2 * w - 1 := by
    by_cases e : d = 0
    · exact ⟨32, by subst e; rfl, by omega, by omega, by unfold dmax; rw [if_pos e]⟩
    · exact ⟨d, by rw [if_neg (by omega)], by omega, hd2, by unfold dmax; rw [if_neg e]⟩
  rw [hdw] at fl hbz H; obtain ⟨t, rfl, rfl, rfl, at0⟩ := vt_of x0 ha; refine s_SetNode.body _ _ _ _ _ ?_; unfold s_SetNode.sh
  have s := St.start h
  refine St.r_box (cs := [ov, .int .i64 d, .bool nl]) s fun t3 h1 s => ?_; refine St.r_box (cs := [t.vi, t.vk, vc]) s fun t4 h1 s => ?_; refine St.r_box (cs := enc x) s fun t5 h1 s => ?_; refine s.r_alloc fun t6 h1 s => ?_; refine r_fld (n := 1) ?_; refine St.r_load0 s 3 rfl rfl ?_; refine Width_ok ?_; rw [hwd]; refine r_fld (n := 0) ?_; refine St.r_load0 s 3 rfl rfl ?_; refine St.r_loadN0 s 2 rfl (by simp) ?_; refine St.r_loadN0 s 1 rfl (by simp) ?_; refine put_ok hw hw2 k t (ho.st s) (at0.fr s.fr) hvc fl hb fun tl cl o cr A E2 h2 hput s2 hA => ?_
  have s := (s.join s2).perm List.perm_append_comm
  refine r_ext rfl ?_; refine r_ext rfl ?_; refine r_ext rfl ?_; refine r_ext rfl ?_; refine s.r_alloc fun t8 h2 s => ?_; refine s.r_alloc fun t9 h2 s => ?_; refine s.r_alloc fun t10 h2 s => ?_
  have s : St h [] (A ++ ((t10, 0, zN) :: (t9, 0, enc emp) :: (t8, 0, zN) :: (t6, 0, zN) :: (t5, 0, enc x) :: (t4, 0, [t.vi, t.vk, vc]) :: (t3, 0, [ov, .int .i64 d, .bool nl]) :: E2)) h2 := s.perm (by ((apply perm_rg; intro f; simp only [set_cons_zero, set_cons_succ, eraseIdx_cons_zero, eraseIdx_cons_succ, cons_append, nil_append, map_append, map_cons, map_nil, List.sum_append, List.sum_cons, List.sum_nil, map_flatMap, Nat.add_zero, Nat.zero_add]; ac_rfl)))
  have akid := hA h2 (at0.fr s.fr) fun r hr => s.ok (List.mem_append_left _ (List.mem_append_left _ hr))
  have s : St h [] ((t10, 0, zN) :: (t9, 0, enc emp) :: (t8, 0, zN) :: (t6, 0, zN) :: (A ++ ((t5, 0, enc x) :: (t4, 0, [t.vi, t.vk, vc]) :: (t3, 0, [ov, .int .i64 d, .bool nl]) :: E2))) h2 := s.perm (by ((apply perm_rg; intro f; simp only [set_cons_zero, set_cons_succ, eraseIdx_cons_zero, eraseIdx_cons_succ, cons_append, nil_append, map_append, map_cons, map_nil, List.sum_append, List.sum_cons, List.sum_nil, map_flatMap, Nat.add_zero, Nat.zero_add]; ac_rfl)))
  refine St.r_storeN0 s 2 (ys := [tl.vi, tl.vk, .int .i64 cl]) rfl rfl (by simp) (one3 akid.1.one.1 akid.1.one.2 rfl) ?_; intro h2 s
  refine St.r_storeN0 s 1 (ys := enc ((o.map Prod.fst).getD emp)) rfl rfl (by simp) (enc1 _) ?_; intro h2 s
  refine St.r_storeN0 s 0 (ys := RO o cr) rfl (RO_len o cr) (by simp) (RO_one fun p hp => (akid.2 p hp).one) ?_; intro h2 s
  have s : St h [] ((t10, 0, List.take 0 zN ++ RO o cr ++ List.drop (0 + 3) zN) :: (t9, 0, enc ((o.map Prod.fst).getD emp)) :: (t8, 0, [tl.vi, tl.vk, .int .i64 cl]) :: (t6, 0, zN) :: (A ++ ((t5, 0, enc x) :: (t4, 0, [t.vi, t.vk, vc]) :: (t3, 0, [ov, .int .i64 d, .bool nl]) :: E2))) h2 := s
  rw [show List.take 0 zN ++ RO o cr ++ List.drop (0 + 3) zN = RO o cr by cases o <;> rfl] at s
  generalize hR0 : ((t5, 0, enc x) :: (t4, 0, [t.vi, t.vk, vc]) :: (t3, 0, [ov, .int .i64 d, .bool nl]) :: E2) = R0 at s
  have s0 : St h [] (A ++ ((t10, 0, RO o cr) :: (t9, 0, enc ((o.map Prod.fst).getD emp)) :: (t8, 0, [tl.vi, tl.vk, .int .i64 cl]) :: (t6, 0, zN) :: R0)) h2 := s.perm (by ((apply perm_rg; intro f; simp only [set_cons_zero, set_cons_succ, eraseIdx_cons_zero, eraseIdx_cons_succ, cons_append, nil_append, map_append, map_cons, map_nil, List.sum_append, List.sum_cons, List.sum_nil, map_flatMap, Nat.add_zero, Nat.zero_add]; ac_rfl)))
  have akid := hA h2 (at0.fr s.fr) fun r hr => s0.ok (List.mem_append_left _ (List.mem_append_left _ hr))
  clear s0; rw [hput] at hbz H
  cases o with
  | none =>
    refine r_if (fun e => absurd e (by simp)) (fun _ => ?_)
    have s : St h [] ((t8, 0, [tl.vi, tl.vk, .int .i64 cl]) :: (t6, 0, zN) :: ((t10, 0, zN) :: (t9, 0, enc emp) :: (A ++ R0))) h2 := s.perm (by ((apply perm_rg; intro f; simp only [set_cons_zero, set_cons_succ, eraseIdx_cons_zero, eraseIdx_cons_succ, cons_append, nil_append, map_append, map_cons, map_nil, List.sum_append, List.sum_cons, List.sum_nil, map_flatMap, Nat.add_zero, Nat.zero_add]; ac_rfl)))
    exact setJ1 tl akid.1 hbz s H
  | some p =>
    obtain ⟨md, r⟩ := p
    have ar := akid.2 (md, r) rfl
    refine r_if (fun _ => ?_) (fun e => absurd e (by simp))
    have s : St h [] ((t10, 0, [r.vi, r.vk, .int .i64 cr]) :: (t9, 0, enc md) :: (t8, 0, [tl.vi, tl.vk, .int .i64 cl]) :: (t6, 0, zN) :: (A ++ R0)) h2 := s
    refine St.r_loadN0 s 1 rfl (by simp) ?_; refine St.r_mkSl (sz := 2) (cs := enc md) s (by ((simp only [fillV, fill1, Value.cells, zeros_succ, zeros_zero, size_toArray, length_cons, length_nil, length_append, take_succ_cons, take_zero, take_nil, drop_succ_cons, drop_zero, drop_nil, cons_append, nil_append, append_nil, Nat.reduceAdd, Nat.reduceMul, Nat.reduceLeDiff, Nat.reduceEqDiff, and_self, and_true, true_and, if_true, Nat.le_refl, Nat.zero_add, Nat.add_zero, Nat.zero_mul, reduceIte, if_false] <;> rfl))) rfl fun q1 h3 s w1 => ?_; refine St.r_loadN0 s 3 rfl (by simp) ?_; refine St.r_loadN0 s 1 rfl (by simp) ?_; refine St.r_mkSl (sz := 3) (cs := encN (tri (tl, cl)) ++ encN (tri (r, cr))) s (by ((simp only [fillV, fill1, Value.cells, zeros_succ, zeros_zero, size_toArray, length_cons, length_nil, length_append, take_succ_cons, take_zero, take_nil, drop_succ_cons, drop_zero, drop_nil, cons_append, nil_append, append_nil, Nat.reduceAdd, Nat.reduceMul, Nat.reduceLeDiff, Nat.reduceEqDiff, and_self, and_true, true_and, if_true, Nat.le_refl, Nat.zero_add, Nat.add_zero, Nat.zero_mul, reduceIte, if_false] <;> rfl))) rfl fun q2 h3 s w2 => ?_; refine r_build (cs := [.slice (some ⟨q1, 0, none⟩) 1 1, .slice (some ⟨q2, 0, none⟩) 2 2, .int .i64 0]) rfl ?_; refine St.r_storeN0 s 4 (ys := [.slice (some ⟨q1, 0, none⟩) 1 1, .slice (some ⟨q2, 0, none⟩) 2 2, .int .i64 0]) rfl rfl (by simp) (one3 rfl rfl rfl) ?_; intro h3 s
    have s : St h [] ((q2, 0, (encN (tri (tl, cl)) ++ encN (tri (r, cr))) ++ []) :: (q1, 0, enc md ++ []) :: (t10, 0, [r.vi, r.vk, .int .i64 cr]) :: (t9, 0, enc md) :: (t8, 0, [.slice (some ⟨q1, 0, none⟩) 1 1, .slice (some ⟨q2, 0, none⟩) 2 2, .int .i64 0]) :: (t6, 0, zN) :: (A ++ R0)) h3 := s
    have r1 := w1.rdl s 1 rfl
    have r2 := w2.rdl s 0 rfl
    have s0 : St h [] (A ++ ((q2, 0, (encN (tri (tl, cl)) ++ encN (tri (r, cr))) ++ []) :: (q1, 0, enc md ++ []) :: (t10, 0, [r.vi, r.vk, .int .i64 cr]) :: (t9, 0, enc md) :: (t8, 0, [.slice (some ⟨q1, 0, none⟩) 1 1, .slice (some ⟨q2, 0, none⟩) 2 2, .int .i64 0]) :: (t6, 0, zN) :: R0)) h3 := s.perm (by ((apply perm_rg; intro f; simp only [set_cons_zero, set_cons_succ, eraseIdx_cons_zero, eraseIdx_cons_succ, cons_append, nil_append, map_append, map_cons, map_nil, List.sum_append, List.sum_cons, List.sum_nil, map_flatMap, Nat.add_zero, Nat.zero_add]; ac_rfl)))
    have ak3 := hA h3 (at0.fr s.fr) fun r hr => s0.ok (List.mem_append_left _ (List.mem_append_left _ hr))
    clear s0
    have s : St h [] ((t8, 0, [.slice (some ⟨q1, 0, none⟩) 1 1, .slice (some ⟨q2, 0, none⟩) 2 2, .int .i64 0]) :: (t6, 0, zN) :: ((q2, 0, (encN (tri (tl, cl)) ++ encN (tri (r, cr))) ++ []) :: (q1, 0, enc md ++ []) :: (t10, 0, [r.vi, r.vk, .int .i64 cr]) :: (t9, 0, enc md) :: (A ++ R0))) h3 := s.perm (by ((apply perm_rg; intro f; simp only [set_cons_zero, set_cons_succ, eraseIdx_cons_zero, eraseIdx_cons_succ, cons_append, nil_append, map_append, map_cons, map_nil, List.sum_append, List.sum_cons, List.sum_nil, map_flatMap, Nat.add_zero, Nat.zero_add]; ac_rfl)))
    have hau : ArgV h3 (k := k + 1) (([md], .slice (some ⟨q1, 0, none⟩) 1 1, .slice (some ⟨q2, 0, none⟩) 2 2), [(tl, cl), (r, cr)]) := by
      refine ⟨?_, ?_, fun c hc => ?_⟩
      · have := r1; simpa using this
      · have := r2; simpa using this
      · rcases List.mem_cons.1 (show c ∈ [(tl, cl), (r, cr)] from hc) with e | e
        · rw [e]; exact ak3.1
        · rw [List.mem_singleton.1 e]; exact ak3.2 (md, r) rfl
    exact setJ1 (k := k + 1) (([md], .slice (some ⟨q1, 0, none⟩) 1 1, .slice (some ⟨q2, 0, none⟩) 2 2), [(tl, cl), (r, cr)]) hau hbz s H
theorem i_NSet_ok {ow : List Int} {ov : Value} {nl : Bool} {d : Nat} {m0 : MT It} {vi vk vc : Value} {x : It} (hd : d = 0 ∨ 2 ≤ d) (hd2 : d ≤ 512) (hov : one1 ov = true) (h1 : one1 vi = true) (h2 : one1 vk = true) (h3 : one1 vc = true) (hs : ∀ h', Fr (fun _ _ => False) h h' → Stands ow ov nl d m0 h' vi vk vc) (hl : m0.items.length ≤ 268435456)
    (H : ∀ (y : MT It) vi' vk' E' h', y = m0.set (ltO ow) (dmax d) x → y.items = lput (ltO ow) m0.items x → y.Fl (dmax d) → Asc (ltO ow) y.items → St h [] E' h' → ArgC h' (mt0 y).2 vi' vk' → Q (.tuple #[.agg (foundC (lget (ltO ow) m0.items x)).toArray, .agg #[vi', vk', .int .i64 y.items.length]]) h') : i_NSet.call #[.agg #[ov, .int .i64 d, .bool nl], .agg #[vi, vk, vc], av x] h Q := by
  obtain ⟨m3, m1, mo, me, mn0⟩ := dmax_ok hd hd2; refine i_NSet.body _ _ _ _ _ ?_; unfold i_NSet.sh
  have s := St.start h
  refine St.r_box (cs := [ov, .int .i64 d, .bool nl]) s fun b2 h s => ?_; refine St.r_box (cs := [vi, vk, vc]) s fun b3 h s => ?_; refine St.r_box (cs := enc x) s fun b4 h s => ?_; refine s.r_alloc fun b6 h s => ?_; refine s.r_alloc fun b7 h s => ?_; refine St.r_loadN0 s 4 rfl (by simp) ?_; refine St.r_loadN0 s 3 rfl (by simp) ?_; refine hs h s.fr fun g tb lf cb A E1 h e T => ?_; subst e
  have s1 := T.st
  have s := (s.join s1).perm List.perm_append_comm
  refine St.r_loadN0 s 2 rfl (by simp) ?_
  have s : St _ [] ((tb, 0, hdr 1 (some ⟨cb, 0, none⟩) (rA g) (rPt g).items.length lf (dmin d : Nat) (dmax d)) :: (rAll g ++ (A ++ ((b6, 0, zF) :: (b7, 0, zN) :: (b4, 0, enc x) :: (b3, 0, [vi, vk, vc]) :: (b2, 0, [ov, .int .i64 d, .bool nl]) :: E1)))) h := s.perm (by ((apply perm_rg; intro f; simp only [set_cons_zero, set_cons_succ, eraseIdx_cons_zero, eraseIdx_cons_succ, cons_append, nil_append, map_append, map_cons, map_nil, List.sum_append, List.sum_cons, List.sum_nil, map_flatMap, Nat.add_zero, Nat.zero_add]; ac_rfl)))
  refine Set_ok (mn := (dmin d : Nat)) (swoO ow) T.ord (x := x) T.ok (by omega) (by omega) s fun g' h e1 M' s => ?_
  have e2 := (MT.set_items (x := x) (swoO ow) mo m3 T.ok.fl T.ok.asc).1
  rw [← e1] at e2; refine r_ext rfl ?_; refine r_ext rfl ?_; refine found_ok fun E3 h s3 => ?_
  have s := (s.join s3).perm List.perm_append_comm
  refine s.r_alloc fun b9 h s => ?_
  have s : St _ [] ((b9, 0, zF) :: (b6, 0, zF) :: (b7, 0, zN) :: (tb, 0, hdr 1 (some ⟨cb, 0, none⟩) (rA g') (rPt g').items.length lf (dmin d : Nat) (dmax d)) :: (rAll g' ++ (A ++ ((b4, 0, enc x) :: (b3, 0, [vi, vk, vc]) :: (b2, 0, [ov, .int .i64 d, .bool nl]) :: (E1 ++ E3))))) h := s.perm (by ((apply perm_rg; intro f; simp only [set_cons_zero, set_cons_succ, eraseIdx_cons_zero, eraseIdx_cons_succ, cons_append, nil_append, map_append, map_cons, map_nil, List.sum_append, List.sum_cons, List.sum_nil, map_flatMap, Nat.add_zero, Nat.zero_add]; ac_rfl)))
  have hle : (rPt g').items.length ≤ (rPt g).items.length + 1 := by
    rw [e2]
    have : (lput (ltO ow) (rPt g).items x).length = _ := lput_length
    rw [this]; split <;> omega
  exact ff_ok M' (by omega) s fun vi' vk' E' h' s ha => H (rPt g') vi' vk' E' h' e1 e2 M'.fl M'.asc s ha
theorem l_FnNSetExact_ok {ow : List Int} {ov : Value} {d c : Int} {nl : Bool} {k : Nat} (t : DT (k + 1)) {vi vk : Value} {x : It} (ho : Rdl 1 h ov ow.length (ow.flatMap fi)) (ha : ArgD h t vi vk) (hb : t.bulk ≤ 1048576) (hk : k ≤ 1048576) (H : ∀ E' h', St h [] E' h' → Q (.bool true) h') :
    l_FnNSetExact.call #[.agg #[ov, .int .i64 d, .bool nl], .agg #[vi, vk, .int .i64 c], av x] h Q := by
  obtain ⟨hr, cs, hcl, hrk, _⟩ := id ha
  have hkl := t.kids_le
  have hil := t.items_le
  have hone := ha.one
  refine l_FnNSetExact.body _ _ _ _ _ ?_; unfold l_FnNSetExact.sh
  have s := St.start h
  refine St.r_box (cs := [ov, .int .i64 d, .bool nl]) s fun t3 h1 s => ?_; refine St.r_box (cs := [vi, vk, .int .i64 c]) s fun t4 h1 s => ?_; refine St.r_box (cs := enc x) s fun t5 h1 s => ?_; refine St.r_loadN0 s 2 rfl (by simp) ?_; refine l_zzFits1_ok (ho.st s) fun E1 h1 s1 => ?_
  have s := (s.join s1).perm List.perm_append_comm
  refine r_not ?_; refine r_br (fun e => ?_) (fun e => H _ _ s)
  have how : ow.length ≤ 2147483647 := by simpa using e
  have ho : OwAt _ ow ov := ⟨ho, how⟩
  refine St.r_loadN0 s 1 rfl (by simp) ?_; refine l_zzFits3_ok (hr.st s) (hrk.st s) (by omega) (by omega) rfl fun E2 h1 s2 => ?_
  have s := (s.join s2).perm List.perm_append_comm
  refine r_not ?_; refine r_if (fun e => absurd e (by decide)) (fun _ => ?_)
  have live : ∀ {E' h'}, St _ [] E' h' → l_aliveN.call #[] h' Q := fun s => l_aliveN_ok fun E' h' s' => H _ _ (s.join s')
  unfold l_FnNSetExact.j1; refine St.r_loadN0 s 2 rfl (by simp) ?_; refine St.r_loadN0 s 1 rfl (by simp) ?_; refine valid_data s ho ha hb hk rfl (fun E3 h1 s => ?_) fun d' m0 E3 h1 ed hd hd2 e1 e3 e4 hD hst s => ?_
  · refine r_not ?_
    exact r_if (fun e => live s) (fun e => absurd e (by decide))
  subst ed; obtain ⟨m3, m1, mo, me, mn0⟩ := dmax_ok hd (by omega); refine r_not ?_; refine r_if (fun e => absurd e (by decide)) (fun _ => ?_)
  unfold l_FnNSetExact.j2; refine St.r_loadN0 s 2 rfl (by simp) ?_; refine St.r_loadN0 s 1 rfl (by simp) ?_; refine St.r_loadN0 s 0 rfl (by simp) ?_; refine i_NSet_ok (x := x) hd (by omega) ho.one hone.1 hone.2 rfl (mv_stands hst s) (by rw [e1]; omega) fun y vi1 vk1 E4 h1 y1 y2 y3 y4 s4 a1 => ?_
  have s := (s.join s4).perm List.perm_append_comm
  refine r_ext rfl ?_; refine r_ext rfl ?_
  have u := St.start h1
  refine u.r_alloc fun t7 h1 u => ?_; refine u.r_alloc fun t8 h1 u => ?_; refine St.r_storeN0 u 1 rfl (foundC_len _) (by simp) (foundC_one _) ?_; intro h1 u
  refine St.r_storeN0 u 0 (ys := [vi1, vk1, .int .i64 y.items.length]) rfl rfl (by simp) (one3 a1.one.1 a1.one.2 rfl) ?_; intro h1 u
  have u : St _ [] ((t7, 0, List.take 0 zF ++ foundC (lget (ltO ow) m0.items x) ++ List.drop (0 + 3) zF) :: (t8, 0, [vi1, vk1, .int .i64 y.items.length]) :: []) h1 := u.perm (List.Perm.swap _ _ _)
  have u := fc3 (g := h1) u
  have a1 := a1.fr u.fr
  have s := s.join u
  have s : St h [] ((t7, 0, foundC (lget (ltO ow) m0.items x)) :: (t8, 0, [vi1, vk1, .int .i64 y.items.length]) :: (t5, 0, enc x) :: (t4, 0, [vi, vk, .int .i64 c]) :: (t3, 0, [ov, .int .i64 d', .bool nl]) :: (E1 ++ E2 ++ E3 ++ E4)) h1 := s
  refine St.r_loadN0 s 1 rfl (by simp) ?_; refine St.r_loadN0 s 4 rfl (by simp) ?_; refine St.r_loadN0 s 3 rfl (by simp) ?_; refine St.r_loadN0 s 2 rfl (by simp) ?_
  have ep := set_put (ow := ow) (x := x) mo m3 e3 e4
  rw [← y1] at ep
  have hyl : y.items.length ≤ t.items.length + 1 := by
    rw [y2, ← e1]
    have : (lput (ltO ow) m0.items x).length = _ := lput_length
    rw [this]; split <;> omega
  have hbk := bulk_mt m3 y3
  have hbk0 := bulk_mt m3 e3
  have hfl : ∃ lo, (mt0 m0).2.Fl (dmax d') lo := by
    cases m0 with
    | none => exact ⟨0, Nat.zero_le _, Nat.zero_le _⟩
    | some t => exact ⟨1, e3⟩
  obtain ⟨lo, hfl⟩ := hfl; rw [e1] at hbk0
  have hit : (mt0 y).2.items.length = y.items.length := by rw [mt0_items]
  refine SetNode_ok (x := x) hd (by omega) (ho.st s) (hD.fr s.fr) rfl hfl (by omega) (by rw [← ep]; omega) fun v1 v2 E5 h2 s5 a2 => ?_
  have s := (s.join s5).perm List.perm_append_comm
  have a1 := a1.fr s5.fr
  rw [← ep] at a2 ⊢
  have s : St h [] ((t7, 0, foundC (lget (ltO ow) m0.items x)) :: (t8, 0, [vi1, vk1, .int .i64 y.items.length]) :: (t5, 0, enc x) :: (t4, 0, [vi, vk, .int .i64 c]) :: (t3, 0, [ov, .int .i64 d', .bool nl]) :: (E1 ++ E2 ++ E3 ++ E4 ++ E5)) h2 := s
  refine ⟨St.r_stillN0 s 1 (j := 0) rfl (by simp) rfl, ?_⟩
  have key := SameNodes_ok (mt0 y).2 (Q := fun t34 h => br t34 true (l_aliveN.call #[] h fun t36 h => Q t36 h) (Q (.bool false) h)) a1 a2 (by omega) fun E7 h s7 => by
    refine r_br (fun _ => ?_) (fun e => absurd e (by decide))
    exact live (s.join s7)
  rw [hit] at key ⊢; exact key
end Go.Proofs.Ytljecmjdmdjldaa.Gi
end
