/-
  What TDescend comes to.
  Conditions: the keys lie in memory.
-/
import Derived.Test.YtfojeibloilneaaKpSu
import Derived.Test.YtfojeibloilneaaTb
import Derived.Test.YtfojeibloilneaaS7
import Derived.Test.YtfojeibloilneaaS8
import Derived.Test.YtfojeibloilneaaS9
namespace Go.Proofs.Ytfojeibloilneaa.Su
open Go.Hp Go.Proofs.Ytfojeibloilneaa
set_option linter.unusedVariables false
set_option linter.unusedSimpArgs false
variable {h0 h : Heap} {Z E : List Rg} {Q : Value → Heap → Prop}

theorem descend_ok {cont : List It → Bool} {f : Value} {J : List It → Heap → Prop} {g : Rt} {tb m N : Nat} {iso cnt mn mx : Int} {ctr : Option Addr} {x : It} (M : MapOk m iso g) (hT : (tb, 0, hdr iso ctr (rA g) cnt mn mx) ∈ Z) (hz : ∀ r ∈ rAll g, r ∈ Z) (hzb : ∀ r ∈ rAll g, r.2.2 ≠ [] → h0.size ≤ r.1)
    (hJ : ∀ p h, J p h → ∃ E, St h0 Z E h)
    (cb : ∀ (p : List It) (x : It) (h : Heap) (K : Value → Heap → Prop), p.length < N → J p h → (∀ h', J (p ++ [x]) h' → K (.bool (cont (p ++ [x]))) h') → callV Try.prog f #[kv x.1, vv x.2] h K)
    (hN : (rPt g).items.length ≤ N) (hj : J [] h) (H : ∀ h', J (feed cont [] ((rPt g).items.filter fun y => !lt x y).reverse).1 h' → Q (.tuple #[]) h') : Map_su_Descend.call #[ptr tb 0, kv x.1, f] h Q := by
  refine Map_su_Descend.body _ _ _ _ _ ?_
  unfold Map_su_Descend.sh
  refine Map_su_descend.body _ _ _ _ _ _ ?_
  unfold Map_su_descend.sh
  obtain ⟨E, s⟩ := hJ [] h hj
  refine r_nil ?_
  refine r_fld ?_
  refine s.r_lz0 hT (j := 2) rfl ?_
  refine r_eqNilP ?_
  cases g with
  | none =>
    refine r_if (fun _ => ?_) (fun e => absurd e (by simp [rA]))
    exact H h hj
  | some t =>
    refine r_if (fun e => absurd e (by simp [rA])) (fun _ => ?_)
    unfold Map_su_descend.j1
    refine r_nil ?_
    refine r_fld ?_
    refine nodeDescend_ok (x := x) M.m1 hJ cb t.2 M.gd M.fl M.asc hz hzb (fun E h s => ?_) (by rw [List.length_nil, Nat.zero_add]; exact hN) hj fun h' hj' => H h' hj'
    exact s.clz hT 2 rfl rfl

theorem des_hasBody : hasBody Try.prog 52 := ⟨_, Try.func52, rfl, rfl⟩
theorem keepD_cb {t2 t3 t5 t7 : Nat} {n : Int} (p : List It) (x : It) (h : Heap) (K : Value → Heap → Prop) (hp : p.length < 4294967296) (hj : KeepS h0 Z E t2 t3 t5 t7 n p h) (HK : ∀ h', KeepS h0 Z E t2 t3 t5 t7 n (p ++ [x]) h' → K (.bool (upTo n (p ++ [x]))) h') :
    callV Try.prog (.func (.func 52) #[] #[ptr t5 0]) #[kv x.1, vv x.2] h K := by
  obtain ⟨v, b, o, sp, w, s⟩ := hj
  refine r_callV des_hasBody ?_
  refine Set_s_Descend_c1.body _ _ _ _ _ ?_
  unfold Set_s_Descend_c1.sh
  refine St.r_box (cs := []) s fun t4 h s => ?_
  have s := s.tail rfl
  refine St.r_load0 s 0 rfl rfl ?_
  refine r_callV takeS_hasBody ?_
  refine i_taker_s_c1.body _ _ _ _ _ ?_
  unfold i_taker_s_c1.sh
  refine St.r_load0 s 1 rfl rfl ?_
  refine St.r_load0 s 1 rfl rfl ?_
  refine r_nil ?_
  refine St.r_load0 s 3 rfl rfl ?_
  refine St.r_mkSl (sz := 1) (cs := [kv x.1]) s (by ((simp only [fillV, fill1, Value.cells, zeros_succ, zeros_zero, List.size_toArray, List.length_cons, List.length_nil, List.length_append, List.take_succ_cons, List.take_zero, List.take_nil, List.drop_succ_cons, List.drop_zero, List.drop_nil, List.cons_append, List.nil_append, List.append_nil, Nat.reduceAdd, Nat.reduceMul, Nat.reduceLeDiff, Nat.reduceEqDiff, and_self, and_true, true_and, if_true, Nat.le_refl, Nat.zero_add, Nat.add_zero, Nat.zero_mul, reduceIte, if_false] <;> rfl))) rfl fun q h s w1 => ?_
  refine And.intro (by exact St.r_still0 s 2 rfl rfl) ?_
  refine And.intro (by exact St.r_still0 s 2 rfl rfl) ?_
  refine And.intro (by exact St.r_still0 s 4 rfl rfl) ?_
  refine St.r_app s 5 (sz := 1) (n := 1) (new := [kv x.1]) rfl w rfl (w1.rdl s 0 rfl) (by simp [one1]) (by rw [List.length_map]; omega) (by rw [List.length_map]; omega) fun v' b' o' sp' h s w' => ?_
  have ex : (p.map (·.1)).flatMap fk ++ [kv x.1] = ((p ++ [x]).map (·.1)).flatMap fk := by rw [List.map_append, List.flatMap_append]; rfl
  rw [ex] at s w'
  have w' : Own 1 v' ((p ++ [x]).map (·.1)).length b' o' (((p ++ [x]).map (·.1)).flatMap fk) sp' := by rw [List.length_map, List.length_append]; rw [List.length_map] at w'; exact w'
  refine And.intro (by exact St.r_still0 s 2 rfl rfl) ?_
  refine r_nil ?_
  refine St.r_store0 s 4 rfl (by simp) w'.one ?_; intro h s
  refine St.r_load0 s 3 rfl rfl ?_
  refine r_cmpI ?_
  have J' : KeepS h0 Z E t2 t3 t5 t7 n (p ++ [x]) h := ⟨v', b', o', sp', w', s.tail rfl⟩
  refine r_br (fun hb => ?_) (fun hb => ?_)
  · have hb : ¬ n < 1 := by simpa using hb
    refine St.r_load0 s 2 rfl rfl ?_
    refine r_nil ?_
    refine St.r_load0 s 4 rfl rfl ?_
    refine w'.lenV ?_
    refine St.r_load0 s 3 rfl rfl ?_
    refine r_cmpI ?_
    have := HK h J'
    have e : upTo n (p ++ [x]) = decide ((((p ++ [x]).map (·.1)).length : Int) < n) := by simp [upTo, hb]
    rw [e] at this
    exact this
  · have hb : n < 1 := by simpa using hb
    have := HK h J'
    have e : upTo n (p ++ [x]) = true := by simp [upTo, hb]
    rw [e] at this
    exact this

/-- What Descend of a set of keys hands on. -/
def desT (l : List KT) (x : KT) (n : Int) : List KT := (firstN ((setT l).filter fun y => !lt (it x) y).reverse n).map (·.1)
theorem desT_len (l : List KT) (x : KT) (n : Int) : (desT l x n).length ≤ l.length := by
  unfold desT
  have h1 := firstN_len ((setT l).filter fun y => !lt (it x) y).reverse n
  have h2 := setT_len l
  have h3 := List.length_filter_le (fun y => !lt (it x) y) (setT l)
  rw [List.length_reverse] at h1
  rw [List.length_map]; omega
theorem TDescend_ok {hA : Heap} {l : List KT} {v : Value} {x : KT} {n : Int} (hr : Rdl 1 hA v l.length (l.flatMap fk)) (hl : l.length ≤ 2147483647)
    (H : ∀ v b o sp E' h', Own 1 v (desT l x n).length b o ((desT l x n).flatMap fk) sp → St hA [] ((b, o, (desT l x n).flatMap fk ++ sp) :: E') h' → Q v h') : i_TDescend.call #[v, kv x, .int .i64 n] hA Q := by
  refine i_TDescend.body _ _ _ _ _ ?_
  unfold i_TDescend.sh
  have s := St.start hA
  refine s.r_alloc fun t7 h s => ?_
  refine growT_ok (hr.st s) hl fun g tb mn mx E' h' e M hd s1 => ?_
  have s := s.join s1
  have hle := setT_len l
  refine i_taker_s.body _ _ _ _ ?_
  unfold i_taker_s.sh
  refine St.r_box1 s rfl fun t2 h s => ?_
  refine St.r_box1 s rfl fun t3 h s => ?_
  refine Set_s_Descend.body _ _ _ _ _ ?_
  unfold Set_s_Descend.sh
  refine St.r_box1 s rfl fun t5 h s => ?_
  refine r_nil ?_
  refine r_fld ?_
  have s0 : St hA [] (((tb, 0, hdr 0 none (rA g) (rPt g).items.length mn mx) :: rAll g) ++ ((t5, 0, [.func (.func 49) #[] #[ptr t2 0, ptr t3 0]]) :: (t2, 0, [ptr t7 0]) :: (t3, 0, [.int .i64 n]) :: (t7, 0, [.slice none 0 0]) :: (0, 0, (([] : List It).map (·.1)).flatMap fk ++ []) :: E')) h := (s.empty 0 0).perm (by ((apply perm_rg; intro f; simp only [List.set_cons_zero, List.set_cons_succ, List.eraseIdx_cons_zero, List.eraseIdx_cons_succ, List.cons_append, List.nil_append, List.map_append, List.map_cons, List.map_nil, List.sum_append, List.sum_cons, List.sum_nil, List.map_flatMap, Nat.add_zero, Nat.zero_add]; ac_rfl)))
  obtain ⟨s1, back⟩ := s0.borrow
  refine descend_ok (x := it x) (J := KeepS hA (((tb, 0, hdr 0 none (rA g) (rPt g).items.length mn mx) :: rAll g) ++ []) E' t2 t3 t5 t7 n) (cont := upTo n) (N := 4294967296) M (List.mem_append.2 (.inl (List.mem_cons_self ..))) (fun r hr => List.mem_append.2 (.inl (List.mem_cons_of_mem _ hr))) (fun r hr => (s0.e r (List.mem_append.2 (.inl (List.mem_cons_of_mem _ hr)))).2)
    (fun p h hj => by obtain ⟨v, b, o, sp, w, s⟩ := hj; exact ⟨_, s⟩) (fun p x h K hp hj HK => keepD_cb p x h K hp hj HK) (by rw [e]; omega) ⟨_, 0, 0, [], Own.nil 1 0 0, s1⟩ fun h' hj => ?_
  rw [feed_first] at hj
  obtain ⟨v, b, o, sp, w, s⟩ := hj
  have ek : (firstN ((rPt g).items.filter fun y => !lt (it x) y).reverse n).map (·.1) = desT l x n := by unfold desT; rw [e]
  rw [ek] at w s
  refine St.r_load0 s 3 rfl rfl ?_
  have s := back _ h' s
  exact H v b o sp _ h' w (s.perm (E' := (b, o, (desT l x n).flatMap fk ++ sp) :: (((tb, 0, hdr 0 none (rA g) (rPt g).items.length mn mx) :: rAll g) ++ ((t5, 0, _) :: (t2, 0, _) :: (t3, 0, _) :: (t7, 0, _) :: E'))) (by ((apply perm_rg; intro f; simp only [List.set_cons_zero, List.set_cons_succ, List.eraseIdx_cons_zero, List.eraseIdx_cons_succ, List.cons_append, List.nil_append, List.map_append, List.map_cons, List.map_nil, List.sum_append, List.sum_cons, List.sum_nil, List.map_flatMap, Nat.add_zero, Nat.zero_add]; ac_rfl))))

end Go.Proofs.Ytfojeibloilneaa.Su
