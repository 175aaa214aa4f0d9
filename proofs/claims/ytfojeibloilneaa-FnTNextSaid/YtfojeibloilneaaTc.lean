/-
  What FnTNext comes to: nothing lies between a string and the one with a zero byte behind it.
  Conditions: the keys lie in memory.
-/
import Derived.Test.YtfojeibloilneaaTb
import Derived.Laws.Strings
import Derived.Test.YtfojeibloilneaaS9
namespace Go.Proofs.Ytfojeibloilneaa.Su
open Go.Hp Go.Proofs.Ytfojeibloilneaa
set_option linter.unusedVariables false
set_option linter.unusedSimpArgs false
variable {h0 h : Heap} {Z E : List Rg} {Q : Value → Heap → Prop}

/-- The string with a zero byte behind it. -/
abbrev next (k : KT) : KT := k ++ ⟨#[0]⟩
theorem next_list (k : KT) : (next k).toList = k.toList ++ [0] := by
  rw [Go.ByteArray.toList_eq, Go.ByteArray.toList_eq]
  show (k ++ ⟨#[0]⟩ : ByteArray).data.toList = _
  simp
theorem less_next : ∀ (y k : List UInt8), Op.bytesLess y (k ++ [0]) = !Op.bytesLess k y
  | [], [] => rfl
  | [], _ :: _ => rfl
  | a :: r, [] => by
    rw [List.nil_append, bytesLess_cons]
    have h1 : ¬ a < 0 := UInt8.not_lt.2 (UInt8.le_iff_toNat_le.2 (Nat.zero_le _))
    have h2 : Op.bytesLess r [] = false := by cases r <;> rfl
    rw [h2]
    simp [h1, Op.bytesLess]
  | a :: r, b :: k => by
    rw [List.cons_append, bytesLess_cons, bytesLess_cons, less_next r k]
    rcases Nat.lt_trichotomy a.toNat b.toNat with h | h | h
    · have h : a < b := UInt8.lt_iff_toNat_lt.2 h
      have h1 : ¬ b < a := UInt8.not_lt.2 (UInt8.le_of_lt h)
      have h2 : b ≠ a := fun e => by subst e; exact UInt8.lt_irrefl _ h
      have h3 : (b == a) = false := by simpa using h2
      simp [h, h1, h3]
    · have h : a = b := UInt8.toNat_inj.1 h
      subst h
      have h1 : ¬ a < a := UInt8.lt_irrefl _
      simp [h1]
    · have h : b < a := UInt8.lt_iff_toNat_lt.2 h
      have h1 : ¬ a < b := UInt8.not_lt.2 (UInt8.le_of_lt h)
      have h2 : a ≠ b := fun e => by subst e; exact UInt8.lt_irrefl _ h
      have h3 : (a == b) = false := by simpa using h2
      simp [h, h1, h3]
theorem lt_next (y : It) (k : KT) : lt y (it (next k)) = !lt (it k) y := by
  show Op.bytesLess y.1.toList (next k).toList = !Op.bytesLess k.toList y.1.toList
  rw [next_list, less_next]
theorem pos_next {l : List It} (ha : Asc lt l) (k : KT) : pos lt l (it (next k)) = pos lt l (it k) + if (lget lt l (it k)).isSome then 1 else 0 := by
  have hpl := pos_le (lt := lt) l (it k)
  have hs : ∀ i j (hi : i < l.length) (hj : j < l.length), i < j → lt l[i] l[j] = true := fun i j hi hj hij => List.pairwise_iff_getElem.1 ha i j hi hj hij
  cases e : lget lt l (it k) with
  | none =>
    simp only [Option.isSome_none, Bool.false_eq_true, if_false, Nat.add_zero]
    refine pos_uni hpl (fun j hj hjl => ?_) (fun hl => ?_)
    · rw [lt_next, swo.asym (pos_lt (x := it k) hjl)]; rfl
    · rw [lt_next, lget_none e hl]; rfl
  | some y =>
    obtain ⟨hp, hy, h3, h4⟩ := lget_some e
    simp only [Option.isSome_some, if_true]
    refine pos_uni hp (fun j hj hjl => ?_) (fun hl => ?_)
    · rw [lt_next]
      rcases Nat.lt_or_ge j (pos lt l (it k)) with h | h
      · rw [swo.asym (pos_lt (x := it k) h)]; rfl
      · have : j = pos lt l (it k) := by omega
        subst this
        rw [hy, h4]; rfl
    · rw [lt_next]
      have := hs (pos lt l (it k)) (pos lt l (it k) + 1) hp hl (by omega)
      rw [hy] at this
      rw [swo.tr2 h3 this]; rfl
/-- What Ascend hands on from the next string. -/
theorem ascT_next (l : List KT) (k : KT) : ascT l (next k) 0 = if (lget lt (setT l) (it k)).isSome then (ascT l k 0).drop 1 else ascT l k 0 := by
  have hf : ∀ (a : List It), firstN a 0 = a := fun a => by unfold firstN; rw [if_pos (.inl (by decide))]
  unfold ascT
  have ha : Asc lt (setT l) := setAll_asc _
  rw [hf, hf, pos_next ha]
  split
  · rw [← List.map_drop, List.drop_drop]
  · rw [Nat.add_zero]
theorem ascT_head (l : List KT) (k : KT) : (lget lt (setT l) (it k)).isSome = match ascT l k 0 with | [] => false | y :: _ => y.toList == k.toList := by
  have hf : ∀ (a : List It), firstN a 0 = a := fun a => by unfold firstN; rw [if_pos (.inl (by decide))]
  unfold ascT
  rw [hf]
  generalize setT l = L
  rcases Nat.lt_or_ge (pos lt L (it k)) L.length with hp | hp
  · rw [List.drop_eq_getElem_cons hp, List.map_cons]
    have h1 := pos_at (lt := lt) (l := L) (x := it k) hp
    unfold lget
    rw [List.getElem?_eq_getElem hp, Option.bind_some]
    cases h2 : lt (it k) L[pos lt L (it k)] with
    | true =>
      simp only [if_true, Option.isSome_none]
      cases h3 : L[pos lt L (it k)].1.toList == k.toList with
      | false => rfl
      | true =>
        have h3 := eq_of_beq h3
        have h2 : Op.bytesLess k.toList L[pos lt L (it k)].1.toList = true := h2
        rw [h3, bytesLess_irr] at h2; cases h2
    | false =>
      simp only [Bool.false_eq_true, if_false, Option.isSome_some]
      have := bytesLess_tri _ _ h1 h2
      rw [this]; simp
  · rw [List.drop_of_length_le hp]
    unfold lget
    rw [List.getElem?_eq_none hp]; rfl

theorem l_FnTNext_ok {hA : Heap} {l : List KT} {v : Value} {k : KT} (hr : Rdl 1 hA v l.length (l.flatMap fk)) (H : ∀ E' h', St hA [] E' h' → Q (.bool true) h') : l_FnTNext.call #[v, kv k] hA Q := by
  refine l_FnTNext.body _ _ _ _ ?_
  unfold l_FnTNext.sh
  have s := St.start hA
  refine fits13_ok hr fun b hb => ?_
  (repeat (first | refine r_nil ?_ | refine r_fld ?_ | refine r_ext rfl ?_ | refine r_cmpI ?_ | refine r_not ?_ | refine r_len ?_ | refine r_eqNilP ?_ | refine r_neNilP ?_ | refine r_eqB ?_ | ((apply r_build; ((simp only [fillV, fill1, Value.cells, zeros_succ, zeros_zero, List.size_toArray, List.length_cons, List.length_nil, List.length_append, List.take_succ_cons, List.take_zero, List.take_nil, List.drop_succ_cons, List.drop_zero, List.drop_nil, List.cons_append, List.nil_append, List.append_nil, Nat.reduceAdd, Nat.reduceMul, Nat.reduceLeDiff, Nat.reduceEqDiff, and_self, and_true, true_and, if_true, Nat.le_refl, Nat.zero_add, Nat.add_zero, Nat.zero_mul, reduceIte, if_false] <;> rfl)))) | (first | refine St.r_load0 s 0 rfl rfl ?_ | refine St.r_load0 s 1 rfl rfl ?_ | refine St.r_load0 s 2 rfl rfl ?_ | refine St.r_load0 s 3 rfl rfl ?_ | refine St.r_load0 s 4 rfl rfl ?_ | refine St.r_load0 s 5 rfl rfl ?_ | refine St.r_load0 s 6 rfl rfl ?_ | refine St.r_loadN0 s 0 rfl (by simp) ?_ | refine St.r_loadN0 s 1 rfl (by simp) ?_ | refine St.r_loadN0 s 2 rfl (by simp) ?_ | refine St.r_loadN0 s 3 rfl (by simp) ?_ | refine St.r_loadN0 s 4 rfl (by simp) ?_) | refine And.intro (by (first | exact St.r_still0 s 0 rfl rfl | exact St.r_still0 s 1 rfl rfl | exact St.r_still0 s 2 rfl rfl | exact St.r_still0 s 3 rfl rfl | exact St.r_still0 s 4 rfl rfl | exact St.r_still0 s 5 rfl rfl | exact St.r_still0 s 6 rfl rfl)) ?_))
  refine r_br (fun hf => ?_) (fun _ => H _ _ s)
  have hl : l.length ≤ 2147483647 := hb (by simpa using hf)
  refine ⟨_, rfl, ?_⟩
  (repeat (first | refine r_nil ?_ | refine r_fld ?_ | refine r_ext rfl ?_ | refine r_cmpI ?_ | refine r_not ?_ | refine r_len ?_ | refine r_eqNilP ?_ | refine r_neNilP ?_ | refine r_eqB ?_ | ((apply r_build; ((simp only [fillV, fill1, Value.cells, zeros_succ, zeros_zero, List.size_toArray, List.length_cons, List.length_nil, List.length_append, List.take_succ_cons, List.take_zero, List.take_nil, List.drop_succ_cons, List.drop_zero, List.drop_nil, List.cons_append, List.nil_append, List.append_nil, Nat.reduceAdd, Nat.reduceMul, Nat.reduceLeDiff, Nat.reduceEqDiff, and_self, and_true, true_and, if_true, Nat.le_refl, Nat.zero_add, Nat.add_zero, Nat.zero_mul, reduceIte, if_false] <;> rfl)))) | (first | refine St.r_load0 s 0 rfl rfl ?_ | refine St.r_load0 s 1 rfl rfl ?_ | refine St.r_load0 s 2 rfl rfl ?_ | refine St.r_load0 s 3 rfl rfl ?_ | refine St.r_load0 s 4 rfl rfl ?_ | refine St.r_load0 s 5 rfl rfl ?_ | refine St.r_load0 s 6 rfl rfl ?_ | refine St.r_loadN0 s 0 rfl (by simp) ?_ | refine St.r_loadN0 s 1 rfl (by simp) ?_ | refine St.r_loadN0 s 2 rfl (by simp) ?_ | refine St.r_loadN0 s 3 rfl (by simp) ?_ | refine St.r_loadN0 s 4 rfl (by simp) ?_) | refine And.intro (by (first | exact St.r_still0 s 0 rfl rfl | exact St.r_still0 s 1 rfl rfl | exact St.r_still0 s 2 rfl rfl | exact St.r_still0 s 3 rfl rfl | exact St.r_still0 s 4 rfl rfl | exact St.r_still0 s 5 rfl rfl | exact St.r_still0 s 6 rfl rfl)) ?_))
  refine r_if (fun _ => H _ _ s) (fun hk => ?_)
  have hks : k.size ≤ 2147483647 := by have : ¬ (k.size : Int) > 2147483647 := by simpa using hk
                                       omega
  unfold l_FnTNext.j1
  refine TAscend_ok hr hl fun v1 b1 o1 sp1 E1 h1 w1 s1 => ?_
  have r1 := w1.rdl s1 0 rfl
  have hle := ascT_len l k 0
  have fin : ∀ v2, Rdl 1 h1 v2 (ascT l (next k) 0).length ((ascT l (next k) 0).flatMap fk) → l_FnTNext.j2 v (kv k) v2 h1 Q := by
    intro v2 r2
    unfold l_FnTNext.j2
    refine ⟨_, _, rfl, rfl, by have : (⟨#[0]⟩ : ByteArray).size = 1 := rfl; omega, ?_⟩
    refine TAscend_ok (x := next k) (hr.st s1) hl fun v3 b3 o3 sp3 E3 h3 w3 s3 => ?_
    have hle := ascT_len l (next k) 0
    refine EqualS_ok (w3.rdl s3 0 rfl) (r2.st s3) (by omega) ?_
    refine r_br (fun _ => ?_) (fun e => absurd e (by decide))
    exact aliveT_ok fun E5 h5 s5 => H _ _ ((s1.join s3).join s5)
  have hn := ascT_next l k
  have hh := ascT_head l k
  generalize ascT l k 0 = A at *
  refine r1.lenV ?_
  (repeat (first | refine r_nil ?_ | refine r_fld ?_ | refine r_ext rfl ?_ | refine r_cmpI ?_ | refine r_not ?_ | refine r_len ?_ | refine r_eqNilP ?_ | refine r_neNilP ?_ | refine r_eqB ?_ | ((apply r_build; ((simp only [fillV, fill1, Value.cells, zeros_succ, zeros_zero, List.size_toArray, List.length_cons, List.length_nil, List.length_append, List.take_succ_cons, List.take_zero, List.take_nil, List.drop_succ_cons, List.drop_zero, List.drop_nil, List.cons_append, List.nil_append, List.append_nil, Nat.reduceAdd, Nat.reduceMul, Nat.reduceLeDiff, Nat.reduceEqDiff, and_self, and_true, true_and, if_true, Nat.le_refl, Nat.zero_add, Nat.add_zero, Nat.zero_mul, reduceIte, if_false] <;> rfl)))) | (first | refine St.r_load0 s 0 rfl rfl ?_ | refine St.r_load0 s 1 rfl rfl ?_ | refine St.r_load0 s 2 rfl rfl ?_ | refine St.r_load0 s 3 rfl rfl ?_ | refine St.r_load0 s 4 rfl rfl ?_ | refine St.r_load0 s 5 rfl rfl ?_ | refine St.r_load0 s 6 rfl rfl ?_ | refine St.r_loadN0 s 0 rfl (by simp) ?_ | refine St.r_loadN0 s 1 rfl (by simp) ?_ | refine St.r_loadN0 s 2 rfl (by simp) ?_ | refine St.r_loadN0 s 3 rfl (by simp) ?_ | refine St.r_loadN0 s 4 rfl (by simp) ?_) | refine And.intro (by (first | exact St.r_still0 s 0 rfl rfl | exact St.r_still0 s 1 rfl rfl | exact St.r_still0 s 2 rfl rfl | exact St.r_still0 s 3 rfl rfl | exact St.r_still0 s 4 rfl rfl | exact St.r_still0 s 5 rfl rfl | exact St.r_still0 s 6 rfl rfl)) ?_))
  refine r_br (fun hpos => ?_) (fun hz => ?_)
  · have hpos : 0 < A.length := by have : (A.length : Int) > 0 := by simpa using hpos
                                   omega
    refine r1.at (n := 0) rfl fkl rfl rfl hpos fun b o hb => ?_
    refine hb.load0 rfl ?_
    refine r_cmpS ?_
    cases A with
    | nil => exact absurd hpos (Nat.lt_irrefl _)
    | cons y A' =>
      have hh : (lget lt (setT l) (it k)).isSome = (y.toList == k.toList) := hh
      rw [hh] at hn
      refine r_if (fun he => ?_) (fun he => ?_)
      · have he : (y.toList == k.toList) = true := he
        rw [he] at hn
        refine r1.slcLo fkl (i := 1) rfl (by simp) fun v2 r2 => fin v2 ?_
        rw [hn]; exact r2
      · have he : (y.toList == k.toList) = false := he
        rw [he] at hn
        refine fin v1 ?_
        rw [hn]; exact r1
  · have hz : A = [] := by
      have : ¬ (A.length : Int) > 0 := by simpa using hz
      exact List.length_eq_zero_iff.1 (by omega)
    subst hz
    have hh : (lget lt (setT l) (it k)).isSome = false := hh
    rw [hh] at hn
    refine fin v1 ?_
    rw [hn]; exact r1
end Go.Proofs.Ytfojeibloilneaa.Su
