/-
  Reading rows of elements out of ranges that nobody writes; handing items on until it is stopped.
  Conditions: none.
-/
import Derived.Test.YtlihjljdndbpdaaHw
namespace Go.Hp
open Go.RowKit
set_option linter.unusedVariables false
set_option linter.unusedSimpArgs false
variable {h0 h : Heap} {Z E : List Rg} {KV : Value → Heap → Prop} {K : Value → Prop} {KH : Heap → Prop}
theorem St.r_lz0 (s : St h0 Z E h) {b j : Nat} {xs : List Value} {v : Value} (hk : (b, 0, xs) ∈ Z) (hv : xs[j]? = some v) (H : K v) : load1 (ptr b j) h K := s.r_lz hk j (by omega) hv H
theorem St.clz (s : St h0 Z E h) {b o i : Nat} {xs : List Value} {v : Value} (hk : (b, o, xs) ∈ Z) (j : Nat) (hi : i = o + j) (hv : xs[j]? = some v) : cl h b i = some v := by
  subst hi; exact (s.getZ hk (List.getElem?_eq_some_iff.1 hv).1).trans hv
section
variable {α : Type} {f : α → List Value} {sz : Nat} (hf : ∀ x, (f x).length = sz)
include hf
theorem St.r_load1FZ (s : St h0 Z E h) {b o i r : Nat} {L : List α} {sp : List Value} {x : α} {v : Value} (hk : (b, o, L.flatMap f ++ sp) ∈ Z) (hx : L[i]? = some x) (hr : (f x)[r]? = some v) (H : K v) : load1 (ptr b (o + i * sz + r)) h K := by
  obtain ⟨hi, rfl⟩ := List.getElem?_eq_some_iff.1 hx
  have hl := flat_len hf L
  have hle : i * sz + sz ≤ L.length * sz := by rw [← Nat.succ_mul]; exact Nat.mul_le_mul_right _ hi
  have hr' : r < sz := by rw [← hf L[i]]; exact (List.getElem?_eq_some_iff.1 hr).1
  rw [Nat.add_assoc]
  refine s.r_loadZ hk ?_ H
  rw [List.getElem?_append_left (by omega), flat_get hf L i hi r hr']; exact hr
theorem St.r_loadFZ (s : St h0 Z E h) {b o i : Nat} {L : List α} {sp : List Value} {x : α} (hk : (b, o, L.flatMap f ++ sp) ∈ Z) (hx : L[i]? = some x) (H : K (.agg (f x).toArray)) : loadN sz (ptr b (o + i * sz)) h K := by
  obtain ⟨hi, rfl⟩ := List.getElem?_eq_some_iff.1 hx
  have hl := flat_len hf L
  have hle : i * sz + sz ≤ L.length * sz := by rw [← Nat.succ_mul]; exact Nat.mul_le_mul_right _ hi
  refine s.r_lzE hk (i * sz) (f L[i]) rfl (by rw [List.length_append]; omega) ?_ H
  rw [List.drop_append_of_le_length (by omega), List.take_append_of_le_length (by rw [List.length_drop]; omega), flat_at hf L i hi]
end
/-! ### handing on -/
section
variable {α : Type} (cont : List α → Bool)
def feed : List α → List α → List α × Bool
  | p, [] => (p, true)
  | p, x :: r => if cont (p ++ [x]) then feed (p ++ [x]) r else (p ++ [x], false)
variable {cont}
theorem feed_app : ∀ (a b p : List α), feed cont p (a ++ b) = if (feed cont p a).2 then feed cont (feed cont p a).1 b else ((feed cont p a).1, false)
  | [], b, p => by simp [feed]
  | x :: a, b, p => by
    simp only [List.cons_append, feed]
    split
    · exact feed_app a b _
    · rfl
theorem feed_all : ∀ (a p : List α), (∀ l, cont l = true) → feed cont p a = (p ++ a, true)
  | [], p, _ => by simp [feed]
  | x :: a, p, h => by simp only [feed, h, if_true]; rw [feed_all a _ h]; simp
/-- Stopped at the n-th. -/
def upTo (n : Int) (l : List α) : Bool := decide (n < 1) || decide ((l.length : Int) < n)
theorem feed_upTo {n : Int} (hn : 1 ≤ n) : ∀ (a p : List α), (p.length : Int) < n → (feed (upTo n) p a).1 = p ++ a.take (n.toNat - p.length)
  | [], p, _ => by simp [feed]
  | x :: a, p, h => by
    simp only [feed]
    have e : n.toNat - p.length = (n.toNat - (p.length + 1)) + 1 := by omega
    split
    · rename_i hc
      have hc : (p.length : Int) + 1 < n := by
        simp only [upTo, List.length_append, List.length_singleton, Bool.or_eq_true, decide_eq_true_eq] at hc; omega
      rw [feed_upTo hn a _ (by simp; omega), e]
      simp
    · rename_i hc
      have hc : n = (p.length : Int) + 1 := by
        simp only [upTo, List.length_append, List.length_singleton, Bool.or_eq_true, decide_eq_true_eq, not_or] at hc; omega
      rw [e, show n.toNat - (p.length + 1) = 0 by omega]
      simp
/-- What the law's reference hands on. -/
def firstN (l : List α) (n : Int) : List α := if n < 1 ∨ (l.length : Int) < n then l else l.take n.toNat
theorem feed_first (l : List α) (n : Int) : (feed (upTo n) [] l).1 = firstN l n := by
  unfold firstN
  by_cases h1 : n < 1
  · rw [feed_all _ _ (fun l => by simp [upTo, h1]), if_pos (.inl h1)]; rfl
  · rw [feed_upTo (by omega) _ _ (by simp; omega)]
    by_cases h2 : (l.length : Int) < n
    · rw [if_pos (.inr h2)]; simp only [List.nil_append, List.length_nil, Nat.sub_zero]
      exact List.take_of_length_le (by omega)
    · rw [if_neg (by omega)]; simp
end
/-- A loop over the numbers from j on: one round at a time. -/
theorem loop_up {B : List Value → List Value → Heap → (List Value → Heap → Prop) → Prop} {c : List Value} {h : Heap} (n : Nat) (st : Nat → List Value) (J : Nat → Heap → Prop) (h0 : J 0 h)
    (hr : ∀ j h, j ≤ n → J j h → ∀ K : List Value → Heap → Prop, (∀ h', j < n → J (j + 1) h' → K (st (j + 1)) h') → B c (st j) h K) : loopC B c (st 0) h := by
  refine loop_ghost (fun k s h => ∃ j, k = n - j ∧ j ≤ n ∧ s = st j ∧ J j h) (n0 := n) ⟨0, rfl, Nat.zero_le _, rfl, h0⟩ ?_
  rintro k s h ⟨j, rfl, hj, rfl, hJ⟩ K HK
  exact hr j h hj hJ K fun h' hlt hJ' => HK (n - (j + 1)) (st (j + 1)) h' (by omega) ⟨j + 1, rfl, hlt, rfl, hJ'⟩
section
variable {α : Type} {cont : List α → Bool}
theorem feed_step {a b p : List α} (h : (feed cont p a).2 = true) : feed cont p (a ++ b) = feed cont (feed cont p a).1 b := by rw [feed_app, if_pos h]
theorem feed_stop {a b p : List α} (h : (feed cont p a).2 = false) : feed cont p (a ++ b) = ((feed cont p a).1, false) := by rw [feed_app, if_neg (by rw [h]; decide)]
theorem feed_one {x : α} {p : List α} : feed cont p [x] = (p ++ [x], cont (p ++ [x])) := by
  simp only [feed]; split
  · rename_i h; rw [h]
  · rename_i h; simp at h; rw [h]
end
theorem feed_len {α : Type} {cont : List α → Bool} : ∀ (a p : List α), (feed cont p a).1.length ≤ p.length + a.length
  | [], p => by simp [feed]
  | x :: a, p => by
    simp only [feed]
    split
    · have := feed_len (cont := cont) a (p ++ [x]); simp at this ⊢; omega
    · simp
theorem r_callV {P : Program} {n : FuncId} {first cap args : Array Value} {h : Heap} {K : Value → Heap → Prop} (hb : hasBody P n) (H : CallsH P n (first ++ args ++ cap) h K) : callV P (.func (.func n) first cap) args h K := ⟨n, first, cap, rfl, hb, H⟩
theorem r_cmpS {K : Value → Prop} {f : Bool → Bool → Bool} {a b : ByteArray} (H : K (.bool (f (Op.bytesLess a.toList b.toList) (a.toList == b.toList)))) : cmpS f (.string a) (.string b) K := ⟨a, b, rfl, rfl, H⟩
/-! ### a loop whose rounds are counted -/
def LoopOk (B : List Value → List Value → Heap → (List Value → Heap → Prop) → Prop) (c : List Value) : Nat → List Value → Heap → Prop
  | 0, s, h => ∀ K, B c s h K
  | n + 1, s, h => ∀ K : List Value → Heap → Prop, (∀ s' h', LoopOk B c n s' h' → K s' h') → B c s h K
theorem LoopOk.loop {B : List Value → List Value → Heap → (List Value → Heap → Prop) → Prop} {c s : List Value} {h : Heap} {n : Nat} (H : LoopOk B c n s h) : loopC B c s h := by
  refine loop_ghost (fun k s h => LoopOk B c k s h) H ?_
  intro k s h hk K HK
  cases k with
  | zero => exact hk K
  | succ k => exact hk K fun s' h' h1 => HK k s' h' (Nat.lt_succ_self _) h1
/-! ### the last way down -/
def GT.bump {It : Type} (δ : Int) : {h : Nat} → GT It h → GT It h
  | 0, d => ({ (d : Nd It) with cnt := Nd.cnt d + δ } : Nd It)
  | _ + 1, t => ({ t.1 with cnt := t.1.cnt + δ }, t.2.modify (t.2.length - 1) (GT.bump δ))
theorem GT.bump_id {It : Type} {δ : Int} : ∀ {h : Nat} (t : GT It h), (t.bump δ).id = t.id
  | 0, _ => rfl
  | _ + 1, _ => rfl
theorem modify_last {β : Type} {l : List β} {f : β → β} {c : β} (hc : l[l.length - 1]? = some c) : l.modify (l.length - 1) f = l.set (l.length - 1) (f c) := by
  obtain ⟨hi, rfl⟩ := List.getElem?_eq_some_iff.1 hc
  apply List.ext_getElem?
  intro j
  rw [List.getElem?_modify, List.getElem?_set]
  by_cases e : l.length - 1 = j
  · subst e; simp [hi, List.getElem?_eq_getElem hi]
  · simp [e]
/-! ### things of size 0 -/
/-- Each cell of each type has its byte. -/
def zokAll (P : Program) : Bool := (List.range TN).all fun t => P.cellsOf t == 0 || (List.range (P.cellsOf t)).all fun r => (byteOfCell P P.depth t r).isSome
theorem zok_of {P : Program} (hz : zokAll P = true) {t : TypeId} (ht : t < TN) (o : Nat) : zokB P t o = true := by
  have := List.all_eq_true.1 hz t (List.mem_range.2 ht)
  unfold zokB
  rcases Nat.eq_zero_or_pos (P.cellsOf t) with e | e
  · rw [e]; rfl
  · rw [Bool.or_eq_true] at this
    rcases this with h | h
    · rw [h]; rfl
    · rw [List.all_eq_true.1 h (o % P.cellsOf t) (List.mem_range.2 (Nat.mod_lt _ e)), Bool.or_true]
theorem r_fldZ {h0 h : Heap} {Z E : List Rg} {K : Value → Prop} {P : Program} (hz : zokAll P = true) (s : St h0 Z E h) {b o off i : Nat} {v : Value} (hb : h0.size ≤ b) (hc : cl h b i = some v) (H : K (ptr b (o + off))) : fldZ P off (ptr b o) h K := by
  have hl := lt_of_cell hc
  cases hs : shp h b with
  | none =>
    unfold cl cell at hc
    unfold shp at hs
    cases hg : h[b]? with
    | none => rw [hg] at hc; cases hc
    | some ob => cases ob <;> simp [hg] at hc hs
  | some q =>
    obtain ⟨t, n⟩ := q
    exact ⟨b, o, t, n, rfl, hs, zok_of hz (s.tw b t n hb hs) o, H⟩
theorem r_ld00 {h : Heap} {b o : Nat} {K : Value → Prop} (H : K (.agg #[])) : loadN 0 (ptr b o) h K := ⟨_, [], rfl, rfl, H⟩
theorem r_st00 {h : Heap} {b o : Nat} {KH : Heap → Prop} (H : KH h) : storeN 0 (ptr b o) (.agg #[]) h KH := ⟨_, rfl, rfl, H⟩
theorem r_fldZE {h0 h : Heap} {Z E : List Rg} {K : Value → Prop} {P : Program} (hz : zokAll P = true) (s : St h0 Z E h) (k : Nat) {b o o' off : Nat} {xs : List Value} (hk : E[k]? = some (b, o, xs)) (hx : 0 < xs.length) (H : K (ptr b (o' + off))) : fldZ P off (ptr b o') h K :=
  r_fldZ hz s ((s.e _ (List.mem_of_getElem? hk)).2 (fun e => by have e : xs = [] := e; rw [e] at hx; exact absurd hx (Nat.lt_irrefl _))) ((s.get hk hx).trans (List.getElem?_eq_getElem hx)) H
theorem r_fldZT {h0 h : Heap} {Z E : List Rg} {K : Value → Prop} {P : Program} (hz : zokAll P = true) (s : St h0 Z E h) {b o o' off : Nat} {xs : List Value} (hb : h0.size ≤ b) (hk : (b, o, xs) ∈ Z) (hx : 0 < xs.length) (H : K (ptr b (o' + off))) : fldZ P off (ptr b o') h K :=
  r_fldZ hz s hb ((s.getZ hk hx).trans (List.getElem?_eq_getElem hx)) H
section
variable {α β : Type} {lt : α → α → Bool} {lt' : β → β → Bool} {f : α → β} (hc : ∀ a b, lt' (f a) (f b) = lt a b)
include hc
theorem pos_map (l : List α) (x : α) : pos lt' (l.map f) (f x) = pos lt l x := by
  unfold pos
  rw [List.takeWhile_map, List.length_map]
  congr 2
  funext y; exact hc y x
theorem lget_map (l : List α) (x : α) : lget lt' (l.map f) (f x) = (lget lt l x).map f := by
  unfold lget
  rw [pos_map hc, List.getElem?_map]
  cases l[pos lt l x]? with
  | none => rfl
  | some y => simp only [Option.map_some, Option.bind_some, hc]; split <;> rfl
theorem lput_map (l : List α) (x : α) : lput lt' (l.map f) (f x) = (lput lt l x).map f := by
  unfold lput
  rw [lget_map hc, pos_map hc, List.map_append, List.map_cons, List.map_take, List.map_drop, Option.isSome_map]
theorem foldl_map' (l a : List α) : (l.map f).foldl (lput lt') (a.map f) = (l.foldl (lput lt) a).map f := by
  induction l generalizing a with
  | nil => rfl
  | cons x r ih => rw [List.map_cons, List.foldl_cons, List.foldl_cons, lput_map hc, ih]
end
theorem rz_take {α : Type} {b : List α} {kb : List (List α)} {m : Nat} (h1 : m < b.length) (h2 : m < kb.length) : rz (b.take (m + 1)) (kb.take (m + 1)) = rz (b.take m) (kb.take m) ++ (b[m] :: kb[m]) := by
  unfold rz
  rw [List.take_succ_eq_append_getElem h1, List.take_succ_eq_append_getElem h2, List.zip_append (by rw [List.length_take, List.length_take]; omega), List.flatMap_append]
  simp
theorem rz_drop {α : Type} : ∀ {b : List α} {kb : List (List α)} (m : Nat), rz b kb = rz (b.take m) (kb.take m) ++ rz (b.drop m) (kb.drop m)
  | _, _, 0 => by simp [rz]
  | [], _, m + 1 => by simp [rz]
  | _ :: _, [], m + 1 => by simp [rz]
  | y :: b, k :: kb, m + 1 => by
    have := rz_drop (b := b) (kb := kb) m
    rw [List.take_succ_cons, List.take_succ_cons, List.drop_succ_cons, List.drop_succ_cons, rz_cons, rz_cons, this]
    simp
end Go.Hp
