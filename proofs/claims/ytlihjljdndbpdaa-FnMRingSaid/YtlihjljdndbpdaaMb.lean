/-
  Who owns a key on a ring: what the laws' own search and the map's ascent both find.
  Conditions: none.
-/
import Derived.Test.YtlihjljdndbpdaaMa
namespace Go.Proofs.Ytlihjljdndbpdaa.Ii
open Go.Hp Go.Proofs.Ytlihjljdndbpdaa
set_option linter.unusedVariables false
set_option linter.unusedSimpArgs false
def md (p : It) : It := (p.1 % 65536, p.2 % 256)
def dis (k : Int) (p : It) : Int := (p.1 - k) % 65536
def ownS (k : Int) (l : List It) : Int × Int := l.foldl (fun a p => if dis k p ≤ a.1 then (dis k p, p.2) else a) (65536, -1)
def ownM (S : List It) (k : Int) : Int := match (S.drop (pos lt S (k, 0))).head? with
  | some p => p.2
  | none => match S.head? with
    | some p => p.2
    | none => -1
def inR (S : List It) : Prop := ∀ p ∈ S, @LE.le Int _ 0 p.1 ∧ @LT.lt Int _ p.1 65536
theorem lt_t {a b : It} : lt a b = true ↔ @LT.lt Int _ a.1 b.1 := by simp only [lt, decide_eq_true_eq]
theorem lt_f {a b : It} : lt a b = false ↔ @LE.le Int _ b.1 a.1 := by
  simp only [lt, decide_eq_false_iff_not]; exact Int.not_lt
theorem ownS_snoc (k : Int) (l : List It) (p : It) : ownS k (l ++ [p]) = if dis k p ≤ (ownS k l).1 then (dis k p, p.2) else ownS k l := by unfold ownS; rw [List.foldl_append]; rfl
theorem lt_iff {a b : It} : (lt a b = false ∧ lt b a = false) ↔ a.1 = b.1 := by rw [lt_f, lt_f]; exact ⟨fun h => Int.le_antisymm h.2 h.1, fun h => ⟨Int.le_of_eq h.symm, Int.le_of_eq h⟩⟩
theorem lput_mem {S : List It} (ha : Asc lt S) {x y : It} : y ∈ lput lt S x ↔ y = x ∨ (y ∈ S ∧ y.1 ≠ x.1) := by
  have h1 : y ∈ lput lt S x ↔ lget lt (lput lt S x) y = some y := by
    rw [lget_mem swo (asc_lput swo ha)]; exact ⟨fun h => ⟨h, lt_iff.2 rfl⟩, fun h => h.1⟩
  rw [h1, lget_lput swo ha]
  by_cases e : x.1 = y.1
  · rw [if_pos (lt_iff.2 e)]
    constructor
    · intro h; exact .inl (Option.some.inj h).symm
    · rintro (h | h)
      · rw [h]
      · exact absurd e.symm h.2
  · rw [if_neg (fun h => e (lt_iff.1 h)), lget_mem swo ha]
    constructor
    · intro h; exact .inr ⟨h.1, fun e2 => e e2.symm⟩
    · rintro (h | h)
      · subst h; exact absurd rfl e
      · exact ⟨h.1, lt_iff.2 rfl⟩
theorem setAll_sub : ∀ (n : Nat) (l : List It), l.length = n → ∀ q ∈ setAll l, q ∈ l
  | 0, l, hn, q, hq => by
    have : l = [] := List.length_eq_zero_iff.1 hn
    subst this; cases hq
  | n + 1, l, hn, q, hq => by
    obtain ⟨R, z, e⟩ := last_of (show 1 ≤ l.length by omega)
    subst e
    rw [setAll_snoc, lput_mem (setAll_asc _)] at hq
    rcases hq with h | h
    · rw [h]; simp
    · exact List.mem_append.2 (.inl (setAll_sub n R (by simp at hn; exact hn) q h.1))
theorem setAll_self : ∀ (n : Nat) (l : List It), l.length = n → Asc lt l → setAll l = l
  | 0, l, hn, ha => by
    have : l = [] := List.length_eq_zero_iff.1 hn
    subst this; rfl
  | n + 1, l, hn, ha => by
    obtain ⟨R, z, e⟩ := last_of (show 1 ≤ l.length by omega)
    subst e
    obtain ⟨a1, _, a3⟩ := asc_app ha
    rw [setAll_snoc, setAll_self n R (by simp at hn; exact hn) a1]
    have hp : pos lt R z = R.length := by
      refine pos_uni (Nat.le_refl _) (fun j h _ => a3 _ (List.getElem_mem h) z (List.mem_singleton.2 rfl)) (fun h => absurd h (by omega))
    unfold lput
    rw [hp]; simp
theorem asc_eq {S : List It} (ha : Asc lt S) {p q : It} (hp : p ∈ S) (hq : q ∈ S) (h : p.1 = q.1) : p = q := by
  have h1 : lget lt S p = some p := (lget_mem swo ha).2 ⟨hp, lt_iff.2 rfl⟩
  have h2 : lget lt S p = some q := (lget_mem swo ha).2 ⟨hq, lt_iff.2 h.symm⟩
  exact Option.some.inj (h1.symm.trans h2)
theorem ownS_ok {k : Int} (h0 : 0 ≤ k) (h1 : k < 65536) : ∀ (n : Nat) (l : List It), l.length = n → inR l → (setAll l = [] ∧ ownS k l = (65536, -1)) ∨ ∃ p ∈ setAll l, (∀ q ∈ setAll l, dis k p ≤ dis k q) ∧ ownS k l = (dis k p, p.2)
  | 0, l, hn, hr => by
    have : l = [] := List.length_eq_zero_iff.1 hn
    subst this; exact .inl ⟨rfl, rfl⟩
  | n + 1, l, hn, hr => by
    obtain ⟨R, z, e⟩ := last_of (show 1 ≤ l.length by omega)
    subst e
    have hRl : R.length = n := by simp at hn; exact hn
    have ih := ownS_ok h0 h1 n R hRl (fun p hp => hr p (List.mem_append.2 (.inl hp)))
    have hz := hr z (by simp)
    have hD : dis k z ≤ 65536 := by unfold dis; omega
    have zm : z ∈ setAll (R ++ [z]) := by rw [setAll_snoc, lput_mem (setAll_asc _)]; exact .inl rfl
    rw [ownS_snoc]
    right
    rcases ih with ⟨e1, e2⟩ | ⟨p, hp, hmin, e2⟩
    · refine ⟨z, zm, fun q hq => ?_, by rw [e2, if_pos hD]⟩
      rw [setAll_snoc, lput_mem (setAll_asc _), e1] at hq
      rcases hq with h | h
      · rw [h]; exact Int.le_refl _
      · cases h.1
    · rw [e2]
      by_cases hle : dis k z ≤ dis k p
      · refine ⟨z, zm, fun q hq => ?_, by rw [if_pos hle]⟩
        rw [setAll_snoc, lput_mem (setAll_asc _)] at hq
        rcases hq with h | h
        · rw [h]; exact Int.le_refl _
        · exact Int.le_trans hle (hmin q h.1)
      · refine ⟨p, ?_, fun q hq => ?_, by rw [if_neg hle]⟩
        · rw [setAll_snoc, lput_mem (setAll_asc _)]
          refine .inr ⟨hp, fun e => hle ?_⟩
          unfold dis; rw [e]; exact Int.le_refl _
        · rw [setAll_snoc, lput_mem (setAll_asc _)] at hq
          rcases hq with h | h
          · rw [h]; omega
          · exact hmin q h.1
theorem ownM_ok {k : Int} (h0 : 0 ≤ k) (h1 : k < 65536) {S : List It} (ha : Asc lt S) (hr : inR S) (hn : S ≠ []) : ∃ p ∈ S, (∀ q ∈ S, dis k p ≤ dis k q) ∧ ownM S k = p.2 := by
  obtain ⟨b1, b2⟩ := asc_pos (x := ((k, 0) : It)) swo ha
  have hs := List.take_append_drop (pos lt S (k, 0)) S
  unfold ownM
  generalize S.take (pos lt S (k, 0)) = A at *
  generalize S.drop (pos lt S (k, 0)) = B at *
  cases B with
  | cons p r =>
    refine ⟨p, by rw [← hs]; simp, fun q hq => ?_, rfl⟩
    have hp := b2 p (by simp)
    have rp := hr p (by rw [← hs]; simp)
    have rq := hr q hq
    rw [lt_f] at hp
    rw [← hs] at hq ha
    unfold dis
    rcases List.mem_append.1 hq with h | h
    · have := b1 q h
      rw [lt_t] at this
      omega
    · rcases List.mem_cons.1 h with h | h
      · rw [h]; exact Int.le_refl _
      · have := List.rel_of_pairwise_cons (asc_app ha).2.1 h
        rw [lt_t] at this
        omega
  | nil =>
    rw [List.append_nil] at hs
    subst hs
    cases A with
    | nil => exact absurd rfl hn
    | cons a t =>
      refine ⟨a, by simp, fun q hq => ?_, rfl⟩
      have x1 := b1 a (by simp)
      have x2 := b1 q hq
      have ra := hr a (by simp)
      have rq := hr q hq
      rw [lt_t] at x1 x2
      unfold dis
      rcases List.mem_cons.1 hq with h | h
      · rw [h]; exact Int.le_refl _
      · have := List.rel_of_pairwise_cons ha h
        rw [lt_t] at this
        omega
theorem dis_uni {k : Int} {S : List It} (ha : Asc lt S) (hr : inR S) {p q : It} (hp : p ∈ S) (hq : q ∈ S) (h1 : ∀ x ∈ S, dis k p ≤ dis k x) (h2 : ∀ x ∈ S, dis k q ≤ dis k x) : p = q := by
  have e1 := h1 q hq
  have e2 := h2 p hp
  have r1 := hr p hp
  have r2 := hr q hq
  unfold dis at e1 e2
  have : @Eq Int p.1 q.1 := by omega
  exact asc_eq ha hp hq this
theorem own_same {k : Int} (h0 : 0 ≤ k) (h1 : k < 65536) {l : List It} (hr : inR l) : ownM (setAll l) k = (ownS k l).2 := by
  have hrS : inR (setAll l) := fun p hp => hr p (setAll_sub _ l rfl p hp)
  rcases ownS_ok h0 h1 _ l rfl hr with ⟨e1, e2⟩ | ⟨p, hp, hm, e2⟩
  · rw [e1, e2]; rfl
  · obtain ⟨q, hq, hm2, e3⟩ := ownM_ok h0 h1 (setAll_asc l) hrS (fun e => by rw [e] at hp; cases hp)
    rw [e2, e3, dis_uni (setAll_asc l) hrS hq hp hm2 hm]
theorem own_left {k g : Int} (h0 : 0 ≤ k) (h1 : k < 65536) (hg : 0 ≤ g) {S : List It} (ha : Asc lt S) (hr : inR S) : (ownM S k ≠ g → ownM (S.filter fun p => p.2 != g) k = ownM S k) ∧ ownM (S.filter fun p => p.2 != g) k ≠ g := by
  have ha2 : Asc lt (S.filter fun p => p.2 != g) := List.Pairwise.filter _ ha
  have hr2 : inR (S.filter fun p => p.2 != g) := fun p hp => hr p (List.mem_filter.1 hp).1
  constructor
  · intro hne
    by_cases hS : S = []
    · rw [hS]; rfl
    · obtain ⟨p, hp, hm, e⟩ := ownM_ok h0 h1 ha hr hS
      have hpF : p ∈ S.filter fun p => p.2 != g := List.mem_filter.2 ⟨hp, by rw [← e]; simpa using hne⟩
      obtain ⟨q, hq, hm2, e2⟩ := ownM_ok h0 h1 ha2 hr2 (fun e => by rw [e] at hpF; cases hpF)
      rw [e, e2, dis_uni ha2 hr2 hq hpF hm2 (fun x hx => hm x (List.mem_filter.1 hx).1)]
  · by_cases hF : (S.filter fun p => p.2 != g) = []
    · rw [hF]
      show (-1 : Int) ≠ g
      omega
    · obtain ⟨q, hq, hm2, e2⟩ := ownM_ok h0 h1 ha2 hr2 hF
      rw [e2]
      simpa using (List.mem_filter.1 hq).2
end Go.Proofs.Ytlihjljdndbpdaa.Ii
