/-
  Texts of this claim, laid together: P0 Pd Mr Mu Mv Mw Mx My Mz MA MB MC MD ME.
  Conditions: as each of them tells.
-/
import Derived.Test.YtkkappjbcgnacaaRMMaximalB5
import Derived.KernelRfl
section
namespace Go.Hp
set_option linter.unusedVariables false
set_option linter.unusedSimpArgs false

abbrev KI : Type := Int × Int
/-- The order of the keys. -/
def ltK (a b : KI) : Bool := decide (a.1 < b.1)
theorem ltK_t {a b : KI} : ltK a b = true ↔ a.1 < b.1 := by simp [ltK]
theorem ltK_f {a b : KI} : ltK a b = false ↔ b.1 ≤ a.1 := by simp [ltK]
theorem swoK : Swo ltK where
  irr a := by simp [ltK]
  tr a b c h k := by rw [ltK_t] at *; omega
  ntr a b c h k := by rw [ltK_f] at *; omega
/-- A list around one of its items. -/
theorem ascK_split {l : List KI} {y : KI} (ha : Asc ltK l) (hy : y ∈ l) : ∃ p s, l = p ++ y :: s ∧ (∀ z ∈ p, z.1 < y.1) ∧ ∀ z ∈ s, y.1 < z.1 := by
  obtain ⟨p, s, rfl⟩ := List.append_of_mem hy
  obtain ⟨h1, h2, h3⟩ := asc_app ha
  exact ⟨p, s, rfl, fun z hz => ltK_t.1 (h3 z hz y (List.mem_cons_self ..)), fun z hz => ltK_t.1 ((List.pairwise_cons.1 h2).1 z hz)⟩
theorem lgetK_mem {l : List KI} {x y : KI} (ha : Asc ltK l) (hy : y ∈ l) (e : y.1 = x.1) : lget ltK l x = some y := by
  obtain ⟨p, s, rfl, h1, h2⟩ := ascK_split ha hy
  exact lget_at (fun z hz => ltK_t.2 (by have := h1 z hz; omega)) (ltK_f.2 (by omega)) (ltK_f.2 (by omega))
theorem lgetK_key {l : List KI} {x y : KI} (h : lget ltK l x = some y) : y ∈ l ∧ y.1 = x.1 := by
  obtain ⟨hp, e, h1, h2⟩ := lget_some h
  rw [ltK_f] at h1 h2
  exact ⟨e ▸ List.getElem_mem hp, by omega⟩
theorem lgetK_none {l : List KI} {x : KI} (hn : ∀ y ∈ l, y.1 ≠ x.1) : lget ltK l x = none := by
  cases h : lget ltK l x with
  | none => rfl
  | some y => exact absurd (lgetK_key h).2 (hn y (lgetK_key h).1)
theorem lgetK_nk {l : List KI} {x : KI} (ha : Asc ltK l) (h : lget ltK l x = none) : ∀ y ∈ l, y.1 ≠ x.1 := fun y hy e => by
  rw [lgetK_mem ha hy e] at h; cases h
theorem lputK_perm {l : List KI} {x : KI} (hn : ∀ y ∈ l, y.1 ≠ x.1) : (lput ltK l x).Perm (x :: l) := by
  unfold lput
  rw [lgetK_none hn]
  simp only [Option.isSome_none, Bool.false_eq_true, if_false, Nat.add_zero]
  refine List.perm_middle.trans ?_
  rw [List.take_append_drop]
theorem lputK_asc {l : List KI} {x : KI} (ha : Asc ltK l) : Asc ltK (lput ltK l x) := asc_lput swoK ha
theorem ldelK_asc {l : List KI} {x : KI} (ha : Asc ltK l) : Asc ltK (ldel ltK l x) := ha.sublist (ldel_sub l x)
theorem mem_lputK {l : List KI} {x z : KI} (ha : Asc ltK l) : z ∈ lput ltK l x ↔ z = x ∨ (z ∈ l ∧ z.1 ≠ x.1) := by
  cases h : lget ltK l x with
  | none =>
    have hn := lgetK_nk ha h
    rw [(lputK_perm hn).mem_iff, List.mem_cons]
    exact ⟨fun h => h.imp id fun h => ⟨h, hn z h⟩, fun h => h.imp id fun h => h.1⟩
  | some y =>
    obtain ⟨hy, e⟩ := lgetK_key h
    obtain ⟨p, s, rfl, h1, h2⟩ := ascK_split ha hy
    rw [lput_at (fun z hz => ltK_t.2 (by have := h1 z hz; omega)) (ltK_f.2 (by omega)) (ltK_f.2 (by omega))]
    simp only [List.mem_append, List.mem_cons]
    constructor
    · rintro (h | h | h)
      · exact .inr ⟨.inl h, by have := h1 z h; omega⟩
      · exact .inl h
      · exact .inr ⟨.inr (.inr h), by have := h2 z h; omega⟩
    · rintro (h | ⟨h | h | h, e2⟩)
      · exact .inr (.inl h)
      · exact .inl h
      · subst h; exact absurd e e2
      · exact .inr (.inr h)
theorem mem_ldelK {l : List KI} {x z : KI} (ha : Asc ltK l) : z ∈ ldel ltK l x ↔ z ∈ l ∧ z.1 ≠ x.1 := by
  cases h : lget ltK l x with
  | none =>
    rw [ldel_none h]
    exact ⟨fun hz => ⟨hz, lgetK_nk ha h z hz⟩, fun h => h.1⟩
  | some y =>
    obtain ⟨hy, e⟩ := lgetK_key h
    obtain ⟨p, s, rfl, h1, h2⟩ := ascK_split ha hy
    rw [ldel_at (fun z hz => ltK_t.2 (by have := h1 z hz; omega)) (ltK_f.2 (by omega)) (ltK_f.2 (by omega))]
    simp only [List.mem_append, List.mem_cons]
    constructor
    · rintro (h | h)
      · exact ⟨.inl h, by have := h1 z h; omega⟩
      · exact ⟨.inr (.inr h), by have := h2 z h; omega⟩
    · rintro ⟨h | h | h, e2⟩
      · exact .inl h
      · subst h; exact absurd e e2
      · exact .inr h
/-- Two lists that ascend and have the same items are one. -/
theorem ascK_ext : ∀ {l r : List KI}, Asc ltK l → Asc ltK r → (∀ z, z ∈ l ↔ z ∈ r) → l = r
  | [], [], _, _, _ => rfl
  | [], y :: r, _, _, h => absurd ((h y).2 (List.mem_cons_self ..)) (List.not_mem_nil)
  | x :: l, [], _, _, h => absurd ((h x).1 (List.mem_cons_self ..)) (List.not_mem_nil)
  | x :: l, y :: r, h1, h2, h => by
    obtain ⟨a1, a2⟩ := List.pairwise_cons.1 h1
    obtain ⟨b1, b2⟩ := List.pairwise_cons.1 h2
    have e : x = y := by
      rcases List.mem_cons.1 ((h x).1 (List.mem_cons_self ..)) with e | e
      · exact e
      · rcases List.mem_cons.1 ((h y).2 (List.mem_cons_self ..)) with e2 | e2
        · exact e2.symm
        · have := ltK_t.1 (b1 x e); have := ltK_t.1 (a1 y e2); omega
    subst e
    congr 1
    refine ascK_ext a2 b2 fun z => ⟨fun hz => ?_, fun hz => ?_⟩
    · rcases List.mem_cons.1 ((h z).1 (List.mem_cons_of_mem _ hz)) with e | e
      · subst e; have := ltK_t.1 (a1 z hz); omega
      · exact e
    · rcases List.mem_cons.1 ((h z).2 (List.mem_cons_of_mem _ hz)) with e | e
      · subst e; have := ltK_t.1 (b1 z hz); omega
      · exact e
end Go.Hp
end
section
namespace Go.Hp
set_option linter.unusedVariables false
set_option linter.unusedSimpArgs false
section
variable {α : Type} {lt : α → α → Bool}
def MT.hgt : MT α → Nat
  | none => 0
  | some t => t.1 + 1
end
end Go.Hp
end
section
namespace Go.Proofs.Ytkkappjbcgnacaa.Ii
open Go.Hp Go.Proofs.Ytkkappjbcgnacaa
set_option linter.unusedVariables false
set_option linter.unusedSimpArgs false
variable {h0 h : Heap} {Z E : List Rg} {Q : Value → Heap → Prop}

theorem rem01 (H : Q (.int .i64 0) h) : i_remainder.call #[.int .i64 0, .int .i64 1] h Q := by
  refine i_remainder.body _ _ _ _ ?_
  unfold i_remainder.sh
  refine r_remN (by decide) (by decide) ?_
  refine r_add (z := 1) (by decide) ?_
  refine r_remN (by decide) (by decide) ?_
  exact H
end Go.Proofs.Ytkkappjbcgnacaa.Ii
end
section
namespace Go.Proofs.Ytkkappjbcgnacaa.Ii
open Go.Hp Go.Proofs.Ytkkappjbcgnacaa
set_option linter.unusedVariables false
set_option linter.unusedSimpArgs false
variable {h0 h : Heap} {Z E : List Rg} {Q : Value → Heap → Prop}

/-- A step: what is done, the key, the value, how many. -/
abbrev Stq := Int × Int × Int × Int
def encQ (x : Stq) : List Value := [.int .i64 x.1, .int .i64 0, .int .i64 x.2.1, .int .i64 x.2.2.1, .int .i64 0, .int .i64 0, .int .i64 x.2.2.2, .bool false, .bool false]
theorem encQl (x : Stq) : (encQ x).length = 9 := rfl
theorem encQ1 (x : Stq) : ∀ y ∈ encQ x, one1 y = true := by simp [encQ, one1]
/-- The list behind a step, what the step found, what it hands on. -/
def nxL (L : List It) (x : Stq) : List It := if x.1 = 0 then lput lt L (x.2.1, x.2.2.1) else if x.1 = 3 then ldel lt L (x.2.1, 0) else L
def rpO (L : List It) (x : Stq) : Option It := if x.1 = 0 ∨ x.1 = 2 ∨ x.1 = 3 then fnd L x.2.1 else none
def rpI (L : List It) (x : Stq) : List It :=
  if x.1 = 13 then L else if x.1 = 16 then firstN (L.drop (pos lt L (x.2.1, 0))) x.2.2.2 else if x.1 = 17 then firstN (L.filter fun y => !lt (x.2.1, 0) y).reverse x.2.2.2 else []
def OkQ (x : Stq) : Prop := x.1 = 0 ∨ x.1 = 2 ∨ x.1 = 3 ∨ x.1 = 13 ∨ x.1 = 16 ∨ x.1 = 17
theorem entriesF_ok {d tb m : Nat} {g : Rt} (M : MapOk m 0 g) (hl : (rPt g).items.length ≤ 4294967295) (s : St h0 Z ((tb, 0, hdr 0 none (rA g) (rPt g).items.length ((d - 1 : Nat) : Int) ((2 * d - 1 : Nat) : Int)) :: (rAll g ++ E)) h)
    (H : ∀ v b o sp F h', Own 2 v (rPt g).items.length b o ((rPt g).items.flatMap encA) sp → St h0 Z ((tb, 0, hdr 0 none (rA g) (rPt g).items.length ((d - 1 : Nat) : Int) ((2 * d - 1 : Nat) : Int)) :: (rAll g ++ ((b, o, (rPt g).items.flatMap encA ++ sp) :: (F ++ E)))) h' → Q v h') : i_entries.call #[ptr tb 0] h Q := by
  refine i_entries.body _ _ _ ?_
  unfold i_entries.sh
  refine s.r_alloc fun t3 h s => ?_
  refine kept_ok (n := 0) (E := E) M hl (s.perm (by ((apply perm_rg; intro f; simp only [List.set_cons_zero, List.set_cons_succ, List.eraseIdx_cons_zero, List.eraseIdx_cons_succ, List.cons_append, List.nil_append, List.map_append, List.map_cons, List.map_nil, List.sum_append, List.sum_cons, List.sum_nil, List.map_flatMap, Nat.add_zero, Nat.zero_add]; ac_rfl)))) fun v b o sp h s1 s => ?_
  have e0 : firstN (rPt g).items 0 = (rPt g).items := by unfold firstN; rw [if_pos (.inl (by decide))]
  rw [e0] at s1 s
  refine St.r_load0 s 0 rfl rfl ?_
  exact H v b o sp [(t3, 0, [v])] h s1 (s.perm (by ((apply perm_rg; intro f; simp only [List.set_cons_zero, List.set_cons_succ, List.eraseIdx_cons_zero, List.eraseIdx_cons_succ, List.cons_append, List.nil_append, List.map_append, List.map_cons, List.map_nil, List.sum_append, List.sum_cons, List.sum_nil, List.map_flatMap, Nat.add_zero, Nat.zero_add]; ac_rfl))))
theorem handedA_ok {d tb m : Nat} {g : Rt} {k w n : Int} (M : MapOk m 0 g) (hl : (rPt g).items.length ≤ 4294967295) (s : St h0 Z ((tb, 0, hdr 0 none (rA g) (rPt g).items.length ((d - 1 : Nat) : Int) ((2 * d - 1 : Nat) : Int)) :: (rAll g ++ E)) h)
    (H : ∀ v b o sp F h', Own 2 v (firstN ((rPt g).items.drop (pos lt (rPt g).items (k, 0))) n).length b o ((firstN ((rPt g).items.drop (pos lt (rPt g).items (k, 0))) n).flatMap encA) sp → St h0 Z ((tb, 0, hdr 0 none (rA g) (rPt g).items.length ((d - 1 : Nat) : Int) ((2 * d - 1 : Nat) : Int)) :: (rAll g ++ ((b, o, (firstN ((rPt g).items.drop (pos lt (rPt g).items (k, 0))) n).flatMap encA ++ sp) :: (F ++ E)))) h' → Q v h') : i_handedMap.call #[ptr tb 0, .agg (encQ (16, k, w, n)).toArray] h Q := by
  refine i_handedMap.body _ _ _ _ ?_
  unfold i_handedMap.sh
  refine St.r_box (cs := encQ (16, k, w, n)) s fun t3 h s => ?_
  refine s.r_alloc fun t5 h s => ?_
  refine r_fld ?_
  refine St.r_load0 s 1 rfl rfl ?_
  refine pairs_ok s fun t2 t4 t6 h s => ?_
  refine r_fld ?_
  refine St.r_load0 s 4 rfl rfl ?_
  refine r_cmpI ?_
  refine r_br (fun e => absurd e (by simp)) (fun _ => ?_)
  refine r_fld ?_
  refine St.r_load0 s 4 rfl rfl ?_
  refine r_cmpI ?_
  refine r_if (fun e => absurd e (by simp)) (fun _ => ?_)
  refine r_fld ?_
  refine St.r_load0 s 4 rfl rfl ?_
  refine r_cmpI ?_
  refine r_br (fun e => absurd e (by simp)) (fun _ => ?_)
  refine r_fld ?_
  refine St.r_load0 s 4 rfl rfl ?_
  refine r_cmpI ?_
  refine r_if (fun e => absurd e (by simp)) (fun _ => ?_)
  refine r_fld ?_
  refine St.r_load0 s 4 rfl rfl ?_
  refine r_cmpI ?_
  refine r_br (fun _ => ?_) (fun e => absurd e (by simp))
  refine r_fld ?_
  refine St.r_load0 s 4 rfl rfl ?_
  refine r_if (fun e => absurd e (by simp)) (fun _ => ?_)
  refine r_fld ?_
  refine St.r_load0 s 4 rfl rfl ?_
  refine r_cmpI ?_
  refine r_if (fun _ => ?_) (fun e => absurd e (by simp))
  refine r_fld (r_fld ?_)
  refine St.r_load0 s 4 rfl rfl ?_
  refine keptA2_ok (t2 := t2) (t3 := t4) (t5 := t6) (t7 := t5) (n := n) (cnt := (rPt g).items.length) (mn := ((d - 1 : Nat) : Int)) (mx := ((2 * d - 1 : Nat) : Int)) (ctr := none) (x := (k, 0)) (E := (t3, 0, encQ (16, k, w, n)) :: E) M hl (s.perm (by ((apply perm_rg; intro f; simp only [List.set_cons_zero, List.set_cons_succ, List.eraseIdx_cons_zero, List.eraseIdx_cons_succ, List.cons_append, List.nil_append, List.map_append, List.map_cons, List.map_nil, List.sum_append, List.sum_cons, List.sum_nil, List.map_flatMap, Nat.add_zero, Nat.zero_add]; ac_rfl)))) fun v b o sp h w1 s => ?_
  unfold i_handedMap.j1
  refine St.r_load0 s 0 rfl rfl ?_
  exact H v b o sp ((t5, 0, [v]) :: (t3, 0, encQ (16, k, w, n)) :: []) h w1 (s.perm (by ((apply perm_rg; intro f; simp only [List.set_cons_zero, List.set_cons_succ, List.eraseIdx_cons_zero, List.eraseIdx_cons_succ, List.cons_append, List.nil_append, List.map_append, List.map_cons, List.map_nil, List.sum_append, List.sum_cons, List.sum_nil, List.map_flatMap, Nat.add_zero, Nat.zero_add]; ac_rfl))))
theorem handedD_ok {d tb m : Nat} {g : Rt} {k w n : Int} (M : MapOk m 0 g) (hl : (rPt g).items.length ≤ 4294967295) (s : St h0 Z ((tb, 0, hdr 0 none (rA g) (rPt g).items.length ((d - 1 : Nat) : Int) ((2 * d - 1 : Nat) : Int)) :: (rAll g ++ E)) h)
    (H : ∀ v b o sp F h', Own 2 v (firstN ((rPt g).items.filter fun y => !lt (k, 0) y).reverse n).length b o ((firstN ((rPt g).items.filter fun y => !lt (k, 0) y).reverse n).flatMap encA) sp → St h0 Z ((tb, 0, hdr 0 none (rA g) (rPt g).items.length ((d - 1 : Nat) : Int) ((2 * d - 1 : Nat) : Int)) :: (rAll g ++ ((b, o, (firstN ((rPt g).items.filter fun y => !lt (k, 0) y).reverse n).flatMap encA ++ sp) :: (F ++ E)))) h' → Q v h') : i_handedMap.call #[ptr tb 0, .agg (encQ (17, k, w, n)).toArray] h Q := by
  refine i_handedMap.body _ _ _ _ ?_
  unfold i_handedMap.sh
  refine St.r_box (cs := encQ (17, k, w, n)) s fun t3 h s => ?_
  refine s.r_alloc fun t5 h s => ?_
  refine r_fld ?_
  refine St.r_load0 s 1 rfl rfl ?_
  refine pairs_ok s fun t2 t4 t6 h s => ?_
  refine r_fld ?_
  refine St.r_load0 s 4 rfl rfl ?_
  refine r_cmpI ?_
  refine r_br (fun e => absurd e (by simp)) (fun _ => ?_)
  refine r_fld ?_
  refine St.r_load0 s 4 rfl rfl ?_
  refine r_cmpI ?_
  refine r_if (fun e => absurd e (by simp)) (fun _ => ?_)
  refine r_fld ?_
  refine St.r_load0 s 4 rfl rfl ?_
  refine r_cmpI ?_
  refine r_br (fun e => absurd e (by simp)) (fun _ => ?_)
  refine r_fld ?_
  refine St.r_load0 s 4 rfl rfl ?_
  refine r_cmpI ?_
  refine r_if (fun e => absurd e (by simp)) (fun _ => ?_)
  refine r_fld ?_
  refine St.r_load0 s 4 rfl rfl ?_
  refine r_cmpI ?_
  refine r_br (fun e => absurd e (by simp)) (fun _ => ?_)
  refine r_fld ?_
  refine St.r_load0 s 4 rfl rfl ?_
  refine r_cmpI ?_
  refine r_if (fun e => absurd e (by simp)) (fun _ => ?_)
  refine r_fld ?_
  refine St.r_load0 s 4 rfl rfl ?_
  refine r_cmpI ?_
  refine r_br (fun _ => ?_) (fun e => absurd e (by simp))
  refine r_fld ?_
  refine St.r_load0 s 4 rfl rfl ?_
  refine r_if (fun e => absurd e (by simp)) (fun _ => ?_)
  refine r_fld ?_
  refine St.r_load0 s 4 rfl rfl ?_
  refine r_cmpI ?_
  refine r_if (fun _ => ?_) (fun e => absurd e (by simp))
  refine r_fld (r_fld ?_)
  refine St.r_load0 s 4 rfl rfl ?_
  refine keptD2_ok (t2 := t2) (t3 := t4) (t5 := t6) (t7 := t5) (n := n) (cnt := (rPt g).items.length) (mn := ((d - 1 : Nat) : Int)) (mx := ((2 * d - 1 : Nat) : Int)) (ctr := none) (x := (k, 0)) (E := (t3, 0, encQ (17, k, w, n)) :: E) M hl (s.perm (by ((apply perm_rg; intro f; simp only [List.set_cons_zero, List.set_cons_succ, List.eraseIdx_cons_zero, List.eraseIdx_cons_succ, List.cons_append, List.nil_append, List.map_append, List.map_cons, List.map_nil, List.sum_append, List.sum_cons, List.sum_nil, List.map_flatMap, Nat.add_zero, Nat.zero_add]; ac_rfl)))) fun v b o sp h w1 s => ?_
  unfold i_handedMap.j1
  refine St.r_load0 s 0 rfl rfl ?_
  exact H v b o sp ((t5, 0, [v]) :: (t3, 0, encQ (17, k, w, n)) :: []) h w1 (s.perm (by ((apply perm_rg; intro f; simp only [List.set_cons_zero, List.set_cons_succ, List.eraseIdx_cons_zero, List.eraseIdx_cons_succ, List.cons_append, List.nil_append, List.map_append, List.map_cons, List.map_nil, List.sum_append, List.sum_cons, List.sum_nil, List.map_flatMap, Nat.add_zero, Nat.zero_add]; ac_rfl))))
theorem stepQ_ok {d tb : Nat} {g : Rt} {x : Stq} (hd : 2 ≤ d) (M : MapOk (2 * d - 1) 0 g) (hsz : (rPt g).items.length ≤ 2147483647) (ok : OkQ x) (s : St h0 Z ((tb, 0, hdr 0 none (rA g) (rPt g).items.length ((d - 1 : Nat) : Int) ((2 * d - 1 : Nat) : Int)) :: (rAll g ++ E)) h)
    (H : ∀ (g' : Rt) v b o sp F h', (rPt g').items = nxL (rPt g).items x → MapOk (2 * d - 1) 0 g' → Own 2 v (rpI (rPt g).items x).length b o ((rpI (rPt g).items x).flatMap encA) sp → St h0 Z ((tb, 0, hdr 0 none (rA g') (rPt g').items.length ((d - 1 : Nat) : Int) ((2 * d - 1 : Nat) : Int)) :: (rAll g' ++ ((b, o, (rpI (rPt g).items x).flatMap encA ++ sp) :: (F ++ E)))) h' → Q (.tuple #[.agg (foundC (rpO (rPt g).items x)).toArray, v]) h') :
    i_stepMap.call #[ptr tb 0, .agg (encQ x).toArray] h Q := by
  refine i_stepMap.body _ _ _ _ ?_
  unfold i_stepMap.sh
  obtain ⟨dd, k, w, n⟩ := x
  refine St.r_box (cs := encQ (dd, k, w, n)) s fun t3 h s => ?_
  refine s.r_alloc fun t4 h s => ?_
  have emp' : ∀ {g' : Rt} {F : List Rg} {h : Heap}, rpI (rPt g).items (dd, k, w, n) = [] → (rPt g').items = nxL (rPt g).items (dd, k, w, n) → MapOk (2 * d - 1) 0 g' → St h0 Z ((tb, 0, hdr 0 none (rA g') (rPt g').items.length ((d - 1 : Nat) : Int) ((2 * d - 1 : Nat) : Int)) :: (rAll g' ++ (F ++ E))) h → Q (.tuple #[.agg (foundC (rpO (rPt g).items (dd, k, w, n))).toArray, .slice none 0 0]) h := fun {g' F h} e e1 M' s => by
    refine H g' (.slice none 0 0) 0 0 [] F h e1 M' (by rw [e]; exact Own.nil 2 0 0) ?_
    rw [e]
    exact (s.empty 0 0).perm (by
      show List.Perm ((tb, 0, hdr 0 none (rA g') (rPt g').items.length ((d - 1 : Nat) : Int) ((2 * d - 1 : Nat) : Int)) :: (rAll g' ++ ((0, 0, []) :: (F ++ E)))) ((0, 0, []) :: (tb, 0, hdr 0 none (rA g') (rPt g').items.length ((d - 1 : Nat) : Int) ((2 * d - 1 : Nat) : Int)) :: (rAll g' ++ (F ++ E)))
      ((apply perm_rg; intro f; simp only [List.set_cons_zero, List.set_cons_succ, List.eraseIdx_cons_zero, List.eraseIdx_cons_succ, List.cons_append, List.nil_append, List.map_append, List.map_cons, List.map_nil, List.sum_append, List.sum_cons, List.sum_nil, List.map_flatMap, Nat.add_zero, Nat.zero_add]; ac_rfl)))
  have fin : ∀ {g' : Rt} {h : Heap} {F0 : List Rg}, rpI (rPt g).items (dd, k, w, n) = [] → rpO (rPt g).items (dd, k, w, n) = fnd (rPt g).items k → (rPt g').items = nxL (rPt g).items (dd, k, w, n) → MapOk (2 * d - 1) 0 g' → St h0 Z ((t4, 0, [.int .i64 0, .int .i64 0, .bool false]) :: (t3, 0, encQ (dd, k, w, n)) :: (tb, 0, hdr 0 none (rA g') (rPt g').items.length ((d - 1 : Nat) : Int) ((2 * d - 1 : Nat) : Int)) :: (rAll g' ++ (F0 ++ E))) h →
      i_stepMap.j1 (ptr t4 0) (.int .i64 k) (.int .i64 ((fnd (rPt g).items k).getD emp).2) (.bool (fnd (rPt g).items k).isSome) h Q := fun {g' h F0} ei eo e M' s => by
    unfold i_stepMap.j1
    refine pair_ok (p := (k, ((fnd (rPt g).items k).getD emp).2)) fun E2 h s2 => ?_
    have s := s.join s2
    have s := s.perm List.perm_append_comm
    have hf : (if (fnd (rPt g).items k).isSome = true then some (k, ((fnd (rPt g).items k).getD emp).2) else none) = fnd (rPt g).items k := fnd_pair _ k
    rw [hf]
    have key := fun {F h} => emp' (g' := g') (F := F) (h := h) ei e M'
    rw [eo] at key
    generalize fnd (rPt g).items k = o at *
    rcases o with _ | p
    · refine St.r_storeN0 s 0 rfl (foundC_len none) (by simp) (foundC_one none) ?_; intro h s
      have s : St h0 Z (((t4, 0, foundC none) :: (t3, 0, encQ (dd, k, w, n)) :: (tb, 0, hdr 0 none (rA g') (rPt g').items.length ((d - 1 : Nat) : Int) ((2 * d - 1 : Nat) : Int)) :: (rAll g' ++ (F0 ++ E))) ++ E2) h := s
      refine St.r_loadN0 s 0 rfl (by simp) ?_
      exact key (F := (t4, 0, foundC none) :: (t3, 0, encQ (dd, k, w, n)) :: (F0 ++ E2)) (s.perm (by ((apply perm_rg; intro f; simp only [List.set_cons_zero, List.set_cons_succ, List.eraseIdx_cons_zero, List.eraseIdx_cons_succ, List.cons_append, List.nil_append, List.map_append, List.map_cons, List.map_nil, List.sum_append, List.sum_cons, List.sum_nil, List.map_flatMap, Nat.add_zero, Nat.zero_add]; ac_rfl))))
    · refine St.r_storeN0 s 0 rfl (foundC_len (some p)) (by simp) (foundC_one (some p)) ?_; intro h s
      have s : St h0 Z (((t4, 0, foundC (some p)) :: (t3, 0, encQ (dd, k, w, n)) :: (tb, 0, hdr 0 none (rA g') (rPt g').items.length ((d - 1 : Nat) : Int) ((2 * d - 1 : Nat) : Int)) :: (rAll g' ++ (F0 ++ E))) ++ E2) h := s
      refine St.r_loadN0 s 0 rfl (by simp) ?_
      exact key (F := (t4, 0, foundC (some p)) :: (t3, 0, encQ (dd, k, w, n)) :: (F0 ++ E2)) (s.perm (by ((apply perm_rg; intro f; simp only [List.set_cons_zero, List.set_cons_succ, List.eraseIdx_cons_zero, List.eraseIdx_cons_succ, List.cons_append, List.nil_append, List.map_append, List.map_cons, List.map_nil, List.sum_append, List.sum_cons, List.sum_nil, List.map_flatMap, Nat.add_zero, Nat.zero_add]; ac_rfl))))
  have ok : dd = 0 ∨ dd = 2 ∨ dd = 3 ∨ dd = 13 ∨ dd = 16 ∨ dd = 17 := ok
  refine r_fld (r_fld ?_)
  refine St.r_load0 s 1 rfl rfl ?_
  refine r_fld ?_
  refine St.r_load0 s 1 rfl rfl ?_
  rcases ok with rfl | rfl | rfl | rfl | rfl | rfl
  · refine r_cmpI ?_
    refine r_if (fun _ => ?_) (fun e => absurd e (by simp))
    refine r_fld (r_fld ?_)
    refine St.r_load0 s 1 rfl rfl ?_
    refine Set_ok (mn := ((d - 1 : Nat) : Int)) (x := (k, w)) (E := (t4, 0, [.int .i64 0, .int .i64 0, .bool false]) :: (t3, 0, encQ (0, k, w, n)) :: E) M (by omega) (by omega) (s.perm (by ((apply perm_rg; intro f; simp only [List.set_cons_zero, List.set_cons_succ, List.eraseIdx_cons_zero, List.eraseIdx_cons_succ, List.cons_append, List.nil_append, List.map_append, List.map_cons, List.map_nil, List.sum_append, List.sum_cons, List.sum_nil, List.map_flatMap, Nat.add_zero, Nat.zero_add]; ac_rfl)))) fun g' h e1 M' s => ?_
    refine r_ext rfl ?_
    refine r_ext rfl ?_
    exact fin (F0 := []) rfl rfl (by rw [e1]; exact (MT.set_items swo M.odd M.m3 M.fl M.asc).1) M' (s.perm (by ((apply perm_rg; intro f; simp only [List.set_cons_zero, List.set_cons_succ, List.eraseIdx_cons_zero, List.eraseIdx_cons_succ, List.cons_append, List.nil_append, List.map_append, List.map_cons, List.map_nil, List.sum_append, List.sum_cons, List.sum_nil, List.map_flatMap, Nat.add_zero, Nat.zero_add]; ac_rfl))))
  · refine r_cmpI ?_
    refine r_if (fun e => absurd e (by simp)) (fun _ => ?_)
    refine r_cmpI ?_
    refine r_if (fun e => absurd e (by simp)) (fun _ => ?_)
    refine r_cmpI ?_
    refine r_if (fun _ => ?_) (fun e => absurd e (by simp))
    refine Get_ok (x := (k, 0)) (E := (t4, 0, [.int .i64 0, .int .i64 0, .bool false]) :: (t3, 0, encQ (2, k, w, n)) :: E) M (s.perm (by ((apply perm_rg; intro f; simp only [List.set_cons_zero, List.set_cons_succ, List.eraseIdx_cons_zero, List.eraseIdx_cons_succ, List.cons_append, List.nil_append, List.map_append, List.map_cons, List.map_nil, List.sum_append, List.sum_cons, List.sum_nil, List.map_flatMap, Nat.add_zero, Nat.zero_add]; ac_rfl)))) ?_
    refine r_ext rfl ?_
    refine r_ext rfl ?_
    exact fin (F0 := []) rfl rfl rfl M s
  · refine r_cmpI ?_
    refine r_if (fun e => absurd e (by simp)) (fun _ => ?_)
    refine r_cmpI ?_
    refine r_if (fun e => absurd e (by simp)) (fun _ => ?_)
    refine r_cmpI ?_
    refine r_if (fun e => absurd e (by simp)) (fun _ => ?_)
    refine r_cmpI ?_
    refine r_if (fun _ => ?_) (fun e => absurd e (by simp))
    have em : (2 * d - 1) / 2 = d - 1 := by omega
    refine Delete_ok (m := 2 * d - 1) (x := (k, 0)) (E := (t4, 0, [.int .i64 0, .int .i64 0, .bool false]) :: (t3, 0, encQ (3, k, w, n)) :: E) M (by omega) (by rw [em]; exact s.perm (by ((apply perm_rg; intro f; simp only [List.set_cons_zero, List.set_cons_succ, List.eraseIdx_cons_zero, List.eraseIdx_cons_succ, List.cons_append, List.nil_append, List.map_append, List.map_cons, List.map_nil, List.sum_append, List.sum_cons, List.sum_nil, List.map_flatMap, Nat.add_zero, Nat.zero_add]; ac_rfl)))) fun g' h e1 M' s => ?_
    rw [em] at s
    refine r_ext rfl ?_
    refine r_ext rfl ?_
    exact fin (F0 := []) rfl rfl e1 M' (s.perm (by ((apply perm_rg; intro f; simp only [List.set_cons_zero, List.set_cons_succ, List.eraseIdx_cons_zero, List.eraseIdx_cons_succ, List.cons_append, List.nil_append, List.map_append, List.map_cons, List.map_nil, List.sum_append, List.sum_cons, List.sum_nil, List.map_flatMap, Nat.add_zero, Nat.zero_add]; ac_rfl))))
  · refine r_cmpI ?_
    refine r_if (fun e => absurd e (by simp)) (fun _ => ?_)
    refine r_cmpI ?_
    refine r_if (fun e => absurd e (by simp)) (fun _ => ?_)
    refine r_cmpI ?_
    refine r_if (fun e => absurd e (by simp)) (fun _ => ?_)
    refine r_cmpI ?_
    refine r_if (fun e => absurd e (by simp)) (fun _ => ?_)
    refine r_cmpI ?_
    refine r_if (fun e => absurd e (by simp)) (fun _ => ?_)
    refine r_cmpI ?_
    refine r_if (fun e => absurd e (by simp)) (fun _ => ?_)
    refine r_cmpI ?_
    refine r_if (fun e => absurd e (by simp)) (fun _ => ?_)
    refine r_cmpI ?_
    refine r_if (fun e => absurd e (by simp)) (fun _ => ?_)
    refine r_cmpI ?_
    refine r_if (fun e => absurd e (by simp)) (fun _ => ?_)
    refine r_cmpI ?_
    refine r_if (fun e => absurd e (by simp)) (fun _ => ?_)
    refine r_cmpI ?_
    refine r_if (fun e => absurd e (by simp)) (fun _ => ?_)
    refine r_cmpI ?_
    refine r_if (fun _ => ?_) (fun e => absurd e (by simp))
    refine r_build (cs := foundC none) (by ((simp only [fillV, fill1, Value.cells, zeros_succ, zeros_zero, List.size_toArray, List.length_cons, List.length_nil, List.length_append, List.take_succ_cons, List.take_zero, List.take_nil, List.drop_succ_cons, List.drop_zero, List.drop_nil, List.cons_append, List.nil_append, List.append_nil, Nat.reduceAdd, Nat.reduceMul, Nat.reduceLeDiff, Nat.reduceEqDiff, and_self, and_true, true_and, if_true, Nat.le_refl, Nat.zero_add, Nat.add_zero, Nat.zero_mul, reduceIte, if_false] <;> rfl))) ?_
    refine entriesF_ok (d := d) (E := (t4, 0, [.int .i64 0, .int .i64 0, .bool false]) :: (t3, 0, encQ (13, k, w, n)) :: E) M (by omega) (s.perm (by ((apply perm_rg; intro f; simp only [List.set_cons_zero, List.set_cons_succ, List.eraseIdx_cons_zero, List.eraseIdx_cons_succ, List.cons_append, List.nil_append, List.map_append, List.map_cons, List.map_nil, List.sum_append, List.sum_cons, List.sum_nil, List.map_flatMap, Nat.add_zero, Nat.zero_add]; ac_rfl)))) fun v b o sp F h w1 s => ?_
    have s : St h0 Z ((t4, 0, [.int .i64 0, .int .i64 0, .bool false]) :: (t3, 0, encQ (13, k, w, n)) :: (tb, 0, hdr 0 none (rA g) (rPt g).items.length ((d - 1 : Nat) : Int) ((2 * d - 1 : Nat) : Int)) :: (rAll g ++ ((b, o, (rPt g).items.flatMap encA ++ sp) :: (F ++ E)))) h := s.perm (by ((apply perm_rg; intro f; simp only [List.set_cons_zero, List.set_cons_succ, List.eraseIdx_cons_zero, List.eraseIdx_cons_succ, List.cons_append, List.nil_append, List.map_append, List.map_cons, List.map_nil, List.sum_append, List.sum_cons, List.sum_nil, List.map_flatMap, Nat.add_zero, Nat.zero_add]; ac_rfl)))
    refine St.r_storeN0 s 0 rfl (foundC_len none) (by simp) (foundC_one none) ?_; intro h s
    have s : St h0 Z ((t4, 0, foundC none) :: (t3, 0, encQ (13, k, w, n)) :: (tb, 0, hdr 0 none (rA g) (rPt g).items.length ((d - 1 : Nat) : Int) ((2 * d - 1 : Nat) : Int)) :: (rAll g ++ ((b, o, (rPt g).items.flatMap encA ++ sp) :: (F ++ E)))) h := s
    refine St.r_loadN0 s 0 rfl (by simp) ?_
    exact H g v b o sp ((t4, 0, foundC none) :: (t3, 0, encQ (13, k, w, n)) :: F) h rfl M w1 (s.perm (by show List.Perm ((tb, 0, hdr 0 none (rA g) (rPt g).items.length ((d - 1 : Nat) : Int) ((2 * d - 1 : Nat) : Int)) :: (rAll g ++ ((b, o, (rPt g).items.flatMap encA ++ sp) :: (((t4, 0, foundC none) :: (t3, 0, encQ (13, k, w, n)) :: F) ++ E)))) _; ((apply perm_rg; intro f; simp only [List.set_cons_zero, List.set_cons_succ, List.eraseIdx_cons_zero, List.eraseIdx_cons_succ, List.cons_append, List.nil_append, List.map_append, List.map_cons, List.map_nil, List.sum_append, List.sum_cons, List.sum_nil, List.map_flatMap, Nat.add_zero, Nat.zero_add]; ac_rfl))))
  · refine r_cmpI ?_
    refine r_if (fun e => absurd e (by simp)) (fun _ => ?_)
    refine r_cmpI ?_
    refine r_if (fun e => absurd e (by simp)) (fun _ => ?_)
    refine r_cmpI ?_
    refine r_if (fun e => absurd e (by simp)) (fun _ => ?_)
    refine r_cmpI ?_
    refine r_if (fun e => absurd e (by simp)) (fun _ => ?_)
    refine r_cmpI ?_
    refine r_if (fun e => absurd e (by simp)) (fun _ => ?_)
    refine r_cmpI ?_
    refine r_if (fun e => absurd e (by simp)) (fun _ => ?_)
    refine r_cmpI ?_
    refine r_if (fun e => absurd e (by simp)) (fun _ => ?_)
    refine r_cmpI ?_
    refine r_if (fun e => absurd e (by simp)) (fun _ => ?_)
    refine r_cmpI ?_
    refine r_if (fun e => absurd e (by simp)) (fun _ => ?_)
    refine r_cmpI ?_
    refine r_if (fun e => absurd e (by simp)) (fun _ => ?_)
    refine r_cmpI ?_
    refine r_if (fun e => absurd e (by simp)) (fun _ => ?_)
    refine r_cmpI ?_
    refine r_if (fun e => absurd e (by simp)) (fun _ => ?_)
    refine r_build (cs := foundC none) (by ((simp only [fillV, fill1, Value.cells, zeros_succ, zeros_zero, List.size_toArray, List.length_cons, List.length_nil, List.length_append, List.take_succ_cons, List.take_zero, List.take_nil, List.drop_succ_cons, List.drop_zero, List.drop_nil, List.cons_append, List.nil_append, List.append_nil, Nat.reduceAdd, Nat.reduceMul, Nat.reduceLeDiff, Nat.reduceEqDiff, and_self, and_true, true_and, if_true, Nat.le_refl, Nat.zero_add, Nat.add_zero, Nat.zero_mul, reduceIte, if_false] <;> rfl))) ?_
    refine St.r_loadN0 s 1 rfl (Nat.le_refl 9) ?_
    refine handedA_ok (d := d) (k := k) (w := w) (n := n) (E := (t4, 0, [.int .i64 0, .int .i64 0, .bool false]) :: (t3, 0, encQ (16, k, w, n)) :: E) M (by omega) (s.perm (by ((apply perm_rg; intro f; simp only [List.set_cons_zero, List.set_cons_succ, List.eraseIdx_cons_zero, List.eraseIdx_cons_succ, List.cons_append, List.nil_append, List.map_append, List.map_cons, List.map_nil, List.sum_append, List.sum_cons, List.sum_nil, List.map_flatMap, Nat.add_zero, Nat.zero_add]; ac_rfl)))) fun v b o sp F h w1 s => ?_
    have s : St h0 Z ((t4, 0, [.int .i64 0, .int .i64 0, .bool false]) :: (t3, 0, encQ (16, k, w, n)) :: (tb, 0, hdr 0 none (rA g) (rPt g).items.length ((d - 1 : Nat) : Int) ((2 * d - 1 : Nat) : Int)) :: (rAll g ++ ((b, o, (firstN ((rPt g).items.drop (pos lt (rPt g).items (k, 0))) n).flatMap encA ++ sp) :: (F ++ E)))) h := s.perm (by ((apply perm_rg; intro f; simp only [List.set_cons_zero, List.set_cons_succ, List.eraseIdx_cons_zero, List.eraseIdx_cons_succ, List.cons_append, List.nil_append, List.map_append, List.map_cons, List.map_nil, List.sum_append, List.sum_cons, List.sum_nil, List.map_flatMap, Nat.add_zero, Nat.zero_add]; ac_rfl)))
    refine St.r_storeN0 s 0 rfl (foundC_len none) (by simp) (foundC_one none) ?_; intro h s
    have s : St h0 Z ((t4, 0, foundC none) :: (t3, 0, encQ (16, k, w, n)) :: (tb, 0, hdr 0 none (rA g) (rPt g).items.length ((d - 1 : Nat) : Int) ((2 * d - 1 : Nat) : Int)) :: (rAll g ++ ((b, o, (firstN ((rPt g).items.drop (pos lt (rPt g).items (k, 0))) n).flatMap encA ++ sp) :: (F ++ E)))) h := s
    refine St.r_loadN0 s 0 rfl (by simp) ?_
    exact H g v b o sp ((t4, 0, foundC none) :: (t3, 0, encQ (16, k, w, n)) :: F) h rfl M w1 (s.perm (by show List.Perm ((tb, 0, hdr 0 none (rA g) (rPt g).items.length ((d - 1 : Nat) : Int) ((2 * d - 1 : Nat) : Int)) :: (rAll g ++ ((b, o, (firstN ((rPt g).items.drop (pos lt (rPt g).items (k, 0))) n).flatMap encA ++ sp) :: (((t4, 0, foundC none) :: (t3, 0, encQ (16, k, w, n)) :: F) ++ E)))) _; ((apply perm_rg; intro f; simp only [List.set_cons_zero, List.set_cons_succ, List.eraseIdx_cons_zero, List.eraseIdx_cons_succ, List.cons_append, List.nil_append, List.map_append, List.map_cons, List.map_nil, List.sum_append, List.sum_cons, List.sum_nil, List.map_flatMap, Nat.add_zero, Nat.zero_add]; ac_rfl))))
  · refine r_cmpI ?_
    refine r_if (fun e => absurd e (by simp)) (fun _ => ?_)
    refine r_cmpI ?_
    refine r_if (fun e => absurd e (by simp)) (fun _ => ?_)
    refine r_cmpI ?_
    refine r_if (fun e => absurd e (by simp)) (fun _ => ?_)
    refine r_cmpI ?_
    refine r_if (fun e => absurd e (by simp)) (fun _ => ?_)
    refine r_cmpI ?_
    refine r_if (fun e => absurd e (by simp)) (fun _ => ?_)
    refine r_cmpI ?_
    refine r_if (fun e => absurd e (by simp)) (fun _ => ?_)
    refine r_cmpI ?_
    refine r_if (fun e => absurd e (by simp)) (fun _ => ?_)
    refine r_cmpI ?_
    refine r_if (fun e => absurd e (by simp)) (fun _ => ?_)
    refine r_cmpI ?_
    refine r_if (fun e => absurd e (by simp)) (fun _ => ?_)
    refine r_cmpI ?_
    refine r_if (fun e => absurd e (by simp)) (fun _ => ?_)
    refine r_cmpI ?_
    refine r_if (fun e => absurd e (by simp)) (fun _ => ?_)
    refine r_cmpI ?_
    refine r_if (fun e => absurd e (by simp)) (fun _ => ?_)
    refine r_build (cs := foundC none) (by ((simp only [fillV, fill1, Value.cells, zeros_succ, zeros_zero, List.size_toArray, List.length_cons, List.length_nil, List.length_append, List.take_succ_cons, List.take_zero, List.take_nil, List.drop_succ_cons, List.drop_zero, List.drop_nil, List.cons_append, List.nil_append, List.append_nil, Nat.reduceAdd, Nat.reduceMul, Nat.reduceLeDiff, Nat.reduceEqDiff, and_self, and_true, true_and, if_true, Nat.le_refl, Nat.zero_add, Nat.add_zero, Nat.zero_mul, reduceIte, if_false] <;> rfl))) ?_
    refine St.r_loadN0 s 1 rfl (Nat.le_refl 9) ?_
    refine handedD_ok (d := d) (k := k) (w := w) (n := n) (E := (t4, 0, [.int .i64 0, .int .i64 0, .bool false]) :: (t3, 0, encQ (17, k, w, n)) :: E) M (by omega) (s.perm (by ((apply perm_rg; intro f; simp only [List.set_cons_zero, List.set_cons_succ, List.eraseIdx_cons_zero, List.eraseIdx_cons_succ, List.cons_append, List.nil_append, List.map_append, List.map_cons, List.map_nil, List.sum_append, List.sum_cons, List.sum_nil, List.map_flatMap, Nat.add_zero, Nat.zero_add]; ac_rfl)))) fun v b o sp F h w1 s => ?_
    have s : St h0 Z ((t4, 0, [.int .i64 0, .int .i64 0, .bool false]) :: (t3, 0, encQ (17, k, w, n)) :: (tb, 0, hdr 0 none (rA g) (rPt g).items.length ((d - 1 : Nat) : Int) ((2 * d - 1 : Nat) : Int)) :: (rAll g ++ ((b, o, (firstN ((rPt g).items.filter fun y => !lt (k, 0) y).reverse n).flatMap encA ++ sp) :: (F ++ E)))) h := s.perm (by ((apply perm_rg; intro f; simp only [List.set_cons_zero, List.set_cons_succ, List.eraseIdx_cons_zero, List.eraseIdx_cons_succ, List.cons_append, List.nil_append, List.map_append, List.map_cons, List.map_nil, List.sum_append, List.sum_cons, List.sum_nil, List.map_flatMap, Nat.add_zero, Nat.zero_add]; ac_rfl)))
    refine St.r_storeN0 s 0 rfl (foundC_len none) (by simp) (foundC_one none) ?_; intro h s
    have s : St h0 Z ((t4, 0, foundC none) :: (t3, 0, encQ (17, k, w, n)) :: (tb, 0, hdr 0 none (rA g) (rPt g).items.length ((d - 1 : Nat) : Int) ((2 * d - 1 : Nat) : Int)) :: (rAll g ++ ((b, o, (firstN ((rPt g).items.filter fun y => !lt (k, 0) y).reverse n).flatMap encA ++ sp) :: (F ++ E)))) h := s
    refine St.r_loadN0 s 0 rfl (by simp) ?_
    exact H g v b o sp ((t4, 0, foundC none) :: (t3, 0, encQ (17, k, w, n)) :: F) h rfl M w1 (s.perm (by show List.Perm ((tb, 0, hdr 0 none (rA g) (rPt g).items.length ((d - 1 : Nat) : Int) ((2 * d - 1 : Nat) : Int)) :: (rAll g ++ ((b, o, (firstN ((rPt g).items.filter fun y => !lt (k, 0) y).reverse n).flatMap encA ++ sp) :: (((t4, 0, foundC none) :: (t3, 0, encQ (17, k, w, n)) :: F) ++ E)))) _; ((apply perm_rg; intro f; simp only [List.set_cons_zero, List.set_cons_succ, List.eraseIdx_cons_zero, List.eraseIdx_cons_succ, List.cons_append, List.nil_append, List.map_append, List.map_cons, List.map_nil, List.sum_append, List.sum_cons, List.sum_nil, List.map_flatMap, Nat.add_zero, Nat.zero_add]; ac_rfl))))
end Go.Proofs.Ytkkappjbcgnacaa.Ii
end
section
namespace Go.Proofs.Ytkkappjbcgnacaa.Ii
open Go.Hp Go.Proofs.Ytkkappjbcgnacaa
set_option linter.unusedVariables false
set_option linter.unusedSimpArgs false
variable {h0 h : Heap} {Z E : List Rg} {Q : Value → Heap → Prop}

/-- A reply: what was found, how many items there are, what was handed on. -/
abbrev RepQ := Option It × Nat × Value
def repQ (r : RepQ) : List Value := match r.1 with
  | some p => [.int .i64 p.1, .int .i64 p.2, .bool true, .int .i64 r.2.1, r.2.2]
  | none => [.int .i64 0, .int .i64 0, .bool false, .int .i64 r.2.1, r.2.2]
theorem repQl (r : RepQ) : (repQ r).length = 5 := by obtain ⟨_ | _, _, _⟩ := r <;> rfl
theorem repQ1 (r : RepQ) (h : one1 r.2.2 = true) : ∀ y ∈ repQ r, one1 y = true := by obtain ⟨_ | _, _, _⟩ := r <;> simpa [repQ, one1] using h
/-- The replies so far, and where what they hand on lies. -/
def InvF (S : List Stq) (j : Nat) (F : List RepQ) (R : List Rg) : Prop := F.length = j ∧ ∀ i (hi : i < S.length), i < j → ∃ r, F[i]? = some r ∧ r.1 = rpO ((S.take i).foldl nxL []) S[i] ∧
  ∃ b o sp, Own 2 r.2.2 (rpI ((S.take i).foldl nxL []) S[i]).length b o ((rpI ((S.take i).foldl nxL []) S[i]).flatMap encA) sp ∧ (b, o, (rpI ((S.take i).foldl nxL []) S[i]).flatMap encA ++ sp) ∈ R
theorem InvF.snoc {S : List Stq} {j n : Nat} {F : List RepQ} {R R' : List Rg} {L : List It} {v : Value} {b o : Nat} {sp : List Value} (I : InvF S j F R) (hj : j < S.length) (e : L = (S.take j).foldl nxL []) (w : Own 2 v (rpI L S[j]).length b o ((rpI L S[j]).flatMap encA) sp) (hm : (b, o, (rpI L S[j]).flatMap encA ++ sp) ∈ R') (hR : ∀ r ∈ R, r ∈ R') :
    InvF S (j + 1) (F ++ [(rpO L S[j], n, v)]) R' := by
  obtain ⟨h1, h2⟩ := I
  refine ⟨by rw [List.length_append, h1]; rfl, fun i hi hij => ?_⟩
  by_cases hlt : i < j
  · obtain ⟨r, e1, e2, b, o, sp, w, hm⟩ := h2 i hi hlt
    exact ⟨r, by rw [List.getElem?_append_left (by omega)]; exact e1, e2, b, o, sp, w, hR _ hm⟩
  · have : i = j := by omega
    subst this
    rw [← e]
    exact ⟨_, by rw [List.getElem?_append_right (by omega), h1, Nat.sub_self]; rfl, rfl, b, o, sp, w, hm⟩
theorem playQ_ok {hB : Heap} {d : Nat} {S : List Stq} {v : Value} (hd : 2 ≤ d) (hd2 : d ≤ 512) (hl : S.length ≤ 1200000000000) (hr : Rdl 9 hB v S.length (S.flatMap encQ)) (ok : ∀ x ∈ S, OkQ x) (hlen : ∀ j, j ≤ S.length → ((S.take j).foldl nxL []).length ≤ 1000000)
    (H : ∀ (g : Rt) tb ta vt vo b1 o1 p1 (F : List RepQ) R h', (rPt g).items = S.foldl nxL [] → MapOk (2 * d - 1) 0 g → Own 1 vt 1 ta 0 [ptr tb 0] [] → InvF S S.length F R → Own 5 vo F.length b1 o1 (F.flatMap repQ) p1 →
      St hB [] ((b1, o1, F.flatMap repQ ++ p1) :: (ta, 0, [ptr tb 0]) :: (tb, 0, hdr 0 none (rA g) (rPt g).items.length ((d - 1 : Nat) : Int) ((2 * d - 1 : Nat) : Int)) :: (rAll g ++ R)) h' → Q (.tuple #[vt, vo]) h') :
    i_playMap.call #[.int .i64 d, v] hB Q := by
  refine i_playMap.body _ _ _ _ ?_
  unfold i_playMap.sh
  refine grow_ok (l := []) (Rdl.nil 2 hB) (by simp) hd hd2 fun g tb h e0 e M s => ?_
  refine St.r_mkSl (sz := 1) (cs := [ptr tb 0]) s (by ((simp only [fillV, fill1, Value.cells, zeros_succ, zeros_zero, List.size_toArray, List.length_cons, List.length_nil, List.length_append, List.take_succ_cons, List.take_zero, List.take_nil, List.drop_succ_cons, List.drop_zero, List.drop_nil, List.cons_append, List.nil_append, List.append_nil, Nat.reduceAdd, Nat.reduceMul, Nat.reduceLeDiff, Nat.reduceEqDiff, and_self, and_true, true_and, if_true, Nat.le_refl, Nat.zero_add, Nat.add_zero, Nat.zero_mul, reduceIte, if_false] <;> rfl))) rfl fun ta h s wt => ?_
  refine (hr.st s).lenV ?_
  have s0 := s.empty 0 0
  replace e0 : rPt g = none := e0
  refine loop_ghost (fun q st h' => ∃ (j : Nat) (vt vo : Value) (b1 o1 : Nat) (p1 : List Value) (F : List RepQ) (g : Rt) (R : List Rg), q = S.length - j ∧ j ≤ S.length ∧ st = [vt, vo, .int .i64 (j : Nat)] ∧ InvF S j F R ∧ (rPt g).items = (S.take j).foldl nxL [] ∧ MapOk (2 * d - 1) 0 g ∧ Own 1 vt 1 ta 0 [ptr tb 0] [] ∧ Own 5 vo F.length b1 o1 (F.flatMap repQ) p1 ∧
      St hB [] ((b1, o1, F.flatMap repQ ++ p1) :: (ta, 0, [ptr tb 0]) :: (tb, 0, hdr 0 none (rA g) (rPt g).items.length ((d - 1 : Nat) : Int) ((2 * d - 1 : Nat) : Int)) :: (rAll g ++ R)) h') (n0 := S.length)
    ⟨0, _, .slice none 0 0, 0, 0, [], [], g, [], rfl, Nat.zero_le _, rfl, ⟨rfl, fun i _ hi => absurd hi (Nat.not_lt_zero _)⟩, by rw [e0]; rfl, M, wt, Own.nil 5 0 0, by have e9 := s0; rw [← List.append_nil (rAll g)] at e9; exact e9⟩ ?_
  rintro q st h ⟨j, vt, vo, b1, o1, p1, F, g, R, rfl, hj, rfl, hF, e, M, wt, w1, s⟩ K HK
  unfold i_playMap.l2.b
  refine r_cmpI ?_
  refine r_if (fun hlt => ?_) (fun hge => ?_)
  · have hlt : j < S.length := by have := of_decide_eq_true hlt; omega
    unfold i_playMap.j3
    refine (hr.st s).at (f := encQ) (n := j) rfl encQl rfl rfl hlt fun b o hb => ?_
    refine hb.loadN rfl ?_
    have okj := ok _ (List.getElem_mem hlt)
    have et : nxL (rPt g).items S[j] = (S.take (j + 1)).foldl nxL [] := by rw [List.take_succ_eq_append_getElem hlt, List.foldl_append, ← e]; rfl
    have hlj : (rPt g).items.length ≤ 1000000 := by rw [e]; exact hlen j hj
    have hlj' : (nxL (rPt g).items S[j]).length ≤ 1000000 := by rw [et]; exact hlen (j + 1) hlt
    have hFl := hF.1
    have hF' := fun {R' v' n' b' o' sp'} => InvF.snoc (R' := R') (v := v') (n := n') (b := b') (o := o') (sp := sp') hF hlt e
    generalize S[j] = x at *
    refine s.r_alloc fun t9 h s => ?_
    refine St.r_storeN0 s 0 rfl rfl (by simp) (encQ1 _) ?_; intro h s
    have s : St hB [] ((t9, 0, encQ x) :: (b1, o1, F.flatMap repQ ++ p1) :: (ta, 0, [ptr tb 0]) :: (tb, 0, hdr 0 none (rA g) (rPt g).items.length ((d - 1 : Nat) : Int) ((2 * d - 1 : Nat) : Int)) :: (rAll g ++ R)) h := s
    refine r_fld ?_
    refine St.r_load0 s 0 rfl rfl ?_
    refine wt.lenV ?_
    refine rem01 ?_
    refine wt.idx (n := 0) rfl (by decide) ?_
    refine St.r_load0 s 2 rfl rfl ?_
    refine r_fld ?_
    refine St.r_load0 s 0 rfl rfl ?_
    refine r_cmpI ?_
    refine r_if (fun e => ?_) (fun _ => ?_)
    · have e : x.1 = 10 := by simpa using e
      exfalso
      rcases okj with h | h | h | h | h | h <;> omega
    unfold i_playMap.j5
    refine St.r_loadN0 s 0 rfl (Nat.le_refl 9) ?_
    refine stepQ_ok (x := x) (E := (t9, 0, encQ x) :: (b1, o1, F.flatMap repQ ++ p1) :: (ta, 0, [ptr tb 0]) :: R) hd M (by omega) okj (s.perm (by ((apply perm_rg; intro f; simp only [List.set_cons_zero, List.set_cons_succ, List.eraseIdx_cons_zero, List.eraseIdx_cons_succ, List.cons_append, List.nil_append, List.map_append, List.map_cons, List.map_nil, List.sum_append, List.sum_cons, List.sum_nil, List.map_flatMap, Nat.add_zero, Nat.zero_add]; ac_rfl)))) fun g' vi bi oi si F2 h e1 M' wi s => ?_
    have hn' : (rPt g').items.length ≤ 1000000 := by rw [e1]; exact hlj'
    obtain ⟨ai, ci, ei, -⟩ := wi.ex
    have hvi : one1 vi = true := wi.one
    refine r_ext rfl ?_
    refine r_ext rfl ?_
    refine s.r_alloc fun t11 h s => ?_
    have s : St hB [] ((t11, 0, [.int .i64 0, .int .i64 0, .bool false]) :: (b1, o1, F.flatMap repQ ++ p1) :: (ta, 0, [ptr tb 0]) :: (tb, 0, hdr 0 none (rA g') (rPt g').items.length ((d - 1 : Nat) : Int) ((2 * d - 1 : Nat) : Int)) :: (rAll g' ++ ((t9, 0, encQ x) :: ((bi, oi, (rpI (rPt g).items x).flatMap encA ++ si) :: (F2 ++ R))))) h := s.perm (by ((apply perm_rg; intro f; simp only [List.set_cons_zero, List.set_cons_succ, List.eraseIdx_cons_zero, List.eraseIdx_cons_succ, List.cons_append, List.nil_append, List.map_append, List.map_cons, List.map_nil, List.sum_append, List.sum_cons, List.sum_nil, List.map_flatMap, Nat.add_zero, Nat.zero_add]; ac_rfl)))
    refine St.r_storeN0 s 0 rfl (foundC_len _) (by simp) (foundC_one _) ?_; intro h s
    have s : St hB [] ((t11, 0, foundC (rpO (rPt g).items x)) :: (b1, o1, F.flatMap repQ ++ p1) :: (ta, 0, [ptr tb 0]) :: (tb, 0, hdr 0 none (rA g') (rPt g').items.length ((d - 1 : Nat) : Int) ((2 * d - 1 : Nat) : Int)) :: (rAll g' ++ ((t9, 0, encQ x) :: ((bi, oi, (rpI (rPt g).items x).flatMap encA ++ si) :: (F2 ++ R))))) h := by
      generalize rpO (rPt g).items x = o at *
      rcases o with _ | p <;> exact s
    have ho : (foundC (rpO (rPt g).items x))[2]? = some (.bool (rpO (rPt g).items x).isSome) := by cases rpO (rPt g).items x <;> rfl
    refine r_fld ?_
    refine St.r_loadN0 s 0 rfl (by rw [foundC_len]; omega) ?_
    refine r_fld ?_
    refine St.r_load0 s 0 rfl ho ?_
    refine Map_ii_Len_ok (v := .int .i64 ((rPt g').items.length : Nat)) (s.get (k := 3) rfl (j := 3) (by simp [hdr])) ?_
    refine ⟨St.r_stillN0 s 0 rfl (by rw [foundC_len]; omega) rfl, St.r_still0 s 0 rfl ho, ?_⟩
    refine r_build (cs := repQ (rpO (rPt g).items x, (rPt g').items.length, vi)) (by subst ei; generalize rpO (rPt g).items x = o; rcases o with _ | p <;> ((simp only [fillV, fill1, Value.cells, zeros_succ, zeros_zero, List.size_toArray, List.length_cons, List.length_nil, List.length_append, List.take_succ_cons, List.take_zero, List.take_nil, List.drop_succ_cons, List.drop_zero, List.drop_nil, List.cons_append, List.nil_append, List.append_nil, Nat.reduceAdd, Nat.reduceMul, Nat.reduceLeDiff, Nat.reduceEqDiff, and_self, and_true, true_and, if_true, Nat.le_refl, Nat.zero_add, Nat.add_zero, Nat.zero_mul, reduceIte, if_false] <;> rfl))) ?_
    refine St.r_mkSl (sz := 5) (cs := repQ (rpO (rPt g).items x, (rPt g').items.length, vi)) s (by subst ei; generalize rpO (rPt g).items x = o; rcases o with _ | p <;> ((simp only [fillV, fill1, Value.cells, zeros_succ, zeros_zero, List.size_toArray, List.length_cons, List.length_nil, List.length_append, List.take_succ_cons, List.take_zero, List.take_nil, List.drop_succ_cons, List.drop_zero, List.drop_nil, List.cons_append, List.nil_append, List.append_nil, Nat.reduceAdd, Nat.reduceMul, Nat.reduceLeDiff, Nat.reduceEqDiff, and_self, and_true, true_and, if_true, Nat.le_refl, Nat.zero_add, Nat.add_zero, Nat.zero_mul, reduceIte, if_false] <;> rfl))) (repQl _) fun q5 h s wq => ?_
    refine s.r_appL (f := repQ) (L := F) (M := [(rpO (rPt g).items x, (rPt g').items.length, vi)]) 2 rfl w1 rfl (by have := wq.rdl s 0 (by rw [List.append_nil]; rfl); simpa using this) (fun y hy => by rw [List.mem_singleton] at hy; subst hy; exact repQ1 _ hvi) (by rw [List.length_singleton]; omega) (by rw [List.length_singleton]; omega) fun v' b' o' sp' h s w' => ?_
    have s : St hB [] ((q5, 0, repQ (rpO (rPt g).items x, (rPt g').items.length, vi)) :: (t11, 0, foundC (rpO (rPt g).items x)) :: (b', o', (F ++ [(rpO (rPt g).items x, (rPt g').items.length, vi)]).flatMap repQ ++ sp') :: (ta, 0, [ptr tb 0]) :: (tb, 0, hdr 0 none (rA g') (rPt g').items.length ((d - 1 : Nat) : Int) ((2 * d - 1 : Nat) : Int)) :: (rAll g' ++ ((t9, 0, encQ x) :: ((bi, oi, (rpI (rPt g).items x).flatMap encA ++ si) :: (F2 ++ R))))) h := s
    unfold i_playMap.j4
    refine r_add1 (by omega) ?_
    exact HK (S.length - (j + 1)) _ _ (by omega) ⟨j + 1, vt, v', b', o', sp', _, g', (q5, 0, repQ (rpO (rPt g).items x, (rPt g').items.length, vi)) :: (t11, 0, foundC (rpO (rPt g).items x)) :: (t9, 0, encQ x) :: ((bi, oi, (rpI (rPt g).items x).flatMap encA ++ si) :: (F2 ++ R)), rfl, hlt, rfl, hF' wi (List.mem_cons_of_mem _ (List.mem_cons_of_mem _ (List.mem_cons_of_mem _ (List.mem_cons_self ..)))) (fun r hr => List.mem_cons_of_mem _ (List.mem_cons_of_mem _ (List.mem_cons_of_mem _ (List.mem_cons_of_mem _ (List.mem_append.2 (.inr hr)))))), e1.trans et, M', wt, w', s.perm (by ((apply perm_rg; intro f; simp only [List.set_cons_zero, List.set_cons_succ, List.eraseIdx_cons_zero, List.eraseIdx_cons_succ, List.cons_append, List.nil_append, List.map_append, List.map_cons, List.map_nil, List.sum_append, List.sum_cons, List.sum_nil, List.map_flatMap, Nat.add_zero, Nat.zero_add]; ac_rfl)))⟩
  · have hge : j = S.length := by have := of_decide_eq_false hge; omega
    subst hge
    rw [List.take_length] at e
    unfold i_playMap.j1
    exact H g tb ta vt vo b1 o1 p1 F R h e M wt hF w1 s
theorem MScript_ok {hB : Heap} {d : Nat} {S : List Stq} {v : Value} (hd : 2 ≤ d) (hd2 : d ≤ 512) (hl : S.length ≤ 1200000000000) (hr : Rdl 9 hB v S.length (S.flatMap encQ)) (ok : ∀ x ∈ S, OkQ x) (hlen : ∀ j, j ≤ S.length → ((S.take j).foldl nxL []).length ≤ 1000000)
    (H : ∀ vo va (F : List RepQ) E' h', St hB [] E' h' → F.length = S.length → Rdl 5 h' vo F.length (F.flatMap repQ) → (∀ i (hi : i < S.length), ∃ r, F[i]? = some r ∧ r.1 = rpO ((S.take i).foldl nxL []) S[i] ∧ Rdl 2 h' r.2.2 (rpI ((S.take i).foldl nxL []) S[i]).length ((rpI ((S.take i).foldl nxL []) S[i]).flatMap encA)) → Q (.tuple #[vo, va]) h') :
    i_MScript.call #[.int .i64 d, v] hB Q := by
  refine i_MScript.body _ _ _ _ ?_
  unfold i_MScript.sh
  refine playQ_ok hd hd2 hl hr ok hlen fun g tb ta vt vo b1 o1 p1 F R h e M wt hF w1 s => ?_
  have hg : (rPt g).items.length ≤ 1000000 := by
    rw [e]; have := hlen S.length (Nat.le_refl _); rwa [List.take_length] at this
  refine r_ext rfl ?_
  refine r_ext rfl ?_
  refine wt.lenV ?_
  refine loop_ghost (fun q st h' => ∃ (va : Value) (R' : List Rg), (∀ r ∈ R, r ∈ R') ∧ St hB [] ((b1, o1, F.flatMap repQ ++ p1) :: (ta, 0, [ptr tb 0]) :: (tb, 0, hdr 0 none (rA g) (rPt g).items.length ((d - 1 : Nat) : Int) ((2 * d - 1 : Nat) : Int)) :: (rAll g ++ R')) h' ∧ ((q = 1 ∧ st = [.slice none 0 0, .int .i64 (0 : Nat)]) ∨ (q = 0 ∧ st = [va, .int .i64 (1 : Nat)]))) (n0 := 1)
    ⟨.slice none 0 0, R, fun r hr => hr, s, .inl ⟨rfl, rfl⟩⟩ ?_
  clear s
  rintro q st h ⟨va, R', hR, s, ⟨rfl, rfl⟩ | ⟨rfl, rfl⟩⟩ K HK
  · unfold i_MScript.l2.b
    refine r_cmpI ?_
    refine r_if (fun _ => ?_) (fun e => absurd e (by decide))
    unfold i_MScript.j3
    refine wt.idx (n := 0) rfl (by decide) ?_
    refine St.r_load0 s 1 rfl rfl ?_
    refine entriesF_ok (d := d) (E := (b1, o1, F.flatMap repQ ++ p1) :: (ta, 0, [ptr tb 0]) :: R') M (by omega) (s.perm (by ((apply perm_rg; intro f; simp only [List.set_cons_zero, List.set_cons_succ, List.eraseIdx_cons_zero, List.eraseIdx_cons_succ, List.cons_append, List.nil_append, List.map_append, List.map_cons, List.map_nil, List.sum_append, List.sum_cons, List.sum_nil, List.map_flatMap, Nat.add_zero, Nat.zero_add]; ac_rfl)))) fun v b o sp F' h w s => ?_
    have hv : one1 v = true := w.one
    refine St.r_mkSl (sz := 1) (cs := [v]) s (by obtain ⟨a, c, e, -⟩ := w.ex; subst e; ((simp only [fillV, fill1, Value.cells, zeros_succ, zeros_zero, List.size_toArray, List.length_cons, List.length_nil, List.length_append, List.take_succ_cons, List.take_zero, List.take_nil, List.drop_succ_cons, List.drop_zero, List.drop_nil, List.cons_append, List.nil_append, List.append_nil, Nat.reduceAdd, Nat.reduceMul, Nat.reduceLeDiff, Nat.reduceEqDiff, and_self, and_true, true_and, if_true, Nat.le_refl, Nat.zero_add, Nat.add_zero, Nat.zero_mul, reduceIte, if_false] <;> rfl))) rfl fun q5 h s wq => ?_
    have rq := wq.rdl s 0 (by rw [List.append_nil]; rfl)
    have s1 := s.empty 0 0
    refine s1.r_appL (f := fun x : Value => [x]) (L := []) (M := [v]) 0 rfl (Own.nil 1 0 0) rfl (by simpa using rq) (fun y hy => by rw [List.mem_singleton] at hy; subst hy; simpa using hv) (by rw [List.length_singleton]; decide) (by rw [List.length_singleton]; decide) fun v' b' o' sp' h s w' => ?_
    have s : St hB [] ((b', o', ([] ++ [v]).flatMap (fun x : Value => [x]) ++ sp') :: (q5, 0, [v]) :: (tb, 0, hdr 0 none (rA g) (rPt g).items.length ((d - 1 : Nat) : Int) ((2 * d - 1 : Nat) : Int)) :: (rAll g ++ ((b, o, (rPt g).items.flatMap encA ++ sp) :: (F' ++ ((b1, o1, F.flatMap repQ ++ p1) :: (ta, 0, [ptr tb 0]) :: R'))))) h := s
    unfold i_MScript.j4
    refine r_add1 (by omega) ?_
    exact HK 0 _ _ (by omega) ⟨v', (b', o', ([] ++ [v]).flatMap (fun x : Value => [x]) ++ sp') :: (q5, 0, [v]) :: (b, o, (rPt g).items.flatMap encA ++ sp) :: (F' ++ R'), fun r hr => List.mem_cons_of_mem _ (List.mem_cons_of_mem _ (List.mem_cons_of_mem _ (List.mem_append.2 (.inr (hR r hr))))), s.perm (by ((apply perm_rg; intro f; simp only [List.set_cons_zero, List.set_cons_succ, List.eraseIdx_cons_zero, List.eraseIdx_cons_succ, List.cons_append, List.nil_append, List.map_append, List.map_cons, List.map_nil, List.sum_append, List.sum_cons, List.sum_nil, List.map_flatMap, Nat.add_zero, Nat.zero_add]; ac_rfl))), .inr ⟨rfl, rfl⟩⟩
  · unfold i_MScript.l2.b
    refine r_cmpI ?_
    refine r_if (fun e => absurd e (by decide)) (fun _ => ?_)
    unfold i_MScript.j1
    refine H vo va F _ h s hF.1 (w1.rdl s 0 rfl) fun i hi => ?_
    obtain ⟨r, e1, e2, b, o, sp, w, hm⟩ := hF.2 i hi hi
    obtain ⟨k, hk⟩ := List.mem_iff_getElem?.1 (show (b, o, (rpI ((S.take i).foldl nxL []) S[i]).flatMap encA ++ sp) ∈ ((b1, o1, F.flatMap repQ ++ p1) :: (ta, 0, [ptr tb 0]) :: (tb, 0, hdr 0 none (rA g) (rPt g).items.length ((d - 1 : Nat) : Int) ((2 * d - 1 : Nat) : Int)) :: (rAll g ++ R')) from List.mem_cons_of_mem _ (List.mem_cons_of_mem _ (List.mem_cons_of_mem _ (List.mem_append.2 (.inr (hR _ hm))))))
    exact ⟨r, e1, e2, w.rdl s k hk⟩
end Go.Proofs.Ytkkappjbcgnacaa.Ii
end
section
namespace Go.Proofs.Ytkkappjbcgnacaa.Ii
open Go.Hp Go.Proofs.Ytkkappjbcgnacaa
set_option linter.unusedVariables false
set_option linter.unusedSimpArgs false
variable {h0 h : Heap} {Z E : List Rg} {Q : Value → Heap → Prop}

theorem CutT_ok {l : List It} {v : Value} {i : Nat} (hr : Rdl 2 h v l.length (l.flatMap encA)) (hl : l.length ≤ 1073741824) (hi : i < l.length)
    (H : ∀ v' b o sp E' h', Own 2 v' (l.take i ++ l.drop (i + 1)).length b o ((l.take i ++ l.drop (i + 1)).flatMap encA) sp → St h [] ((b, o, (l.take i ++ l.drop (i + 1)).flatMap encA ++ sp) :: E') h' → Q (.tuple #[v', .agg #[.int .i64 l[i].1, .int .i64 l[i].2, .bool true]]) h') : s_Cut.call #[v, .int .i64 i] h Q := by
  refine s_Cut.body _ _ _ _ ?_
  unfold s_Cut.sh
  have s := St.start h
  refine s.r_alloc fun t5 h1 s => ?_
  refine r_cmpI ?_
  refine r_br (fun _ => ?_) (fun e => absurd (of_decide_eq_true e) (by omega))
  refine hr.lenV ?_
  refine r_cmpI ?_
  refine r_if (fun e => absurd (of_decide_eq_true e) (by omega)) (fun _ => ?_)
  unfold s_Cut.j1
  refine slcF0 (hr.st s) rfl (by omega) fun v1 r1 => ?_
  refine r_add1 (by omega) ?_
  refine slcF1 (hr.st s) rfl hi fun v2 r2 => ?_
  refine hr.at (n := i) rfl encAl rfl rfl hi fun b o hb => ?_
  refine (hb.st s).loadN rfl ?_
  ((apply r_build; ((simp only [fillV, fill1, Value.cells, zeros_succ, zeros_zero, List.size_toArray, List.length_cons, List.length_nil, List.length_append, List.take_succ_cons, List.take_zero, List.take_nil, List.drop_succ_cons, List.drop_zero, List.drop_nil, List.cons_append, List.nil_append, List.append_nil, Nat.reduceAdd, Nat.reduceMul, Nat.reduceLeDiff, Nat.reduceEqDiff, and_self, and_true, true_and, if_true, Nat.le_refl, Nat.zero_add, Nat.add_zero, Nat.zero_mul, reduceIte, if_false] <;> rfl))))
  have s0 := St.start h1
  refine St.r_mkSl (sz := 2) (cs := []) s0 (by ((simp only [fillV, fill1, Value.cells, zeros_succ, zeros_zero, List.size_toArray, List.length_cons, List.length_nil, List.length_append, List.take_succ_cons, List.take_zero, List.take_nil, List.drop_succ_cons, List.drop_zero, List.drop_nil, List.cons_append, List.nil_append, List.append_nil, Nat.reduceAdd, Nat.reduceMul, Nat.reduceLeDiff, Nat.reduceEqDiff, and_self, and_true, true_and, if_true, Nat.le_refl, Nat.zero_add, Nat.add_zero, Nat.zero_mul, reduceIte, if_false] <;> rfl))) rfl fun q h2 s0 wq => ?_
  refine ⟨(hb.st (s.join s0)).stillN rfl, ?_⟩
  refine s0.r_appL (f := encA) (L := []) (M := l.take i) 0 rfl wq rfl (r1.st s0) (fun _ _ => encA1 _) (by simp; omega) (by simp; omega) fun va ba oa pa h3 s0 wa => ?_
  rw [List.nil_append] at wa
  have s0 : St h1 [] [(ba, oa, (l.take i).flatMap encA ++ pa)] h3 := s0
  refine ⟨(hb.st (s.join s0)).stillN rfl, ?_⟩
  refine s0.r_appL (f := encA) (L := l.take i) (M := l.drop (i + 1)) 0 rfl wa rfl (r2.st s0) (fun _ _ => encA1 _) (by simp; omega) (by simp; omega) fun vb bb ob pb h4 s0 wb => ?_
  have s0 : St h1 [] [(bb, ob, (l.take i ++ l.drop (i + 1)).flatMap encA ++ pb)] h4 := s0
  refine ⟨(hb.st (s.join s0)).stillN rfl, ?_⟩
  have s := s.join s0
  refine St.r_storeN0 s 1 (ys := [.int .i64 l[i].1, .int .i64 l[i].2, .bool true]) rfl rfl (by simp) (by simp [one1]) ?_; intro h5 s
  refine St.r_loadN0 s 1 rfl (by simp) ?_
  exact H vb bb ob pb _ h5 wb s
/-- Where a list lies: where it lay, or in memory of its own. -/
def At (v v' : Value) (L L' : List It) (E' : List Rg) : Prop := (v' = v ∧ L' = L) ∨ ∃ b o sp, Own 2 v' L'.length b o (L'.flatMap encA) sp ∧ (b, o, L'.flatMap encA ++ sp) ∈ E'
theorem DropT_ok {l : List It} {v : Value} {x : It} (hr : Rdl 2 h v l.length (l.flatMap encA)) (hl : l.length ≤ 1073741824)
    (H : ∀ v' E' h', St h [] E' h' → At v v' l (ldel lt l x) E' → Q (.tuple #[v', .agg (foundC (lget lt l x)).toArray]) h') : s_Drop.call #[.slice none 0 0, v, .agg (encA x).toArray] h Q := by
  refine s_Drop.body _ _ _ _ _ ?_
  unfold s_Drop.sh
  have s := St.start h
  refine s.r_box fun t5 h1 s => ?_
  refine s.r_alloc fun t7 h1 s => ?_
  refine St.r_loadN0 s 1 rfl (by simp) ?_
  refine Place_nil (x := x) (hr.st s) (by omega) fun E2 h1 s2 => ?_
  have s := (s.join s2).perm List.perm_append_comm
  have s : St h [] ((t7, 0, [.int .i64 0, .int .i64 0, .bool false]) :: (t5, 0, encA x) :: E2) h1 := s
  refine r_ext rfl ?_
  refine r_ext rfl ?_
  refine r_not ?_
  cases e : lget lt l x with
  | none =>
    rw [e, ldel_none e] at H
    refine r_if (fun _ => ?_) (fun e2 => absurd e2 (by simp))
    ((apply r_build; ((simp only [fillV, fill1, Value.cells, zeros_succ, zeros_zero, List.size_toArray, List.length_cons, List.length_nil, List.length_append, List.take_succ_cons, List.take_zero, List.take_nil, List.drop_succ_cons, List.drop_zero, List.drop_nil, List.cons_append, List.nil_append, List.append_nil, Nat.reduceAdd, Nat.reduceMul, Nat.reduceLeDiff, Nat.reduceEqDiff, and_self, and_true, true_and, if_true, Nat.le_refl, Nat.zero_add, Nat.add_zero, Nat.zero_mul, reduceIte, if_false] <;> rfl))))
    refine St.r_storeN0 s 0 (ys := [.int .i64 0, .int .i64 0, .bool false]) rfl rfl (by simp) (by simp [one1]) ?_; intro h1 s
    refine St.r_loadN0 s 0 rfl (by simp) ?_
    exact H v _ h1 s (.inl ⟨rfl, rfl⟩)
  | some y =>
    rw [e, ldel_some e] at H
    obtain ⟨hp, hy, _⟩ := lget_some e
    refine r_if (fun e2 => absurd e2 (by simp)) (fun _ => ?_)
    unfold s_Drop.j1
    refine CutT_ok (hr.st s) hl hp fun v' b o sp E3 h3 w s3 => ?_
    have s := (s.join s3).perm List.perm_append_comm
    have s : St h [] ((t7, 0, [.int .i64 0, .int .i64 0, .bool false]) :: (t5, 0, encA x) :: (E2 ++ ((b, o, (l.take (pos lt l x) ++ l.drop (pos lt l x + 1)).flatMap encA ++ sp) :: E3))) h3 := s
    refine r_ext rfl ?_
    refine r_ext rfl ?_
    refine St.r_storeN0 s 0 (ys := [.int .i64 l[pos lt l x].1, .int .i64 l[pos lt l x].2, .bool true]) rfl rfl (by simp) (by simp [one1]) ?_; intro h3 s
    refine St.r_loadN0 s 0 rfl (by simp) ?_
    subst hy
    exact H v' _ h3 s (.inr ⟨b, o, sp, w, List.mem_cons_of_mem _ (List.mem_cons_of_mem _ (List.mem_append.2 (.inr (List.mem_cons_self ..))))⟩)
theorem TurnedI_ok {l : List It} {v : Value} (hr : Rdl 2 h v l.length (l.flatMap encA)) (hl : l.length ≤ 1073741824) (H : ∀ v' b o sp E' h', Own 2 v' l.reverse.length b o (l.reverse.flatMap encA) sp → St h [] ((b, o, l.reverse.flatMap encA ++ sp) :: E') h' → Q v' h') : s_Turned.call #[v] h Q := by
  refine s_Turned.body _ _ _ ?_
  unfold s_Turned.sh
  refine hr.lenV ?_
  refine r_sub (z := (l.length : Int) - (0 : Nat) - 1) (by rw [i64w (by omega) (by omega)]; omega) ?_
  have s := (St.start h).empty 0 0
  refine loop_ghost (fun q st h' => ∃ (j : Nat) (v1 : Value) (b o : Nat) (p : List Value) (R : List Rg), q = l.length - j ∧ j ≤ l.length ∧ st = [v1, .int .i64 ((l.length : Int) - j - 1)] ∧ Own 2 v1 (l.drop (l.length - j)).reverse.length b o ((l.drop (l.length - j)).reverse.flatMap encA) p ∧ St h [] ((b, o, (l.drop (l.length - j)).reverse.flatMap encA ++ p) :: R) h') (n0 := l.length)
    ⟨0, .slice none 0 0, 0, 0, [], [], rfl, Nat.zero_le _, rfl, by rw [Nat.sub_zero, List.drop_length]; exact Own.nil 2 0 0, by rw [Nat.sub_zero, List.drop_length]; exact s⟩ ?_
  clear s
  rintro q st g ⟨j, v1, b, o, p, R, rfl, hj, rfl, w, s⟩ K HK
  unfold s_Turned.l2.b
  refine r_cmpI ?_
  refine r_if (fun hge => ?_) (fun hlt => ?_)
  · have hge : (l.length : Int) - j - 1 ≥ 0 := of_decide_eq_true hge
    unfold s_Turned.j3
    refine (hr.st s).at (f := encA) (i := (l.length : Int) - (j : Nat) - 1) (n := l.length - j - 1) rfl encAl (by omega) rfl (by omega) fun b3 o3 hb => ?_
    refine hb.loadN rfl ?_
    have ed : (l.drop (l.length - (j + 1))).reverse = (l.drop (l.length - j)).reverse ++ [l[l.length - j - 1]'(by omega)] := by
      have e1 : l.length - (j + 1) = l.length - j - 1 := by omega
      rw [e1, List.drop_eq_getElem_cons (show l.length - j - 1 < l.length by omega), List.reverse_cons, show l.length - j - 1 + 1 = l.length - j by omega]
    generalize l[l.length - j - 1]'(by omega) = x at *
    refine St.r_mkSl (sz := 2) (cs := encA x) s (by ((simp only [fillV, fill1, Value.cells, zeros_succ, zeros_zero, List.size_toArray, List.length_cons, List.length_nil, List.length_append, List.take_succ_cons, List.take_zero, List.take_nil, List.drop_succ_cons, List.drop_zero, List.drop_nil, List.cons_append, List.nil_append, List.append_nil, Nat.reduceAdd, Nat.reduceMul, Nat.reduceLeDiff, Nat.reduceEqDiff, and_self, and_true, true_and, if_true, Nat.le_refl, Nat.zero_add, Nat.add_zero, Nat.zero_mul, reduceIte, if_false] <;> rfl))) rfl fun q5 h s wq => ?_
    have hll : (l.drop (l.length - j)).reverse.length ≤ 1073741824 := by rw [List.length_reverse, List.length_drop]; omega
    refine s.r_appL (f := encA) (L := (l.drop (l.length - j)).reverse) (M := [x]) 1 rfl w rfl (by have := wq.rdl s 0 (by rw [List.append_nil]; rfl); simpa using this) (fun _ _ => encA1 _) (by rw [List.length_singleton]; omega) (by rw [List.length_singleton]; omega) fun v' b' o' sp' h s w' => ?_
    have s : St _ [] ((q5, 0, encA x) :: (b', o', ((l.drop (l.length - j)).reverse ++ [x]).flatMap encA ++ sp') :: R) h := s
    rw [← ed] at w' s
    unfold s_Turned.j4
    refine r_sub (z := (l.length : Int) - ((j + 1 : Nat) : Int) - 1) (by rw [i64w (by omega) (by omega)]; omega) ?_
    exact HK (l.length - (j + 1)) _ _ (by omega) ⟨j + 1, v', b', o', sp', (q5, 0, encA x) :: R, rfl, by omega, rfl, w', s.perm (by ((apply perm_rg; intro f; simp only [List.set_cons_zero, List.set_cons_succ, List.eraseIdx_cons_zero, List.eraseIdx_cons_succ, List.cons_append, List.nil_append, List.map_append, List.map_cons, List.map_nil, List.sum_append, List.sum_cons, List.sum_nil, List.map_flatMap, Nat.add_zero, Nat.zero_add]; ac_rfl)))⟩
  · have hlt : ¬ (l.length : Int) - j - 1 ≥ 0 := of_decide_eq_false hlt
    have : j = l.length := by omega
    subst this
    rw [Nat.sub_self, List.drop_zero] at w s
    unfold s_Turned.j1
    exact H v1 b o p R g w s
theorem DownI_ok {l : List It} {v : Value} {x : It} (hr : Rdl 2 h v l.length (l.flatMap encA)) (hl : l.length ≤ 1073741824) (ha : Asc lt l) (H : ∀ v' b o sp E' h', Own 2 v' (l.filter fun y => !lt x y).reverse.length b o ((l.filter fun y => !lt x y).reverse.flatMap encA) sp → St h [] ((b, o, (l.filter fun y => !lt x y).reverse.flatMap encA ++ sp) :: E') h' → Q v' h') : s_Down.call #[.slice none 0 0, v, .agg (encA x).toArray] h Q := by
  refine s_Down.body _ _ _ _ _ ?_
  unfold s_Down.sh
  have s := St.start h
  refine s.r_box fun t5 h1 s => ?_
  refine loop_ghost (fun q st h' => ∃ (j : Nat) (R : List Rg), q = l.length - j ∧ j ≤ l.length ∧ st = [.int .i64 (j : Nat)] ∧ (∀ y ∈ l.take j, lt x y = false) ∧ St h [] ((t5, 0, encA x) :: R) h') (n0 := l.length) ⟨0, [], rfl, Nat.zero_le _, rfl, fun y hy => absurd hy List.not_mem_nil, s⟩ ?_
  clear s
  rintro q st g ⟨j, R, rfl, hj, rfl, hp, s⟩ K HK
  have fin : ∀ {R : List Rg} {g : Heap}, St h [] R g → (∀ y, (l.drop j).head? = some y → lt x y = true) → s_Down.j1 v (.int .i64 (j : Nat)) g Q := fun {R g} s hh => by
    unfold s_Down.j1
    refine slcF0 (hr.st s) rfl hj fun v1 r1 => ?_
    have ef : (l.filter fun y => !lt x y) = l.take j := by
      have := flt (x := x) (A := l.take j) (B := l.drop j) hp (allGt (asc_of_sub ha (List.drop_sublist ..)) hh)
      rwa [List.take_append_drop] at this
    refine TurnedI_ok r1 (by rw [List.length_take]; omega) fun v2 b2 o2 p2 E2 h2 w2 s2 => ?_
    rw [← ef] at w2 s2
    exact H v2 b2 o2 p2 _ h2 w2 (s.join s2)
  unfold s_Down.l2.b
  refine hr.lenV ?_
  refine r_cmpI ?_
  refine r_br (fun e => ?_) (fun e => ?_)
  · have e : j < l.length := by have := of_decide_eq_true e; omega
    refine St.r_loadN0 s 0 rfl (by simp) ?_
    refine (hr.st s).at (f := encA) (n := j) rfl encAl rfl rfl e fun b3 o3 hb => ?_
    refine hb.loadN rfl ?_
    refine Before_nil (p := x) (q := l[j]) fun E2 h2 s2 => ?_
    have s := (s.join s2).perm List.perm_append_comm
    refine r_not ?_
    refine r_if (fun e2 => ?_) (fun e2 => ?_)
    · have e2 : lt x l[j] = false := by simpa using e2
      unfold s_Down.j3
      refine r_add1 (by omega) ?_
      refine HK (l.length - (j + 1)) _ _ (by omega) ⟨j + 1, R ++ E2, rfl, e, rfl, fun y hy => ?_, s⟩
      rw [List.take_succ_eq_append_getElem e] at hy
      rcases List.mem_append.1 hy with hy | hy
      · exact hp y hy
      · rw [List.mem_singleton] at hy; subst hy; exact e2
    · have e2 : lt x l[j] = true := by simpa using e2
      refine fin s fun y hy => ?_
      rw [List.head?_drop, List.getElem?_eq_getElem e] at hy
      cases hy; exact e2
  · have e : ¬ j < l.length := by have : ¬ ((j : Nat) : Int) < (l.length : Nat) := of_decide_eq_false e; omega
    refine fin s fun y hy => ?_
    rw [List.head?_drop, List.getElem?_eq_none (by omega)] at hy
    cases hy
end Go.Proofs.Ytkkappjbcgnacaa.Ii
end
section
namespace Go.Proofs.Ytkkappjbcgnacaa.Ii
open Go.Hp Go.Proofs.Ytkkappjbcgnacaa
set_option linter.unusedVariables false
set_option linter.unusedSimpArgs false
variable {h0 h : Heap} {Z E : List Rg} {Q : Value → Heap → Prop}

theorem bnd_det {v : Option Value} {d t r r' : Nat} (h1 : bnd v d t r) (h2 : bnd v d t r') : r = r' := by
  cases v with
  | none => exact h1.trans h2.symm
  | some x =>
    obtain ⟨k, i, e, _, _, rfl⟩ := h1
    obtain ⟨k', i', e', _, _, rfl⟩ := h2
    rw [e] at e'; cases e'; rfl
theorem slc_fam {sz : Nat} {v : Value} {lo hi : Option Value} {P : Heap → Prop} {K : Heap → Value → Prop} {h : Heap} (h0 : P h) (hk : ∀ g, P g → Hp.slc sz v lo hi none (K g)) {K' : Value → Prop} (H : ∀ w, (∀ g, P g → K g w) → K' w) : Hp.slc sz v lo hi none K' := by
  obtain ⟨a, len, cap, l, h', m, e, b1, b2, b3, _⟩ := hk h h0
  refine ⟨a, len, cap, l, h', m, e, b1, b2, b3, H _ fun g hg => ?_⟩
  obtain ⟨a', len', cap', l', h'', m', e', c1, c2, c3, k⟩ := hk g hg
  rw [e] at e'; cases e'
  cases bnd_det b1 c1; cases bnd_det b2 c2; cases bnd_det b3 c3
  exact k
/-- A list that can be read wherever one of these ranges is as told. -/
def Rb (v : Value) (I : List It) (D : List Rg) : Prop := ∃ r ∈ D, ∀ g, r.Ok g → Rdl 2 g v I.length (I.flatMap encA)
theorem Rb.rdl {v : Value} {I : List It} {D : List Rg} (rb : Rb v I D) (hD : ∀ r ∈ D, r ∈ E) (s : St h0 Z E h) : Rdl 2 h v I.length (I.flatMap encA) := by
  obtain ⟨r, hr, f⟩ := rb
  exact f h (s.e r (hD r hr)).1
theorem Rb.mono {v : Value} {I : List It} {D D' : List Rg} (rb : Rb v I D) (hD : ∀ r ∈ D, r ∈ D') : Rb v I D' := by
  obtain ⟨r, hr, f⟩ := rb
  exact ⟨r, hD r hr, f⟩
theorem Rb.own {v : Value} {I : List It} {D : List Rg} {b o : Nat} {sp : List Value} (w : Own 2 v I.length b o (I.flatMap encA) sp) (hm : (b, o, I.flatMap encA ++ sp) ∈ D) : Rb v I D := ⟨_, hm, fun g ok => w.rdlO ok⟩
theorem Rb.nil {D : List Rg} {r : Rg} (hr : r ∈ D) : Rb (.slice none 0 0) [] D := ⟨r, hr, fun g _ => Rdl.nil 2 g⟩
theorem Rb.hi {v : Value} {L : List It} {D : List Rg} (rb : Rb v L D) (hD : ∀ r ∈ D, r ∈ E) (s : St h0 Z E h) {k : IntKind} {z : Int} {j : Nat} {K : Value → Prop} (hz : z = j) (hj : j ≤ L.length) (H : ∀ v', Rb v' (L.take j) D → K v') : Hp.slc 2 v none (some (.int k z)) none K := by
  obtain ⟨r, hr, f⟩ := rb
  exact slc_fam (P := fun g => r.Ok g) (K := fun g w => Rdl 2 g w (L.take j).length ((L.take j).flatMap encA)) (s.e r (hD r hr)).1 (fun g hg => slcF0 (f g hg) hz hj fun v' r => r) fun w hw => H w ⟨r, hr, hw⟩
theorem Rb.lo {v : Value} {L : List It} {D : List Rg} (rb : Rb v L D) (hD : ∀ r ∈ D, r ∈ E) (s : St h0 Z E h) {k : IntKind} {z : Int} {j : Nat} {K : Value → Prop} (hz : z = j) (hj : j ≤ L.length) (H : ∀ v', Rb v' (L.drop j) D → K v') : Hp.slc 2 v (some (.int k z)) none none K := by
  obtain ⟨r, hr, f⟩ := rb
  exact slc_fam (P := fun g => r.Ok g) (K := fun g w => Rdl 2 g w (L.drop j).length ((L.drop j).flatMap encA)) (s.e r (hD r hr)).1 (fun g hg => slcF1 (f g hg) hz hj fun v' r => r) fun w hw => H w ⟨r, hr, hw⟩
theorem FirstB_ok {l : List It} {v : Value} {n : Int} {D : List Rg} (rb : Rb v l D) (hD : ∀ r ∈ D, r ∈ E) (s : St h0 Z E h) (H : ∀ v', Rb v' (firstN l n) D → Q v' h) : s_First_I.call #[v, .int .i64 n] h Q := by
  refine s_First_I.body _ _ _ _ ?_
  unfold s_First_I.sh
  refine r_cmpI ?_
  refine r_br (fun e => ?_) (fun e => ?_)
  · have e : ¬ n < 1 := of_decide_eq_false e
    refine (rb.rdl hD s).lenV ?_
    refine r_cmpI ?_
    refine r_if (fun e2 => ?_) (fun e2 => ?_)
    · have e2 : n > (l.length : Int) := of_decide_eq_true e2
      refine H v ?_
      unfold firstN; rw [if_pos (.inr e2)]; exact rb
    · have e2 : ¬ n > (l.length : Int) := of_decide_eq_false e2
      unfold s_First_I.j1
      refine rb.hi hD s (j := n.toNat) (by omega) (by omega) fun v1 r1 => ?_
      refine H v1 ?_
      unfold firstN; rw [if_neg (by omega)]; exact r1
  · have e : n < 1 := of_decide_eq_true e
    refine H v ?_
    unfold firstN; rw [if_pos (.inl e)]; exact rb
theorem FromB_ok {l : List It} {v : Value} {x : It} {D : List Rg} (rb : Rb v l D) (hD : ∀ r ∈ D, r ∈ E) (s : St h0 Z E h) (hl : l.length ≤ 1073741824) (H : ∀ v' F h', St h0 Z (F ++ E) h' → Rb v' (l.drop (pos lt l x)) D → Q v' h') : s_From.call #[.slice none 0 0, v, .agg (encA x).toArray] h Q := by
  refine s_From.body _ _ _ _ _ ?_
  unfold s_From.sh
  refine s.r_box fun t5 h1 s => ?_
  have hD' : ∀ r ∈ D, r ∈ (t5, 0, encA x) :: E := fun r hr => List.mem_cons_of_mem _ (hD r hr)
  refine St.r_loadN0 s 0 rfl (by simp) ?_
  refine Place_nil (x := x) (rb.rdl hD' s) (by omega) fun E2 h1 s2 => ?_
  have s := s.join s2
  refine r_ext rfl ?_
  refine r_ext rfl ?_
  refine rb.lo (fun r hr => List.mem_append.2 (.inr (hD' r hr))) s rfl (pos_le l x) fun v2 r2 => ?_
  exact H v2 (E2 ++ [(t5, 0, encA x)]) h1 (by rw [List.append_assoc]; exact s) r2
theorem step_ok {L : List It} {vL : Value} {x : Stq} {D : List Rg} (rb : Rb vL L D) (hD : ∀ r ∈ D, r ∈ E) (s : St h0 Z E h) (hl : L.length ≤ 1000000) (ha : Asc lt L) (ok : x.1 = 0 ∨ x.1 = 3 ∨ x.1 = 13 ∨ x.1 = 16 ∨ x.1 = 17)
    (H : ∀ vL' vi o F h', St h0 Z (F ++ E) h' → Rb vL' (nxL L x) (F ++ D) → Rb vi (rpI L x) (F ++ D) → one1 vL' = true → one1 vi = true → Q (.tuple #[vL', .agg (repQ (o, (nxL L x).length, vi)).toArray]) h') : s_step.call #[.slice none 0 0, vL, .agg (encQ x).toArray] h Q := by
  refine s_step.body _ _ _ _ _ ?_
  unfold s_step.sh
  obtain ⟨dd, k, w, n⟩ := x
  refine St.r_box (cs := encQ (dd, k, w, n)) s fun t5 h s => ?_
  refine s.r_alloc fun t7 h s => ?_
  refine s.r_alloc fun t8 h s => ?_
  have s : St h0 Z ((t8, 0, foundC none) :: (t7, 0, repQ (none, 0, .slice none 0 0)) :: (t5, 0, encQ (dd, k, w, n)) :: E) h := s
  have hn : (nxL L (dd, k, w, n)).length ≤ 1000001 := by
    unfold nxL
    split
    · rw [lput_length]; split <;> omega
    · split
      · exact Nat.le_trans (ldel_sub L _ (lt := lt)).length_le (by omega)
      · omega
  have fin : ∀ {vL' vi : Value} {o : Option It} {F : List Rg} {h : Heap}, St h0 Z ((t8, 0, foundC o) :: (t7, 0, repQ (none, 0, .slice none 0 0)) :: (t5, 0, encQ (dd, k, w, n)) :: (F ++ E)) h → Rb vL' (nxL L (dd, k, w, n)) (F ++ D) → Rb vi (rpI L (dd, k, w, n)) (F ++ D) →
      s_step.j1 vL' (ptr t7 0) (ptr t8 0) vi h Q := fun {vL' vi o F h} s r1 r2 => by
    have hFD : ∀ r ∈ F ++ D, r ∈ (t8, 0, foundC o) :: (t7, 0, repQ (none, 0, .slice none 0 0)) :: (t5, 0, encQ (dd, k, w, n)) :: (F ++ E) := fun r hr => List.mem_cons_of_mem _ (List.mem_cons_of_mem _ (List.mem_cons_of_mem _ ((List.mem_append.1 hr).elim (fun h => List.mem_append.2 (.inl h)) (fun h => List.mem_append.2 (.inr (hD r h))))))
    have q1 := r1.rdl hFD s
    have q2 := r2.rdl hFD s
    have o1 : one1 vL' = true := q1.one
    have o2 : one1 vi = true := q2.one
    obtain ⟨ai, ci, ei, -⟩ := q2
    unfold s_step.j1
    have ho : (foundC o)[2]? = some (.bool o.isSome) := by cases o <;> rfl
    refine r_fld ?_
    refine St.r_loadN0 s 0 rfl (by rw [foundC_len]; omega) ?_
    refine r_fld ?_
    refine St.r_load0 s 0 rfl ho ?_
    refine q1.lenV ?_
    refine r_build (cs := repQ (o, (nxL L (dd, k, w, n)).length, vi)) (by subst ei; rcases o with _ | p <;> ((simp only [fillV, fill1, Value.cells, zeros_succ, zeros_zero, List.size_toArray, List.length_cons, List.length_nil, List.length_append, List.take_succ_cons, List.take_zero, List.take_nil, List.drop_succ_cons, List.drop_zero, List.drop_nil, List.cons_append, List.nil_append, List.append_nil, Nat.reduceAdd, Nat.reduceMul, Nat.reduceLeDiff, Nat.reduceEqDiff, and_self, and_true, true_and, if_true, Nat.le_refl, Nat.zero_add, Nat.add_zero, Nat.zero_mul, reduceIte, if_false] <;> rfl))) ?_
    refine St.r_storeN0 s 1 rfl (repQl _) (by rw [repQl]; omega) (repQ1 _ o2) ?_; intro h s
    have s : St h0 Z ((t8, 0, foundC o) :: (t7, 0, repQ (o, (nxL L (dd, k, w, n)).length, vi)) :: (t5, 0, encQ (dd, k, w, n)) :: (F ++ E)) h := by
      rcases o with _ | p <;> exact s
    refine St.r_loadN0 s 1 rfl (by rw [repQl]; omega) ?_
    have key := H vL' vi o ((t8, 0, foundC o) :: (t7, 0, repQ (o, (nxL L (dd, k, w, n)).length, vi)) :: (t5, 0, encQ (dd, k, w, n)) :: F) h s (r1.mono fun r hr => List.mem_cons_of_mem _ (List.mem_cons_of_mem _ (List.mem_cons_of_mem _ hr))) (r2.mono fun r hr => List.mem_cons_of_mem _ (List.mem_cons_of_mem _ (List.mem_cons_of_mem _ hr))) o1 o2
    rcases o with _ | p <;> exact key
  have ok : dd = 0 ∨ dd = 3 ∨ dd = 13 ∨ dd = 16 ∨ dd = 17 := ok
  have hD1 : ∀ r ∈ D, r ∈ (t8, 0, foundC none) :: (t7, 0, repQ (none, 0, .slice none 0 0)) :: (t5, 0, encQ (dd, k, w, n)) :: E := fun r hr => List.mem_cons_of_mem _ (List.mem_cons_of_mem _ (List.mem_cons_of_mem _ (hD r hr)))
  have hr1 := rb.rdl hD1 s
  refine r_fld ?_
  refine St.r_load0 s 2 rfl rfl ?_
  obtain ⟨r0, hr0, -⟩ := id rb
  rcases ok with rfl | rfl | rfl | rfl | rfl
  · refine r_cmpI ?_
    refine r_if (fun _ => ?_) (fun e => absurd e (by simp))
    unfold s_step.j2
    refine r_if (fun _ => ?_) (fun e => absurd e (by simp))
    refine r_fld ?_
    refine St.r_loadN0 s 2 rfl (by rw [encQl]; omega) ?_
    refine Put_ok (x := (k, w)) hr1 (by omega) fun v' rf E2 h2 erf s2 _ own => ?_
    have s := (s.join s2).perm List.perm_append_comm
    obtain ⟨b, o, sp, w1, hm⟩ := own
    refine r_ext rfl ?_
    refine r_ext rfl ?_
    subst erf
    refine St.r_storeN0 s 0 rfl (foundC_len _) (by simp) (foundC_one _) ?_; intro h s
    have s : St h0 Z ((t8, 0, foundC (lget lt L (k, w))) :: (t7, 0, repQ (none, 0, .slice none 0 0)) :: (t5, 0, encQ (0, k, w, n)) :: (E ++ E2)) h := by
      generalize lget lt L (k, w) = o at *
      rcases o with _ | p <;> exact s
    exact fin (F := E2) (s.perm (by ((apply perm_rg; intro f; simp only [List.set_cons_zero, List.set_cons_succ, List.eraseIdx_cons_zero, List.eraseIdx_cons_succ, List.cons_append, List.nil_append, List.map_append, List.map_cons, List.map_nil, List.sum_append, List.sum_cons, List.sum_nil, List.map_flatMap, Nat.add_zero, Nat.zero_add]; ac_rfl)))) (Rb.own w1 (List.mem_append.2 (.inl hm))) (Rb.nil (r := r0) (List.mem_append.2 (.inr hr0)))
  · refine r_cmpI ?_
    refine r_if (fun e => absurd e (by simp)) (fun _ => ?_)
    refine r_cmpI ?_
    unfold s_step.j2
    refine r_if (fun e => absurd e (by simp)) (fun _ => ?_)
    refine r_cmpI ?_
    refine r_if (fun e => absurd e (by simp)) (fun _ => ?_)
    refine r_cmpI ?_
    refine r_if (fun _ => ?_) (fun e => absurd e (by simp))
    refine r_fld ?_
    refine St.r_loadN0 s 2 rfl (by rw [encQl]; omega) ?_
    refine DropT_ok (x := (k, w)) hr1 (by omega) fun v' E2 h2 s2 at' => ?_
    have s := (s.join s2).perm List.perm_append_comm
    refine r_ext rfl ?_
    refine r_ext rfl ?_
    refine St.r_storeN0 s 0 rfl (foundC_len _) (by simp) (foundC_one _) ?_; intro h s
    have s : St h0 Z ((t8, 0, foundC (lget lt L (k, w))) :: (t7, 0, repQ (none, 0, .slice none 0 0)) :: (t5, 0, encQ (3, k, w, n)) :: (E ++ E2)) h := by
      generalize lget lt L (k, w) = o at *
      rcases o with _ | p <;> exact s
    refine fin (F := E2) (s.perm (by ((apply perm_rg; intro f; simp only [List.set_cons_zero, List.set_cons_succ, List.eraseIdx_cons_zero, List.eraseIdx_cons_succ, List.cons_append, List.nil_append, List.map_append, List.map_cons, List.map_nil, List.sum_append, List.sum_cons, List.sum_nil, List.map_flatMap, Nat.add_zero, Nat.zero_add]; ac_rfl)))) ?_ (Rb.nil (r := r0) (List.mem_append.2 (.inr hr0)))
    have hnx : nxL L (3, k, w, n) = ldel lt L (k, w) := rfl
    rw [hnx]
    rcases at' with ⟨rfl, e⟩ | ⟨b, o, sp, w1, hm⟩
    · rw [e]; exact rb.mono fun r hr => List.mem_append.2 (.inr hr)
    · exact Rb.own w1 (List.mem_append.2 (.inl hm))
  · refine r_cmpI ?_
    refine r_if (fun e => absurd e (by simp)) (fun _ => ?_)
    refine r_cmpI ?_
    unfold s_step.j2
    refine r_if (fun e => absurd e (by simp)) (fun _ => ?_)
    iterate 10
      refine r_cmpI ?_
      refine r_if (fun e => absurd e (by simp)) (fun _ => ?_)
    refine r_cmpI ?_
    refine r_if (fun _ => ?_) (fun e => absurd e (by simp))
    exact fin (o := none) (F := []) s rb rb
  · refine r_cmpI ?_
    refine r_if (fun e => absurd e (by simp)) (fun _ => ?_)
    refine r_cmpI ?_
    unfold s_step.j2
    refine r_if (fun e => absurd e (by simp)) (fun _ => ?_)
    iterate 13
      refine r_cmpI ?_
      refine r_if (fun e => absurd e (by simp)) (fun _ => ?_)
    refine r_cmpI ?_
    refine r_if (fun _ => ?_) (fun e => absurd e (by simp))
    refine r_fld ?_
    refine St.r_loadN0 s 2 rfl (by rw [encQl]; omega) ?_
    refine r_fld ?_
    refine St.r_load0 s 2 rfl rfl ?_
    refine FromB_ok (x := (k, w)) rb hD1 s (by omega) fun v' F h s rb2 => ?_
    have s : St h0 Z ((t8, 0, foundC none) :: (t7, 0, repQ (none, 0, .slice none 0 0)) :: (t5, 0, encQ (16, k, w, n)) :: (F ++ E)) h := s.perm (by ((apply perm_rg; intro f; simp only [List.set_cons_zero, List.set_cons_succ, List.eraseIdx_cons_zero, List.eraseIdx_cons_succ, List.cons_append, List.nil_append, List.map_append, List.map_cons, List.map_nil, List.sum_append, List.sum_cons, List.sum_nil, List.map_flatMap, Nat.add_zero, Nat.zero_add]; ac_rfl)))
    refine ⟨St.r_still0 s 2 rfl rfl, ?_⟩
    refine FirstB_ok (n := n) rb2 (fun r hr => List.mem_cons_of_mem _ (List.mem_cons_of_mem _ (List.mem_cons_of_mem _ (List.mem_append.2 (.inr (hD r hr)))))) s fun v3 rb3 => ?_
    exact fin (o := none) (F := F) s (rb.mono fun r hr => List.mem_append.2 (.inr hr)) (rb3.mono fun r hr => List.mem_append.2 (.inr hr))
  · refine r_cmpI ?_
    refine r_if (fun e => absurd e (by simp)) (fun _ => ?_)
    refine r_cmpI ?_
    unfold s_step.j2
    refine r_if (fun e => absurd e (by simp)) (fun _ => ?_)
    iterate 14
      refine r_cmpI ?_
      refine r_if (fun e => absurd e (by simp)) (fun _ => ?_)
    refine r_cmpI ?_
    refine r_if (fun _ => ?_) (fun e => absurd e (by simp))
    refine r_fld ?_
    refine St.r_loadN0 s 2 rfl (by rw [encQl]; omega) ?_
    refine r_fld ?_
    refine St.r_load0 s 2 rfl rfl ?_
    refine DownI_ok (x := (k, w)) hr1 (by omega) ha fun v' b o sp E2 h2 w2 s2 => ?_
    have s := s.join s2
    have s : St h0 Z ((t8, 0, foundC none) :: (t7, 0, repQ (none, 0, .slice none 0 0)) :: (t5, 0, encQ (17, k, w, n)) :: (((b, o, (L.filter fun y => !lt (k, w) y).reverse.flatMap encA ++ sp) :: E2) ++ E)) h2 := s.perm (by ((apply perm_rg; intro f; simp only [List.set_cons_zero, List.set_cons_succ, List.eraseIdx_cons_zero, List.eraseIdx_cons_succ, List.cons_append, List.nil_append, List.map_append, List.map_cons, List.map_nil, List.sum_append, List.sum_cons, List.sum_nil, List.map_flatMap, Nat.add_zero, Nat.zero_add]; ac_rfl)))
    refine ⟨St.r_still0 s 2 rfl rfl, ?_⟩
    refine FirstB_ok (n := n) (D := ((b, o, (L.filter fun y => !lt (k, w) y).reverse.flatMap encA ++ sp) :: E2) ++ D) (Rb.own w2 (List.mem_cons_self ..)) (fun r hr => List.mem_cons_of_mem _ (List.mem_cons_of_mem _ (List.mem_cons_of_mem _ ((List.mem_append.1 hr).elim (fun h => List.mem_append.2 (.inl h)) (fun h => List.mem_append.2 (.inr (hD r h))))))) s fun v3 rb3 => ?_
    exact fin (o := none) (F := (b, o, (L.filter fun y => !lt (k, w) y).reverse.flatMap encA ++ sp) :: E2) s (rb.mono fun r hr => List.mem_append.2 (.inr hr)) rb3
end Go.Proofs.Ytkkappjbcgnacaa.Ii
end
section
namespace Go.Proofs.Ytkkappjbcgnacaa.Ii
open Go.Hp Go.Proofs.Ytkkappjbcgnacaa
set_option linter.unusedVariables false
set_option linter.unusedSimpArgs false
variable {h0 h : Heap} {Z E : List Rg} {Q : Value → Heap → Prop}

def OkR (x : Stq) : Prop := x.1 = 0 ∨ x.1 = 3 ∨ x.1 = 13 ∨ x.1 = 16 ∨ x.1 = 17
/-- What a use of a tape may count on: P tells which steps may be taken, J L T A: the ranges A hold a tape whose list is L behind the steps T. -/
structure TapeC (h0 : Heap) (Z : List Rg) (t : Nat) (P : List Stq → Prop) (J : List It → List Stq → List Rg → Prop) : Prop where
  bad : ∀ {L T A E h}, J L T A → St h0 Z (A ++ E) h → cl h t 1 = some (.bool false)
  act : ∀ {L T A E h x} {Q : Value → Heap → Prop}, J L T A → St h0 Z (A ++ E) h → P (T ++ [x]) → OkR x → Go.Hp.Asc lt L → L.length ≤ 1000000 → T.length ≤ 1200000000000 →
    (∀ A' o n vi h', J (nxL L x) (T ++ [x]) A' → St h0 Z (A' ++ E) h' → Rdl 2 h' vi (rpI L x).length ((rpI L x).flatMap encA) → Q (.agg (repQ (o, n, vi)).toArray) h') → s_Tape_Do.call #[ptr t 0, .agg (encQ x).toArray] h Q
def JRec (t : Nat) (L : List It) (T : List Stq) (A : List Rg) : Prop := ∃ vs vL vt bt bs os sp D, Own 9 vs T.length bs os (T.flatMap encQ) sp ∧ Rb vL L D ∧ one1 vL = true ∧ Own 1 vt 1 bt 0 [vL] [] ∧
  A = (t, 0, [vs, .bool false, .bool false, .slice none 0 0, vt]) :: (bt, 0, [vL]) :: (bs, os, T.flatMap encQ ++ sp) :: D
theorem number01 (H : Q (.int .i64 0) h) : s_number.call #[.int .i64 0, .int .i64 1] h Q := by
  refine s_number.body _ _ _ _ ?_
  unfold s_number.sh
  refine s_Modulo.body _ _ _ _ ?_
  unfold s_Modulo.sh
  refine r_remN (by decide) (by decide) ?_
  refine r_add (z := 1) (by decide) ?_
  refine r_remN (by decide) (by decide) ?_
  exact H
theorem rec_do {t : Nat} {L : List It} {T : List Stq} {A : List Rg} {x : Stq} (j : JRec t L T A) (s : St h0 Z (A ++ E) h) (ok : OkR x) (ha : Go.Hp.Asc lt L) (hl : L.length ≤ 1000000) (hT : T.length ≤ 1200000000000)
    (H : ∀ A' o n vi h', JRec t (nxL L x) (T ++ [x]) A' → St h0 Z (A' ++ E) h' → Rdl 2 h' vi (rpI L x).length ((rpI L x).flatMap encA) → Q (.agg (repQ (o, n, vi)).toArray) h') : s_Tape_Do.call #[ptr t 0, .agg (encQ x).toArray] h Q := by
  obtain ⟨vs, vL, vt, bt, bs, os, sp, D, ws, rb, o1, wt, rfl⟩ := j
  have s : St h0 Z ((t, 0, [vs, .bool false, .bool false, .slice none 0 0, vt]) :: (bt, 0, [vL]) :: (bs, os, T.flatMap encQ ++ sp) :: (D ++ E)) h := s
  refine s_Tape_Do.body _ _ _ _ ?_
  unfold s_Tape_Do.sh
  refine St.r_box (cs := encQ x) s fun t3 h s => ?_
  refine s.r_alloc fun t4 h s => ?_
  refine r_nil (r_fld ?_)
  refine St.r_load0 s 2 rfl rfl ?_
  refine r_if (fun e => absurd e (by decide)) (fun _ => ?_)
  unfold s_Tape_Do.j1
  refine r_nil (r_fld ?_)
  refine St.r_load0 s 2 rfl rfl ?_
  refine r_if (fun e => absurd e (by decide)) (fun _ => ?_)
  unfold s_Tape_Do.j2
  refine r_nil (r_fld ?_)
  refine St.r_load0 s 2 rfl rfl ?_
  refine St.r_loadN0 s 1 rfl (Nat.le_refl 9) ?_
  refine St.r_mkSl (sz := 9) (cs := encQ x) s (by ((simp only [fillV, fill1, Value.cells, zeros_succ, zeros_zero, List.size_toArray, List.length_cons, List.length_nil, List.length_append, List.take_succ_cons, List.take_zero, List.take_nil, List.drop_succ_cons, List.drop_zero, List.drop_nil, List.cons_append, List.nil_append, List.append_nil, Nat.reduceAdd, Nat.reduceMul, Nat.reduceLeDiff, Nat.reduceEqDiff, and_self, and_true, true_and, if_true, Nat.le_refl, Nat.zero_add, Nat.add_zero, Nat.zero_mul, reduceIte, if_false] <;> rfl))) (encQl _) fun q5 h s wq => ?_
  refine ⟨St.r_still0 s 3 rfl rfl, ?_⟩
  refine s.r_appL (f := encQ) (L := T) (M := [x]) 5 rfl ws rfl (by have := wq.rdl s 0 (by rw [List.append_nil]; rfl); simpa using this) (fun y _ => encQ1 y) (by rw [List.length_singleton]; omega) (by rw [List.length_singleton]; omega) fun vs' bs' os' sp' h s ws' => ?_
  refine r_nil (r_fld ?_)
  refine St.r_store0 s 3 rfl (by simp) ws'.one ?_; intro h s
  have s : St h0 Z ((q5, 0, encQ x) :: (t4, 0, repQ (none, 0, .slice none 0 0)) :: (t3, 0, encQ x) :: (t, 0, [vs', .bool false, .bool false, .slice none 0 0, vt]) :: (bt, 0, [vL]) :: (bs', os', (T ++ [x]).flatMap encQ ++ sp') :: (D ++ E)) h := s
  refine r_fld ?_
  refine St.r_load0 s 2 rfl rfl ?_
  refine r_nil (r_fld ?_)
  refine St.r_load0 s 3 rfl rfl ?_
  refine wt.lenV ?_
  refine number01 ?_
  refine r_fld ?_
  refine St.r_load0 s 2 rfl rfl ?_
  refine r_cmpI ?_
  refine r_if (fun e => ?_) (fun _ => ?_)
  · have e : x.1 = 10 := by simpa using e
    exfalso
    rcases ok with h | h | h | h | h <;> omega
  unfold s_Tape_Do.j3
  refine s.r_alloc fun t8 h s => ?_
  refine r_nil (r_fld ?_)
  refine St.r_load0 s 4 rfl rfl ?_
  refine r_nil (r_fld ?_)
  refine St.r_load0 s 4 rfl rfl ?_
  refine wt.idx (n := 0) rfl (by decide) ?_
  refine St.r_load0 s 5 rfl rfl ?_
  refine St.r_loadN0 s 3 rfl (Nat.le_refl 9) ?_
  refine step_ok (x := x) (D := D) rb (fun r hr => ?_) s hl ha ok fun vL' vi o F h s r1 r2 o1' o2' => ?_
  · exact List.mem_cons_of_mem _ (List.mem_cons_of_mem _ (List.mem_cons_of_mem _ (List.mem_cons_of_mem _ (List.mem_cons_of_mem _ (List.mem_cons_of_mem _ (List.mem_cons_of_mem _ (List.mem_append.2 (.inl hr))))))))
  have s : St h0 Z ((t8, 0, repQ (none, 0, .slice none 0 0)) :: (t4, 0, repQ (none, 0, .slice none 0 0)) :: (t, 0, [vs', .bool false, .bool false, .slice none 0 0, vt]) :: (bt, 0, [vL]) :: (bs', os', (T ++ [x]).flatMap encQ ++ sp') :: (q5, 0, encQ x) :: (t3, 0, encQ x) :: ((F ++ D) ++ E)) h := s.perm (by
    show List.Perm _ (F ++ ((t8, 0, repQ (none, 0, .slice none 0 0)) :: (q5, 0, encQ x) :: (t4, 0, repQ (none, 0, .slice none 0 0)) :: (t3, 0, encQ x) :: (t, 0, [vs', .bool false, .bool false, .slice none 0 0, vt]) :: (bt, 0, [vL]) :: (bs', os', (T ++ [x]).flatMap encQ ++ sp') :: (D ++ E)))
    ((apply perm_rg; intro f; simp only [List.set_cons_zero, List.set_cons_succ, List.eraseIdx_cons_zero, List.eraseIdx_cons_succ, List.cons_append, List.nil_append, List.map_append, List.map_cons, List.map_nil, List.sum_append, List.sum_cons, List.sum_nil, List.map_flatMap, Nat.add_zero, Nat.zero_add]; ac_rfl)))
  refine ⟨St.r_still0 s 2 rfl rfl, ?_⟩
  refine r_ext rfl ?_
  refine r_ext rfl ?_
  refine wt.idx (n := 0) rfl (by decide) ?_
  refine St.r_store0 s 3 rfl (by simp) o1' ?_; intro h s
  have s : St h0 Z ((t8, 0, repQ (none, 0, .slice none 0 0)) :: (t4, 0, repQ (none, 0, .slice none 0 0)) :: (t, 0, [vs', .bool false, .bool false, .slice none 0 0, vt]) :: (bt, 0, [vL']) :: (bs', os', (T ++ [x]).flatMap encQ ++ sp') :: (q5, 0, encQ x) :: (t3, 0, encQ x) :: ((F ++ D) ++ E)) h := s
  generalize hrr : (o, (nxL L x).length, vi) = rr
  have hr2 : one1 rr.2.2 = true := by rw [← hrr]; exact o2'
  refine St.r_storeN0 s 0 rfl (repQl rr) (by rw [repQl]; omega) (repQ1 rr hr2) ?_; intro h s
  have s : St h0 Z ((t8, 0, repQ rr) :: (t4, 0, repQ (none, 0, .slice none 0 0)) :: (t, 0, [vs', .bool false, .bool false, .slice none 0 0, vt]) :: (bt, 0, [vL']) :: (bs', os', (T ++ [x]).flatMap encQ ++ sp') :: (q5, 0, encQ x) :: (t3, 0, encQ x) :: ((F ++ D) ++ E)) h := by
    obtain ⟨_ | p, _, _⟩ := rr <;> exact s
  refine St.r_loadN0 s 0 rfl (by rw [repQl]; omega) ?_
  have er : ((repQ rr).drop 0).take 5 = repQ rr := by obtain ⟨_ | p, _, _⟩ := rr <;> rfl
  rw [er]
  refine St.r_storeN0 s 1 rfl (repQl rr) (by rw [repQl]; omega) (repQ1 rr hr2) ?_; intro h s
  have s : St h0 Z ((t8, 0, repQ rr) :: (t4, 0, repQ rr) :: (t, 0, [vs', .bool false, .bool false, .slice none 0 0, vt]) :: (bt, 0, [vL']) :: (bs', os', (T ++ [x]).flatMap encQ ++ sp') :: (q5, 0, encQ x) :: (t3, 0, encQ x) :: ((F ++ D) ++ E)) h := by
    obtain ⟨_ | p, _, _⟩ := rr <;> exact s
  refine St.r_loadN0 s 1 rfl (by rw [repQl]; omega) ?_
  rw [er]
  subst hrr
  have hin : ∀ r ∈ F ++ D, r ∈ (t8, 0, repQ (o, (nxL L x).length, vi)) :: (t4, 0, repQ (o, (nxL L x).length, vi)) :: (q5, 0, encQ x) :: (t3, 0, encQ x) :: (F ++ D) := fun r hr => List.mem_cons_of_mem _ (List.mem_cons_of_mem _ (List.mem_cons_of_mem _ (List.mem_cons_of_mem _ hr)))
  refine H _ o (nxL L x).length vi h ⟨vs', vL', vt, bt, bs', os', sp', (t8, 0, repQ (o, (nxL L x).length, vi)) :: (t4, 0, repQ (o, (nxL L x).length, vi)) :: (q5, 0, encQ x) :: (t3, 0, encQ x) :: (F ++ D), ws', r1.mono hin, o1', wt.cong rfl, rfl⟩ ?_ (r2.rdl (fun r hr => ?_) s)
  · exact s.perm (by
      show List.Perm ((t, 0, [vs', .bool false, .bool false, .slice none 0 0, vt]) :: (bt, 0, [vL']) :: (bs', os', (T ++ [x]).flatMap encQ ++ sp') :: (((t8, 0, repQ (o, (nxL L x).length, vi)) :: (t4, 0, repQ (o, (nxL L x).length, vi)) :: (q5, 0, encQ x) :: (t3, 0, encQ x) :: (F ++ D)) ++ E)) _
      ((apply perm_rg; intro f; simp only [List.set_cons_zero, List.set_cons_succ, List.eraseIdx_cons_zero, List.eraseIdx_cons_succ, List.cons_append, List.nil_append, List.map_append, List.map_cons, List.map_nil, List.sum_append, List.sum_cons, List.sum_nil, List.map_flatMap, Nat.add_zero, Nat.zero_add]; ac_rfl)))
  · exact List.mem_cons_of_mem _ (List.mem_cons_of_mem _ (List.mem_cons_of_mem _ (List.mem_cons_of_mem _ (List.mem_cons_of_mem _ (List.mem_cons_of_mem _ (List.mem_cons_of_mem _ (List.mem_append.2 (.inl hr))))))))
theorem TapeC.record (h0 : Heap) (Z : List Rg) (t : Nat) : TapeC h0 Z t (fun _ => True) (JRec t) where
  bad := fun {L T A E h} j s => by
    obtain ⟨vs, vL, vt, bt, bs, os, sp, D, ws, rb, o1, wt, rfl⟩ := j
    exact s.get (k := 0) rfl (j := 1) (by simp)
  act := fun j s _ ok ha hl hT H => rec_do j s ok ha hl hT H
set_option maxRecDepth 100000 in
theorem eqStep (x : Stq) : EqV Try.prog 10000 144 (.agg (encQ x).toArray) (.agg (encQ x).toArray) true := by
  have it : ∀ a b : Int, EqV Try.prog 9999 27 (.agg #[.int .i64 a, .int .i64 b]) (.agg #[.int .i64 a, .int .i64 b]) true := fun a b => by
    have := eqItem a b 9997
    exact this
  have n : ∀ a : Int, EqV Try.prog 9999 3 (.int .i64 a) (.int .i64 a) true := fun a => .inl ⟨_, _, a, a, Try.underlying3, rfl, rfl, by simp⟩
  have bo : ∀ a : Bool, EqV Try.prog 9999 4 (.bool a) (.bool a) true := fun a => .inr (.inl ⟨a, a, Try.underlying4, rfl, rfl, by simp⟩)
  refine .inr (.inr (.inr ⟨_, _, _, Try.underlying144, by kernel_rfl, rfl, rfl, ?_⟩))
  refine ⟨by decide, .int .i64 x.1, .int .i64 x.1, true, ⟨_, Try.underlying3, .inr ⟨by kernel_rfl, rfl⟩⟩, ⟨_, Try.underlying3, .inr ⟨by kernel_rfl, rfl⟩⟩, n _, .inr ⟨rfl, ?_⟩⟩
  refine ⟨by decide, .int .i64 0, .int .i64 0, true, ⟨_, Try.underlying3, .inr ⟨by kernel_rfl, rfl⟩⟩, ⟨_, Try.underlying3, .inr ⟨by kernel_rfl, rfl⟩⟩, n _, .inr ⟨rfl, ?_⟩⟩
  refine ⟨by decide, .agg #[.int .i64 x.2.1, .int .i64 x.2.2.1], .agg #[.int .i64 x.2.1, .int .i64 x.2.2.1], true, ⟨_, Try.underlying27, .inl ⟨by kernel_rfl, _, Try.type27, rfl⟩⟩, ⟨_, Try.underlying27, .inl ⟨by kernel_rfl, _, Try.type27, rfl⟩⟩, it _ _, .inr ⟨rfl, ?_⟩⟩
  refine ⟨by decide, .agg #[.int .i64 0, .int .i64 0], .agg #[.int .i64 0, .int .i64 0], true, ⟨_, Try.underlying27, .inl ⟨by kernel_rfl, _, Try.type27, rfl⟩⟩, ⟨_, Try.underlying27, .inl ⟨by kernel_rfl, _, Try.type27, rfl⟩⟩, it _ _, .inr ⟨rfl, ?_⟩⟩
  refine ⟨by decide, .int .i64 x.2.2.2, .int .i64 x.2.2.2, true, ⟨_, Try.underlying3, .inr ⟨by kernel_rfl, rfl⟩⟩, ⟨_, Try.underlying3, .inr ⟨by kernel_rfl, rfl⟩⟩, n _, .inr ⟨rfl, ?_⟩⟩
  refine ⟨by decide, .bool false, .bool false, true, ⟨_, Try.underlying4, .inr ⟨by kernel_rfl, rfl⟩⟩, ⟨_, Try.underlying4, .inr ⟨by kernel_rfl, rfl⟩⟩, bo _, .inr ⟨rfl, ?_⟩⟩
  exact ⟨by decide, .bool false, .bool false, true, ⟨_, Try.underlying4, .inr ⟨by kernel_rfl, rfl⟩⟩, ⟨_, Try.underlying4, .inr ⟨by kernel_rfl, rfl⟩⟩, bo _, .inr ⟨rfl, rfl⟩⟩
/-- A tape that plays the replies F to the steps S. -/
def JPlay (h0 : Heap) (t : Nat) (S : List Stq) (F : List RepQ) (vS : Value) (L : List It) (T : List Stq) (A : List Rg) : Prop :=
  ∃ vr W, L = T.foldl nxL [] ∧ T = S.take T.length ∧ T.length ≤ S.length ∧ Rdl 5 h0 vr (F.drop T.length).length ((F.drop T.length).flatMap repQ) ∧ A = (t, 0, [vS, .bool false, .bool true, vr, .slice none 0 0]) :: W
theorem play_do {t : Nat} {S : List Stq} {F : List RepQ} {vS : Value} (hS : Rdl 9 h0 vS S.length (S.flatMap encQ)) (hlS : S.length ≤ 1200000000000) (hF : F.length = S.length) (hR : ∀ i (hi : i < S.length), ∃ r, F[i]? = some r ∧ Rdl 2 h0 r.2.2 (rpI ((S.take i).foldl nxL []) S[i]).length ((rpI ((S.take i).foldl nxL []) S[i]).flatMap encA))
    {L : List It} {T : List Stq} {A : List Rg} {x : Stq} (j : JPlay h0 t S F vS L T A) (s : St h0 Z (A ++ E) h) (hx : T ++ [x] = S.take (T.length + 1) ∧ T.length + 1 ≤ S.length)
    (H : ∀ A' o n vi h', JPlay h0 t S F vS (nxL L x) (T ++ [x]) A' → St h0 Z (A' ++ E) h' → Rdl 2 h' vi (rpI L x).length ((rpI L x).flatMap encA) → Q (.agg (repQ (o, n, vi)).toArray) h') : s_Tape_Do.call #[ptr t 0, .agg (encQ x).toArray] h Q := by
  obtain ⟨vr, W, eL, eT, hT, rr, rfl⟩ := j
  obtain ⟨hx, hlt⟩ := hx
  have hlt' : T.length < S.length := hlt
  have hSx : S[T.length] = x := by
    have e1 := List.take_succ_eq_append_getElem hlt'
    rw [← eT] at e1
    rw [e1] at hx
    exact ((List.cons.inj (List.append_cancel_left hx)).1).symm
  obtain ⟨rp, hrp, hri⟩ := hR T.length hlt'
  rw [hSx, ← eT, ← eL] at hri
  have hFl : T.length < F.length := by omega
  have hdr : (F.drop T.length).length = S.length - T.length := by rw [List.length_drop, hF]
  have s : St h0 Z ((t, 0, [vS, .bool false, .bool true, vr, .slice none 0 0]) :: (W ++ E)) h := s
  refine s_Tape_Do.body _ _ _ _ ?_
  unfold s_Tape_Do.sh
  refine St.r_box (cs := encQ x) s fun t3 h s => ?_
  refine s.r_alloc fun t4 h s => ?_
  refine r_nil (r_fld ?_)
  refine St.r_load0 s 2 rfl rfl ?_
  refine r_if (fun e => absurd e (by decide)) (fun _ => ?_)
  unfold s_Tape_Do.j1
  refine r_nil (r_fld ?_)
  refine St.r_load0 s 2 rfl rfl ?_
  refine r_if (fun _ => ?_) (fun e => absurd e (by decide))
  refine r_nil (r_fld ?_)
  refine St.r_load0 s 2 rfl rfl ?_
  refine hS.lenV ?_
  refine r_nil (r_fld ?_)
  refine St.r_load0 s 2 rfl rfl ?_
  refine rr.lenV ?_
  refine r_sub (z := ((T.length : Nat) : Int)) (by rw [hdr, i64w (by omega) (by omega)]; omega) ?_
  refine r_nil (r_fld ?_)
  refine St.r_load0 s 2 rfl rfl ?_
  refine hS.lenV ?_
  refine r_cmpI ?_
  refine r_br (fun _ => ?_) (fun e => absurd (of_decide_eq_true e) (by omega))
  refine r_nil (r_fld ?_)
  refine St.r_load0 s 2 rfl rfl ?_
  refine (hS.st s).at (f := encQ) (n := T.length) rfl encQl rfl rfl hlt' fun b o hb => ?_
  rw [hSx] at hb
  refine hb.loadN rfl ?_
  refine St.r_loadN0 s 1 rfl (Nat.le_refl 9) ?_
  refine ⟨_, _, true, rfl, rfl, eqStep x, ?_⟩
  refine r_if (fun e => absurd e (by decide)) (fun _ => ?_)
  unfold s_Tape_Do.j4
  refine r_nil (r_fld ?_)
  refine St.r_load0 s 2 rfl rfl ?_
  have h0d : 0 < (F.drop T.length).length := by omega
  have hd0 : (F.drop T.length)[0] = rp := by
    have : (F.drop T.length)[0]? = some rp := by rw [List.getElem?_drop, Nat.add_zero]; exact hrp
    rw [List.getElem?_eq_getElem h0d] at this
    exact Option.some.inj this
  refine (rr.st s).at (f := repQ) (n := 0) rfl repQl rfl rfl h0d fun b o hb => ?_
  rw [hd0] at hb
  have hvi : one1 rp.2.2 = true := hri.one
  refine hb.loadN (repQl rp) ?_
  refine s.r_alloc fun t6 h s => ?_
  have er : ((repQ rp).drop 0).take 5 = repQ rp := by obtain ⟨_ | p, _, _⟩ := rp <;> rfl
  refine St.r_storeN0 s 0 rfl (repQl rp) (by simp) (repQ1 rp hvi) ?_; intro h s
  have s : St h0 Z ((t6, 0, repQ rp) :: (t4, 0, repQ (none, 0, .slice none 0 0)) :: (t3, 0, encQ x) :: (t, 0, [vS, .bool false, .bool true, vr, .slice none 0 0]) :: (W ++ E)) h := by
    obtain ⟨_ | p, _, _⟩ := rp <;> exact s
  refine r_nil (r_fld ?_)
  refine St.r_load0 s 3 rfl rfl ?_
  refine rr.slcLo repQl (i := 1) rfl h0d fun vr' rr' => ?_
  have rr2 : Rdl 5 h0 vr' (F.drop (T.length + 1)).length ((F.drop (T.length + 1)).flatMap repQ) := by rw [List.drop_drop] at rr'; exact rr'
  refine r_nil (r_fld ?_)
  refine St.r_store0 s 3 rfl (by simp) rr2.one ?_; intro h s
  have s : St h0 Z ((t6, 0, repQ rp) :: (t4, 0, repQ (none, 0, .slice none 0 0)) :: (t3, 0, encQ x) :: (t, 0, [vS, .bool false, .bool true, vr', .slice none 0 0]) :: (W ++ E)) h := s
  refine St.r_loadN0 s 0 rfl (by rw [repQl]; omega) ?_
  rw [er]
  refine St.r_storeN0 s 1 rfl (repQl rp) (by rw [repQl]; omega) (repQ1 rp hvi) ?_; intro h s
  have s : St h0 Z ((t6, 0, repQ rp) :: (t4, 0, repQ rp) :: (t3, 0, encQ x) :: (t, 0, [vS, .bool false, .bool true, vr', .slice none 0 0]) :: (W ++ E)) h := by
    obtain ⟨_ | p, _, _⟩ := rp <;> exact s
  refine St.r_loadN0 s 1 rfl (by rw [repQl]; omega) ?_
  rw [er]
  refine H ((t, 0, [vS, .bool false, .bool true, vr', .slice none 0 0]) :: (t6, 0, repQ rp) :: (t4, 0, repQ rp) :: (t3, 0, encQ x) :: W) rp.1 rp.2.1 rp.2.2 h ⟨vr', (t6, 0, repQ rp) :: (t4, 0, repQ rp) :: (t3, 0, encQ x) :: W, ?_, ?_, ?_, ?_, rfl⟩ ?_ (hri.st s)
  · rw [List.foldl_append, ← eL]; rfl
  · rw [List.length_append]; exact hx
  · rw [List.length_append]; exact hlt
  · rw [List.length_append]; exact rr2
  · exact s.perm (by
      show List.Perm ((t, 0, [vS, .bool false, .bool true, vr', .slice none 0 0]) :: (t6, 0, repQ rp) :: (t4, 0, repQ rp) :: (t3, 0, encQ x) :: (W ++ E)) _
      ((apply perm_rg; intro f; simp only [List.set_cons_zero, List.set_cons_succ, List.eraseIdx_cons_zero, List.eraseIdx_cons_succ, List.cons_append, List.nil_append, List.map_append, List.map_cons, List.map_nil, List.sum_append, List.sum_cons, List.sum_nil, List.map_flatMap, Nat.add_zero, Nat.zero_add]; ac_rfl)))
theorem TapeC.play {t : Nat} {S : List Stq} {F : List RepQ} {vS : Value} (hS : Rdl 9 h0 vS S.length (S.flatMap encQ)) (hlS : S.length ≤ 1200000000000) (hF : F.length = S.length) (hR : ∀ i (hi : i < S.length), ∃ r, F[i]? = some r ∧ Rdl 2 h0 r.2.2 (rpI ((S.take i).foldl nxL []) S[i]).length ((rpI ((S.take i).foldl nxL []) S[i]).flatMap encA)) :
    TapeC h0 Z t (fun T => T = S.take T.length ∧ T.length ≤ S.length) (JPlay h0 t S F vS) where
  bad := fun {L T A E h} j s => by
    obtain ⟨vr, W, _, _, _, _, rfl⟩ := j
    exact s.get (k := 0) rfl (j := 1) (by simp)
  act := fun {L T A E h x Q} j s hp _ _ _ _ H => play_do hS hlS hF hR j s (by rw [List.length_append] at hp; exact hp) H
end Go.Proofs.Ytkkappjbcgnacaa.Ii
end
section
namespace Go.Proofs.Ytkkappjbcgnacaa.Ii
open Go.Hp Go.Proofs.Ytkkappjbcgnacaa
set_option linter.unusedVariables false
set_option linter.unusedSimpArgs false
variable {h0 h : Heap} {Z E : List Rg} {Q : Value → Heap → Prop}

def aS (x : It) : Stq := (16, x.1, x.2, 1)
def dS (x : It) : Stq := (17, x.1, x.2, 1)
/-- Whether the next point exceeds x. -/
def up (L : List It) (x : It) : Bool := match rpI L (aS x) with
  | y :: _ => decide (x.2 ≤ y.2)
  | [] => false
/-- The steps that take away what x exceeds, and the list behind them. -/
def clS : Nat → List It → It → List Stq
  | 0, _, _ => []
  | n + 1, L, x => dS x :: match rpI L (dS x) with
    | y :: _ => if x.2 < y.2 then [] else (3, y.1, y.2, 0) :: clS n (ldel lt L (y.1, 0)) x
    | [] => []
def clL : Nat → List It → It → List It
  | 0, L, _ => L
  | n + 1, L, x => match rpI L (dS x) with
    | y :: _ => if x.2 < y.2 then L else clL n (ldel lt L (y.1, 0)) x
    | [] => L
def ptS (L : List It) (x : It) : List Stq := aS x :: if up L x then [] else clS (L.length + 1) L x ++ [(0, x.1, x.2, 0)]
def ptL (L : List It) (x : It) : List It := if up L x then L else lput lt (clL (L.length + 1) L x) (x.1, x.2)
def mxS : List It → List It → List Stq
  | [], _ => [(13, 0, 0, 0)]
  | x :: r, L => ptS L x ++ mxS r (ptL L x)
def mxL (l L : List It) : List It := l.foldl ptL L
def fp8 (x : It) : List Value := [.int .u8 x.1, .int .u8 x.2]
/-- A list that a map of bytes can be. -/
def Bt (L : List It) : Prop := Go.Hp.Asc lt L ∧ ∀ y ∈ L, 0 ≤ y.1 ∧ y.1 ≤ 255
theorem asc_ge : ∀ (L : List It) (a : Int), Go.Hp.Asc lt L → (∀ y ∈ L, a ≤ y.1 ∧ y.1 ≤ 255) → (L.length : Int) ≤ 256 - a ∨ L = []
  | [], _, _, _ => .inr rfl
  | y :: r, a, hs, hb => by
    obtain ⟨h1, h2⟩ := List.pairwise_cons.1 hs
    have hy := hb y (List.mem_cons_self ..)
    have hy1 : @LE.le Int _ a y.1 := hy.1
    have hy2 : @LE.le Int _ y.1 255 := hy.2
    rcases asc_ge r (y.1 + 1) h2 (fun z hz => ⟨by have : y.1 < z.1 := of_decide_eq_true (h1 z hz); exact this, (hb z (List.mem_cons_of_mem _ hz)).2⟩) with h | h
    · left; rw [List.length_cons]; push_cast; omega
    · left; rw [h]; show (1 : Int) ≤ _; omega
theorem Bt.len {L : List It} (b : Bt L) : L.length ≤ 256 := by
  rcases asc_ge L 0 b.1 b.2 with h | h
  · omega
  · rw [h]; exact Nat.zero_le _
theorem Bt.put {L : List It} (b : Bt L) {x : It} (hx : 0 ≤ x.1 ∧ x.1 ≤ 255) : Bt (lput lt L x) := by
  refine ⟨asc_lput swo b.1, fun y hy => ?_⟩
  rcases (mem_lputK (x := x) (z := y) b.1).1 hy with h | ⟨h, _⟩
  · rw [h]; exact hx
  · exact b.2 y h
theorem Bt.del {L : List It} (b : Bt L) (x : It) : Bt (ldel lt L x) := ⟨asc_of_sub b.1 (ldel_sub _ _), fun y hy => b.2 y ((ldel_sub _ _).subset hy)⟩
theorem clL_bt : ∀ (n : Nat) {L : List It} (x : It), Bt L → Bt (clL n L x)
  | 0, _, _, b => b
  | n + 1, L, x, b => by
    rw [clL]
    split
    · split
      · exact b
      · exact clL_bt n x (b.del _)
    · exact b
theorem ptL_bt {L : List It} {x : It} (b : Bt L) (hx : 0 ≤ x.1 ∧ x.1 ≤ 255) : Bt (ptL L x) := by
  unfold ptL
  split
  · exact b
  · exact (clL_bt _ x b).put hx
theorem down_mem {L : List It} {x y : It} {r : List It} (h : rpI L (dS x) = y :: r) : y ∈ L := by
  have h1 : y ∈ rpI L (dS x) := by rw [h]; exact List.mem_cons_self ..
  have h2 : rpI L (dS x) = firstN (L.filter fun z => !lt (x.1, 0) z).reverse 1 := rfl
  rw [h2] at h1
  have h3 : y ∈ (L.filter fun z => !lt (x.1, 0) z).reverse := by
    unfold firstN at h1
    split at h1
    · exact h1
    · exact List.mem_of_mem_take h1
  exact (List.mem_filter.1 (List.mem_reverse.1 h3)).1
theorem del_len {L : List It} {y : It} (hy : y ∈ L) (ha : Go.Hp.Asc lt L) : (ldel lt L (y.1, 0)).length + 1 ≤ L.length := by
  cases hg : lget lt L (y.1, 0) with
  | none =>
    exact absurd rfl (lgetK_nk (x := (y.1, 0)) ha hg y hy)
  | some z =>
    obtain ⟨hp, _, _⟩ := lget_some hg
    rw [ldel_some hg, List.length_append, List.length_take, List.length_drop]
    omega
/-- Taking away what a point exceeds. -/
theorem clear_ok {t t7 : Nat} {P : List Stq → Prop} {J : List It → List Stq → List Rg → Prop} (tc : TapeC h0 Z t P J) {c s13 s14 s15 : Value} {x : It} {SS : List Stq} (hP : ∀ T, T <+: SS → P T) (hS : SS.length ≤ 1200000000000) {K1 : List Value → Heap → Prop} {L0 : List It} {T0 A0 : List _} {rest : List It → List Stq} (b0 : Bt L0) (hx : 0 ≤ x.1 ∧ x.1 ≤ 255)
    (hSS : SS = T0 ++ clS (L0.length + 1) L0 x ++ (0, x.1, x.2, 0) :: rest (lput lt (clL (L0.length + 1) L0 x) x)) (j0 : J L0 T0 A0) (s0 : St h0 Z (A0 ++ (t7, 0, encA x) :: E) h)
    (H : ∀ A' h', J (lput lt (clL (L0.length + 1) L0 x) x) (T0 ++ clS (L0.length + 1) L0 x ++ [(0, x.1, x.2, 0)]) A' → St h0 Z (A' ++ (t7, 0, encA x) :: E) h' → l_maximal.j8 (ptr t 0) c s14 s15 h' K1 Q) :
    l_maximal.j9 (ptr t 0) (ptr t7 0) c s14 s15 h K1 Q := by
  unfold l_maximal.j9
  have set : ∀ {L : List It} {T : List Stq} {A : List Rg} {h : Heap}, L = clL (L0.length + 1) L0 x → T = T0 ++ clS (L0.length + 1) L0 x → J L T A → St h0 Z (A ++ (t7, 0, encA x) :: E) h → Bt L → l_maximal.j10 (ptr t 0) (ptr t7 0) c s14 s15 h K1 Q := fun {L T A h} eL eT j s b => by
    unfold l_maximal.j10
    have s1 := s.perm (List.perm_append_comm (l₁ := (t7, 0, encA x) :: E) (l₂ := A))
    have s1 : St h0 Z ((t7, 0, encA x) :: (E ++ A)) h := s1
    refine St.r_loadN0 s1 0 rfl (by simp) ?_
    refine r_build (cs := encQ (0, x.1, x.2, 0)) (by ((simp only [fillV, fill1, Value.cells, zeros_succ, zeros_zero, List.size_toArray, List.length_cons, List.length_nil, List.length_append, List.take_succ_cons, List.take_zero, List.take_nil, List.drop_succ_cons, List.drop_zero, List.drop_nil, List.cons_append, List.nil_append, List.append_nil, Nat.reduceAdd, Nat.reduceMul, Nat.reduceLeDiff, Nat.reduceEqDiff, and_self, and_true, true_and, if_true, Nat.le_refl, Nat.zero_add, Nat.add_zero, Nat.zero_mul, reduceIte, if_false] <;> rfl))) ?_
    have hpre : T ++ [(0, x.1, x.2, 0)] <+: SS := ⟨rest (lput lt (clL (L0.length + 1) L0 x) x), by rw [hSS, eT, List.append_assoc _ [_]]; rfl⟩
    have hTl : T.length ≤ 1200000000000 := by have := hpre.length_le; rw [List.length_append] at this; omega
    refine tc.act (x := (0, x.1, x.2, 0)) j s (hP _ hpre) (.inl rfl) b.1 (by have := b.len; omega) hTl fun A' o n vi h' j' s' r => ?_
    subst eL; subst eT
    exact H A' h' j' s'
  refine loop_ghost (fun q st h' => ∃ (L : List It) (T : List Stq) (A : List Rg), st = [] ∧ q = L.length ∧ J L T A ∧ Bt L ∧ St h0 Z (A ++ (t7, 0, encA x) :: E) h' ∧ T ++ clS (q + 1) L x = T0 ++ clS (L0.length + 1) L0 x ∧ clL (q + 1) L x = clL (L0.length + 1) L0 x) (n0 := L0.length) ⟨L0, T0, A0, rfl, rfl, j0, b0, s0, rfl, rfl⟩ ?_
  rintro q st h ⟨L, T, A, rfl, rfl, j, b, s, eT, eL⟩ K HK
  unfold l_maximal.l11.b
  refine r_nil (r_fld ?_)
  refine ⟨_, _, rfl, tc.bad j s, ?_⟩
  refine r_not ?_
  refine r_if (fun _ => ?_) (fun e => absurd e (by decide))
  unfold l_maximal.j12
  have s1 : St h0 Z ((t7, 0, encA x) :: (E ++ A)) h := s.perm (List.perm_append_comm (l₁ := (t7, 0, encA x) :: E) (l₂ := A))
  refine St.r_loadN0 s1 0 rfl (by simp) ?_
  refine r_build (cs := encQ (dS x)) (by ((simp only [fillV, fill1, Value.cells, zeros_succ, zeros_zero, List.size_toArray, List.length_cons, List.length_nil, List.length_append, List.take_succ_cons, List.take_zero, List.take_nil, List.drop_succ_cons, List.drop_zero, List.drop_nil, List.cons_append, List.nil_append, List.append_nil, Nat.reduceAdd, Nat.reduceMul, Nat.reduceLeDiff, Nat.reduceEqDiff, and_self, and_true, true_and, if_true, Nat.le_refl, Nat.zero_add, Nat.add_zero, Nat.zero_mul, reduceIte, if_false] <;> rfl))) ?_
  rw [clS] at eT
  rw [clL] at eL
  have hpre0 : T ++ [dS x] <+: SS := by
    rw [hSS, ← eT]
    exact ⟨_, by rw [List.append_assoc, List.append_assoc]; rfl⟩
  have hTl : T.length + 1 ≤ 1200000000000 := by have := hpre0.length_le; rw [List.length_append] at this; exact Nat.le_trans this hS
  refine tc.act (x := dS x) j s (hP _ hpre0) (.inr (.inr (.inr (.inr rfl)))) b.1 (by have := b.len; omega) (by omega) fun A' o n vi h' j' s' r => ?_
  have hnx : nxL L (dS x) = L := rfl
  rw [hnx] at j'
  have hfl : fldV 4 1 false (.agg (repQ (o, n, vi)).toArray) = fldV 4 1 false (.agg (repQ (o, n, vi)).toArray) := rfl
  have hv : (repQ (o, n, vi))[4]? = some vi := by cases o <;> rfl
  refine ⟨_, rfl, vi, by rw [List.getElem?_toArray]; exact hv, ?_⟩
  refine r.lenV ?_
  refine r_cmpI ?_
  cases hd : rpI L (dS x) with
  | nil =>
    rw [hd] at eT eL r
    refine r_br (fun e => absurd e (by simp)) (fun _ => ?_)
    exact set eL eT j' s' b
  | cons y rr =>
    rw [hd] at eT eL r
    simp only at eT eL
    refine r_br (fun _ => ?_) (fun e => absurd e (by simp; omega))
    refine r.at (f := encA) (l := y :: rr) (n := 0) rfl encAl rfl rfl (by simp) fun b3 o3 hb => ?_
    refine r_fld ?_
    refine hb.load (j := 1) rfl ?_
    refine r_fld ?_
    have s2 : St h0 Z ((t7, 0, encA x) :: (E ++ A')) h' := s'.perm (List.perm_append_comm (l₁ := (t7, 0, encA x) :: E) (l₂ := A'))
    refine St.r_load0 s2 0 rfl rfl ?_
    refine r_cmpI ?_
    refine r_if (fun e => ?_) (fun e => ?_)
    · have e : x.2 < y.2 := of_decide_eq_true e
      rw [if_pos e] at eT eL
      exact set eL eT j' s' b
    · have e : ¬ x.2 < y.2 := of_decide_eq_false e
      rw [if_neg e] at eT eL
      unfold l_maximal.j13
      refine r.at (f := encA) (l := y :: rr) (n := 0) rfl encAl rfl rfl (by simp) fun b3 o3 hb => ?_
      refine hb.loadN rfl ?_
      refine r_build (cs := encQ (3, y.1, y.2, 0)) (by ((simp only [fillV, fill1, Value.cells, zeros_succ, zeros_zero, List.size_toArray, List.length_cons, List.length_nil, List.length_append, List.take_succ_cons, List.take_zero, List.take_nil, List.drop_succ_cons, List.drop_zero, List.drop_nil, List.cons_append, List.nil_append, List.append_nil, Nat.reduceAdd, Nat.reduceMul, Nat.reduceLeDiff, Nat.reduceEqDiff, and_self, and_true, true_and, if_true, Nat.le_refl, Nat.zero_add, Nat.add_zero, Nat.zero_mul, reduceIte, if_false] <;> rfl))) ?_
      have hy := down_mem hd
      have hdl := del_len hy b.1
      have hpre : T ++ [dS x] ++ [(3, y.1, y.2, 0)] <+: SS := by
        rw [hSS, ← eT]
        exact ⟨_, by simp only [List.append_assoc, List.cons_append, List.nil_append]; rfl⟩
      refine tc.act (x := (3, y.1, y.2, 0)) j' s' (hP _ hpre) (.inr (.inl rfl)) b.1 (by have := b.len; omega) (by rw [List.length_append]; exact hTl) fun A2 o2 n2 vi2 h2 j2 s2 r2 => ?_
      have hn2 : nxL L (3, y.1, y.2, 0) = ldel lt L (y.1, 0) := rfl
      rw [hn2] at j2
      have fuel : ∀ n m : Nat, ∀ L' : List It, Bt L' → L'.length < n → L'.length < m → clS n L' x = clS m L' x ∧ clL n L' x = clL m L' x := by
        intro n
        induction n with
        | zero => intro m L' _ h; exact absurd h (Nat.not_lt_zero _)
        | succ n ih =>
          intro m L' b' h1 h2
          cases m with
          | zero => exact absurd h2 (Nat.not_lt_zero _)
          | succ m =>
            rw [clS, clS, clL, clL]
            cases hd' : rpI L' (dS x) with
            | nil => exact ⟨rfl, rfl⟩
            | cons z zr =>
              have hz := del_len (down_mem hd') b'.1
              simp only
              split
              · exact ⟨rfl, rfl⟩
              · obtain ⟨i1, i2⟩ := ih m (ldel lt L' (z.1, 0)) (b'.del _) (by omega) (by omega)
                exact ⟨by rw [i1], i2⟩
      obtain ⟨f1, f2⟩ := fuel L.length ((ldel lt L (y.1, 0)).length + 1) (ldel lt L (y.1, 0)) (b.del _) (by omega) (by omega)
      rw [f1] at eT
      rw [f2] at eL
      exact HK _ _ _ (by omega) ⟨_, _, A2, rfl, rfl, j2, b.del _, s2, by rw [← eT]; simp only [List.append_assoc, List.cons_append, List.nil_append], eL⟩
end Go.Proofs.Ytkkappjbcgnacaa.Ii
end
section
namespace Go.Proofs.Ytkkappjbcgnacaa.Ii
open Go.Hp Go.Proofs.Ytkkappjbcgnacaa
set_option linter.unusedVariables false
set_option linter.unusedSimpArgs false
variable {h0 h : Heap} {Z E : List Rg} {Q : Value → Heap → Prop}

def fI (z : Int) : List Value := [.int .i64 z]
theorem fIl (z : Int) : (fI z).length = 1 := rfl
def outs (L : List It) : List Int := L.flatMap fun y => [y.1, y.2]
theorem outs_len : ∀ L : List It, (outs L).length = 2 * L.length
  | [] => rfl
  | y :: r => by
    have := outs_len r
    show (y.1 :: y.2 :: outs r).length = _
    rw [List.length_cons, List.length_cons, this, List.length_cons]; omega
theorem outL_ok {L : List It} {v : Value} {hA : Heap} (hr : Rdl 2 hA v L.length (L.flatMap encA)) (hl : L.length ≤ 1000000) (H : ∀ v' E' h', St hA [] E' h' → Rdl 1 h' v' (outs L).length ((outs L).flatMap fI) → Q v' h') :
    loopC (fun c s h K1 => l_maximal.l3.b (c.getD 0 undef) (c.getD 1 undef) (s.getD 0 undef) (s.getD 1 undef) h K1 Q) [v, .int .i64 (L.length : Nat)] [.slice none 0 0, .int .i64 0] hA := by
  have s := (St.start hA).empty 0 0
  refine loop_ghost (fun q st h' => ∃ (j : Nat) (v1 : Value) (b o : Nat) (p : List Value) (R : List Rg), q = L.length - j ∧ j ≤ L.length ∧ st = [v1, .int .i64 (j : Nat)] ∧ Own 1 v1 (outs (L.take j)).length b o ((outs (L.take j)).flatMap fI) p ∧ St hA [] ((b, o, (outs (L.take j)).flatMap fI ++ p) :: R) h') (n0 := L.length)
    ⟨0, .slice none 0 0, 0, 0, [], [], rfl, Nat.zero_le _, rfl, Own.nil 1 0 0, s⟩ ?_
  clear s
  rintro q st h ⟨j, v1, b, o, p, R, rfl, hj, rfl, w, s⟩ K HK
  unfold l_maximal.l3.b
  refine r_cmpI ?_
  refine r_if (fun hlt => ?_) (fun hge => ?_)
  · have hlt : j < L.length := by have := of_decide_eq_true hlt; omega
    unfold l_maximal.j4
    refine (hr.st s).at (f := encA) (n := j) rfl encAl rfl rfl hlt fun b3 o3 hb => ?_
    refine hb.loadN rfl ?_
    have et : outs (L.take (j + 1)) = outs (L.take j) ++ [L[j].1, L[j].2] := by
      rw [List.take_succ_eq_append_getElem hlt]; unfold outs; rw [List.flatMap_append]; rfl
    generalize L[j] = x at *
    refine s.r_alloc fun t12 h s => ?_
    refine St.r_storeN0 s 0 rfl rfl (by simp) (encA1 _) ?_; intro h s
    have s : St hA [] ((t12, 0, encA x) :: (b, o, (outs (L.take j)).flatMap fI ++ p) :: R) h := s
    refine r_fld ?_
    refine St.r_load0 s 0 rfl rfl ?_
    refine r_fld ?_
    refine St.r_load0 s 0 rfl rfl ?_
    refine St.r_mkSl (sz := 1) (cs := [.int .i64 x.1, .int .i64 x.2]) s (by ((simp only [fillV, fill1, Value.cells, zeros_succ, zeros_zero, List.size_toArray, List.length_cons, List.length_nil, List.length_append, List.take_succ_cons, List.take_zero, List.take_nil, List.drop_succ_cons, List.drop_zero, List.drop_nil, List.cons_append, List.nil_append, List.append_nil, Nat.reduceAdd, Nat.reduceMul, Nat.reduceLeDiff, Nat.reduceEqDiff, and_self, and_true, true_and, if_true, Nat.le_refl, Nat.zero_add, Nat.add_zero, Nat.zero_mul, reduceIte, if_false] <;> rfl))) rfl fun q5 h s wq => ?_
    have hll := outs_len (L.take j)
    rw [List.length_take] at hll
    refine s.r_appL (f := fI) (L := outs (L.take j)) (M := [x.1, x.2]) 2 rfl w rfl (by have := wq.rdl s 0 (by rw [List.append_nil]; rfl); exact this) (fun y _ => by simp [fI, one1]) (by simp only [List.length_cons, List.length_nil]; omega) (by simp only [List.length_cons, List.length_nil]; omega) fun v' b' o' sp' h s w' => ?_
    have s : St hA [] ((q5, 0, [x.1, x.2].flatMap fI) :: (t12, 0, encA x) :: (b', o', (outs (L.take j) ++ [x.1, x.2]).flatMap fI ++ sp') :: R) h := s
    rw [← et] at w' s
    unfold l_maximal.j5
    refine r_add1 (by omega) ?_
    exact HK (L.length - (j + 1)) _ _ (by omega) ⟨j + 1, v', b', o', sp', (q5, 0, [x.1, x.2].flatMap fI) :: (t12, 0, encA x) :: R, rfl, hlt, rfl, w', s.perm (by ((apply perm_rg; intro f; simp only [List.set_cons_zero, List.set_cons_succ, List.eraseIdx_cons_zero, List.eraseIdx_cons_succ, List.cons_append, List.nil_append, List.map_append, List.map_cons, List.map_nil, List.sum_append, List.sum_cons, List.sum_nil, List.map_flatMap, Nat.add_zero, Nat.zero_add]; ac_rfl)))⟩
  · have hge : j = L.length := by have := of_decide_eq_false hge; omega
    subst hge
    rw [List.take_length] at w s
    unfold l_maximal.j2
    exact H v1 _ h s (w.rdl s 0 rfl)
theorem maximal_ok {t : Nat} {P : List Stq → Prop} {J : List It → List Stq → List Rg → Prop} (tc : TapeC h0 Z t P J) {l : List It} {v : Value} {SS : List Stq} (hl : l.length ≤ 2147483647) (hb : ∀ x ∈ l, (0 ≤ x.1 ∧ x.1 ≤ 255) ∧ 0 ≤ x.2 ∧ x.2 ≤ 255) (hr : Rdl 2 h0 v l.length (l.flatMap fp8)) (hSS : SS = mxS l []) (hP : ∀ T, T <+: SS → P T) (hS : SS.length ≤ 1200000000000)
    {A0 : List Rg} (j0 : J [] [] A0) (s0 : St h0 Z (A0 ++ E) h)
    (H : ∀ v' A' F h', J (mxL l []) SS A' → St h0 Z (F ++ (A' ++ E)) h' → Rdl 1 h' v' (outs (mxL l [])).length ((outs (mxL l [])).flatMap fI) → Q v' h') : l_maximal.call #[ptr t 0, v] h Q := by
  refine l_maximal.body _ _ _ _ ?_
  unfold l_maximal.sh
  refine hr.lenV ?_
  refine loop_ghost (fun q st h' => ∃ (j : Nat) (T : List Stq) (A F : List Rg), q = l.length - j ∧ j ≤ l.length ∧ st = [.int .i64 (j : Nat)] ∧ J (mxL (l.take j) []) T A ∧ Bt (mxL (l.take j) []) ∧ St h0 Z (A ++ (F ++ E)) h' ∧ SS = T ++ mxS (l.drop j) (mxL (l.take j) [])) (n0 := l.length)
    ⟨0, [], A0, [], rfl, Nat.zero_le _, rfl, j0, ⟨List.Pairwise.nil, fun y hy => absurd hy List.not_mem_nil⟩, s0, hSS⟩ ?_
  clear s0
  rintro q st h ⟨j, T, A, F, rfl, hj, rfl, jj, b, s, eS⟩ K HK
  unfold l_maximal.l6.b
  refine r_cmpI ?_
  refine r_if (fun hlt => ?_) (fun hge => ?_)
  · have hlt : j < l.length := by have := of_decide_eq_true hlt; omega
    have ed : l.drop j = l[j] :: l.drop (j + 1) := List.drop_eq_getElem_cons hlt
    have et : mxL (l.take (j + 1)) [] = ptL (mxL (l.take j) []) l[j] := by unfold mxL; rw [List.take_succ_eq_append_getElem hlt, List.foldl_append]; rfl
    obtain ⟨hx, hx2⟩ := hb l[j] (List.getElem_mem hlt)
    have b' : Bt (mxL (l.take (j + 1)) []) := by rw [et]; exact ptL_bt b hx
    rw [ed, mxS] at eS
    rw [et] at b'
    have fin : ∀ {T A F h}, J (ptL (mxL (l.take j) []) l[j]) T A → St h0 Z (A ++ (F ++ E)) h → SS = T ++ mxS (l.drop (j + 1)) (ptL (mxL (l.take j) []) l[j]) → l_maximal.j8 (ptr t 0) v (.int .i64 (l.length : Nat)) (.int .i64 (j : Nat)) h K Q := fun {T A F h} j' s' e => by
      unfold l_maximal.j8
      refine r_add1 (by omega) ?_
      exact HK (l.length - (j + 1)) _ _ (by omega) ⟨j + 1, T, A, F, rfl, hlt, rfl, by rw [et]; exact j', by rw [et]; exact b', s', by rw [et]; exact e⟩
    unfold l_maximal.j7
    refine (hr.st s).at (f := fp8) (n := j) rfl (fun _ => rfl) rfl rfl hlt fun b3 o3 hbb => ?_
    generalize l[j] = x at *
    generalize mxL (l.take j) [] = L at *
    have k1 : @LE.le Int _ 0 x.1 := hx.1
    have k2 : @LE.le Int _ x.1 255 := hx.2
    have k3 : @LE.le Int _ 0 x.2 := hx2.1
    have k4 : @LE.le Int _ x.2 255 := hx2.2
    refine hbb.loadN rfl ?_
    refine s.r_alloc fun t6 h s => ?_
    refine St.r_storeN0 s 0 rfl rfl (by simp) (by simp [fp8, one1]) ?_; intro h s
    have s : St h0 Z ((t6, 0, fp8 x) :: (A ++ (F ++ E))) h := s
    refine r_idxA1 (i := 0) rfl (by decide) ?_
    refine St.r_load0 s 0 rfl rfl ?_
    refine r_cvI (z := x.1) (i64w (by omega) (by omega)) ?_
    refine r_idxA1 (i := 1) rfl (by decide) ?_
    refine St.r_load0 s 0 rfl rfl ?_
    refine r_cvI (z := x.2) (i64w (by omega) (by omega)) ?_
    refine r_build (cs := encA x) (by ((simp only [fillV, fill1, Value.cells, zeros_succ, zeros_zero, List.size_toArray, List.length_cons, List.length_nil, List.length_append, List.take_succ_cons, List.take_zero, List.take_nil, List.drop_succ_cons, List.drop_zero, List.drop_nil, List.cons_append, List.nil_append, List.append_nil, Nat.reduceAdd, Nat.reduceMul, Nat.reduceLeDiff, Nat.reduceEqDiff, and_self, and_true, true_and, if_true, Nat.le_refl, Nat.zero_add, Nat.add_zero, Nat.zero_mul, reduceIte, if_false] <;> rfl))) ?_
    refine s.r_alloc fun t7 h s => ?_
    refine St.r_storeN0 s 0 rfl rfl (by simp) (encA1 _) ?_; intro h s
    have s : St h0 Z ((t7, 0, encA x) :: (t6, 0, fp8 x) :: (A ++ (F ++ E))) h := s
    refine St.r_loadN0 s 0 rfl (by simp) ?_
    refine r_build (cs := encQ (aS x)) (by ((simp only [fillV, fill1, Value.cells, zeros_succ, zeros_zero, List.size_toArray, List.length_cons, List.length_nil, List.length_append, List.take_succ_cons, List.take_zero, List.take_nil, List.drop_succ_cons, List.drop_zero, List.drop_nil, List.cons_append, List.nil_append, List.append_nil, Nat.reduceAdd, Nat.reduceMul, Nat.reduceLeDiff, Nat.reduceEqDiff, and_self, and_true, true_and, if_true, Nat.le_refl, Nat.zero_add, Nat.add_zero, Nat.zero_mul, reduceIte, if_false] <;> rfl))) ?_
    have s : St h0 Z (A ++ ((t7, 0, encA x) :: ((t6, 0, fp8 x) :: (F ++ E)))) h := s.perm (by ((apply perm_rg; intro f; simp only [List.set_cons_zero, List.set_cons_succ, List.eraseIdx_cons_zero, List.eraseIdx_cons_succ, List.cons_append, List.nil_append, List.map_append, List.map_cons, List.map_nil, List.sum_append, List.sum_cons, List.sum_nil, List.map_flatMap, Nat.add_zero, Nat.zero_add]; ac_rfl)))
    have hpre : T ++ [aS x] <+: SS := by
      rw [eS]; unfold ptS
      exact ⟨_, by rw [List.append_assoc]; rfl⟩
    have hTl : T.length + 1 ≤ 1200000000000 := by have := hpre.length_le; rw [List.length_append] at this; exact Nat.le_trans this hS
    refine tc.act (x := aS x) jj s (hP _ hpre) (.inr (.inr (.inr (.inl rfl)))) b.1 (by have := b.len; omega) (by omega) fun A' o n vi h' j' s' r => ?_
    have hnx : nxL L (aS x) = L := rfl
    rw [hnx] at j'
    have hv : (repQ (o, n, vi))[4]? = some vi := by cases o <;> rfl
    refine ⟨_, rfl, vi, by rw [List.getElem?_toArray]; exact hv, ?_⟩
    refine r.lenV ?_
    refine r_cmpI ?_
    have go : up L x = false → l_maximal.j9 (ptr t 0) (ptr t7 0) v (.int .i64 (l.length : Nat)) (.int .i64 (j : Nat)) h' K Q := fun hu => by
      have e1 : ptS L x = aS x :: (clS (L.length + 1) L x ++ [(0, x.1, x.2, 0)]) := by unfold ptS; rw [hu]; rfl
      have e2 : ptL L x = lput lt (clL (L.length + 1) L x) x := by unfold ptL; rw [hu]; rfl
      rw [e1, e2] at eS
      refine clear_ok (s13 := v) (E := (t6, 0, fp8 x) :: (F ++ E)) tc (x := x) (SS := SS) hP hS (L0 := L) (T0 := T ++ [aS x]) (rest := mxS (l.drop (j + 1))) b hx (by rw [eS]; simp only [List.append_assoc, List.cons_append, List.nil_append]) j' s' fun A2 h2 j2 s2 => ?_
      refine fin (F := (t7, 0, encA x) :: (t6, 0, fp8 x) :: F) (by rw [e2]; exact j2) s2 (by rw [eS, e2]; simp only [List.append_assoc, List.cons_append, List.nil_append])
    cases hd : rpI L (aS x) with
    | nil =>
      have hu : up L x = false := by unfold up; rw [hd]
      refine r_br (fun e => absurd e (by simp)) (fun _ => ?_)
      exact go hu
    | cons y rr =>
      rw [hd] at r
      refine r_br (fun _ => ?_) (fun e => absurd e (by simp))
      refine r.at (f := encA) (l := y :: rr) (n := 0) rfl encAl rfl rfl (by simp) fun b3 o3 hb3 => ?_
      refine r_fld ?_
      refine hb3.load (j := 1) rfl ?_
      refine r_fld ?_
      have s2 : St h0 Z ((t7, 0, encA x) :: (((t6, 0, fp8 x) :: (F ++ E)) ++ A')) h' := s'.perm (List.perm_append_comm (l₁ := (t7, 0, encA x) :: ((t6, 0, fp8 x) :: (F ++ E))) (l₂ := A'))
      refine St.r_load0 s2 0 rfl rfl ?_
      refine r_cmpI ?_
      refine r_if (fun e => ?_) (fun e => ?_)
      · have e : y.2 ≥ x.2 := of_decide_eq_true e
        have hu : up L x = true := by unfold up; rw [hd]; exact decide_eq_true e
        have e1 : ptS L x = [aS x] := by unfold ptS; rw [hu]; rfl
        have e2 : ptL L x = L := by unfold ptL; rw [hu]; rfl
        rw [e1, e2] at eS
        exact fin (F := (t7, 0, encA x) :: (t6, 0, fp8 x) :: F) (by rw [e2]; exact j') s' (by rw [eS, e2]; simp only [List.append_assoc])
      · have e : ¬ y.2 ≥ x.2 := of_decide_eq_false e
        exact go (by unfold up; rw [hd]; exact decide_eq_false e)
  · have hge : j = l.length := by have := of_decide_eq_false hge; omega
    subst hge
    rw [List.drop_length, mxS] at eS
    rw [List.take_length] at jj b
    unfold l_maximal.j1
    refine r_build (cs := encQ (13, 0, 0, 0)) (by ((simp only [fillV, fill1, Value.cells, zeros_succ, zeros_zero, List.size_toArray, List.length_cons, List.length_nil, List.length_append, List.take_succ_cons, List.take_zero, List.take_nil, List.drop_succ_cons, List.drop_zero, List.drop_nil, List.cons_append, List.nil_append, List.append_nil, Nat.reduceAdd, Nat.reduceMul, Nat.reduceLeDiff, Nat.reduceEqDiff, and_self, and_true, true_and, if_true, Nat.le_refl, Nat.zero_add, Nat.add_zero, Nat.zero_mul, reduceIte, if_false] <;> rfl))) ?_
    have hTl : T.length + 1 ≤ 1200000000000 := by have := hS; rw [eS, List.length_append] at this; exact this
    refine tc.act (x := (13, 0, 0, 0)) jj s (hP _ (by rw [eS]; exact List.prefix_rfl)) (.inr (.inr (.inl rfl))) b.1 (by have := b.len; omega) (by omega) fun A' o n vi h' j' s' r => ?_
    have hv : (repQ (o, n, vi))[4]? = some vi := by cases o <;> rfl
    refine ⟨_, rfl, vi, by rw [List.getElem?_toArray]; exact hv, ?_⟩
    have r : Rdl 2 h' vi (mxL l []).length ((mxL l []).flatMap encA) := r
    refine r.lenV ?_
    refine outL_ok r (by have := b.len; omega) fun v' E2 h2 s2 r2 => ?_
    have j' : J (mxL l []) SS A' := by rw [eS]; exact j'
    exact H v' A' (E2 ++ F) h2 j' ((s'.join s2).perm (by ((apply perm_rg; intro f; simp only [List.set_cons_zero, List.set_cons_succ, List.eraseIdx_cons_zero, List.eraseIdx_cons_succ, List.cons_append, List.nil_append, List.map_append, List.map_cons, List.map_nil, List.sum_append, List.sum_cons, List.sum_nil, List.map_flatMap, Nat.add_zero, Nat.zero_add]; ac_rfl)))) r2
end Go.Proofs.Ytkkappjbcgnacaa.Ii
end
section
namespace Go.Proofs.Ytkkappjbcgnacaa.Ii
open Go.Hp Go.Proofs.Ytkkappjbcgnacaa
set_option linter.unusedVariables false
set_option linter.unusedSimpArgs false
variable {h0 h : Heap} {Z E : List Rg} {Q : Value → Heap → Prop}

/-- The greatest second coordinate at x, or -1; -1 once a point further on is not below it. -/
def mxAt (l : List It) (x : Int) : Int := l.foldl (fun y p => if p.1 = x then max y p.2 else y) (-1)
def mxFin (l : List It) (x y0 : Int) : Int := l.foldl (fun y p => if p.1 > x ∧ p.2 ≥ y then -1 else y) y0
def mxOf (l : List It) (x : Int) : Int := mxFin l x (mxAt l x)
def sMx (l : List It) (n : Nat) : List Int := (List.range n).flatMap fun (x : Nat) => if mxOf l (x : Nat) ≥ 0 then [((x : Nat) : Int), mxOf l (x : Nat)] else []
def Bs (l : List It) : Prop := ∀ x ∈ l, (0 ≤ x.1 ∧ x.1 ≤ 255) ∧ 0 ≤ x.2 ∧ x.2 ≤ 255
theorem mxAt_snoc (l : List It) (x : Int) (p : It) : mxAt (l ++ [p]) x = if p.1 = x then max (mxAt l x) p.2 else mxAt l x := by unfold mxAt; rw [List.foldl_append]; rfl
theorem mxFin_snoc (l : List It) (x y0 : Int) (p : It) : mxFin (l ++ [p]) x y0 = if p.1 > x ∧ p.2 ≥ mxFin l x y0 then -1 else mxFin l x y0 := by unfold mxFin; rw [List.foldl_append]; rfl
theorem sMx_succ (l : List It) (n : Nat) : sMx l (n + 1) = sMx l n ++ if mxOf l n ≥ 0 then [(n : Int), mxOf l n] else [] := by
  unfold sMx; rw [List.range_succ, List.flatMap_append]; simp
theorem sMx_len (l : List It) : ∀ n, (sMx l n).length ≤ 2 * n
  | 0 => Nat.le_refl _
  | n + 1 => by
    have := sMx_len l n
    rw [sMx_succ, List.length_append]
    split
    · simp only [List.length_cons, List.length_nil]; omega
    · simp only [List.length_nil]; omega
theorem s_Maximal_ok {hB : Heap} {l : List It} {v : Value} (hb : Bs l) (hl : l.length ≤ 2147483647) (hr : Rdl 2 hB v l.length (l.flatMap fp8)) (H : ∀ v' E' h', St hB [] E' h' → Rdl 1 h' v' (sMx l 256).length ((sMx l 256).flatMap fI) → Q v' h') : s_Maximal.call #[v] hB Q := by
  refine s_Maximal.body _ _ _ ?_
  unfold s_Maximal.sh
  obtain ⟨N, hN⟩ : ∃ N : Nat, N = 256 := ⟨256, rfl⟩
  have s := (St.start hB).empty 0 0
  refine loop_ghost (fun q st h' => ∃ (x : Nat) (v1 : Value) (b o : Nat) (p : List Value) (R : List Rg), q = N - x ∧ x ≤ N ∧ st = [v1, .int .i64 (x : Nat)] ∧ Own 1 v1 (sMx l x).length b o ((sMx l x).flatMap fI) p ∧ St hB [] ((b, o, (sMx l x).flatMap fI ++ p) :: R) h') (n0 := N)
    ⟨0, .slice none 0 0, 0, 0, [], [], rfl, Nat.zero_le _, rfl, Own.nil 1 0 0, s⟩ ?_
  clear s
  rintro q st h ⟨x, v1, b, o, p, R, rfl, hx, rfl, w, s⟩ K1 HK1
  unfold s_Maximal.l2.b
  refine r_cmpI ?_
  refine r_if (fun hlt => ?_) (fun hge => ?_)
  · have hlt : x < N := by have : ((x : Nat) : Int) < 256 := of_decide_eq_true hlt; omega
    unfold s_Maximal.j3
    refine hr.lenV ?_
    refine loop_ghost (fun q st h' => ∃ (i : Nat) (R : List Rg), q = l.length - i ∧ i ≤ l.length ∧ st = [.int .i64 (mxAt (l.take i) x), .int .i64 (i : Nat)] ∧ (-1 ≤ mxAt (l.take i) x ∧ mxAt (l.take i) x ≤ 255) ∧ St hB [] ((b, o, (sMx l x).flatMap fI ++ p) :: R) h') (n0 := l.length) ⟨0, R, rfl, Nat.zero_le _, rfl, ⟨Int.le_refl _, by show (-1 : Int) ≤ 255; decide⟩, s⟩ ?_
    clear s
    rintro q st h ⟨i, R, rfl, hi, rfl, hy, s⟩ K2 HK2
    unfold s_Maximal.l10.b
    refine r_cmpI ?_
    refine r_if (fun hlt2 => ?_) (fun hge2 => ?_)
    · have hlt2 : i < l.length := by have := of_decide_eq_true hlt2; omega
      unfold s_Maximal.j11
      refine (hr.st s).at (f := fp8) (n := i) rfl (fun _ => rfl) rfl rfl hlt2 fun b3 o3 hbb => ?_
      obtain ⟨hx1, hx2⟩ := hb l[i] (List.getElem_mem hlt2)
      have et : mxAt (l.take (i + 1)) x = if l[i].1 = (x : Int) then max (mxAt (l.take i) x) l[i].2 else mxAt (l.take i) x := by rw [List.take_succ_eq_append_getElem hlt2, mxAt_snoc]
      generalize l[i] = z at *
      have k1 : @LE.le Int _ 0 z.1 := hx1.1
      have k2 : @LE.le Int _ z.1 255 := hx1.2
      have k3 : @LE.le Int _ 0 z.2 := hx2.1
      have k4 : @LE.le Int _ z.2 255 := hx2.2
      refine hbb.loadN rfl ?_
      refine s.r_alloc fun t7 h s => ?_
      refine St.r_storeN0 s 0 rfl rfl (by simp) (by simp [fp8, one1]) ?_; intro h s
      have s : St hB [] ((t7, 0, fp8 z) :: (b, o, (sMx l x).flatMap fI ++ p) :: R) h := s
      have fin : ∀ {y : Int}, y = mxAt (l.take (i + 1)) x → (-1 ≤ y ∧ y ≤ 255) → s_Maximal.j12 v v1 (.int .i64 (x : Nat)) (.int .i64 y) (.int .i64 (x : Nat)) v (.int .i64 (l.length : Nat)) (.int .i64 (i : Nat)) h K1 K2 Q := fun {y} e hy => by
        unfold s_Maximal.j12
        refine r_add1 (by omega) ?_
        subst e
        exact HK2 (l.length - (i + 1)) _ _ (by omega) ⟨i + 1, (t7, 0, fp8 z) :: R, rfl, hlt2, rfl, hy, s.perm (by ((apply perm_rg; intro f; simp only [List.set_cons_zero, List.set_cons_succ, List.eraseIdx_cons_zero, List.eraseIdx_cons_succ, List.cons_append, List.nil_append, List.map_append, List.map_cons, List.map_nil, List.sum_append, List.sum_cons, List.sum_nil, List.map_flatMap, Nat.add_zero, Nat.zero_add]; ac_rfl)))⟩
      refine r_idxA1 (i := 0) rfl (by decide) ?_
      refine St.r_load0 s 0 rfl rfl ?_
      refine r_cvI (z := z.1) (i64w (by omega) (by omega)) ?_
      refine r_cmpI ?_
      refine r_if (fun e => ?_) (fun e => ?_)
      · have e : z.1 = (x : Int) := by simpa using e
        rw [if_pos e] at et
        refine r_idxA1 (i := 1) rfl (by decide) ?_
        refine St.r_load0 s 0 rfl rfl ?_
        refine r_cvI (z := z.2) (i64w (by omega) (by omega)) ?_
        refine r_maxI ?_
        exact fin et.symm (by omega)
      · have e : ¬ z.1 = (x : Int) := by simpa using e
        rw [if_neg e] at et
        exact fin et.symm hy
    · have hge2 : i = l.length := by have := of_decide_eq_false hge2; omega
      subst hge2
      rw [List.take_length] at hy ⊢
      unfold s_Maximal.j5
      refine hr.lenV ?_
      refine loop_ghost (fun q st h' => ∃ (i : Nat) (R : List Rg), q = l.length - i ∧ i ≤ l.length ∧ st = [.int .i64 (mxFin (l.take i) x (mxAt l x)), .int .i64 (i : Nat)] ∧ (-1 ≤ mxFin (l.take i) x (mxAt l x) ∧ mxFin (l.take i) x (mxAt l x) ≤ 255) ∧ St hB [] ((b, o, (sMx l x).flatMap fI ++ p) :: R) h') (n0 := l.length) ⟨0, R, rfl, Nat.zero_le _, rfl, hy, s⟩ ?_
      clear s hy
      rintro q st h ⟨i, R, rfl, hi, rfl, hy, s⟩ K2 HK2
      unfold s_Maximal.l7.b
      refine r_cmpI ?_
      refine r_if (fun hlt2 => ?_) (fun hge2 => ?_)
      · have hlt2 : i < l.length := by have := of_decide_eq_true hlt2; omega
        unfold s_Maximal.j8
        refine (hr.st s).at (f := fp8) (n := i) rfl (fun _ => rfl) rfl rfl hlt2 fun b3 o3 hbb => ?_
        obtain ⟨hx1, hx2⟩ := hb l[i] (List.getElem_mem hlt2)
        have et : mxFin (l.take (i + 1)) x (mxAt l x) = if l[i].1 > (x : Int) ∧ l[i].2 ≥ mxFin (l.take i) x (mxAt l x) then -1 else mxFin (l.take i) x (mxAt l x) := by rw [List.take_succ_eq_append_getElem hlt2, mxFin_snoc]
        generalize l[i] = z at *
        have k1 : @LE.le Int _ 0 z.1 := hx1.1
        have k2 : @LE.le Int _ z.1 255 := hx1.2
        have k3 : @LE.le Int _ 0 z.2 := hx2.1
        have k4 : @LE.le Int _ z.2 255 := hx2.2
        refine hbb.loadN rfl ?_
        refine s.r_alloc fun t7 h s => ?_
        refine St.r_storeN0 s 0 rfl rfl (by simp) (by simp [fp8, one1]) ?_; intro h s
        have s : St hB [] ((t7, 0, fp8 z) :: (b, o, (sMx l x).flatMap fI ++ p) :: R) h := s
        have fin : ∀ {y : Int}, y = mxFin (l.take (i + 1)) x (mxAt l x) → (-1 ≤ y ∧ y ≤ 255) → s_Maximal.j9 v v1 (.int .i64 (x : Nat)) (.int .i64 y) (.int .i64 (x : Nat)) v (.int .i64 (l.length : Nat)) (.int .i64 (i : Nat)) h K1 K2 Q := fun {y} e hy => by
          unfold s_Maximal.j9
          refine r_add1 (by omega) ?_
          subst e
          exact HK2 (l.length - (i + 1)) _ _ (by omega) ⟨i + 1, (t7, 0, fp8 z) :: R, rfl, hlt2, rfl, hy, s.perm (by ((apply perm_rg; intro f; simp only [List.set_cons_zero, List.set_cons_succ, List.eraseIdx_cons_zero, List.eraseIdx_cons_succ, List.cons_append, List.nil_append, List.map_append, List.map_cons, List.map_nil, List.sum_append, List.sum_cons, List.sum_nil, List.map_flatMap, Nat.add_zero, Nat.zero_add]; ac_rfl)))⟩
        refine r_idxA1 (i := 0) rfl (by decide) ?_
        refine St.r_load0 s 0 rfl rfl ?_
        refine r_cvI (z := z.1) (i64w (by omega) (by omega)) ?_
        refine r_cmpI ?_
        refine r_br (fun e => ?_) (fun e => ?_)
        · have e : z.1 > (x : Int) := of_decide_eq_true e
          refine r_idxA1 (i := 1) rfl (by decide) ?_
          refine St.r_load0 s 0 rfl rfl ?_
          refine r_cvI (z := z.2) (i64w (by omega) (by omega)) ?_
          refine r_cmpI ?_
          refine r_if (fun e2 => ?_) (fun e2 => ?_)
          · have e2 : z.2 ≥ mxFin (l.take i) x (mxAt l x) := of_decide_eq_true e2
            rw [if_pos ⟨e, e2⟩] at et
            exact fin et.symm (by decide)
          · have e2 : ¬ z.2 ≥ mxFin (l.take i) x (mxAt l x) := of_decide_eq_false e2
            rw [if_neg (fun h => e2 h.2)] at et
            exact fin et.symm hy
        · have e : ¬ z.1 > (x : Int) := of_decide_eq_false e
          rw [if_neg (fun h => e h.1)] at et
          exact fin et.symm hy
      · have hge2 : i = l.length := by have := of_decide_eq_false hge2; omega
        subst hge2
        rw [List.take_length] at hy ⊢
        have em : mxFin l x (mxAt l x) = mxOf l x := rfl
        rw [em] at hy ⊢
        have es := sMx_succ l x
        have hle := sMx_len l x
        unfold s_Maximal.j6
        refine r_cmpI ?_
        refine r_if (fun e => ?_) (fun e => ?_)
        · have e : mxOf l x ≥ 0 := of_decide_eq_true e
          rw [if_pos e] at es
          refine St.r_mkSl (sz := 1) (cs := [.int .i64 (x : Nat), .int .i64 (mxOf l x)]) s (by ((simp only [fillV, fill1, Value.cells, zeros_succ, zeros_zero, List.size_toArray, List.length_cons, List.length_nil, List.length_append, List.take_succ_cons, List.take_zero, List.take_nil, List.drop_succ_cons, List.drop_zero, List.drop_nil, List.cons_append, List.nil_append, List.append_nil, Nat.reduceAdd, Nat.reduceMul, Nat.reduceLeDiff, Nat.reduceEqDiff, and_self, and_true, true_and, if_true, Nat.le_refl, Nat.zero_add, Nat.add_zero, Nat.zero_mul, reduceIte, if_false] <;> rfl))) rfl fun q5 h s wq => ?_
          refine s.r_appL (f := fI) (L := sMx l x) (M := [(x : Int), mxOf l x]) 1 rfl w rfl (by have := wq.rdl s 0 (by rw [List.append_nil]; rfl); exact this) (fun y _ => by simp [fI, one1]) (by simp only [List.length_cons, List.length_nil]; omega) (by simp only [List.length_cons, List.length_nil]; omega) fun v' b' o' sp' h s w' => ?_
          have s : St hB [] ((q5, 0, [.int .i64 (x : Nat), .int .i64 (mxOf l x)]) :: (b', o', (sMx l x ++ [(x : Int), mxOf l x]).flatMap fI ++ sp') :: R) h := s
          rw [← es] at w' s
          unfold s_Maximal.j4
          refine r_add1 (by omega) ?_
          exact HK1 (N - (x + 1)) _ _ (by omega) ⟨x + 1, v', b', o', sp', (q5, 0, [.int .i64 (x : Nat), .int .i64 (mxOf l x)]) :: R, rfl, hlt, rfl, w', s.perm (by ((apply perm_rg; intro f; simp only [List.set_cons_zero, List.set_cons_succ, List.eraseIdx_cons_zero, List.eraseIdx_cons_succ, List.cons_append, List.nil_append, List.map_append, List.map_cons, List.map_nil, List.sum_append, List.sum_cons, List.sum_nil, List.map_flatMap, Nat.add_zero, Nat.zero_add]; ac_rfl)))⟩
        · have e : ¬ mxOf l x ≥ 0 := of_decide_eq_false e
          rw [if_neg e, List.append_nil] at es
          unfold s_Maximal.j4
          refine r_add1 (by omega) ?_
          exact HK1 (N - (x + 1)) _ _ (by omega) ⟨x + 1, v1, b, o, p, R, rfl, hlt, rfl, by rw [es]; exact w, by rw [es]; exact s⟩
  · have hge : x = 256 := by have : ¬ ((x : Nat) : Int) < 256 := of_decide_eq_false hge; omega
    subst hge
    unfold s_Maximal.j1
    exact H v1 _ h s (w.rdl s 0 rfl)
end Go.Proofs.Ytkkappjbcgnacaa.Ii
end
section
namespace Go.Proofs.Ytkkappjbcgnacaa.Ii
open Go.Hp Go.Proofs.Ytkkappjbcgnacaa
set_option linter.unusedVariables false
set_option linter.unusedSimpArgs false

theorem first1 (l : List KI) : firstN l 1 = l.head?.toList := by
  unfold firstN
  cases l with
  | nil => rfl
  | cons a r =>
    rw [if_neg (by simp; omega)]
    rfl
theorem dn_eq (L : List KI) (x : KI) : rpI L (dS x) = ((L.filter fun z => !ltK (x.1, 0) z).reverse).head?.toList := by
  rw [← first1]; rfl
theorem up_eq (L : List KI) (x : KI) : rpI L (aS x) = (L.drop (pos ltK L (x.1, 0))).head?.toList := by
  rw [← first1]; rfl
theorem head_some {l : List KI} {y : KI} {r : List KI} (h : l.head?.toList = y :: r) : ∃ s, l = y :: s := by
  cases l with
  | nil => cases h
  | cons a s =>
    have h : [a] = y :: r := h
    cases h; exact ⟨s, rfl⟩
theorem head_nil {l : List KI} (h : l.head?.toList = []) : l = [] := by
  cases l with
  | nil => rfl
  | cons a s => cases h
theorem dn_nil {L : List KI} {x : KI} (h : rpI L (dS x) = []) : ∀ z ∈ L, x.1 < z.1 := fun z hz => by
  rw [dn_eq] at h
  have h := List.reverse_eq_nil_iff.1 (head_nil h)
  have h2 := List.filter_eq_nil_iff.1 h z hz
  have h3 : ltK (x.1, 0) z = true := by simpa using h2
  exact ltK_t.1 h3
theorem dn_cons {L : List KI} {x y : KI} {r : List KI} (ha : Go.Hp.Asc ltK L) (h : rpI L (dS x) = y :: r) : y ∈ L ∧ y.1 ≤ x.1 ∧ ∀ z ∈ L, z.1 ≤ x.1 → z.1 ≤ y.1 := by
  rw [dn_eq] at h
  obtain ⟨s, e⟩ := head_some h
  have hm : ∀ z, z ∈ y :: s ↔ z ∈ L ∧ z.1 ≤ x.1 := fun z => by
    rw [← e, List.mem_reverse, List.mem_filter]
    constructor
    · rintro ⟨h1, h2⟩
      have h3 : ltK (x.1, 0) z = false := by simpa using h2
      exact ⟨h1, ltK_f.1 h3⟩
    · rintro ⟨h1, h2⟩
      have h3 : ltK (x.1, 0) z = false := ltK_f.2 h2
      exact ⟨h1, by rw [h3]; rfl⟩
  have hy := (hm y).1 (List.mem_cons_self ..)
  refine ⟨hy.1, hy.2, fun z hz hzx => ?_⟩
  have hp : (L.filter fun z => !ltK (x.1, 0) z).Pairwise fun a b => ltK a b = true := ha.sublist List.filter_sublist
  have hp2 := List.pairwise_reverse.2 hp
  rw [e] at hp2
  rcases List.mem_cons.1 ((hm z).2 ⟨hz, hzx⟩) with rfl | hz
  · exact Int.le_refl _
  · have := ltK_t.1 ((List.pairwise_cons.1 hp2).1 z hz); omega
theorem up_nil {L : List KI} {x : KI} (ha : Go.Hp.Asc ltK L) (h : rpI L (aS x) = []) : ∀ z ∈ L, z.1 < x.1 := fun z hz => by
  rw [up_eq] at h
  obtain ⟨h1, h2⟩ := asc_pos (x := ((x.1, 0) : KI)) swoK ha
  have e := List.take_append_drop (pos ltK L (x.1, 0)) L
  rw [head_nil h, List.append_nil] at e
  rw [← e] at hz
  exact ltK_t.1 (h1 z hz)
theorem up_cons {L : List KI} {x y : KI} {r : List KI} (ha : Go.Hp.Asc ltK L) (h : rpI L (aS x) = y :: r) : y ∈ L ∧ x.1 ≤ y.1 ∧ ∀ z ∈ L, x.1 ≤ z.1 → y.1 ≤ z.1 := by
  rw [up_eq] at h
  obtain ⟨s, e⟩ := head_some h
  obtain ⟨h1, h2⟩ := asc_pos (x := ((x.1, 0) : KI)) swoK ha
  rw [e] at h2
  have e2 := List.take_append_drop (pos ltK L (x.1, 0)) L
  rw [e] at e2
  have hs : Go.Hp.Asc ltK (y :: s) := by rw [← e]; exact ha.sublist (List.drop_sublist ..)
  refine ⟨by rw [← e2]; exact List.mem_append.2 (.inr (List.mem_cons_self ..)), ltK_f.1 (h2 y (List.mem_cons_self ..)), fun z hz hzx => ?_⟩
  rw [← e2] at hz
  rcases List.mem_append.1 hz with hz | hz
  · have : z.1 < x.1 := ltK_t.1 (h1 z hz); omega
  · rcases List.mem_cons.1 hz with rfl | hz
    · exact Int.le_refl _
    · have := ltK_t.1 ((List.pairwise_cons.1 hs).1 z hz); omega
theorem asc_key {L : List KI} (ha : Go.Hp.Asc ltK L) {y z : KI} (hy : y ∈ L) (hz : z ∈ L) (e : y.1 = z.1) : y = z := by
  obtain ⟨p, s, rfl, h1, h2⟩ := ascK_split ha hy
  rcases List.mem_append.1 hz with h | h
  · have := h1 z h; omega
  · rcases List.mem_cons.1 h with h | h
    · exact h.symm
    · have := h2 z h; omega
def Stair (L : List KI) : Prop := ∀ y ∈ L, ∀ z ∈ L, y.1 < z.1 → z.2 < y.2
theorem clL_mem : ∀ (n : Nat) {L : List KI} (x : KI), Go.Hp.Asc ltK L → Stair L → L.length < n → ∀ z : KI, z ∈ clL n L x ↔ z ∈ L ∧ ¬ (z.1 ≤ x.1 ∧ z.2 ≤ x.2)
  | 0, _, _, _, _, h => absurd h (Nat.not_lt_zero _)
  | n + 1, L, x, ha, hs, hl => fun z => by
    rw [clL]
    cases hd : rpI L (dS x) with
    | nil =>
      have h := dn_nil hd
      exact ⟨fun hz => ⟨hz, fun hh => by have := h z hz; omega⟩, fun hz => hz.1⟩
    | cons y r =>
      obtain ⟨hy, hyx, hym⟩ := dn_cons ha hd
      simp only
      by_cases hc : @LT.lt Int _ x.2 y.2
      · have hc' : (if x.2 < y.2 then L else clL n (ldel lt L (y.1, 0)) x) = L := if_pos hc
        rw [hc']
        refine ⟨fun hz => ⟨hz, fun hh => ?_⟩, fun hz => hz.1⟩
        have h1 := hym z hz hh.1
        by_cases he : z.1 = y.1
        · have := asc_key ha hz hy he; subst this; omega
        · have := hs z hz y hy (by omega); omega
      · have hc' : (if x.2 < y.2 then L else clL n (ldel lt L (y.1, 0)) x) = clL n (ldel lt L (y.1, 0)) x := if_neg hc
        rw [hc']
        have hdl : (ldel lt L (y.1, 0)).length + 1 ≤ L.length := del_len hy ha
        have ha2 : Go.Hp.Asc ltK (ldel ltK L (y.1, 0)) := ldelK_asc ha
        have hs2 : Stair (ldel ltK L (y.1, 0)) := fun a h1 b h2 => hs a ((ldel_sub _ _).subset h1) b ((ldel_sub _ _).subset h2)
        have key := clL_mem n x ha2 hs2 (by
          have h9 : (ldel ltK L (y.1, 0)).length + 1 ≤ L.length := hdl
          omega) z
        refine key.trans ?_
        rw [mem_ldelK (x := ((y.1, 0) : KI)) ha]
        constructor
        · rintro ⟨⟨h1, h2⟩, h3⟩; exact ⟨h1, h3⟩
        · rintro ⟨h1, h3⟩
          refine ⟨⟨h1, fun he => ?_⟩, h3⟩
          have he : z.1 = y.1 := he
          have := asc_key ha h1 hy he
          subst this
          exact h3 ⟨hyx, by omega⟩
structure MI (l L : List KI) : Prop where
  asc : Go.Hp.Asc ltK L
  sub : ∀ y ∈ L, y ∈ l
  dom : ∀ p ∈ l, ∃ y ∈ L, p.1 ≤ y.1 ∧ p.2 ≤ y.2
  st : Stair L
theorem MI.step {l L : List KI} {x : KI} (I : MI l L) : MI (l ++ [x]) (ptL L x) := by
  obtain ⟨ha, hsub, hdom, hst⟩ := I
  unfold ptL
  by_cases hu : up L x = true
  · rw [if_pos hu]
    refine ⟨ha, fun y hy => List.mem_append.2 (.inl (hsub y hy)), fun p hp => ?_, hst⟩
    rcases List.mem_append.1 hp with hp | hp
    · exact hdom p hp
    · rw [List.mem_singleton] at hp; subst hp
      unfold up at hu
      cases hd : rpI L (aS p) with
      | nil => rw [hd] at hu; exact absurd hu (by simp)
      | cons y r =>
        rw [hd] at hu
        obtain ⟨hy, h1, _⟩ := up_cons ha hd
        exact ⟨y, hy, h1, of_decide_eq_true hu⟩
  · rw [if_neg hu]
    have hno : ∀ z ∈ L, x.1 ≤ z.1 → z.2 < x.2 := fun z hz hzx => by
      unfold up at hu
      cases hd : rpI L (aS x) with
      | nil => have := up_nil ha hd z hz; omega
      | cons y r =>
        rw [hd] at hu
        obtain ⟨hy, h1, h2⟩ := up_cons ha hd
        have h3 : ¬ @LE.le Int _ x.2 y.2 := fun h => hu (decide_eq_true h)
        have h4 := h2 z hz hzx
        by_cases he : @Eq Int y.1 z.1
        · have := asc_key ha hy hz he; subst this; omega
        · have := hst y hy z hz (by omega); omega
    have hcl := clL_mem (L.length + 1) x ha hst (Nat.lt_succ_self _)
    have hac : Go.Hp.Asc ltK (clL (L.length + 1) L x) := by
      have : ∀ (n : Nat) {L : List KI}, Go.Hp.Asc ltK L → Go.Hp.Asc ltK (clL n L x) := by
        intro n
        induction n with
        | zero => intro L h; exact h
        | succ n ih =>
          intro L h
          rw [clL]
          split
          · split
            · exact h
            · exact ih (ldelK_asc h)
          · exact h
      exact this _ ha
    have hm : ∀ z : KI, z ∈ lput ltK (clL (L.length + 1) L x) x ↔ z = x ∨ (z ∈ L ∧ ¬ (z.1 ≤ x.1 ∧ z.2 ≤ x.2)) := fun z => by
      rw [mem_lputK hac]
      refine or_congr Iff.rfl ?_
      rw [hcl z]
      constructor
      · rintro ⟨h, _⟩; exact h
      · rintro ⟨h1, h2⟩
        refine ⟨⟨h1, h2⟩, fun he => ?_⟩
        have := hno z h1 (by omega)
        exact h2 ⟨by omega, by omega⟩
    show MI (l ++ [x]) (lput ltK (clL (L.length + 1) L x) x)
    refine ⟨lputK_asc hac, fun y hy => ?_, fun p hp => ?_, fun y hy z hz hlt => ?_⟩
    · rcases (hm y).1 hy with rfl | ⟨h, _⟩
      · exact List.mem_append.2 (.inr (List.mem_singleton.2 rfl))
      · exact List.mem_append.2 (.inl (hsub y h))
    · rcases List.mem_append.1 hp with hp | hp
      · obtain ⟨y, hy, h1, h2⟩ := hdom p hp
        by_cases hc : y.1 ≤ x.1 ∧ y.2 ≤ x.2
        · exact ⟨x, (hm x).2 (.inl rfl), by omega, by omega⟩
        · exact ⟨y, (hm y).2 (.inr ⟨hy, hc⟩), h1, h2⟩
      · rw [List.mem_singleton] at hp; subst hp
        exact ⟨p, (hm p).2 (.inl rfl), Int.le_refl _, Int.le_refl _⟩
    · rcases (hm y).1 hy with rfl | ⟨hy, hyn⟩
      · rcases (hm z).1 hz with rfl | ⟨hz, hzn⟩
        · omega
        · exact hno z hz (by omega)
      · rcases (hm z).1 hz with rfl | ⟨hz, hzn⟩
        · have : ¬ (y.1 ≤ z.1 ∧ y.2 ≤ z.2) := hyn
          omega
        · exact hst y hy z hz hlt
theorem MI.run (l : List KI) : MI l (mxL l []) := by
  have : ∀ (r p L : List KI), MI p L → MI (p ++ r) (mxL r L) := by
    intro r
    induction r with
    | nil => intro p L I; rw [List.append_nil]; exact I
    | cons x r ih =>
      intro p L I
      have := ih (p ++ [x]) (ptL L x) I.step
      rw [List.append_assoc] at this
      exact this
  have h := this l [] [] ⟨List.Pairwise.nil, fun y hy => absurd hy List.not_mem_nil, fun p hp => absurd hp List.not_mem_nil, fun y hy => absurd hy List.not_mem_nil⟩
  rwa [List.nil_append] at h
end Go.Proofs.Ytkkappjbcgnacaa.Ii
end
section
namespace Go.Proofs.Ytkkappjbcgnacaa.Ii
open Go.Hp Go.Proofs.Ytkkappjbcgnacaa
set_option linter.unusedVariables false
set_option linter.unusedSimpArgs false

theorem mxFin_cons (p : KI) (l : List KI) (x y : Int) : mxFin (p :: l) x y = mxFin l x (if p.1 > x ∧ p.2 ≥ y then -1 else y) := rfl
theorem mxFin_m1 : ∀ (l : List KI) (x : Int), mxFin l x (-1) = -1
  | [], _ => rfl
  | p :: l, x => by
    rw [mxFin_cons]
    have : (if p.1 > x ∧ p.2 ≥ (-1 : Int) then (-1 : Int) else -1) = -1 := by split <;> rfl
    rw [this]; exact mxFin_m1 l x
theorem mxFin_no : ∀ (l : List KI) (x y : Int), (∀ p ∈ l, ¬ (p.1 > x ∧ p.2 ≥ y)) → mxFin l x y = y
  | [], _, _, _ => rfl
  | p :: l, x, y, h => by
    rw [mxFin_cons, if_neg (h p (List.mem_cons_self ..))]
    exact mxFin_no l x y fun q hq => h q (List.mem_cons_of_mem _ hq)
theorem mxFin_yes : ∀ (l : List KI) (x y : Int), (∃ p ∈ l, p.1 > x ∧ p.2 ≥ y) → mxFin l x y = -1
  | [], _, _, h => by obtain ⟨p, hp, _⟩ := h; exact absurd hp List.not_mem_nil
  | q :: l, x, y, h => by
    rw [mxFin_cons]
    by_cases hq : q.1 > x ∧ q.2 ≥ y
    · rw [if_pos hq]; exact mxFin_m1 l x
    · rw [if_neg hq]
      obtain ⟨p, hp, h⟩ := h
      rcases List.mem_cons.1 hp with rfl | hp
      · exact absurd h hq
      · exact mxFin_yes l x y ⟨p, hp, h⟩
theorem mxAt_spec : ∀ (l : List KI) (x y0 : Int), y0 ≤ l.foldl (fun y p => if p.1 = x then max y p.2 else y) y0 ∧ (∀ p ∈ l, p.1 = x → p.2 ≤ l.foldl (fun y p => if p.1 = x then max y p.2 else y) y0) ∧
    (l.foldl (fun y p => if p.1 = x then max y p.2 else y) y0 = y0 ∨ ∃ p ∈ l, p.1 = x ∧ p.2 = l.foldl (fun y p => if p.1 = x then max y p.2 else y) y0)
  | [], _, _ => ⟨Int.le_refl _, fun p hp => absurd hp List.not_mem_nil, .inl rfl⟩
  | q :: l, x, y0 => by
    obtain ⟨h1, h2, h3⟩ := mxAt_spec l x (if q.1 = x then max y0 q.2 else y0)
    show y0 ≤ l.foldl _ (if q.1 = x then max y0 q.2 else y0) ∧ (∀ p ∈ q :: l, p.1 = x → p.2 ≤ l.foldl _ (if q.1 = x then max y0 q.2 else y0)) ∧ (l.foldl _ (if q.1 = x then max y0 q.2 else y0) = y0 ∨ ∃ p ∈ q :: l, p.1 = x ∧ p.2 = l.foldl _ (if q.1 = x then max y0 q.2 else y0))
    generalize l.foldl _ (if q.1 = x then max y0 q.2 else y0) = W at *
    by_cases hq : q.1 = x
    · rw [if_pos hq] at h1 h3
      refine ⟨by omega, fun p hp hpx => ?_, ?_⟩
      · rcases List.mem_cons.1 hp with rfl | hp
        · omega
        · exact h2 p hp hpx
      · rcases h3 with h3 | ⟨p, hp, h⟩
        · by_cases hm : q.2 ≤ y0
          · left; omega
          · right; exact ⟨q, List.mem_cons_self .., hq, by omega⟩
        · exact .inr ⟨p, List.mem_cons_of_mem _ hp, h⟩
    · rw [if_neg hq] at h1 h3
      refine ⟨h1, fun p hp hpx => ?_, ?_⟩
      · rcases List.mem_cons.1 hp with rfl | hp
        · exact absurd hpx hq
        · exact h2 p hp hpx
      · rcases h3 with h3 | ⟨p, hp, h⟩
        · exact .inl h3
        · exact .inr ⟨p, List.mem_cons_of_mem _ hp, h⟩
theorem mxOf_mem {l L : List KI} (I : MI l L) (hb : ∀ p ∈ l, 0 ≤ p.2) (x v : Int) : (x, v) ∈ L ↔ mxOf l x ≥ 0 ∧ v = mxOf l x := by
  obtain ⟨ha, hsub, hdom, hst⟩ := I
  obtain ⟨a1, a2, a3⟩ := mxAt_spec l x (-1)
  have a1 : -1 ≤ mxAt l x := a1
  have a2 : ∀ p ∈ l, p.1 = x → p.2 ≤ mxAt l x := a2
  have a3 : mxAt l x = -1 ∨ ∃ p ∈ l, p.1 = x ∧ p.2 = mxAt l x := a3
  have e0 : mxOf l x = mxFin l x (mxAt l x) := rfl
  generalize mxAt l x = V at *
  constructor
  · intro hy
    have hyl := hsub _ hy
    have hv := a2 _ hyl rfl
    have hv0 := hb _ hyl
    have hv : v ≤ V := hv
    have hv0 : 0 ≤ v := hv0
    obtain ⟨p, hp, hpx, hpV⟩ : ∃ p ∈ l, p.1 = x ∧ p.2 = V := by
      rcases a3 with h | h
      · omega
      · exact h
    obtain ⟨z, hz, z1, z2⟩ := hdom p hp
    have hzx : z.1 = x := by
      by_cases h : z.1 = x
      · exact h
      · have : z.2 < v := hst (x, v) hy z hz (by show x < z.1; omega)
        omega
    have hze : (x, v) = z := asc_key ha hy hz hzx.symm
    have hVv : V = v := by rw [← hze] at z2; have z2 : p.2 ≤ v := z2; omega
    have hno : mxFin l x V = V := mxFin_no l x V fun q hq hh => by
      obtain ⟨w, hw, w1, w2⟩ := hdom q hq
      have : w.2 < v := hst (x, v) hy w hw (by show x < w.1; omega)
      omega
    rw [e0, hno]
    exact ⟨by omega, hVv.symm⟩
  · rintro ⟨hge, rfl⟩
    rw [e0] at hge ⊢
    have hno : ∀ q ∈ l, ¬ (q.1 > x ∧ q.2 ≥ V) := fun q hq hh => by
      rw [mxFin_yes l x V ⟨q, hq, hh⟩] at hge; omega
    rw [mxFin_no l x V hno] at hge ⊢
    obtain ⟨p, hp, hpx, hpV⟩ : ∃ p ∈ l, p.1 = x ∧ p.2 = V := by
      rcases a3 with h | h
      · omega
      · exact h
    obtain ⟨z, hz, z1, z2⟩ := hdom p hp
    have hzl := hsub z hz
    have hzx : z.1 = x := by
      by_cases h : z.1 = x
      · exact h
      · exact absurd ⟨by omega, by omega⟩ (hno z hzl)
    have := a2 z hzl hzx
    have hzV : z.2 = V := by omega
    have e : z = (x, V) := by obtain ⟨z1, z2⟩ := z; cases hzx; cases hzV; rfl
    rw [← e]; exact hz
theorem outs_fm (l : List KI) : ∀ r : List Nat, outs (r.filterMap fun (x : Nat) => if mxOf l (x : Nat) ≥ 0 then some (((x : Nat) : Int), mxOf l (x : Nat)) else none) = r.flatMap fun (x : Nat) => if mxOf l (x : Nat) ≥ 0 then [((x : Nat) : Int), mxOf l (x : Nat)] else []
  | [] => rfl
  | a :: r => by
    have ih := outs_fm l r
    rw [List.flatMap_cons, ← ih]
    by_cases h : mxOf l (a : Nat) ≥ 0
    · simp only [List.filterMap_cons, if_pos h]; rfl
    · simp only [List.filterMap_cons, if_neg h]; rfl
theorem max_same {l : List KI} (hb : Bs l) : outs (mxL l []) = sMx l 256 := by
  obtain ⟨N, hN⟩ : ∃ N : Nat, N = 256 := ⟨256, rfl⟩
  have I := MI.run l
  rw [← hN]
  have e : mxL l [] = (List.range N).filterMap fun (x : Nat) => if mxOf l (x : Nat) ≥ 0 then some (((x : Nat) : Int), mxOf l (x : Nat)) else none := by
    refine ascK_ext I.asc ?_ fun z => ?_
    · refine List.pairwise_filterMap.2 (List.pairwise_lt_range.imp fun {a a'} h b hb1 b' hb2 => ?_)
      by_cases c1 : mxOf l (a : Nat) ≥ 0
      · by_cases c2 : mxOf l (a' : Nat) ≥ 0
        · rw [if_pos c1] at hb1; rw [if_pos c2] at hb2
          cases hb1; cases hb2
          exact ltK_t.2 (by show ((a : Nat) : Int) < ((a' : Nat) : Int); omega)
        · rw [if_neg c2] at hb2; cases hb2
      · rw [if_neg c1] at hb1; cases hb1
    · obtain ⟨zx, zv⟩ := z
      rw [List.mem_filterMap]
      constructor
      · intro hz
        have hzl := hb _ (I.sub _ hz)
        have k1 : @LE.le Int _ 0 zx := hzl.1.1
        have k2 : @LE.le Int _ zx 255 := hzl.1.2
        obtain ⟨h1, h2⟩ := (mxOf_mem I (fun p hp => (hb p hp).2.1) zx zv).1 hz
        obtain ⟨n, rfl⟩ : ∃ n : Nat, zx = n := ⟨zx.toNat, by omega⟩
        exact ⟨n, List.mem_range.2 (by omega), by rw [if_pos h1, h2]⟩
      · rintro ⟨a, ha, hh⟩
        by_cases c1 : mxOf l (a : Nat) ≥ 0
        · rw [if_pos c1] at hh
          cases hh
          exact (mxOf_mem I (fun p hp => (hb p hp).2.1) _ _).2 ⟨c1, rfl⟩
        · rw [if_neg c1] at hh; cases hh
  rw [e]
  exact outs_fm l _
end Go.Proofs.Ytkkappjbcgnacaa.Ii
end
section
namespace Go.Proofs.Ytkkappjbcgnacaa.Ii
open Go.Hp Go.Proofs.Ytkkappjbcgnacaa
set_option linter.unusedVariables false
set_option linter.unusedSimpArgs false
variable {h0 h : Heap} {Z E : List Rg} {Q : Value → Heap → Prop}

def GoodS (x : Stq) : Prop := OkR x ∧ (x.1 = 0 → 0 ≤ x.2.1 ∧ x.2.1 ≤ 255)
theorem clS_good : ∀ (n : Nat) (L : List It) (x : It), ∀ s ∈ clS n L x, s.1 = 17 ∨ s.1 = 3
  | 0, _, _, s, h => absurd h List.not_mem_nil
  | n + 1, L, x, s, h => by
    rw [clS] at h
    rcases List.mem_cons.1 h with rfl | h
    · exact .inl rfl
    · cases hd : rpI L (dS x) with
      | nil => rw [hd] at h; exact absurd h List.not_mem_nil
      | cons y r =>
        rw [hd] at h
        simp only at h
        split at h
        · exact absurd h List.not_mem_nil
        · rcases List.mem_cons.1 h with rfl | h
          · exact .inr rfl
          · exact clS_good n _ x s h
theorem clS_len : ∀ (n : Nat) (L : List It) (x : It), (clS n L x).length ≤ 2 * n
  | 0, _, _ => Nat.le_refl _
  | n + 1, L, x => by
    rw [clS]
    cases hd : rpI L (dS x) with
    | nil => simp only [List.length_cons, List.length_nil]; omega
    | cons y r =>
      simp only
      split
      · simp only [List.length_cons, List.length_nil]; omega
      · have := clS_len n (ldel lt L (y.1, 0)) x
        simp only [List.length_cons]; omega
theorem mxS_good : ∀ (r : List It) (L : List It), Bs r → ∀ s ∈ mxS r L, GoodS s
  | [], L, _, s, h => by
    rw [mxS, List.mem_singleton] at h; subst h
    exact ⟨.inr (.inr (.inl rfl)), fun e => absurd e (by decide)⟩
  | x :: r, L, hb, s, h => by
    rw [mxS] at h
    rcases List.mem_append.1 h with h | h
    · unfold ptS at h
      rcases List.mem_cons.1 h with rfl | h
      · exact ⟨.inr (.inr (.inr (.inl rfl))), fun e => absurd e (by decide : ¬ (16 : Int) = 0)⟩
      · split at h
        · exact absurd h List.not_mem_nil
        · rcases List.mem_append.1 h with h | h
          · rcases clS_good _ _ _ s h with e | e
            · exact ⟨.inr (.inr (.inr (.inr e))), fun e2 => by rw [e] at e2; exact absurd e2 (by decide)⟩
            · exact ⟨.inr (.inl e), fun e2 => by rw [e] at e2; exact absurd e2 (by decide)⟩
          · rw [List.mem_singleton] at h; subst h
            exact ⟨.inl rfl, fun _ => (hb x (List.mem_cons_self ..)).1⟩
    · exact mxS_good r _ (fun y hy => hb y (List.mem_cons_of_mem _ hy)) s h
theorem mxS_len : ∀ (r : List It) (L : List It), Bs r → Bt L → (mxS r L).length ≤ 516 * r.length + 1
  | [], L, _, _ => Nat.le_refl _
  | x :: r, L, hb, b => by
    have h1 := mxS_len r (ptL L x) (fun y hy => hb y (List.mem_cons_of_mem _ hy)) (ptL_bt b (hb x (List.mem_cons_self ..)).1)
    have h2 := clS_len (L.length + 1) L x
    have h3 := b.len
    have h4 : (ptS L x).length ≤ 516 := by
      unfold ptS
      split
      · simp only [List.length_cons, List.length_nil]; omega
      · simp only [List.length_cons, List.length_append, List.length_nil]; omega
    rw [mxS, List.length_append, List.length_cons]
    omega
theorem fold_bt : ∀ (S : List Stq) (L : List It), (∀ s ∈ S, GoodS s) → Bt L → Bt (S.foldl nxL L)
  | [], _, _, b => b
  | x :: S, L, hg, b => by
    refine fold_bt S _ (fun s hs => hg s (List.mem_cons_of_mem _ hs)) ?_
    unfold nxL
    split
    · rename_i h; exact b.put ((hg x (List.mem_cons_self ..)).2 h)
    · split
      · exact b.del _
      · exact b
theorem bt_nil : Bt [] := ⟨List.Pairwise.nil, fun y hy => absurd hy List.not_mem_nil⟩
theorem EqualN_ok {L : List Int} {v1 v2 : Value} (h1 : Rdl 1 h v1 L.length (L.flatMap fI)) (h2 : Rdl 1 h v2 L.length (L.flatMap fI)) (hl : L.length ≤ 10000000) (H : Q (.bool true) h) : sl_Equal_inti.call #[v1, v2] h Q := by
  refine sl_Equal_inti.body _ _ _ _ ?_
  unfold sl_Equal_inti.sh
  refine h1.lenV ?_
  refine h2.lenV ?_
  refine r_cmpI ?_
  refine r_if (fun e => absurd e (by simp)) (fun _ => ?_)
  unfold sl_Equal_inti.j1
  refine h1.lenV ?_
  refine loop_ghost (fun q st h' => ∃ (j : Nat), q = L.length - j ∧ j ≤ L.length ∧ st = [.int .i64 (j : Nat)] ∧ h' = h) (n0 := L.length)
    ⟨0, rfl, Nat.zero_le _, rfl, rfl⟩ ?_
  rintro q st g ⟨j, rfl, hj, rfl, rfl⟩ K HK
  unfold sl_Equal_inti.l3.b
  refine r_cmpI ?_
  refine r_if (fun hlt => ?_) (fun hge => ?_)
  · have hlt : j < L.length := by have := of_decide_eq_true hlt; omega
    unfold sl_Equal_inti.j4
    refine h1.at (f := fI) (n := j) rfl fIl rfl rfl hlt fun b o hrd => ?_
    refine hrd.load0 rfl ?_
    refine h2.at (f := fI) (n := j) rfl fIl rfl rfl hlt fun b o hrd => ?_
    refine hrd.load0 rfl ?_
    refine r_cmpI ?_
    refine r_if (fun e => absurd e (by simp)) (fun _ => ?_)
    unfold sl_Equal_inti.j5
    refine r_add1 (by omega) ?_
    exact HK (L.length - (j + 1)) _ _ (by omega) ⟨j + 1, rfl, hlt, rfl, rfl⟩
  · unfold sl_Equal_inti.j2
    exact H
theorem c1_hasBody : hasBody Try.prog 31 := ⟨_, Try.func31, rfl, rfl⟩
theorem onM_ok {hA : Heap} {l : List It} {v due : Value} {d t3 : Nat} (hd : 2 ≤ d) (hd2 : d ≤ 128) (hb : Bs l) (hl : l.length ≤ 2147483647) (hr : Rdl 2 hA v l.length (l.flatMap fp8)) (hc : cl hA t3 0 = some v) (hdue : Rdl 1 hA due (sMx l 256).length ((sMx l 256).flatMap fI))
    (H : ∀ E' h', St hA [] E' h' → Q (.bool true) h') : l_onM.call #[.int .i64 d, .func (.func 31) #[] #[ptr t3 0], due] hA Q := by
  refine l_onM.body _ _ _ _ _ ?_
  unfold l_onM.sh
  have hSl : (mxS l []).length ≤ 1200000000000 := by have := mxS_len l [] hb bt_nil; omega
  have hgood := mxS_good l [] hb
  refine s_Recorded.body _ _ ?_
  unfold s_Recorded.sh
  have s := (St.start hA).empty 0 0
  refine St.r_mkSl (sz := 1) (cs := [.slice none 0 0]) s (by ((simp only [fillV, fill1, Value.cells, zeros_succ, zeros_zero, List.size_toArray, List.length_cons, List.length_nil, List.length_append, List.take_succ_cons, List.take_zero, List.take_nil, List.drop_succ_cons, List.drop_zero, List.drop_nil, List.cons_append, List.nil_append, List.append_nil, Nat.reduceAdd, Nat.reduceMul, Nat.reduceLeDiff, Nat.reduceEqDiff, and_self, and_true, true_and, if_true, Nat.le_refl, Nat.zero_add, Nat.add_zero, Nat.zero_mul, reduceIte, if_false] <;> rfl))) rfl fun bt h s wt => ?_
  refine r_build (cs := [.slice none 0 0, .bool false, .bool false, .slice none 0 0, .slice (some ⟨bt, 0, none⟩) 1 1]) (by ((simp only [fillV, fill1, Value.cells, zeros_succ, zeros_zero, List.size_toArray, List.length_cons, List.length_nil, List.length_append, List.take_succ_cons, List.take_zero, List.take_nil, List.drop_succ_cons, List.drop_zero, List.drop_nil, List.cons_append, List.nil_append, List.append_nil, Nat.reduceAdd, Nat.reduceMul, Nat.reduceLeDiff, Nat.reduceEqDiff, and_self, and_true, true_and, if_true, Nat.le_refl, Nat.zero_add, Nat.add_zero, Nat.zero_mul, reduceIte, if_false] <;> rfl))) ?_
  refine St.r_box (cs := [.slice none 0 0, .bool false, .bool false, .slice none 0 0, .slice (some ⟨bt, 0, none⟩) 1 1]) s fun t10 h s => ?_
  refine r_callV c1_hasBody ?_
  refine l_FnMMaximal_c1.body _ _ _ _ ?_
  unfold l_FnMMaximal_c1.sh
  refine ⟨_, v, rfl, s.base hc, ?_⟩
  refine maximal_ok (TapeC.record hA [] t10) (E := []) hl hb hr rfl (fun _ _ => trivial) hSl (A0 := [(t10, 0, [.slice none 0 0, .bool false, .bool false, .slice none 0 0, .slice (some ⟨bt, 0, none⟩) 1 1]), (bt, 0, [.slice none 0 0]), (0, 0, []), (0, 0, [])])
    ⟨.slice none 0 0, .slice none 0 0, _, bt, 0, 0, [], [(0, 0, [])], Own.nil 9 0 0, Rb.nil (List.mem_singleton.2 rfl), rfl, wt, rfl⟩ ((s.empty 0 0).perm (by ((apply perm_rg; intro f; simp only [List.set_cons_zero, List.set_cons_succ, List.eraseIdx_cons_zero, List.eraseIdx_cons_succ, List.cons_append, List.nil_append, List.map_append, List.map_cons, List.map_nil, List.sum_append, List.sum_cons, List.sum_nil, List.map_flatMap, Nat.add_zero, Nat.zero_add]; ac_rfl)))) fun v1 A1 F1 h1 j1 s1 r1 => ?_
  obtain ⟨vs, vL, vt, bt', bs, os, sp, D, ws, rb, o1, wt', rfl⟩ := j1
  have s1 : St hA [] ((t10, 0, [vs, .bool false, .bool false, .slice none 0 0, vt]) :: (bs, os, (mxS l []).flatMap encQ ++ sp) :: (bt', 0, [vL]) :: (D ++ F1)) h1 := s1.perm (by
    show List.Perm _ (F1 ++ (((t10, 0, [vs, .bool false, .bool false, .slice none 0 0, vt]) :: (bt', 0, [vL]) :: (bs, os, (mxS l []).flatMap encQ ++ sp) :: D) ++ []))
    ((apply perm_rg; intro f; simp only [List.set_cons_zero, List.set_cons_succ, List.eraseIdx_cons_zero, List.eraseIdx_cons_succ, List.cons_append, List.nil_append, List.map_append, List.map_cons, List.map_nil, List.sum_append, List.sum_cons, List.sum_nil, List.map_flatMap, Nat.add_zero, Nat.zero_add]; ac_rfl)))
  refine r_nil (r_fld ?_)
  refine St.r_load0 s1 0 rfl rfl ?_
  have rS := ws.rdl s1 1 rfl
  refine MScript_ok hd (by omega) hSl rS (fun x hx => ?_) (fun j _ => ?_) fun vo va F E2 h2 s2 hF rF hR => ?_
  · rcases (hgood x hx).1 with h | h | h | h | h
    · exact .inl h
    · exact .inr (.inr (.inl h))
    · exact .inr (.inr (.inr (.inl h)))
    · exact .inr (.inr (.inr (.inr (.inl h))))
    · exact .inr (.inr (.inr (.inr (.inr h))))
  · have := (fold_bt ((mxS l []).take j) [] (fun s hs => hgood s (List.mem_of_mem_take hs)) bt_nil).len; omega
  refine r_ext rfl ?_
  refine r_ext rfl ?_
  have s := s1.join s2
  refine l_played.body _ _ _ _ _ _ ?_
  unfold l_played.sh
  have sX : St hA [] ((t10, 0, [vs, .bool false, .bool false, .slice none 0 0, vt]) :: (((bs, os, (mxS l []).flatMap encQ ++ sp) :: (bt', 0, [vL]) :: (D ++ F1)) ++ E2)) h2 := s.perm (by ((apply perm_rg; intro f; simp only [List.set_cons_zero, List.set_cons_succ, List.eraseIdx_cons_zero, List.eraseIdx_cons_succ, List.cons_append, List.nil_append, List.map_append, List.map_cons, List.map_nil, List.sum_append, List.sum_cons, List.sum_nil, List.map_flatMap, Nat.add_zero, Nat.zero_add]; ac_rfl)))
  refine r_nil (r_fld ?_)
  refine St.r_load0 sX 0 rfl rfl ?_
  have rS2 := rS.st s2
  refine s_Played.body _ _ _ _ ?_
  unfold s_Played.sh
  refine rS2.lenV ?_
  refine rF.lenV ?_
  refine r_cmpI ?_
  rw [show ((((mxS l []).length : Nat) : Int) != ((F.length : Nat) : Int)) = false by rw [hF]; simp]
  obtain ⟨a1, c1, e1, -⟩ := id rS2
  obtain ⟨a2, c2, e2, -⟩ := id rF
  refine r_build (cs := [vs, .bool false, .bool true, vo, .slice none 0 0]) (by subst e1; subst e2; ((simp only [fillV, fill1, Value.cells, zeros_succ, zeros_zero, List.size_toArray, List.length_cons, List.length_nil, List.length_append, List.take_succ_cons, List.take_zero, List.take_nil, List.drop_succ_cons, List.drop_zero, List.drop_nil, List.cons_append, List.nil_append, List.append_nil, Nat.reduceAdd, Nat.reduceMul, Nat.reduceLeDiff, Nat.reduceEqDiff, and_self, and_true, true_and, if_true, Nat.le_refl, Nat.zero_add, Nat.add_zero, Nat.zero_mul, reduceIte, if_false] <;> rfl))) ?_
  have u := St.start h2
  refine St.r_box (cs := [vs, .bool false, .bool true, vo, .slice none 0 0]) u fun t16 h3 u => ?_
  refine r_callV c1_hasBody ?_
  refine l_FnMMaximal_c1.body _ _ _ _ ?_
  unfold l_FnMMaximal_c1.sh
  refine ⟨_, v, rfl, (s.join u).base hc, ?_⟩
  have tcp := TapeC.play (h0 := h2) (Z := []) (t := t16) (S := mxS l []) (F := F) (vS := vs) rS2 hSl hF (fun i hi => by
    obtain ⟨r, q1, _, q3⟩ := hR i hi
    exact ⟨r, q1, q3⟩)
  refine maximal_ok tcp (E := []) hl hb (hr.st s) rfl (fun T hT => ⟨List.prefix_iff_eq_take.1 hT, hT.length_le⟩) hSl (A0 := [(t16, 0, [vs, .bool false, .bool true, vo, .slice none 0 0])])
    ⟨vo, [], rfl, rfl, Nat.zero_le _, rF, rfl⟩ u fun v4 A4 F4 h4 j4 s4 r4 => ?_
  refine r_nil (r_fld ?_)
  have s4' : St h2 [] (A4 ++ F4) h4 := s4.perm (by rw [List.append_nil]; exact List.perm_append_comm)
  refine ⟨_, _, rfl, tcp.bad j4 s4', ?_⟩
  refine r_not ?_
  refine r_br (fun _ => ?_) (fun e => absurd e (by decide))
  rw [max_same hb] at r4
  have hs := sMx_len l 256
  refine EqualN_ok r4 ((hdue.st s).st s4) (by omega) ?_
  exact H _ h4 (s.join s4)
theorem l_FnMMaximal_ok {l : List It} {v : Value} {d : Int} (hb : Bs l) (hr : Rdl 2 h v l.length (l.flatMap fp8)) (H : ∀ E' h', St h [] E' h' → Q (.bool true) h') : l_FnMMaximal.call #[.int .i64 d, v] h Q := by
  refine l_FnMMaximal.body _ _ _ _ ?_
  unfold l_FnMMaximal.sh
  have s := St.start h
  refine s.r_box1 hr.one fun t3 h1 s => ?_
  refine St.r_load0 s 0 rfl rfl ?_
  refine hr.lenV ?_
  refine r_cmpI ?_
  refine r_if (fun _ => H _ _ s) (fun hle => ?_)
  have hle : l.length ≤ 2147483647 := by have := of_decide_eq_false hle; omega
  have live : ∀ {E' h'}, St h [] E' h' → l_aliveM.call #[] h' Q := fun s => aliveM_ok fun E' h' s' => H _ _ (s.join s')
  unfold l_FnMMaximal.j1
  refine fit_ok ?_
  refine r_not ?_
  refine r_br (fun e => ?_) (fun e => live s)
  have hd : 2 ≤ d ∧ d ≤ 128 := by simpa using e
  obtain ⟨d, rfl⟩ : ∃ n : Nat, d = n := ⟨d.toNat, by omega⟩
  refine St.r_load0 s 0 rfl rfl ?_
  refine s_Maximal_ok hb hle (hr.st s) fun due E2 h2 s2 r2 => ?_
  have s := s.join s2
  have sX : St h [] ((t3, 0, [v]) :: E2) h2 := s.perm (by ((apply perm_rg; intro f; simp only [List.set_cons_zero, List.set_cons_succ, List.eraseIdx_cons_zero, List.eraseIdx_cons_succ, List.cons_append, List.nil_append, List.map_append, List.map_cons, List.map_nil, List.sum_append, List.sum_cons, List.sum_nil, List.map_flatMap, Nat.add_zero, Nat.zero_add]; ac_rfl)))
  refine onM_ok (by omega) (by omega) hb hle (hr.st s) (sX.get (k := 0) rfl (j := 0) (by simp)) r2 fun E3 h3 s3 => ?_
  refine r_br (fun _ => ?_) (fun e => absurd e (by decide))
  exact live (s.join s3)
end Go.Proofs.Ytkkappjbcgnacaa.Ii
end
