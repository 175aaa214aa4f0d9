/-
  Texts of this claim, laid together: Cb Cc Cd Ce P0 Pc Pd Mr Mt.
  Conditions: as each of them tells.
-/
import Derived.Test.YtkkappjbcgnacaaRMRisingB4
import Derived.KernelRfl
section
namespace Go.Proofs.Ytkkappjbcgnacaa
open Go.Hp
set_option linter.unusedVariables false
set_option linter.unusedSimpArgs false
variable {h0 h : Heap} {Z E : List Rg} {Q : Value → Heap → Prop}

abbrev enc (p : Int × Int) : List Value := [.int .i64 p.2, .int .i64 p.1]
/-- The cells of a map's head. -/
abbrev hdr (iso : Int) (ctr root : Option Addr) (cnt mn mx : Int) : List Value := [.int .u64 iso, .pointer ctr, .pointer root, .int .i64 cnt, .int .i64 0, .int .i64 0, .int .i64 mn, .int .i64 mx, .bool false, .bool false]

end Go.Proofs.Ytkkappjbcgnacaa
end
section
namespace Go.Proofs.Ytkkappjbcgnacaa
open Go.Hp
set_option linter.unusedVariables false
set_option linter.unusedSimpArgs false
variable {h0 h : Heap} {Z E : List Rg} {Q : Value → Heap → Prop}

theorem mapNode_ii_leaf_ok {n : Nat} {a : Option Addr} (hn : cl h n 3 = some (.pointer a)) (H : Q (.bool a.isNone) h) : mapNode_ii_leaf.call #[ptr n 0] h Q := by
  refine mapNode_ii_leaf.body _ _ _ ?_
  unfold mapNode_ii_leaf.sh
  have s := St.start h
  refine r_nil ?_
  refine r_fld ?_
  refine s.r_loadB hn ?_
  refine r_eqNilP ?_
  exact H

theorem updateCount_leaf {n b o len : Nat} {c1 c2 iv : Value} {xs sp : List Value} (s : St h0 Z ((n, 0, [c1, c2, iv, .pointer none]) :: E) h) (w : Own 2 iv len b o xs sp)
    (H : ∀ h', St h0 Z ((n, 0, [c1, .int .i64 len, iv, .pointer none]) :: E) h' → Q (.tuple #[]) h') : mapNode_ii_updateCount.call #[ptr n 0] h Q := by
  refine mapNode_ii_updateCount.body _ _ _ ?_
  unfold mapNode_ii_updateCount.sh
  refine r_nil ?_
  refine r_fld ?_
  refine St.r_load0 s 0 rfl rfl ?_
  refine w.lenV ?_
  refine r_nil ?_
  refine r_fld ?_
  refine St.r_store0 s 0 rfl (by simp) rfl ?_
  intro h s
  try simp only [List.set_cons_zero, List.set_cons_succ] at s
  refine mapNode_ii_leaf_ok (a := none) (s.get (k := 0) (j := 3) rfl (by simp)) ?_
  refine r_not ?_
  refine r_if (fun e => absurd e (by decide)) (fun _ => ?_)
  exact H _ s

theorem updateCount_inner {n kb b o rb ro len : Nat} {c1 c2 iv kv : Value} {xs sp ksp : List Value} {ids : List Nat} {c : Nat → Int} (s : St h0 Z ((n, 0, [c1, c2, iv, ptr kb 0]) :: (kb, 0, [kv]) :: (rb, ro, (ids.map fun m => ptr m 0) ++ ksp) :: E) h)
    (w : Own 2 iv len b o xs sp) (wkid : Own 1 kv ids.length rb ro (ids.map fun m => ptr m 0) ksp) (hids : ids.length ≤ 4294967296)
    (hc : ∀ j (hj : j < ids.length), ∃ a1 a2 a3, (ids[j], 0, [a1, .int .i64 (c j), a2, a3]) ∈ E ++ Z) (hb : ∀ j, j ≤ ids.length → 0 ≤ (len : Int) + ((List.range j).map c).sum ∧ (len : Int) + ((List.range j).map c).sum ≤ 9223372036854775807)
    (H : ∀ h', St h0 Z ((n, 0, [c1, .int .i64 ((len : Int) + ((List.range ids.length).map c).sum), iv, ptr kb 0]) :: (kb, 0, [kv]) :: (rb, ro, (ids.map fun m => ptr m 0) ++ ksp) :: E) h' → Q (.tuple #[]) h') : mapNode_ii_updateCount.call #[ptr n 0] h Q := by
  refine mapNode_ii_updateCount.body _ _ _ ?_
  unfold mapNode_ii_updateCount.sh
  refine r_nil ?_
  refine r_fld ?_
  refine St.r_load0 s 0 rfl rfl ?_
  refine w.lenV ?_
  refine r_nil ?_
  refine r_fld ?_
  refine St.r_store0 s 0 rfl (by simp) rfl ?_
  intro h s
  try simp only [List.set_cons_zero, List.set_cons_succ] at s
  refine mapNode_ii_leaf_ok (a := some ⟨kb, 0, none⟩) (s.get (k := 0) (j := 3) rfl (by simp)) ?_
  refine r_not ?_
  refine r_if (fun _ => ?_) (fun e => absurd e (by simp))
  refine loop_intro (fun t h => ∃ j : Nat, t = [.int .i64 j] ∧ j ≤ ids.length ∧ St h0 Z ((n, 0, [c1, .int .i64 ((len : Int) + ((List.range j).map c).sum), iv, ptr kb 0]) :: (kb, 0, [kv]) :: (rb, ro, (ids.map fun m => ptr m 0) ++ ksp) :: E) h)
    (fun t _ => ids.length - (Hp.iv (t.getD 0 undef)).toNat) ⟨0, rfl, by omega, by simpa using s⟩ ?_
  rintro t h ⟨j, rfl, hj, s⟩
  unfold mapNode_ii_updateCount.l1.b
  refine r_nil ?_
  refine r_fld ?_
  refine St.r_load0 s 0 rfl rfl ?_
  refine r_nil ?_
  refine St.r_load0 s 1 rfl rfl ?_
  refine wkid.lenV ?_
  refine r_cmpI ?_
  refine r_if (fun hlt => ?_) (fun hge => ?_)
  · have hlt : j < ids.length := by simpa using hlt
    unfold mapNode_ii_updateCount.j2
    refine r_nil ?_
    refine r_fld ?_
    refine St.r_load0 s 0 rfl rfl ?_
    refine r_nil ?_
    refine r_fld ?_
    refine St.r_load0 s 0 rfl rfl ?_
    refine r_nil ?_
    refine St.r_load0 s 1 rfl rfl ?_
    refine wkid.idx (n := j) rfl hlt ?_
    refine s.r_load1 2 rfl (v := ptr ids[j] 0) (by rw [Nat.mul_one, List.getElem?_append_left (by simpa using hlt), List.getElem?_map, List.getElem?_eq_getElem hlt]; rfl) ?_
    obtain ⟨a1, a2, a3, hm⟩ := hc j hlt
    refine r_nil ?_
    refine r_fld ?_
    refine s.r_loadM (xs := [a1, .int .i64 (c j), a2, a3]) (by simp only [List.cons_append, List.mem_cons]; exact .inr (.inr (.inr hm))) rfl ?_
    refine r_add (z := (len : Int) + ((List.range (j + 1)).map c).sum) ?_ ?_
    · have := hb (j + 1) hlt
      rw [List.range_succ, List.map_append, List.sum_append] at this ⊢
      simp only [List.map_cons, List.map_nil, List.sum_cons, List.sum_nil] at this ⊢
      rw [i64w (by omega) (by omega)]; omega
    · refine r_nil ?_
      refine r_fld ?_
      refine St.r_store0 s 0 rfl (by simp) rfl ?_
      intro h s
      try simp only [List.set_cons_zero, List.set_cons_succ] at s
      unfold mapNode_ii_updateCount.j3
      refine r_add (z := ((j + 1 : Nat) : Int)) (by rw [i64w (by omega) (by omega)]; omega) ?_
      exact ⟨⟨j + 1, rfl, hlt, s⟩, by simp; omega⟩
  · have hge : j = ids.length := by simp at hge; omega
    subst hge
    exact H h s

end Go.Proofs.Ytkkappjbcgnacaa
end
section
namespace Go.Proofs.Ytkkappjbcgnacaa
open Go.Hp
set_option linter.unusedVariables false
set_option linter.unusedSimpArgs false
variable {h0 h : Heap} {Z E : List Rg} {Q : Value → Heap → Prop}

abbrev It := Int × Int
/-- An item as the laws have it. -/
abbrev encA (p : It) : List Value := [.int .i64 p.1, .int .i64 p.2]
end Go.Proofs.Ytkkappjbcgnacaa
end
section
namespace Go.Proofs.Ytkkappjbcgnacaa
open Go.Hp
set_option linter.unusedVariables false
set_option linter.unusedSimpArgs false
variable {h0 h : Heap} {Z E : List Rg} {Q : Value → Heap → Prop}

theorem Map_ii_Len_ok {tb : Nat} {v : Value} (hc : cl h tb 3 = some v) (H : Q v h) : Map_ii_Len.call #[ptr tb 0] h Q := by
  refine Map_ii_Len.body _ _ _ ?_
  unfold Map_ii_Len.sh
  refine r_nil (r_fld ?_)
  exact ⟨_, v, rfl, hc, H⟩

theorem Map_ii_Height_ok {k : Nat} {t : GT It k} {tb : Nat} (hr : cl h tb 2 = some (ptr t.id 0)) (ht : t.At enc 2 h) (hk : k ≤ 1000000) (H : Q (.int .i64 ((k + 1 : Nat) : Int)) h) : Map_ii_Height.call #[ptr tb 0] h Q := by
  refine Map_ii_Height.body _ _ _ ?_
  unfold Map_ii_Height.sh
  have s := St.start h
  refine r_nil ?_
  refine r_fld ?_
  refine s.r_loadB hr ?_
  refine r_neNilP ?_
  refine r_if (fun _ => ?_) (fun e => absurd e (by simp))
  refine r_nil ?_
  refine r_fld ?_
  refine s.r_loadB hr ?_
  refine loop_intro (fun l h' => h' = h ∧ ∃ (j : Nat) (t' : GT It j), j ≤ k ∧ t'.At enc 2 h ∧ l = [.int .i64 ((k - j : Nat) : Int), ptr t'.id 0]) (fun l _ => k - (Hp.iv (l.getD 0 undef)).toNat) ⟨rfl, k, t, Nat.le_refl _, ht, by simp⟩ ?_
  rintro l h' ⟨rfl, j, t', hj, ht', rfl⟩
  unfold Map_ii_Height.l2.b
  refine r_add (z := ((k - j + 1 : Nat) : Int)) (by rw [i64w (by omega) (by omega)]; omega) ?_
  cases j with
  | zero =>
    refine mapNode_ii_leaf_ok (a := none) ht'.2 ?_
    refine r_if (fun _ => ?_) (fun e => absurd e (by simp))
    exact H
  | succ j =>
    refine mapNode_ii_leaf_ok (a := some ⟨t'.1.kb, 0, none⟩) ht'.2.1 ?_
    refine r_if (fun e => absurd e (by simp)) (fun _ => ?_)
    unfold Map_ii_Height.j3
    refine r_nil ?_
    refine r_fld ?_
    refine s.r_loadB ht'.2.1 ?_
    refine r_nil ?_
    refine s.r_loadB ht'.2.2.1 ?_
    have hl : 0 < t'.2.length := by have := ht'.2.2.2.2.1; omega
    refine ht'.2.2.2.1.at1 rfl hl fun b o hb => ?_
    refine hb.load0 rfl ?_
    exact ⟨⟨rfl, j, t'.2[0], by omega, ht'.2.2.2.2.2 _ (List.getElem_mem hl), by simp; omega⟩, by simp; omega⟩

abbrev I (n : Int) : Value := .int .i64 n
end Go.Proofs.Ytkkappjbcgnacaa
end
section
namespace Go.Hp
set_option linter.unusedVariables false
set_option linter.unusedSimpArgs false

abbrev KI : Type := Int × Int
/-- The order of the keys. -/
def ltK (a b : KI) : Bool := decide (a.1 < b.1)
theorem ltK_t {a b : KI} : ltK a b = true ↔ a.1 < b.1 := by simp [ltK]
theorem ltK_f {a b : KI} : ltK a b = false ↔ b.1 ≤ a.1 := by simp [ltK]
/-- A list around one of its items. -/
theorem ascK_split {l : List KI} {y : KI} (ha : Asc ltK l) (hy : y ∈ l) : ∃ p s, l = p ++ y :: s ∧ (∀ z ∈ p, z.1 < y.1) ∧ ∀ z ∈ s, y.1 < z.1 := by
  obtain ⟨p, s, rfl⟩ := List.append_of_mem hy
  obtain ⟨h1, h2, h3⟩ := asc_app ha
  exact ⟨p, s, rfl, fun z hz => ltK_t.1 (h3 z hz y (List.mem_cons_self ..)), fun z hz => ltK_t.1 ((List.pairwise_cons.1 h2).1 z hz)⟩
theorem lgetK_mem {l : List KI} {x y : KI} (ha : Asc ltK l) (hy : y ∈ l) (e : y.1 = x.1) : lget ltK l x = some y := by
  obtain ⟨p, s, rfl, h1, h2⟩ := ascK_split ha hy
  exact lget_at (fun z hz => ltK_t.2 (by have := h1 z hz; omega)) (ltK_f.2 (by omega)) (ltK_f.2 (by omega))
theorem lgetK_key {l : List KI} {x y : KI} (h : lget ltK l x = some y) : y ∈ l ∧ y.1 = x.1 := by
  obtain ⟨hp, e, h1, h2⟩ := lget_some h
  rw [ltK_f] at h1 h2
  exact ⟨e ▸ List.getElem_mem hp, by omega⟩
theorem lgetK_none {l : List KI} {x : KI} (hn : ∀ y ∈ l, y.1 ≠ x.1) : lget ltK l x = none := by
  cases h : lget ltK l x with
  | none => rfl
  | some y => exact absurd (lgetK_key h).2 (hn y (lgetK_key h).1)
theorem lgetK_nk {l : List KI} {x : KI} (ha : Asc ltK l) (h : lget ltK l x = none) : ∀ y ∈ l, y.1 ≠ x.1 := fun y hy e => by
  rw [lgetK_mem ha hy e] at h; cases h
theorem lputK_perm {l : List KI} {x : KI} (hn : ∀ y ∈ l, y.1 ≠ x.1) : (lput ltK l x).Perm (x :: l) := by
  unfold lput
  rw [lgetK_none hn]
  simp only [Option.isSome_none, Bool.false_eq_true, if_false, Nat.add_zero]
  refine List.perm_middle.trans ?_
  rw [List.take_append_drop]
theorem mem_lputK {l : List KI} {x z : KI} (ha : Asc ltK l) : z ∈ lput ltK l x ↔ z = x ∨ (z ∈ l ∧ z.1 ≠ x.1) := by
  cases h : lget ltK l x with
  | none =>
    have hn := lgetK_nk ha h
    rw [(lputK_perm hn).mem_iff, List.mem_cons]
    exact ⟨fun h => h.imp id fun h => ⟨h, hn z h⟩, fun h => h.imp id fun h => h.1⟩
  | some y =>
    obtain ⟨hy, e⟩ := lgetK_key h
    obtain ⟨p, s, rfl, h1, h2⟩ := ascK_split ha hy
    rw [lput_at (fun z hz => ltK_t.2 (by have := h1 z hz; omega)) (ltK_f.2 (by omega)) (ltK_f.2 (by omega))]
    simp only [List.mem_append, List.mem_cons]
    constructor
    · rintro (h | h | h)
      · exact .inr ⟨.inl h, by have := h1 z h; omega⟩
      · exact .inl h
      · exact .inr ⟨.inr (.inr h), by have := h2 z h; omega⟩
    · rintro (h | ⟨h | h | h, e2⟩)
      · exact .inr (.inl h)
      · exact .inl h
      · subst h; exact absurd e e2
      · exact .inr (.inr h)
end Go.Hp
end
section
namespace Go.Hp
set_option linter.unusedVariables false
set_option linter.unusedSimpArgs false
section
variable (d : Nat)
/-- One item more: a node of 2 d - 1 items goes on with d, and one goes up. -/
def incL : List Nat → List Nat × Bool
  | [] => ([], true)
  | r :: rs => if r < 2 * d - 1 then ((r + 1) :: rs, false) else (d :: (incL rs).1, (incL rs).2)
def incS (cs : List Nat) : List Nat := if (incL d cs).2 then (incL d cs).1 ++ [1] else (incL d cs).1
def valS : List Nat → Nat
  | [] => 0
  | r :: rs => r + d * valS rs
def okS : List Nat → Prop
  | [] => True
  | [r] => 1 ≤ r ∧ r ≤ 2 * d - 1
  | r :: r2 :: rs => d ≤ r ∧ r ≤ 2 * d - 1 ∧ okS (r2 :: rs)
end
section
variable {d : Nat}
theorem incS_nil : incS d [] = [1] := rfl
theorem incS_cons (r : Nat) (rs : List Nat) : incS d (r :: rs) = if r < 2 * d - 1 then (r + 1) :: rs else d :: incS d rs := by
  unfold incS
  rw [incL]
  by_cases h : r < 2 * d - 1
  · rw [if_pos h, if_pos h]; rfl
  · rw [if_neg h, if_neg h]
    cases (incL d rs).2 <;> rfl
theorem incS_ne : ∀ cs : List Nat, incS d cs ≠ []
  | [] => by rw [incS_nil]; simp
  | r :: rs => by rw [incS_cons]; split <;> simp
theorem valS_inc (hd : 2 ≤ d) : ∀ cs : List Nat, okS d cs → valS d (incS d cs) = valS d cs + 1
  | [], _ => by rw [incS_nil]; simp [valS]
  | r :: rs, h => by
    rw [incS_cons]
    have hr : r ≤ 2 * d - 1 := by cases rs with
      | nil => exact h.2
      | cons a b => exact h.2.1
    have hrs : okS d rs := by cases rs with
      | nil => trivial
      | cons a b => exact h.2.2
    split
    · show r + 1 + d * valS d rs = r + d * valS d rs + 1; omega
    · show d + d * valS d (incS d rs) = r + d * valS d rs + 1
      rw [valS_inc hd rs hrs, Nat.mul_add]; omega
theorem okS_inc (hd : 2 ≤ d) : ∀ cs : List Nat, okS d cs → okS d (incS d cs)
  | [], _ => by rw [incS_nil]; exact ⟨Nat.le_refl _, by omega⟩
  | r :: rs, h => by
    rw [incS_cons]
    have hrs : okS d rs := by cases rs with
      | nil => trivial
      | cons a b => exact h.2.2
    by_cases hlt : r < 2 * d - 1
    · rw [if_pos hlt]
      cases rs with
      | nil => exact ⟨by omega, by omega⟩
      | cons a b => exact ⟨by have := h.1; omega, by omega, h.2.2⟩
    · rw [if_neg hlt]
      have h1 := okS_inc hd rs hrs
      have h2 := incS_ne (d := d) rs
      generalize incS d rs = q at *
      cases q with
      | nil => exact absurd rfl h2
      | cons a b => exact ⟨Nat.le_refl _, by omega, h1⟩
theorem okS_pos (hd : 2 ≤ d) : ∀ cs : List Nat, okS d cs → cs ≠ [] → 1 ≤ valS d cs
  | [r], h, _ => by have := h.1; simp [valS]; omega
  | r :: r2 :: rs, h, _ => by have := h.1; show 1 ≤ r + d * _; omega
/-- How many nodes a level has. -/
theorem okS_many (hd : 2 ≤ d) {r : Nat} {rs : List Nat} (h : okS d (r :: rs)) : max 1 (valS d (r :: rs) / d) = valS d rs + 1 := by
  show max 1 ((r + d * valS d rs) / d) = _
  rw [Nat.add_mul_div_left _ _ (by omega)]
  cases rs with
  | nil =>
    have h1 : r ≤ 2 * d - 1 := h.2
    have : r / d ≤ 1 := by have := Nat.div_lt_of_lt_mul (m := r) (n := d) (k := 2) (by omega); omega
    show max 1 (r / d + 0) = 0 + 1
    omega
  | cons a b =>
    have h1 := h.1
    have h2 := h.2.1
    have e : r / d = 1 := by
      have h3 := Nat.div_lt_of_lt_mul (m := r) (n := d) (k := 2) (by omega)
      have h4 := Nat.div_pos h1 (by omega)
      omega
    rw [e]; omega
theorem incL_snoc : ∀ (xs : List Nat) (r : Nat), incL d (xs ++ [r]) = if (incL d xs).2 then (if r < 2 * d - 1 then ((incL d xs).1 ++ [r + 1], false) else ((incL d xs).1 ++ [d], true)) else ((incL d xs).1 ++ [r], false)
  | [], r => by
    show incL d [r] = if true = true then (if r < 2 * d - 1 then ([] ++ [r + 1], false) else ([] ++ [d], true)) else ([] ++ [r], false)
    rw [if_pos rfl, incL]
    rfl
  | x :: xs, r => by
    show incL d (x :: (xs ++ [r])) = _
    rw [incL, incL, incL_snoc xs r]
    by_cases h : x < 2 * d - 1
    · simp [h]
    · simp only [h, if_false]
      by_cases h2 : (incL d xs).2 = true
      · simp only [h2, if_true]; split <;> rfl
      · simp only [h2, if_false]; rfl
end
section
variable {α : Type} {lt : α → α → Bool}
/-- The numbers of items along one side, from the leaf up. -/
def Sp (sd : Bool) : {h : Nat} → PT α h → List Nat → Prop
  | 0, (l : List α), cs => cs = [l.length]
  | _ + 1, t, cs => ∃ c cs', cs = cs' ++ [t.1.length] ∧ t.2.length = t.1.length + 1 ∧ t.2[if sd then t.1.length else 0]? = some c ∧ Sp sd c cs'
/-- x belongs behind all items (or ahead of them). -/
def Beyond (lt : α → α → Bool) (sd : Bool) (x : α) (l : List α) : Prop := ∀ y ∈ l, if sd then lt y x = true else (lt x y = true ∧ lt y x = false)
theorem beyond_pos {sd : Bool} {x : α} {l : List α} (b : Beyond lt sd x l) : lget lt l x = none ∧ pos lt l x = if sd then l.length else 0 := by
  cases sd with
  | true =>
    have e : pos lt l x = l.length := by
      have := pos_app (lt := lt) (p := l) (l := []) (x := x) (fun y hy => b y hy)
      rw [List.append_nil] at this
      rw [this]; show l.length + pos lt [] x = _
      have := pos_le (lt := lt) ([] : List α) x
      simp at this; omega
    refine ⟨?_, e⟩
    unfold lget; rw [e, List.getElem?_eq_none (Nat.le_refl _)]; rfl
  | false =>
    have e : pos lt l x = 0 := pos_zero fun y hy => (b y (List.mem_of_mem_head? hy)).2
    refine ⟨?_, e⟩
    unfold lget; rw [e]
    cases l with
    | nil => rfl
    | cons a r =>
      show (if lt x a then none else some a) = none
      rw [(b a (List.mem_cons_self ..)).1]; rfl
theorem ins_len {l : List α} {i : Nat} {x : α} (h : i ≤ l.length) : (ins l i x).length = l.length + 1 := by
  unfold ins; rw [List.length_append, List.length_cons, List.length_take, List.length_drop]; omega
theorem kid_in {h m lo : Nat} {t : PT α (h + 1)} {c : PT α h} (f : t.Fl m lo) (hc : c ∈ t.2) : ∀ y ∈ c.items, y ∈ t.items := fun y hy => by
  obtain ⟨i, hi, rfl⟩ := List.getElem_of_mem hc
  obtain ⟨j, hj, rfl⟩ := List.getElem_of_mem hy
  have hkl : t.2.length = t.1.length + 1 := f.2.2.1
  have e := inter_kid (its := t.1) (ks := t.2.map PT.items) (m := i) (i := j) (by rw [List.length_map]; exact hkl) (by rw [List.length_map]; exact hi) (by rw [List.getElem_map]; exact hj)
  have e2 : (t.2.map PT.items)[i]'(by rw [List.length_map]; exact hi) = (t.2[i]).items := List.getElem_map ..
  rw [e2, List.getElem?_eq_getElem hj] at e
  exact List.mem_of_getElem? e
theorem beyond_its {h : Nat} {t : PT α (h + 1)} {sd : Bool} {x : α} (b : Beyond lt sd x t.items) : Beyond lt sd x t.1 := fun y hy => b y ((PT.its_sub1 t).subset hy)
/-- What setting an item beyond all others makes of the numbers along that side. -/
theorem put_Sp {d : Nat} (hd : 2 ≤ d) {sd : Bool} {x : α} (P0 : ∀ (l : List α), PT.put lt (2 * d - 1) (h := 0) l x = (match lget lt l x with
      | some _ => ((lput lt l x : PT α 0), none)
      | none => if l.length < 2 * d - 1 then ((ins l (pos lt l x) x : PT α 0), none) else
        match l[(2 * d - 1) / 2]? with
        | none => ((l : PT α 0), none)
        | some md => if pos lt l x ≤ (2 * d - 1) / 2 then ((ins (l.take ((2 * d - 1) / 2)) (pos lt l x) x : PT α 0), some (md, (l.drop ((2 * d - 1) / 2 + 1) : PT α 0))) else ((l.take ((2 * d - 1) / 2) : PT α 0), some (md, (ins (l.drop ((2 * d - 1) / 2 + 1)) (pos lt l x - ((2 * d - 1) / 2 + 1)) x : PT α 0)))))
    (P1 : ∀ {k : Nat} (t : PT α (k + 1)), PT.put lt (2 * d - 1) t x = (match lget lt t.1 x with
      | some _ => (((lput lt t.1 x, t.2) : PT α (k + 1)), none)
      | none => match t.2[pos lt t.1 x]? with
        | none => (t, none)
        | some c => match PT.put lt (2 * d - 1) c x with
          | (l, none) => (((t.1, t.2.set (pos lt t.1 x) l) : PT α (k + 1)), none)
          | (l, some (md, r)) => if t.1.length < 2 * d - 1 then (t.grw (pos lt t.1 x) md l r, none) else
            match t.1[(2 * d - 1) / 2]? with
            | none => (t, none)
            | some md2 => if pos lt t.1 x ≤ (2 * d - 1) / 2 then (PT.grw (t.lo ((2 * d - 1) / 2)) (pos lt t.1 x) md l r, some (md2, t.hi ((2 * d - 1) / 2))) else (t.lo ((2 * d - 1) / 2), some (md2, PT.grw (t.hi ((2 * d - 1) / 2)) (pos lt t.1 x - ((2 * d - 1) / 2 + 1)) md l r)))) :
    ∀ {h lo : Nat} (t : PT α h) {cs : List Nat}, t.Fl (2 * d - 1) lo → Beyond lt sd x t.items → Sp sd t cs →
      ((incL d cs).2 = false → ∃ l, PT.put lt (2 * d - 1) t x = (l, none) ∧ Sp sd l (incL d cs).1) ∧
      ((incL d cs).2 = true → ∃ l md r, PT.put lt (2 * d - 1) t x = (l, some (md, r)) ∧ Sp sd (if sd then r else l) (incL d cs).1) := by
  have e2 : (2 * d - 1) / 2 = d - 1 := by omega
  intro h
  induction h with
  | zero =>
    intro lo (l : List α) cs f b s
    obtain ⟨hg, hp⟩ := beyond_pos (lt := lt) (x := x) (l := l) b
    have s : cs = [l.length] := s
    subst s
    have hl : l.length ≤ 2 * d - 1 := f.2
    have P0 := P0 l
    rw [hg] at P0
    rw [incL]
    by_cases hlt : l.length < 2 * d - 1
    · rw [if_pos hlt]
      refine ⟨fun _ => ⟨(ins l (pos lt l x) x : List α), P0.trans (if_pos hlt), ?_⟩, fun e => absurd e (by simp)⟩
      show [l.length + 1] = [(ins l (pos lt l x) x).length]
      rw [ins_len (pos_le (lt := lt) l x)]
    · rw [if_neg hlt]
      refine ⟨fun e => absurd e (by simp [incL]), fun _ => ?_⟩
      have hmd : l[(2 * d - 1) / 2]? = some (l[(2 * d - 1) / 2]'(by omega)) := List.getElem?_eq_getElem (by omega)
      have P0 := P0.trans (if_neg hlt)
      rw [hmd] at P0
      cases sd with
      | true =>
        have hp : pos lt l x = l.length := hp
        refine ⟨_, _, _, P0.trans (if_neg (by omega)), ?_⟩
        show [d] = [(ins (l.drop ((2 * d - 1) / 2 + 1)) (pos lt l x - ((2 * d - 1) / 2 + 1)) x).length]
        rw [ins_len (by rw [List.length_drop]; omega), List.length_drop]
        congr 1; omega
      | false =>
        have hp : pos lt l x = 0 := hp
        refine ⟨_, _, _, P0.trans (if_pos (by omega)), ?_⟩
        show [d] = [(ins (l.take ((2 * d - 1) / 2)) (pos lt l x) x).length]
        rw [ins_len (by rw [List.length_take]; omega), List.length_take]
        congr 1; omega
  | succ h ih =>
    intro lo t cs f b s
    obtain ⟨c, cs', rfl, hkl, hc, s⟩ := s
    obtain ⟨hg, hp⟩ := beyond_pos (beyond_its b)
    have hl : t.1.length ≤ 2 * d - 1 := f.2.1
    have hcm : c ∈ t.2 := List.mem_of_getElem? hc
    have fc : PT.Fl (2 * d - 1) ((2 * d - 1) / 2) c := f.2.2.2 c hcm
    have bc : Beyond lt sd x c.items := fun y hy => b y (kid_in f hcm y hy)
    have hcp : t.2[pos lt t.1 x]? = some c := by rw [hp]; exact hc
    obtain ⟨i1, i2⟩ := ih c fc bc s
    have P1 := P1 t
    rw [hg] at P1
    simp only [hcp] at P1
    rw [incL_snoc]
    cases hcy : (incL d cs').2 with
    | false =>
      obtain ⟨l, hpl, hsl⟩ := i1 hcy
      rw [hpl] at P1
      rw [if_neg (by simp)]
      refine ⟨fun _ => ⟨_, P1, l, _, rfl, by show (t.2.set _ l).length = _; rw [List.length_set]; exact hkl, ?_, hsl⟩, fun e => absurd e (by simp)⟩
      show (t.2.set (pos lt t.1 x) l)[if sd then t.1.length else 0]? = some l
      rw [← hp, List.getElem?_set_self (by have := pos_le (lt := lt) t.1 x; omega)]
    | true =>
      obtain ⟨l, md, r, hpl, hsl⟩ := i2 hcy
      rw [hpl] at P1
      rw [if_pos rfl]
      by_cases hlt : t.1.length < 2 * d - 1
      · rw [if_pos hlt]
        refine ⟨fun _ => ⟨_, P1.trans (if_pos hlt), ?_⟩, fun e => absurd e (by simp)⟩
        refine ⟨if sd then r else l, _, ?_, ?_, ?_, hsl⟩
        · show _ = (incL d cs').1 ++ [(ins t.1 (pos lt t.1 x) md).length]
          rw [ins_len (pos_le (lt := lt) t.1 x)]
        · show (t.2.take (pos lt t.1 x) ++ l :: r :: t.2.drop (pos lt t.1 x + 1)).length = (ins t.1 (pos lt t.1 x) md).length + 1
          rw [ins_len (pos_le (lt := lt) t.1 x)]
          have := pos_le (lt := lt) t.1 x
          simp only [List.length_append, List.length_take, List.length_cons, List.length_drop]; omega
        · show (t.2.take (pos lt t.1 x) ++ l :: r :: t.2.drop (pos lt t.1 x + 1))[if sd then (ins t.1 (pos lt t.1 x) md).length else 0]? = _
          rw [ins_len (pos_le (lt := lt) t.1 x)]
          cases sd with
          | true =>
            have hp : pos lt t.1 x = t.1.length := hp
            rw [hp]
            show (t.2.take t.1.length ++ l :: r :: t.2.drop (t.1.length + 1))[t.1.length + 1]? = some r
            rw [List.getElem?_append_right (by rw [List.length_take]; omega), List.length_take, show t.1.length + 1 - min t.1.length t.2.length = 1 by omega]; rfl
          | false =>
            have hp : pos lt t.1 x = 0 := hp
            rw [hp]; rfl
      · rw [if_neg hlt]
        refine ⟨fun e => absurd e (by simp), fun _ => ?_⟩
        have hmd : t.1[(2 * d - 1) / 2]? = some (t.1[(2 * d - 1) / 2]'(by omega)) := List.getElem?_eq_getElem (by omega)
        have P1 := P1.trans (if_neg hlt)
        rw [hmd] at P1
        cases sd with
        | true =>
          have hp : pos lt t.1 x = t.1.length := hp
          refine ⟨_, _, _, P1.trans (if_neg (by omega)), ?_⟩
          have hq : pos lt t.1 x - ((2 * d - 1) / 2 + 1) ≤ (t.1.drop ((2 * d - 1) / 2 + 1)).length := by rw [List.length_drop]; omega
          have hq2 : (ins (t.1.drop ((2 * d - 1) / 2 + 1)) (pos lt t.1 x - ((2 * d - 1) / 2 + 1)) md).length = d := by rw [ins_len hq, List.length_drop]; omega
          refine ⟨r, _, ?_, ?_, ?_, hsl⟩
          · show _ = (incL d cs').1 ++ [(ins (t.1.drop ((2 * d - 1) / 2 + 1)) (pos lt t.1 x - ((2 * d - 1) / 2 + 1)) md).length]
            rw [hq2]
          · show ((t.2.drop ((2 * d - 1) / 2 + 1)).take (pos lt t.1 x - ((2 * d - 1) / 2 + 1)) ++ l :: r :: (t.2.drop ((2 * d - 1) / 2 + 1)).drop (pos lt t.1 x - ((2 * d - 1) / 2 + 1) + 1)).length = (ins (t.1.drop ((2 * d - 1) / 2 + 1)) (pos lt t.1 x - ((2 * d - 1) / 2 + 1)) md).length + 1
            rw [hq2]
            simp only [List.length_append, List.length_take, List.length_cons, List.length_drop]; omega
          · show ((t.2.drop ((2 * d - 1) / 2 + 1)).take (pos lt t.1 x - ((2 * d - 1) / 2 + 1)) ++ l :: r :: (t.2.drop ((2 * d - 1) / 2 + 1)).drop (pos lt t.1 x - ((2 * d - 1) / 2 + 1) + 1))[(ins (t.1.drop ((2 * d - 1) / 2 + 1)) (pos lt t.1 x - ((2 * d - 1) / 2 + 1)) md).length]? = some r
            rw [hq2, List.getElem?_append_right (by rw [List.length_take, List.length_drop]; omega), List.length_take, List.length_drop, show d - min (pos lt t.1 x - ((2 * d - 1) / 2 + 1)) (t.2.length - ((2 * d - 1) / 2 + 1)) = 1 by omega]; rfl
        | false =>
          have hp : pos lt t.1 x = 0 := hp
          refine ⟨_, _, _, P1.trans (if_pos (by omega)), ?_⟩
          have hq2 : (ins (t.1.take ((2 * d - 1) / 2)) (pos lt t.1 x) md).length = d := by rw [ins_len (by rw [hp]; omega), List.length_take]; omega
          refine ⟨l, _, ?_, ?_, ?_, hsl⟩
          · show _ = (incL d cs').1 ++ [(ins (t.1.take ((2 * d - 1) / 2)) (pos lt t.1 x) md).length]
            rw [hq2]
          · show ((t.2.take ((2 * d - 1) / 2 + 1)).take (pos lt t.1 x) ++ l :: r :: (t.2.take ((2 * d - 1) / 2 + 1)).drop (pos lt t.1 x + 1)).length = (ins (t.1.take ((2 * d - 1) / 2)) (pos lt t.1 x) md).length + 1
            rw [hq2, hp]
            simp only [List.length_append, List.length_take, List.length_cons, List.length_drop]; omega
          · show ((t.2.take ((2 * d - 1) / 2 + 1)).take (pos lt t.1 x) ++ l :: r :: (t.2.take ((2 * d - 1) / 2 + 1)).drop (pos lt t.1 x + 1))[0]? = some l
            rw [hp]; rfl
end
end Go.Hp
end
section
namespace Go.Hp
set_option linter.unusedVariables false
set_option linter.unusedSimpArgs false
theorem putE0 {α : Type} {lt : α → α → Bool} {m : Nat} : ∀ {l : List α} {x : α}, PT.put lt m (h := 0) l x = (match lget lt l x with
    | some _ => ((lput lt l x : PT α 0), none)
    | none => if l.length < m then ((ins l (pos lt l x) x : PT α 0), none) else
      match l[m / 2]? with
      | none => ((l : PT α 0), none)
      | some md => if pos lt l x ≤ m / 2 then ((ins (l.take (m / 2)) (pos lt l x) x : PT α 0), some (md, (l.drop (m / 2 + 1) : PT α 0))) else ((l.take (m / 2) : PT α 0), some (md, (ins (l.drop (m / 2 + 1)) (pos lt l x - (m / 2 + 1)) x : PT α 0)))) := by
  intro l x; kernel_rfl
theorem putE1 {α : Type} {lt : α → α → Bool} {m k : Nat} : ∀ {t : PT α (k + 1)} {x : α}, PT.put lt m t x = (match lget lt t.1 x with
    | some _ => (((lput lt t.1 x, t.2) : PT α (k + 1)), none)
    | none => match t.2[pos lt t.1 x]? with
      | none => (t, none)
      | some c => match PT.put lt m c x with
        | (l, none) => (((t.1, t.2.set (pos lt t.1 x) l) : PT α (k + 1)), none)
        | (l, some (md, r)) => if t.1.length < m then (t.grw (pos lt t.1 x) md l r, none) else
          match t.1[m / 2]? with
          | none => (t, none)
          | some md2 => if pos lt t.1 x ≤ m / 2 then (PT.grw (t.lo (m / 2)) (pos lt t.1 x) md l r, some (md2, t.hi (m / 2))) else (t.lo (m / 2), some (md2, PT.grw (t.hi (m / 2)) (pos lt t.1 x - (m / 2 + 1)) md l r))) := by
  intro t x; kernel_rfl
section
variable {α : Type} {lt : α → α → Bool}
theorem Sp_len {sd : Bool} : ∀ {h : Nat} (t : PT α h) {cs : List Nat}, Sp sd t cs → cs.length = h + 1
  | 0, l, cs, s => by
    have s : cs = [List.length (α := α) l] := s
    rw [s]; rfl
  | h + 1, t, cs, s => by
    obtain ⟨c, cs', rfl, _, _, s⟩ := s
    have := Sp_len c s
    rw [List.length_append, this]; rfl
def MSp (sd : Bool) : MT α → List Nat → Prop
  | none, cs => cs = []
  | some t, cs => Sp sd t.2 cs
def MT.hgt : MT α → Nat
  | none => 0
  | some t => t.1 + 1
theorem MSp.hgt {sd : Bool} {p : MT α} {cs : List Nat} (s : MSp sd p cs) : p.hgt = cs.length := by
  cases p with
  | none => have s : cs = [] := s; rw [s]; rfl
  | some t => exact (Sp_len t.2 s).symm
theorem set_MSp (o : Swo lt) {d : Nat} (hd : 2 ≤ d) {sd : Bool} {x : α} {p : MT α} {cs : List Nat} (f : p.Fl (2 * d - 1)) (ha : Asc lt p.items) (b : Beyond lt sd x p.items) (s : MSp sd p cs) : MSp sd (MT.set lt (2 * d - 1) p x) (incS d cs) := by
  cases p with
  | none =>
    have s : cs = [] := s
    subst s
    rfl
  | some t =>
    obtain ⟨k, t⟩ := t
    have s : Sp sd t cs := s
    have f : t.Fl (2 * d - 1) 1 := f
    have b : Beyond lt sd x t.items := b
    rw [MT.put_set o (by omega) (by omega) (t := ⟨k, t⟩) f ha]
    obtain ⟨i1, i2⟩ := put_Sp hd (lt := lt) (sd := sd) (x := x) (fun l => putE0) (fun t => putE1) t f b s
    unfold incS
    cases hc : (incL d cs).2 with
    | false =>
      obtain ⟨l, e, sl⟩ := i1 hc
      have e : PT.put lt (2 * d - 1) t x = (l, none) := e
      simp only [e]; exact sl
    | true =>
      obtain ⟨l, md, r, e, sl⟩ := i2 hc
      simp only [e]
      exact ⟨if sd then r else l, (incL d cs).1, rfl, rfl, by cases sd <;> rfl, sl⟩
end
end Go.Hp
end
section
namespace Go.Proofs.Ytkkappjbcgnacaa.Ii
open Go.Hp Go.Proofs.Ytkkappjbcgnacaa
set_option linter.unusedVariables false
set_option linter.unusedSimpArgs false
variable {h0 h : Heap} {Z E : List Rg} {Q : Value → Heap → Prop}

/-- A step: what is done, the key, the value, a hint. -/
abbrev Stp := Int × Int × Int × Bool
def encS (x : Stp) : List Value := [.int .i64 x.1, .int .i64 0, .int .i64 x.2.1, .int .i64 x.2.2.1, .int .i64 0, .int .i64 0, .int .i64 0, .bool x.2.2.2, .bool false]
theorem encSl (x : Stp) : (encS x).length = 9 := rfl
theorem encS1 (x : Stp) : ∀ y ∈ encS x, one1 y = true := by simp [encS, one1]
def eff (m : Nat) (p : MT It) (x : Stp) : MT It := if x.1 ≤ 1 then p.set lt m (x.2.1, x.2.2.1) else p
def Okk (p : MT It) (x : Stp) : Prop := x.1 = 0 ∨ (x.1 = 1 ∧ ∀ y ∈ p.items, y.1 ≤ x.2.1) ∨ x.1 = 2 ∨ x.1 = 4
theorem stepMap_ok {d tb : Nat} {g : Rt} {x : Stp} (hd : 2 ≤ d) (M : MapOk (2 * d - 1) 0 g) (hsz : (rPt g).items.length ≤ 2147483647) (ok : Okk (rPt g) x) (s : St h0 Z ((tb, 0, hdr 0 none (rA g) (rPt g).items.length ((d - 1 : Nat) : Int) ((2 * d - 1 : Nat) : Int)) :: (rAll g ++ E)) h)
    (H : ∀ (g' : Rt) (o : Option It) F h', rPt g' = eff (2 * d - 1) (rPt g) x → MapOk (2 * d - 1) 0 g' → St h0 Z ((tb, 0, hdr 0 none (rA g') (rPt g').items.length ((d - 1 : Nat) : Int) ((2 * d - 1 : Nat) : Int)) :: (rAll g' ++ (F ++ E))) h' → Q (.tuple #[.agg (foundC o).toArray, .slice none 0 0]) h') :
    i_stepMap.call #[ptr tb 0, .agg (encS x).toArray] h Q := by
  refine i_stepMap.body _ _ _ _ ?_
  unfold i_stepMap.sh
  obtain ⟨dd, k, w, hb⟩ := x
  refine St.r_box (cs := encS (dd, k, w, hb)) s fun t3 h s => ?_
  refine s.r_alloc fun t4 h s => ?_
  have fin : ∀ {g' : Rt} {h : Heap} {q : It} {b : Bool} {F0 : List Rg}, rPt g' = eff (2 * d - 1) (rPt g) (dd, k, w, hb) → MapOk (2 * d - 1) 0 g' → St h0 Z ((t4, 0, [.int .i64 0, .int .i64 0, .bool false]) :: (t3, 0, encS (dd, k, w, hb)) :: (tb, 0, hdr 0 none (rA g') (rPt g').items.length ((d - 1 : Nat) : Int) ((2 * d - 1 : Nat) : Int)) :: (rAll g' ++ (F0 ++ E))) h →
      i_stepMap.j1 (ptr t4 0) (.int .i64 q.1) (.int .i64 q.2) (.bool b) h Q := fun {g' h q b F0} e M' s => by
    unfold i_stepMap.j1
    refine pair_ok (p := q) fun E2 h s2 => ?_
    have s := s.join s2
    have s := s.perm List.perm_append_comm
    generalize (if b = true then some q else none) = o
    rcases o with _ | p
    · refine St.r_storeN0 s 0 rfl (foundC_len none) (by simp) (foundC_one none) ?_; intro h s
      have s : St h0 Z (((t4, 0, foundC none) :: (t3, 0, encS (dd, k, w, hb)) :: (tb, 0, hdr 0 none (rA g') (rPt g').items.length ((d - 1 : Nat) : Int) ((2 * d - 1 : Nat) : Int)) :: (rAll g' ++ (F0 ++ E))) ++ E2) h := s
      refine St.r_loadN0 s 0 rfl (by simp) ?_
      exact H g' none ((t4, 0, foundC none) :: (t3, 0, encS (dd, k, w, hb)) :: (F0 ++ E2)) h e M' (s.perm (by ((apply perm_rg; intro f; simp only [List.set_cons_zero, List.set_cons_succ, List.eraseIdx_cons_zero, List.eraseIdx_cons_succ, List.cons_append, List.nil_append, List.map_append, List.map_cons, List.map_nil, List.sum_append, List.sum_cons, List.sum_nil, List.map_flatMap, Nat.add_zero, Nat.zero_add]; ac_rfl))))
    · refine St.r_storeN0 s 0 rfl (foundC_len (some p)) (by simp) (foundC_one (some p)) ?_; intro h s
      have s : St h0 Z (((t4, 0, foundC (some p)) :: (t3, 0, encS (dd, k, w, hb)) :: (tb, 0, hdr 0 none (rA g') (rPt g').items.length ((d - 1 : Nat) : Int) ((2 * d - 1 : Nat) : Int)) :: (rAll g' ++ (F0 ++ E))) ++ E2) h := s
      refine St.r_loadN0 s 0 rfl (by simp) ?_
      exact H g' (some p) ((t4, 0, foundC (some p)) :: (t3, 0, encS (dd, k, w, hb)) :: (F0 ++ E2)) h e M' (s.perm (by ((apply perm_rg; intro f; simp only [List.set_cons_zero, List.set_cons_succ, List.eraseIdx_cons_zero, List.eraseIdx_cons_succ, List.cons_append, List.nil_append, List.map_append, List.map_cons, List.map_nil, List.sum_append, List.sum_cons, List.sum_nil, List.map_flatMap, Nat.add_zero, Nat.zero_add]; ac_rfl))))
  have hset : dd ≤ 1 → (rPt g).set lt (2 * d - 1) (k, w) = eff (2 * d - 1) (rPt g) (dd, k, w, hb) := fun e => (if_pos e).symm
  have hno : ¬ dd ≤ 1 → rPt g = eff (2 * d - 1) (rPt g) (dd, k, w, hb) := fun e => (if_neg e).symm
  have ok : dd = 0 ∨ (dd = 1 ∧ ∀ y ∈ (rPt g).items, y.1 ≤ k) ∨ dd = 2 ∨ dd = 4 := ok
  refine r_fld (r_fld ?_)
  refine St.r_load0 s 1 rfl rfl ?_
  refine r_fld ?_
  refine St.r_load0 s 1 rfl rfl ?_
  refine r_cmpI ?_
  refine r_if (fun e0 => ?_) (fun e0 => ?_)
  · have e0 : dd = 0 := by simpa using e0
    refine r_fld (r_fld ?_)
    refine St.r_load0 s 1 rfl rfl ?_
    refine Set_ok (mn := ((d - 1 : Nat) : Int)) (x := (k, w)) (E := (t4, 0, [.int .i64 0, .int .i64 0, .bool false]) :: (t3, 0, encS (dd, k, w, hb)) :: E) M (by omega) (by omega) (s.perm (by ((apply perm_rg; intro f; simp only [List.set_cons_zero, List.set_cons_succ, List.eraseIdx_cons_zero, List.eraseIdx_cons_succ, List.cons_append, List.nil_append, List.map_append, List.map_cons, List.map_nil, List.sum_append, List.sum_cons, List.sum_nil, List.map_flatMap, Nat.add_zero, Nat.zero_add]; ac_rfl)))) fun g' h e1 M' s => ?_
    refine r_ext rfl ?_
    refine r_ext rfl ?_
    exact fin (q := (k, ((lget lt (rPt g).items (k, w)).getD emp).2)) (F0 := []) (e1.trans (hset (by omega))) M' (s.perm (by ((apply perm_rg; intro f; simp only [List.set_cons_zero, List.set_cons_succ, List.eraseIdx_cons_zero, List.eraseIdx_cons_succ, List.cons_append, List.nil_append, List.map_append, List.map_cons, List.map_nil, List.sum_append, List.sum_cons, List.sum_nil, List.map_flatMap, Nat.add_zero, Nat.zero_add]; ac_rfl))))
  · have e0 : dd ≠ 0 := by simpa using e0
    refine r_cmpI ?_
    refine r_if (fun e1 => ?_) (fun e1 => ?_)
    · have e1 : dd = 1 := by simpa using e1
      have hle : ∀ y ∈ (rPt g).items, y.1 ≤ k := by
        rcases ok with e | ⟨_, e⟩ | e | e
        · exact absurd e e0
        · exact e
        · omega
        · omega
      refine Max_ok (E := (t4, 0, [.int .i64 0, .int .i64 0, .bool false]) :: (t3, 0, encS (dd, k, w, hb)) :: E) M (s.perm (by ((apply perm_rg; intro f; simp only [List.set_cons_zero, List.set_cons_succ, List.eraseIdx_cons_zero, List.eraseIdx_cons_succ, List.cons_append, List.nil_append, List.map_append, List.map_cons, List.map_nil, List.sum_append, List.sum_cons, List.sum_nil, List.map_flatMap, Nat.add_zero, Nat.zero_add]; ac_rfl)))) fun E1 h s => ?_
      have s : St h0 Z ((t4, 0, [.int .i64 0, .int .i64 0, .bool false]) :: (t3, 0, encS (dd, k, w, hb)) :: (tb, 0, hdr 0 none (rA g) (rPt g).items.length ((d - 1 : Nat) : Int) ((2 * d - 1 : Nat) : Int)) :: (rAll g ++ (E1 ++ E))) h := s.perm (by ((apply perm_rg; intro f; simp only [List.set_cons_zero, List.set_cons_succ, List.eraseIdx_cons_zero, List.eraseIdx_cons_succ, List.cons_append, List.nil_append, List.map_append, List.map_cons, List.map_nil, List.sum_append, List.sum_cons, List.sum_nil, List.map_flatMap, Nat.add_zero, Nat.zero_add]; ac_rfl)))
      refine r_ext rfl ?_
      refine r_ext rfl ?_
      refine r_ext rfl ?_
      refine r_not ?_
      refine r_br (fun e => ?_) (fun e => ?_)
      · refine r_cmpI ?_
        refine r_if (fun _ => ?_) (fun e2 => ?_)
        · refine r_fld (r_fld ?_)
          refine St.r_load0 s 1 rfl rfl ?_
          refine Load_ok (mn := ((d - 1 : Nat) : Int)) (x := (k, w)) (E := (t4, 0, [.int .i64 0, .int .i64 0, .bool false]) :: (t3, 0, encS (dd, k, w, hb)) :: (E1 ++ E)) M (by omega) (by omega) (s.perm (by ((apply perm_rg; intro f; simp only [List.set_cons_zero, List.set_cons_succ, List.eraseIdx_cons_zero, List.eraseIdx_cons_succ, List.cons_append, List.nil_append, List.map_append, List.map_cons, List.map_nil, List.sum_append, List.sum_cons, List.sum_nil, List.map_flatMap, Nat.add_zero, Nat.zero_add]; ac_rfl)))) fun g' h e1 M' s => ?_
          refine r_ext rfl ?_
          refine r_ext rfl ?_
          exact fin (q := (k, ((lget lt (rPt g).items (k, w)).getD emp).2)) (F0 := E1) (e1.trans (hset (by omega))) M' (s.perm (by ((apply perm_rg; intro f; simp only [List.set_cons_zero, List.set_cons_succ, List.eraseIdx_cons_zero, List.eraseIdx_cons_succ, List.cons_append, List.nil_append, List.map_append, List.map_cons, List.map_nil, List.sum_append, List.sum_cons, List.sum_nil, List.map_flatMap, Nat.add_zero, Nat.zero_add]; ac_rfl))))
        · exfalso
          cases hl : (rPt g).items.getLast? with
          | none => rw [hl] at e; exact absurd e (by simp)
          | some y =>
            rw [hl] at e2
            have := hle y (List.mem_of_getLast? hl)
            have e2 : ¬ k ≥ y.1 := of_decide_eq_false e2
            exact e2 this
      · refine r_fld (r_fld ?_)
        refine St.r_load0 s 1 rfl rfl ?_
        refine Load_ok (mn := ((d - 1 : Nat) : Int)) (x := (k, w)) (E := (t4, 0, [.int .i64 0, .int .i64 0, .bool false]) :: (t3, 0, encS (dd, k, w, hb)) :: (E1 ++ E)) M (by omega) (by omega) (s.perm (by ((apply perm_rg; intro f; simp only [List.set_cons_zero, List.set_cons_succ, List.eraseIdx_cons_zero, List.eraseIdx_cons_succ, List.cons_append, List.nil_append, List.map_append, List.map_cons, List.map_nil, List.sum_append, List.sum_cons, List.sum_nil, List.map_flatMap, Nat.add_zero, Nat.zero_add]; ac_rfl)))) fun g' h e1 M' s => ?_
        refine r_ext rfl ?_
        refine r_ext rfl ?_
        exact fin (q := (k, ((lget lt (rPt g).items (k, w)).getD emp).2)) (F0 := E1) (e1.trans (hset (by omega))) M' (s.perm (by ((apply perm_rg; intro f; simp only [List.set_cons_zero, List.set_cons_succ, List.eraseIdx_cons_zero, List.eraseIdx_cons_succ, List.cons_append, List.nil_append, List.map_append, List.map_cons, List.map_nil, List.sum_append, List.sum_cons, List.sum_nil, List.map_flatMap, Nat.add_zero, Nat.zero_add]; ac_rfl))))
    · have e1 : dd ≠ 1 := by simpa using e1
      have ok2 : dd = 2 ∨ dd = 4 := by rcases ok with e | ⟨e, _⟩ | e | e <;> omega
      refine r_cmpI ?_
      refine r_if (fun e2 => ?_) (fun e2 => ?_)
      · have e2 : dd = 2 := by simpa using e2
        refine Get_ok (x := (k, 0)) (E := (t4, 0, [.int .i64 0, .int .i64 0, .bool false]) :: (t3, 0, encS (dd, k, w, hb)) :: E) M (s.perm (by ((apply perm_rg; intro f; simp only [List.set_cons_zero, List.set_cons_succ, List.eraseIdx_cons_zero, List.eraseIdx_cons_succ, List.cons_append, List.nil_append, List.map_append, List.map_cons, List.map_nil, List.sum_append, List.sum_cons, List.sum_nil, List.map_flatMap, Nat.add_zero, Nat.zero_add]; ac_rfl)))) ?_
        refine r_ext rfl ?_
        refine r_ext rfl ?_
        exact fin (q := (k, ((lget lt (rPt g).items (k, 0)).getD emp).2)) (F0 := []) (hno (by omega)) M s
      · have e2 : dd ≠ 2 := by simpa using e2
        refine r_cmpI ?_
        refine r_if (fun e3 => ?_) (fun e3 => ?_)
        · have e3 : dd = 3 := by simpa using e3
          exact absurd ok2 (by omega)
        · refine r_cmpI ?_
          refine r_if (fun e4 => ?_) (fun e4 => ?_)
          · refine Min_ok (E := (t4, 0, [.int .i64 0, .int .i64 0, .bool false]) :: (t3, 0, encS (dd, k, w, hb)) :: E) M (s.perm (by ((apply perm_rg; intro f; simp only [List.set_cons_zero, List.set_cons_succ, List.eraseIdx_cons_zero, List.eraseIdx_cons_succ, List.cons_append, List.nil_append, List.map_append, List.map_cons, List.map_nil, List.sum_append, List.sum_cons, List.sum_nil, List.map_flatMap, Nat.add_zero, Nat.zero_add]; ac_rfl)))) fun E1 h s => ?_
            refine r_ext rfl ?_
            refine r_ext rfl ?_
            refine r_ext rfl ?_
            exact fin (q := ((rPt g).items.head?.getD emp)) (F0 := E1) (hno (by omega)) M (s.perm (by ((apply perm_rg; intro f; simp only [List.set_cons_zero, List.set_cons_succ, List.eraseIdx_cons_zero, List.eraseIdx_cons_succ, List.cons_append, List.nil_append, List.map_append, List.map_cons, List.map_nil, List.sum_append, List.sum_cons, List.sum_nil, List.map_flatMap, Nat.add_zero, Nat.zero_add]; ac_rfl))))
          · have e4 : dd ≠ 4 := by simpa using e4
            exact absurd ok2 (by omega)
def repC (r : Option It × Nat) : List Value := match r.1 with
  | some p => [.int .i64 p.1, .int .i64 p.2, .bool true, .int .i64 r.2, .slice none 0 0]
  | none => [.int .i64 0, .int .i64 0, .bool false, .int .i64 r.2, .slice none 0 0]
theorem repCl (r : Option It × Nat) : (repC r).length = 5 := by obtain ⟨_ | _, _⟩ := r <;> rfl
theorem repC1 (r : Option It × Nat) : ∀ y ∈ repC r, one1 y = true := by obtain ⟨_ | _, _⟩ := r <;> simp [repC, one1]
theorem rem01 (H : Q (.int .i64 0) h) : i_remainder.call #[.int .i64 0, .int .i64 1] h Q := by
  refine i_remainder.body _ _ _ _ ?_
  unfold i_remainder.sh
  refine r_remN (by decide) (by decide) ?_
  refine r_add (z := 1) (by decide) ?_
  refine r_remN (by decide) (by decide) ?_
  exact H
theorem playMap_ok {hB : Heap} {d : Nat} {S : List Stp} {v : Value} (hd : 2 ≤ d) (hd2 : d ≤ 512) (hl : S.length ≤ 100000) (hr : Rdl 9 hB v S.length (S.flatMap encS)) (ok : ∀ j (hj : j < S.length), Okk ((S.take j).foldl (eff (2 * d - 1)) none) S[j])
    (H : ∀ (g : Rt) tb ta vt vo R h', rPt g = S.foldl (eff (2 * d - 1)) none → (rPt g).items.length ≤ S.length → MapOk (2 * d - 1) 0 g → St hB [] ((ta, 0, [ptr tb 0]) :: (tb, 0, hdr 0 none (rA g) (rPt g).items.length ((d - 1 : Nat) : Int) ((2 * d - 1 : Nat) : Int)) :: (rAll g ++ R)) h' → Own 1 vt 1 ta 0 [ptr tb 0] [] → Q (.tuple #[vt, vo]) h') :
    i_playMap.call #[.int .i64 d, v] hB Q := by
  refine i_playMap.body _ _ _ _ ?_
  unfold i_playMap.sh
  refine grow_ok (l := []) (Rdl.nil 2 hB) (by simp) hd hd2 fun g tb h e0 e M s => ?_
  refine St.r_mkSl (sz := 1) (cs := [ptr tb 0]) s (by ((simp only [fillV, fill1, Value.cells, zeros_succ, zeros_zero, List.size_toArray, List.length_cons, List.length_nil, List.length_append, List.take_succ_cons, List.take_zero, List.take_nil, List.drop_succ_cons, List.drop_zero, List.drop_nil, List.cons_append, List.nil_append, List.append_nil, Nat.reduceAdd, Nat.reduceMul, Nat.reduceLeDiff, Nat.reduceEqDiff, and_self, and_true, true_and, if_true, Nat.le_refl, Nat.zero_add, Nat.add_zero, Nat.zero_mul, reduceIte, if_false] <;> rfl))) rfl fun ta h s wt => ?_
  refine (hr.st s).lenV ?_
  have s0 := s.empty 0 0
  replace e0 : rPt g = none := e0
  refine loop_ghost (fun q st h' => ∃ (j : Nat) (vt vo : Value) (b1 o1 : Nat) (p1 : List Value) (F : List (Option It × Nat)) (g : Rt) (R : List Rg), q = S.length - j ∧ j ≤ S.length ∧ st = [vt, vo, .int .i64 (j : Nat)] ∧ F.length = j ∧ rPt g = (S.take j).foldl (eff (2 * d - 1)) none ∧ (rPt g).items.length ≤ j ∧ MapOk (2 * d - 1) 0 g ∧ Own 1 vt 1 ta 0 [ptr tb 0] [] ∧ Own 5 vo F.length b1 o1 (F.flatMap repC) p1 ∧
      St hB [] ((b1, o1, F.flatMap repC ++ p1) :: (ta, 0, [ptr tb 0]) :: (tb, 0, hdr 0 none (rA g) (rPt g).items.length ((d - 1 : Nat) : Int) ((2 * d - 1 : Nat) : Int)) :: (rAll g ++ R)) h') (n0 := S.length)
    ⟨0, _, .slice none 0 0, 0, 0, [], [], g, [], rfl, Nat.zero_le _, rfl, rfl, e0, by rw [e0]; exact Nat.zero_le _, M, wt, Own.nil 5 0 0, by have e9 := s0; rw [← List.append_nil (rAll g)] at e9; exact e9⟩ ?_
  rintro q st h ⟨j, vt, vo, b1, o1, p1, F, g, R, rfl, hj, rfl, hF, e, hn, M, wt, w1, s⟩ K HK
  unfold i_playMap.l2.b
  refine r_cmpI ?_
  refine r_if (fun hlt => ?_) (fun hge => ?_)
  · have hlt : j < S.length := by have := of_decide_eq_true hlt; omega
    unfold i_playMap.j3
    refine (hr.st s).at (f := encS) (n := j) rfl encSl rfl rfl hlt fun b o hb => ?_
    refine hb.loadN rfl ?_
    have okj := ok j hlt
    rw [← e] at okj
    have et : eff (2 * d - 1) (rPt g) S[j] = (S.take (j + 1)).foldl (eff (2 * d - 1)) none := by rw [List.take_succ_eq_append_getElem hlt, List.foldl_append, ← e]; rfl
    generalize S[j] = x at *
    refine s.r_alloc fun t9 h s => ?_
    refine St.r_storeN0 s 0 rfl rfl (by simp) (encS1 _) ?_; intro h s
    have s : St hB [] ((t9, 0, encS x) :: (b1, o1, F.flatMap repC ++ p1) :: (ta, 0, [ptr tb 0]) :: (tb, 0, hdr 0 none (rA g) (rPt g).items.length ((d - 1 : Nat) : Int) ((2 * d - 1 : Nat) : Int)) :: (rAll g ++ R)) h := s
    refine r_fld ?_
    refine St.r_load0 s 0 rfl rfl ?_
    refine wt.lenV ?_
    refine rem01 ?_
    refine wt.idx (n := 0) rfl (by decide) ?_
    refine St.r_load0 s 2 rfl rfl ?_
    refine r_fld ?_
    refine St.r_load0 s 0 rfl rfl ?_
    refine r_cmpI ?_
    refine r_if (fun e => ?_) (fun _ => ?_)
    · have e : x.1 = 10 := by simpa using e
      exfalso
      rcases okj with h | ⟨h, _⟩ | h | h <;> omega
    unfold i_playMap.j5
    refine St.r_loadN0 s 0 rfl (Nat.le_refl 9) ?_
    refine stepMap_ok (x := x) (E := (t9, 0, encS x) :: (b1, o1, F.flatMap repC ++ p1) :: (ta, 0, [ptr tb 0]) :: R) hd M (by omega) okj (s.perm (by ((apply perm_rg; intro f; simp only [List.set_cons_zero, List.set_cons_succ, List.eraseIdx_cons_zero, List.eraseIdx_cons_succ, List.cons_append, List.nil_append, List.map_append, List.map_cons, List.map_nil, List.sum_append, List.sum_cons, List.sum_nil, List.map_flatMap, Nat.add_zero, Nat.zero_add]; ac_rfl)))) fun g' o F2 h e1 M' s => ?_
    have hn' : (rPt g').items.length ≤ j + 1 := by
      rw [e1]
      unfold eff
      split
      · rw [(MT.set_items swo M.odd M.m3 M.fl M.asc).1, lput_length]; split <;> omega
      · omega
    refine r_ext rfl ?_
    refine r_ext rfl ?_
    refine s.r_alloc fun t11 h s => ?_
    have s : St hB [] ((t11, 0, [.int .i64 0, .int .i64 0, .bool false]) :: (b1, o1, F.flatMap repC ++ p1) :: (ta, 0, [ptr tb 0]) :: (tb, 0, hdr 0 none (rA g') (rPt g').items.length ((d - 1 : Nat) : Int) ((2 * d - 1 : Nat) : Int)) :: (rAll g' ++ ((t9, 0, encS x) :: (F2 ++ R)))) h := s.perm (by ((apply perm_rg; intro f; simp only [List.set_cons_zero, List.set_cons_succ, List.eraseIdx_cons_zero, List.eraseIdx_cons_succ, List.cons_append, List.nil_append, List.map_append, List.map_cons, List.map_nil, List.sum_append, List.sum_cons, List.sum_nil, List.map_flatMap, Nat.add_zero, Nat.zero_add]; ac_rfl)))
    refine St.r_storeN0 s 0 rfl (foundC_len o) (by simp) (foundC_one o) ?_; intro h s
    have s : St hB [] ((t11, 0, foundC o) :: (b1, o1, F.flatMap repC ++ p1) :: (ta, 0, [ptr tb 0]) :: (tb, 0, hdr 0 none (rA g') (rPt g').items.length ((d - 1 : Nat) : Int) ((2 * d - 1 : Nat) : Int)) :: (rAll g' ++ ((t9, 0, encS x) :: (F2 ++ R)))) h := by
      rcases o with _ | p <;> exact s
    have ho : (foundC o)[2]? = some (.bool o.isSome) := by cases o <;> rfl
    refine r_fld ?_
    refine St.r_loadN0 s 0 rfl (by rw [foundC_len]; omega) ?_
    refine r_fld ?_
    refine St.r_load0 s 0 rfl ho ?_
    refine Map_ii_Len_ok (v := .int .i64 ((rPt g').items.length : Nat)) (s.get (k := 3) rfl (j := 3) (by simp [hdr])) ?_
    refine ⟨St.r_stillN0 s 0 rfl (by rw [foundC_len]; omega) rfl, St.r_still0 s 0 rfl ho, ?_⟩
    refine r_build (cs := repC (o, (rPt g').items.length)) (by rcases o with _ | p <;> ((simp only [fillV, fill1, Value.cells, zeros_succ, zeros_zero, List.size_toArray, List.length_cons, List.length_nil, List.length_append, List.take_succ_cons, List.take_zero, List.take_nil, List.drop_succ_cons, List.drop_zero, List.drop_nil, List.cons_append, List.nil_append, List.append_nil, Nat.reduceAdd, Nat.reduceMul, Nat.reduceLeDiff, Nat.reduceEqDiff, and_self, and_true, true_and, if_true, Nat.le_refl, Nat.zero_add, Nat.add_zero, Nat.zero_mul, reduceIte, if_false] <;> rfl))) ?_
    refine St.r_mkSl (sz := 5) (cs := repC (o, (rPt g').items.length)) s (by rcases o with _ | p <;> ((simp only [fillV, fill1, Value.cells, zeros_succ, zeros_zero, List.size_toArray, List.length_cons, List.length_nil, List.length_append, List.take_succ_cons, List.take_zero, List.take_nil, List.drop_succ_cons, List.drop_zero, List.drop_nil, List.cons_append, List.nil_append, List.append_nil, Nat.reduceAdd, Nat.reduceMul, Nat.reduceLeDiff, Nat.reduceEqDiff, and_self, and_true, true_and, if_true, Nat.le_refl, Nat.zero_add, Nat.add_zero, Nat.zero_mul, reduceIte, if_false] <;> rfl))) (repCl _) fun q5 h s wq => ?_
    refine s.r_appL (f := repC) (L := F) (M := [(o, (rPt g').items.length)]) 2 rfl w1 rfl (by have := wq.rdl s 0 (by rw [List.append_nil]; rfl); simpa using this) (fun y _ => repC1 y) (by rw [List.length_singleton]; omega) (by rw [List.length_singleton]; omega) fun v' b' o' sp' h s w' => ?_
    have s : St hB [] ((q5, 0, repC (o, (rPt g').items.length)) :: (t11, 0, foundC o) :: (b', o', (F ++ [(o, (rPt g').items.length)]).flatMap repC ++ sp') :: (ta, 0, [ptr tb 0]) :: (tb, 0, hdr 0 none (rA g') (rPt g').items.length ((d - 1 : Nat) : Int) ((2 * d - 1 : Nat) : Int)) :: (rAll g' ++ ((t9, 0, encS x) :: (F2 ++ R)))) h := s
    unfold i_playMap.j4
    refine r_add1 (by omega) ?_
    exact HK (S.length - (j + 1)) _ _ (by omega) ⟨j + 1, vt, v', b', o', sp', _, g', (q5, 0, repC (o, (rPt g').items.length)) :: (t11, 0, foundC o) :: (t9, 0, encS x) :: (F2 ++ R), rfl, hlt, rfl, by rw [List.length_append, hF]; rfl, e1.trans et, hn', M', wt, w', s.perm (by ((apply perm_rg; intro f; simp only [List.set_cons_zero, List.set_cons_succ, List.eraseIdx_cons_zero, List.eraseIdx_cons_succ, List.cons_append, List.nil_append, List.map_append, List.map_cons, List.map_nil, List.sum_append, List.sum_cons, List.sum_nil, List.map_flatMap, Nat.add_zero, Nat.zero_add]; ac_rfl)))⟩
  · have hge : j = S.length := by have := of_decide_eq_false hge; omega
    subst hge
    rw [List.take_length] at e
    unfold i_playMap.j1
    exact H g tb ta vt vo ((b1, o1, F.flatMap repC ++ p1) :: R) h e hn M (s.perm (by ((apply perm_rg; intro f; simp only [List.set_cons_zero, List.set_cons_succ, List.eraseIdx_cons_zero, List.eraseIdx_cons_succ, List.cons_append, List.nil_append, List.map_append, List.map_cons, List.map_nil, List.sum_append, List.sum_cons, List.sum_nil, List.map_flatMap, Nat.add_zero, Nat.zero_add]; ac_rfl)))) wt
def shC (r : Nat × Nat) : List Value := [.int .i64 r.1, .int .i64 r.2, .slice none 0 0]
theorem Height_ok2 {d tb : Nat} {g : Rt} {R : List Rg} {hB : Heap} (M : MapOk (2 * d - 1) 0 g) (hn : (rPt g).items.length ≤ 1000000) (s : St hB [] ((tb, 0, hdr 0 none (rA g) (rPt g).items.length ((d - 1 : Nat) : Int) ((2 * d - 1 : Nat) : Int)) :: (rAll g ++ R)) h) (H : Q (.int .i64 ((rPt g).hgt : Nat)) h) : Map_ii_Height.call #[ptr tb 0] h Q := by
  cases g with
  | none =>
    refine Map_ii_Height.body _ _ _ ?_
    unfold Map_ii_Height.sh
    refine r_nil (r_fld ?_)
    refine St.r_load0 s 0 rfl rfl ?_
    refine r_neNilP ?_
    refine r_if (fun e => absurd e (by simp [rA])) (fun _ => ?_)
    exact H
  | some t =>
    obtain ⟨k, t⟩ := t
    have f : t.pt.Fl (2 * d - 1) 1 := M.fl
    have hk := PT.height_le M.m3 f (Nat.le_refl 1)
    have hn : t.pt.items.length ≤ 1000000 := hn
    exact Map_ii_Height_ok (k := k) (t := t) (s.get (k := 0) rfl (j := 2) (by simp [hdr])) (GT.At.of M.gd.wf fun r hr => (s.e r (List.mem_cons_of_mem _ (List.mem_append.2 (.inl hr)))).1) (by omega) H
theorem MShapes_ok {hB : Heap} {d : Nat} {S : List Stp} {v : Value} (hd : 2 ≤ d) (hd2 : d ≤ 512) (hl : S.length ≤ 100000) (hr : Rdl 9 hB v S.length (S.flatMap encS)) (ok : ∀ j (hj : j < S.length), Okk ((S.take j).foldl (eff (2 * d - 1)) none) S[j])
    (H : ∀ v' E' h', St hB [] E' h' → Rdl 3 h' v' 1 (shC ((S.foldl (eff (2 * d - 1)) none).hgt, (S.foldl (eff (2 * d - 1)) none).items.length)) → Q v' h') :
    i_MShapes.call #[.int .i64 d, v] hB Q := by
  refine i_MShapes.body _ _ _ _ ?_
  unfold i_MShapes.sh
  refine playMap_ok hd hd2 hl hr ok fun g tb ta vt vo R h e hn M s wt => ?_
  rw [← e] at H
  refine r_ext rfl ?_
  refine r_ext rfl ?_
  refine wt.lenV ?_
  refine loop_ghost (fun q st h' => ∃ (vs : Value) (R' : List Rg), St hB [] ((ta, 0, [ptr tb 0]) :: (tb, 0, hdr 0 none (rA g) (rPt g).items.length ((d - 1 : Nat) : Int) ((2 * d - 1 : Nat) : Int)) :: (rAll g ++ R')) h' ∧ ((q = 1 ∧ st = [.slice none 0 0, .int .i64 (0 : Nat)]) ∨ (q = 0 ∧ st = [vs, .int .i64 (1 : Nat)] ∧ Rdl 3 h' vs 1 (shC ((rPt g).hgt, (rPt g).items.length))))) (n0 := 1)
    ⟨.slice none 0 0, R, s, .inl ⟨rfl, rfl⟩⟩ ?_
  clear s
  rintro q st h ⟨vs, R', s, ⟨rfl, rfl⟩ | ⟨rfl, rfl, r2⟩⟩ K HK
  · unfold i_MShapes.l2.b
    refine r_cmpI ?_
    refine r_if (fun _ => ?_) (fun e => absurd e (by decide))
    unfold i_MShapes.j3
    refine wt.idx (n := 0) rfl (by decide) ?_
    refine St.r_load0 s 0 rfl rfl ?_
    refine Height_ok2 (R := (ta, 0, [ptr tb 0]) :: R') M (by omega) (s.perm (by ((apply perm_rg; intro f; simp only [List.set_cons_zero, List.set_cons_succ, List.eraseIdx_cons_zero, List.eraseIdx_cons_succ, List.cons_append, List.nil_append, List.map_append, List.map_cons, List.map_nil, List.sum_append, List.sum_cons, List.sum_nil, List.map_flatMap, Nat.add_zero, Nat.zero_add]; ac_rfl)))) ?_
    refine Map_ii_Len_ok (v := .int .i64 ((rPt g).items.length : Nat)) (s.get (k := 1) rfl (j := 3) (by simp [hdr])) ?_
    refine r_build (cs := shC ((rPt g).hgt, (rPt g).items.length)) (by ((simp only [fillV, fill1, Value.cells, zeros_succ, zeros_zero, List.size_toArray, List.length_cons, List.length_nil, List.length_append, List.take_succ_cons, List.take_zero, List.take_nil, List.drop_succ_cons, List.drop_zero, List.drop_nil, List.cons_append, List.nil_append, List.append_nil, Nat.reduceAdd, Nat.reduceMul, Nat.reduceLeDiff, Nat.reduceEqDiff, and_self, and_true, true_and, if_true, Nat.le_refl, Nat.zero_add, Nat.add_zero, Nat.zero_mul, reduceIte, if_false] <;> rfl))) ?_
    have s0 := s
    refine St.r_mkSl (sz := 3) (cs := shC ((rPt g).hgt, (rPt g).items.length)) s (by ((simp only [fillV, fill1, Value.cells, zeros_succ, zeros_zero, List.size_toArray, List.length_cons, List.length_nil, List.length_append, List.take_succ_cons, List.take_zero, List.take_nil, List.drop_succ_cons, List.drop_zero, List.drop_nil, List.cons_append, List.nil_append, List.append_nil, Nat.reduceAdd, Nat.reduceMul, Nat.reduceLeDiff, Nat.reduceEqDiff, and_self, and_true, true_and, if_true, Nat.le_refl, Nat.zero_add, Nat.add_zero, Nat.zero_mul, reduceIte, if_false] <;> rfl))) rfl fun q5 h s wq => ?_
    have rq := wq.rdl s 0 (by rw [List.append_nil]; rfl)
    have s1 := s.empty 0 0
    refine s1.r_appL (f := shC) (L := []) (M := [((rPt g).hgt, (rPt g).items.length)]) 0 rfl (Own.nil 3 0 0) rfl (by simpa using rq) (fun y _ => by simp [shC, one1]) (by rw [List.length_singleton]; decide) (by rw [List.length_singleton]; decide) fun v' b' o' sp' h s w' => ?_
    have s : St hB [] ((b', o', ([] ++ [((rPt g).hgt, (rPt g).items.length)]).flatMap shC ++ sp') :: (q5, 0, shC ((rPt g).hgt, (rPt g).items.length)) :: (ta, 0, [ptr tb 0]) :: (tb, 0, hdr 0 none (rA g) (rPt g).items.length ((d - 1 : Nat) : Int) ((2 * d - 1 : Nat) : Int)) :: (rAll g ++ R')) h := s
    unfold i_MShapes.j4
    refine r_add1 (by omega) ?_
    exact HK 0 _ _ (by omega) ⟨v', (b', o', ([] ++ [((rPt g).hgt, (rPt g).items.length)]).flatMap shC ++ sp') :: (q5, 0, shC ((rPt g).hgt, (rPt g).items.length)) :: R', s.perm (by ((apply perm_rg; intro f; simp only [List.set_cons_zero, List.set_cons_succ, List.eraseIdx_cons_zero, List.eraseIdx_cons_succ, List.cons_append, List.nil_append, List.map_append, List.map_cons, List.map_nil, List.sum_append, List.sum_cons, List.sum_nil, List.map_flatMap, Nat.add_zero, Nat.zero_add]; ac_rfl))), .inr ⟨rfl, rfl, by have := w'.rdl s 0 rfl; simpa using this⟩⟩
  · unfold i_MShapes.l2.b
    refine r_cmpI ?_
    refine r_if (fun e => absurd e (by decide)) (fun _ => ?_)
    unfold i_MShapes.j1
    exact H _ _ _ s r2
end Go.Proofs.Ytkkappjbcgnacaa.Ii
end
section
namespace Go.Proofs.Ytkkappjbcgnacaa.Ii
open Go.Hp Go.Proofs.Ytkkappjbcgnacaa
set_option linter.unusedVariables false
set_option linter.unusedSimpArgs false
variable {h0 h : Heap} {Z E : List Rg} {Q : Value → Heap → Prop}

theorem okS_tail {d r : Nat} {rs : List Nat} (h : okS d (r :: rs)) : okS d rs := by
  cases rs with
  | nil => trivial
  | cons a b => exact h.2.2
theorem len_valS {d : Nat} (hd : 2 ≤ d) : ∀ cs : List Nat, okS d cs → cs.length ≤ valS d cs
  | [], _ => Nat.le_refl _
  | r :: rs, h => by
    have h1 := len_valS hd rs (okS_tail h)
    have h2 : 1 ≤ r := by cases rs with
      | nil => exact h.1
      | cons a b => exact Nat.le_trans (by omega) h.1
    have h3 := Nat.le_mul_of_pos_left (valS d rs) (show 0 < d by omega)
    show rs.length + 1 ≤ r + d * valS d rs
    omega
theorem lvl {d : Nat} (hd : 2 ≤ d) {r : Nat} {rs : List Nat} (h : okS d (r :: rs)) {n : Nat} (e : n = valS d (r :: rs)) : max (1 : Int) ((n : Int) / (d : Int)) = ((valS d rs + 1 : Nat) : Int) := by
  have h1 := okS_many hd h
  rw [← e] at h1
  have h2 : ((n : Int) / (d : Int)) = ((n / d : Nat) : Int) := (Int.natCast_ediv n d).symm
  rw [h2]
  generalize n / d = q at *
  omega
theorem s_Rows_ok {d n : Nat} {cs : List Nat} (hd : 2 ≤ d) (hd2 : d ≤ 128) (ok : okS d cs) (e : valS d cs = n) (hn : n ≤ 65535) (H : ∀ v, Q (.tuple #[v, .int .i64 (cs.length : Nat)]) h) : s_Rows.call #[.int .i64 d, .int .i64 n] h Q := by
  refine s_Rows.body _ _ _ _ ?_
  unfold s_Rows.sh
  refine r_cmpI ?_
  refine r_if (fun hlt => ?_) (fun hge => ?_)
  · have hlt : n < 1 := by have := of_decide_eq_true hlt; omega
    cases cs with
    | nil => exact H _
    | cons r rs => have := okS_pos hd _ ok (by simp); omega
  · have hge : 1 ≤ n := by have := of_decide_eq_false hge; omega
    cases cs with
    | nil => have : valS d [] = 0 := rfl; omega
    | cons r rs =>
      unfold s_Rows.j1
      have hq : (n : Int) / (d : Int) ≤ n := Int.ediv_le_self _ (by omega)
      refine r_quoI (n := 0) (by omega) (by omega) (by omega) ?_
      refine r_maxI ?_
      rw [lvl hd ok e.symm]
      refine loop_ghost (fun q st h' => ∃ (i : Nat) (l : List Nat), q = l.length ∧ st = [.int .i64 (i : Nat), .int .i64 ((valS d l + 1 : Nat) : Int)] ∧ h' = h ∧ okS d l ∧ i + l.length = (r :: rs).length ∧ valS d l ≤ n) (n0 := rs.length)
        ⟨1, rs, rfl, rfl, rfl, okS_tail ok, by rw [List.length_cons]; omega, by
          have e : r + d * valS d rs = n := e
          have := Nat.le_mul_of_pos_left (valS d rs) (show 0 < d by omega)
          omega⟩ ?_
      rintro q st g ⟨i, l, rfl, rfl, rfl, okl, hi, hv⟩ K HK
      unfold s_Rows.l3.b
      refine r_cmpI ?_
      refine r_if (fun hgt => ?_) (fun hle => ?_)
      · have hgt : 1 < valS d l + 1 := by have := of_decide_eq_true hgt; omega
        cases l with
        | nil => have : valS d [] = 0 := rfl; omega
        | cons r' l' =>
          have hil : (r' :: l').length = l'.length + 1 := rfl
          have hrl : (r :: rs).length = rs.length + 1 := rfl
          have hvv : r' + d * valS d l' ≤ n := hv
          have hm := Nat.le_mul_of_pos_left (valS d l') (show 0 < d by omega)
          have hi2 : i ≤ 9223372036854775806 := by
            have h1 := len_valS hd _ ok
            omega
          unfold s_Rows.j4
          refine r_add1 (by omega) ?_
          unfold s_Rows.j5
          refine r_sub1 (by omega) (by omega) ?_
          have hq2 : ((valS d (r' :: l') + 1 - 1 : Nat) : Int) / (d : Int) ≤ ((valS d (r' :: l') + 1 - 1 : Nat) : Int) := Int.ediv_le_self _ (by omega)
          refine r_quoI (n := 0) (by omega) (by omega) (by omega) ?_
          refine r_maxI ?_
          rw [lvl hd okl (n := valS d (r' :: l') + 1 - 1) (by omega)]
          exact HK l'.length _ _ (by omega) ⟨i + 1, l', rfl, rfl, rfl, okS_tail okl, by omega, by omega⟩
      · have hle : ¬ 1 < valS d l + 1 := by have := of_decide_eq_false hle; omega
        cases l with
        | nil =>
          unfold s_Rows.j2
          have hi : i = (r :: rs).length := hi
          rw [hi]
          exact H _
        | cons r' l' => have := okS_pos hd _ okl (by simp); omega
/-- The steps that set (or load) the numbers in their order, or in the reverse order. -/
def rst (n : Nat) (how : Int) (i : Nat) : Stp := (if how = 2 then 1 else 0, if how = 3 then ((n - 1 - i : Nat) : Int) else ((i : Nat) : Int), 0, how == 1)
def steps (n : Nat) (how : Int) (j : Nat) : List Stp := (List.range j).map (rst n how)
theorem steps_succ (n : Nat) (how : Int) (j : Nat) : steps n how (j + 1) = steps n how j ++ [rst n how j] := by
  unfold steps; rw [List.range_succ, List.map_append]; rfl
theorem steps_len (n : Nat) (how : Int) (j : Nat) : (steps n how j).length = j := by unfold steps; rw [List.length_map, List.length_range]
theorem steps_take (n : Nat) (how : Int) {i j : Nat} (h : i ≤ j) : (steps n how j).take i = steps n how i := by
  unfold steps; rw [← List.map_take, List.take_range, Nat.min_eq_left h]
theorem steps_at (n : Nat) (how : Int) {i j : Nat} (h : i < (steps n how j).length) : (steps n how j)[i] = rst n how i := by
  have h' : i < ((List.range j).map (rst n how)).length := h
  show ((List.range j).map (rst n how))[i]'h' = _
  rw [List.getElem_map, List.getElem_range]
theorem l_rising_ok {hB : Heap} {n : Nat} {how : Int} (hn : n ≤ 4000) (H : ∀ v E' h', St hB [] E' h' → Rdl 9 h' v (steps n how n).length ((steps n how n).flatMap encS) → Q v h') : l_rising.call #[.int .i64 n, .int .u8 how] hB Q := by
  refine l_rising.body _ _ _ _ ?_
  unfold l_rising.sh
  refine loop_ghost (fun q st h' => ∃ (j : Nat) (v : Value) (b o : Nat) (p : List Value) (R : List Rg), q = n - j ∧ j ≤ n ∧ st = [v, .int .i64 (j : Nat)] ∧ Own 9 v (steps n how j).length b o ((steps n how j).flatMap encS) p ∧ St hB [] ((b, o, (steps n how j).flatMap encS ++ p) :: R) h') (n0 := n)
    ⟨0, .slice none 0 0, 0, 0, [], [], rfl, Nat.zero_le _, rfl, Own.nil 9 0 0, (St.start hB).empty 0 0⟩ ?_
  rintro q st h ⟨j, v, b, o, p, R, rfl, hj, rfl, w, s⟩ K HK
  unfold l_rising.l2.b
  refine r_cmpI ?_
  refine r_if (fun hlt => ?_) (fun hge => ?_)
  · have hlt : j < n := by have := of_decide_eq_true hlt; omega
    unfold l_rising.j3
    refine r_build (cs := [.int .i64 (j : Nat), .int .i64 0]) (by ((simp only [fillV, fill1, Value.cells, zeros_succ, zeros_zero, List.size_toArray, List.length_cons, List.length_nil, List.length_append, List.take_succ_cons, List.take_zero, List.take_nil, List.drop_succ_cons, List.drop_zero, List.drop_nil, List.cons_append, List.nil_append, List.append_nil, Nat.reduceAdd, Nat.reduceMul, Nat.reduceLeDiff, Nat.reduceEqDiff, and_self, and_true, true_and, if_true, Nat.le_refl, Nat.zero_add, Nat.add_zero, Nat.zero_mul, reduceIte, if_false] <;> rfl))) ?_
    refine r_cmpI ?_
    refine r_build (cs := encS (0, (j : Nat), 0, how == 1)) (by ((simp only [fillV, fill1, Value.cells, zeros_succ, zeros_zero, List.size_toArray, List.length_cons, List.length_nil, List.length_append, List.take_succ_cons, List.take_zero, List.take_nil, List.drop_succ_cons, List.drop_zero, List.drop_nil, List.cons_append, List.nil_append, List.append_nil, Nat.reduceAdd, Nat.reduceMul, Nat.reduceLeDiff, Nat.reduceEqDiff, and_self, and_true, true_and, if_true, Nat.le_refl, Nat.zero_add, Nat.add_zero, Nat.zero_mul, reduceIte, if_false] <;> rfl))) ?_
    refine s.r_alloc fun t7 h s => ?_
    refine St.r_storeN0 s 0 rfl rfl (by simp) (encS1 _) ?_; intro h s
    have s : St hB [] ((t7, 0, encS (0, (j : Nat), 0, how == 1)) :: (b, o, (steps n how j).flatMap encS ++ p) :: R) h := s
    have fin : ∀ {x : Stp} {h : Heap}, x = rst n how j → St hB [] ((t7, 0, encS x) :: (b, o, (steps n how j).flatMap encS ++ p) :: R) h → l_rising.j5 (.int .i64 n) (.int .u8 how) v (ptr t7 0) (.int .i64 n) (.int .i64 (j : Nat)) h K Q := fun {x h} e s => by
      unfold l_rising.j5
      refine St.r_loadN0 s 0 rfl (Nat.le_refl 9) ?_
      refine St.r_mkSl (sz := 9) (cs := encS x) s (by ((simp only [fillV, fill1, Value.cells, zeros_succ, zeros_zero, List.size_toArray, List.length_cons, List.length_nil, List.length_append, List.take_succ_cons, List.take_zero, List.take_nil, List.drop_succ_cons, List.drop_zero, List.drop_nil, List.cons_append, List.nil_append, List.append_nil, Nat.reduceAdd, Nat.reduceMul, Nat.reduceLeDiff, Nat.reduceEqDiff, and_self, and_true, true_and, if_true, Nat.le_refl, Nat.zero_add, Nat.add_zero, Nat.zero_mul, reduceIte, if_false] <;> rfl))) (encSl _) fun q5 h s wq => ?_
      have hsl := steps_len n how j
      refine s.r_appL (f := encS) (L := steps n how j) (M := [x]) 2 rfl w rfl (by have := wq.rdl s 0 (by rw [List.append_nil]; rfl); simpa using this) (fun y _ => encS1 y) (by rw [List.length_singleton]; omega) (by rw [List.length_singleton]; omega) fun v' b' o' sp' h s w' => ?_
      have s : St hB [] ((q5, 0, encS x) :: (t7, 0, encS x) :: (b', o', (steps n how j ++ [x]).flatMap encS ++ sp') :: R) h := s
      rw [e, ← steps_succ] at w'
      rw [e, ← steps_succ] at s
      unfold l_rising.j4
      refine r_add1 (by omega) ?_
      exact HK (n - (j + 1)) _ _ (by omega) ⟨j + 1, v', b', o', sp', (q5, 0, encS (rst n how j)) :: (t7, 0, encS (rst n how j)) :: R, rfl, hlt, rfl, w', s.perm (by ((apply perm_rg; intro f; simp only [List.set_cons_zero, List.set_cons_succ, List.eraseIdx_cons_zero, List.eraseIdx_cons_succ, List.cons_append, List.nil_append, List.map_append, List.map_cons, List.map_nil, List.sum_append, List.sum_cons, List.sum_nil, List.map_flatMap, Nat.add_zero, Nat.zero_add]; ac_rfl)))⟩
    refine r_cmpI ?_
    refine r_if (fun e => ?_) (fun e2 => ?_)
    · have e : how = 2 := by simpa using e
      refine r_fld ?_
      refine St.r_store0 s 0 rfl (by simp [encSl]) rfl ?_; intro h s
      refine fin (x := (1, (j : Nat), 0, how == 1)) ?_ s
      unfold rst; rw [if_pos e, if_neg (by omega)]
    · have e2 : how ≠ 2 := by simpa using e2
      refine r_cmpI ?_
      refine r_if (fun e => ?_) (fun e3 => ?_)
      · have e : how = 3 := by simpa using e
        refine r_sub1 (by omega) (by omega) ?_
        refine r_sub (z := ((n - 1 - j : Nat) : Int)) (by rw [i64w (by omega) (by omega)]; omega) ?_
        refine r_fld (r_fld ?_)
        refine St.r_store0 s 0 rfl (by simp [encSl]) rfl ?_; intro h s
        refine fin (x := (0, ((n - 1 - j : Nat) : Int), 0, how == 1)) ?_ s
        unfold rst; rw [if_neg e2, if_pos e]
      · have e3 : how ≠ 3 := by simpa using e3
        refine fin (x := (0, (j : Nat), 0, how == 1)) ?_ s
        unfold rst; rw [if_neg e2, if_neg e3]
  · have hge : j = n := by have := of_decide_eq_false hge; omega
    subst hge
    unfold l_rising.j1
    exact H v _ h s (w.rdl s 0 rfl)
/-- What stands behind the first j steps. -/
theorem rise {d n : Nat} {how : Int} (hd : 2 ≤ d) (hn : n ≤ 4000) : ∀ j, j ≤ n → ∃ (p : MT It) (cs : List Nat), p = (steps n how j).foldl (eff (2 * d - 1)) none ∧ okS d cs ∧ valS d cs = j ∧ MSp (decide (how ≠ 3)) p cs ∧ p.Fl (2 * d - 1) ∧ Go.Hp.Asc lt p.items ∧ p.items.length = j ∧ ∀ y ∈ p.items, if how = 3 then ((n - j : Nat) : Int) ≤ y.1 else y.1 < ((j : Nat) : Int)
  | 0, _ => ⟨none, [], rfl, trivial, rfl, rfl, trivial, List.Pairwise.nil, rfl, fun y hy => absurd hy List.not_mem_nil⟩
  | j + 1, hj => by
    obtain ⟨p, cs, e, ok, ev, sp, fl, asc, hl, hb⟩ := rise (how := how) hd hn j (by omega)
    have hk : (rst n how j).1 ≤ 1 := by unfold rst; show (if how = 2 then (1 : Int) else 0) ≤ 1; split <;> omega
    have e1 : (steps n how (j + 1)).foldl (eff (2 * d - 1)) none = p.set lt (2 * d - 1) ((rst n how j).2.1, (rst n how j).2.2.1) := by
      rw [steps_succ, List.foldl_append, ← e]; exact if_pos hk
    have hB : Beyond lt (decide (how ≠ 3)) ((rst n how j).2.1, (rst n how j).2.2.1) p.items := fun y hy => by
      have := hb y hy
      have ek : (rst n how j).2.1 = if how = 3 then ((n - 1 - j : Nat) : Int) else ((j : Nat) : Int) := rfl
      by_cases h3 : how = 3
      · rw [if_pos h3] at this ek
        have hsd : decide (how ≠ 3) = false := by simp [h3]
        rw [hsd]
        refine ⟨decide_eq_true ?_, decide_eq_false ?_⟩
        · show @LT.lt Int _ (rst n how j).2.1 y.1
          rw [ek]; omega
        · show ¬ @LT.lt Int _ y.1 (rst n how j).2.1
          rw [ek]; omega
      · rw [if_neg h3] at this ek
        have hsd : decide (how ≠ 3) = true := by simp [h3]
        rw [hsd]
        refine decide_eq_true ?_
        show @LT.lt Int _ y.1 (rst n how j).2.1
        rw [ek]; exact this
    obtain ⟨s1, s2⟩ := MT.set_items (x := ((rst n how j).2.1, (rst n how j).2.2.1)) swo (show (2 * d - 1) % 2 = 1 by omega) (show 3 ≤ 2 * d - 1 by omega) fl asc
    have hg := (beyond_pos hB).1
    refine ⟨_, _, e1.symm, okS_inc hd cs ok, by rw [valS_inc hd cs ok, ev], set_MSp swo hd fl asc hB sp, s2, by rw [s1]; exact asc_lput swo asc, by rw [s1, lput_length, hg, hl]; rfl, fun y hy => ?_⟩
    rw [s1] at hy
    have ek : (rst n how j).2.1 = if how = 3 then ((n - 1 - j : Nat) : Int) else ((j : Nat) : Int) := rfl
    have hy' : y = ((rst n how j).2.1, (rst n how j).2.2.1) ∨ y ∈ p.items := by
      have := (mem_lputK (x := ((rst n how j).2.1, (rst n how j).2.2.1)) (z := y) asc).1 hy
      rcases this with h | ⟨h, _⟩
      · exact .inl h
      · exact .inr h
    rcases hy' with rfl | hy
    · show if how = 3 then ((n - (j + 1) : Nat) : Int) ≤ (rst n how j).2.1 else (rst n how j).2.1 < ((j + 1 : Nat) : Int)
      rw [ek]
      split <;> omega
    · have := hb y hy
      split
      · rename_i h3; rw [if_pos h3] at this; exact Int.le_trans (show ((n - (j + 1) : Nat) : Int) ≤ ((n - j : Nat) : Int) by omega) this
      · rename_i h3; rw [if_neg h3] at this; exact Int.lt_trans this (by omega)
def exS : List Stp := [(0, 5, 1, false), (0, 3, 2, false), (0, 9, 3, false), (0, 3, 4, false), (0, 1, 5, false), (0, 7, 6, false), (0, 8, 7, false), (2, 9, 0, false), (4, 0, 0, false)]
theorem l_exCosts_ok {hB : Heap} (H : ∀ v E' h', St hB [] E' h' → Rdl 9 h' v exS.length (exS.flatMap encS) → Q v h') : l_exCosts.call #[] hB Q := by
  refine l_exCosts.body _ _ ?_
  unfold l_exCosts.sh
  refine l_exItems.body _ _ ?_
  unfold l_exItems.sh
  have s := St.start hB
  (apply r_build; (simp only [fillV, fill1, Value.cells, zeros_succ, zeros_zero, List.size_toArray, List.length_cons, List.length_nil, List.length_append, List.take_succ_cons, List.take_zero, List.take_nil, List.drop_succ_cons, List.drop_zero, List.drop_nil, List.cons_append, List.nil_append, List.append_nil, Nat.reduceAdd, Nat.reduceMul, Nat.reduceLeDiff, Nat.reduceEqDiff, and_self, and_true, true_and, if_true, Nat.le_refl, Nat.zero_add, Nat.add_zero, Nat.zero_mul, reduceIte, if_false] <;> rfl))
  (apply r_build; (simp only [fillV, fill1, Value.cells, zeros_succ, zeros_zero, List.size_toArray, List.length_cons, List.length_nil, List.length_append, List.take_succ_cons, List.take_zero, List.take_nil, List.drop_succ_cons, List.drop_zero, List.drop_nil, List.cons_append, List.nil_append, List.append_nil, Nat.reduceAdd, Nat.reduceMul, Nat.reduceLeDiff, Nat.reduceEqDiff, and_self, and_true, true_and, if_true, Nat.le_refl, Nat.zero_add, Nat.add_zero, Nat.zero_mul, reduceIte, if_false] <;> rfl))
  (apply r_build; (simp only [fillV, fill1, Value.cells, zeros_succ, zeros_zero, List.size_toArray, List.length_cons, List.length_nil, List.length_append, List.take_succ_cons, List.take_zero, List.take_nil, List.drop_succ_cons, List.drop_zero, List.drop_nil, List.cons_append, List.nil_append, List.append_nil, Nat.reduceAdd, Nat.reduceMul, Nat.reduceLeDiff, Nat.reduceEqDiff, and_self, and_true, true_and, if_true, Nat.le_refl, Nat.zero_add, Nat.add_zero, Nat.zero_mul, reduceIte, if_false] <;> rfl))
  (apply r_build; (simp only [fillV, fill1, Value.cells, zeros_succ, zeros_zero, List.size_toArray, List.length_cons, List.length_nil, List.length_append, List.take_succ_cons, List.take_zero, List.take_nil, List.drop_succ_cons, List.drop_zero, List.drop_nil, List.cons_append, List.nil_append, List.append_nil, Nat.reduceAdd, Nat.reduceMul, Nat.reduceLeDiff, Nat.reduceEqDiff, and_self, and_true, true_and, if_true, Nat.le_refl, Nat.zero_add, Nat.add_zero, Nat.zero_mul, reduceIte, if_false] <;> rfl))
  (apply r_build; (simp only [fillV, fill1, Value.cells, zeros_succ, zeros_zero, List.size_toArray, List.length_cons, List.length_nil, List.length_append, List.take_succ_cons, List.take_zero, List.take_nil, List.drop_succ_cons, List.drop_zero, List.drop_nil, List.cons_append, List.nil_append, List.append_nil, Nat.reduceAdd, Nat.reduceMul, Nat.reduceLeDiff, Nat.reduceEqDiff, and_self, and_true, true_and, if_true, Nat.le_refl, Nat.zero_add, Nat.add_zero, Nat.zero_mul, reduceIte, if_false] <;> rfl))
  (apply r_build; (simp only [fillV, fill1, Value.cells, zeros_succ, zeros_zero, List.size_toArray, List.length_cons, List.length_nil, List.length_append, List.take_succ_cons, List.take_zero, List.take_nil, List.drop_succ_cons, List.drop_zero, List.drop_nil, List.cons_append, List.nil_append, List.append_nil, Nat.reduceAdd, Nat.reduceMul, Nat.reduceLeDiff, Nat.reduceEqDiff, and_self, and_true, true_and, if_true, Nat.le_refl, Nat.zero_add, Nat.add_zero, Nat.zero_mul, reduceIte, if_false] <;> rfl))
  (apply r_build; (simp only [fillV, fill1, Value.cells, zeros_succ, zeros_zero, List.size_toArray, List.length_cons, List.length_nil, List.length_append, List.take_succ_cons, List.take_zero, List.take_nil, List.drop_succ_cons, List.drop_zero, List.drop_nil, List.cons_append, List.nil_append, List.append_nil, Nat.reduceAdd, Nat.reduceMul, Nat.reduceLeDiff, Nat.reduceEqDiff, and_self, and_true, true_and, if_true, Nat.le_refl, Nat.zero_add, Nat.add_zero, Nat.zero_mul, reduceIte, if_false] <;> rfl))
  refine St.r_mkSl (sz := 2) (cs := exI.flatMap encA) s (by ((simp only [fillV, fill1, Value.cells, zeros_succ, zeros_zero, List.size_toArray, List.length_cons, List.length_nil, List.length_append, List.take_succ_cons, List.take_zero, List.take_nil, List.drop_succ_cons, List.drop_zero, List.drop_nil, List.cons_append, List.nil_append, List.append_nil, Nat.reduceAdd, Nat.reduceMul, Nat.reduceLeDiff, Nat.reduceEqDiff, and_self, and_true, true_and, if_true, Nat.le_refl, Nat.zero_add, Nat.add_zero, Nat.zero_mul, reduceIte, if_false] <;> rfl))) rfl fun q0 h s w0 => ?_
  have w0 : Own 2 (.slice (some ⟨q0, 0, none⟩) 7 7) exI.length q0 0 (exI.flatMap encA) [] := w0
  generalize hvv : Value.slice (some ⟨q0, 0, none⟩) 7 7 = v0 at w0
  have s : St hB [] ((q0, 0, exI.flatMap encA) :: []) h := s
  refine w0.lenV ?_
  refine loop_ghost (fun q st h' => ∃ (j : Nat) (v : Value) (b o : Nat) (p : List Value) (R : List Rg), q = 7 - j ∧ j ≤ 7 ∧ st = [v, .int .i64 (j : Nat)] ∧ Own 9 v (exS.take j).length b o ((exS.take j).flatMap encS) p ∧ St hB [] ((b, o, (exS.take j).flatMap encS ++ p) :: (q0, 0, exI.flatMap encA) :: R) h') (n0 := 7)
    ⟨0, .slice none 0 0, 0, 0, [], [], rfl, Nat.zero_le _, rfl, Own.nil 9 0 0, s.empty 0 0⟩ ?_
  clear s
  rintro q st h ⟨j, v, b, o, p, R, rfl, hj, rfl, w, s⟩ K HK
  unfold l_exCosts.l2.b
  refine r_cmpI ?_
  refine r_if (fun hlt => ?_) (fun hge => ?_)
  · have hlt : j < exI.length := by have : ((j : Nat) : Int) < ((exI.length : Nat) : Int) := of_decide_eq_true hlt; omega
    have h7 : exI.length = 7 := rfl
    unfold l_exCosts.j3
    refine (w0.rdl s 1 (by rw [List.append_nil]; rfl)).at (f := encA) (n := j) rfl encAl rfl rfl hlt fun b3 o3 hb => ?_
    refine hb.loadN rfl ?_
    have ex : exS.take j ++ [(0, exI[j].1, exI[j].2, false)] = exS.take (j + 1) := by
      have : ∀ i : Fin 7, exS.take i ++ [((0, (exI[i.val]'i.isLt).1, (exI[i.val]'i.isLt).2, false) : Stp)] = exS.take (i + 1) := by decide
      exact this ⟨j, hlt⟩
    generalize exI[j] = x at *
    refine s.r_alloc fun t3 h s => ?_
    refine St.r_storeN0 s 0 rfl rfl (by simp) (encA1 _) ?_; intro h s
    have s : St hB [] ((t3, 0, encA x) :: (b, o, (exS.take j).flatMap encS ++ p) :: (q0, 0, exI.flatMap encA) :: R) h := s
    refine St.r_loadN0 s 0 rfl (Nat.le_refl 2) ?_
    refine r_build (cs := encS (0, x.1, x.2, false)) (by ((simp only [fillV, fill1, Value.cells, zeros_succ, zeros_zero, List.size_toArray, List.length_cons, List.length_nil, List.length_append, List.take_succ_cons, List.take_zero, List.take_nil, List.drop_succ_cons, List.drop_zero, List.drop_nil, List.cons_append, List.nil_append, List.append_nil, Nat.reduceAdd, Nat.reduceMul, Nat.reduceLeDiff, Nat.reduceEqDiff, and_self, and_true, true_and, if_true, Nat.le_refl, Nat.zero_add, Nat.add_zero, Nat.zero_mul, reduceIte, if_false] <;> rfl))) ?_
    refine St.r_mkSl (sz := 9) (cs := encS (0, x.1, x.2, false)) s (by ((simp only [fillV, fill1, Value.cells, zeros_succ, zeros_zero, List.size_toArray, List.length_cons, List.length_nil, List.length_append, List.take_succ_cons, List.take_zero, List.take_nil, List.drop_succ_cons, List.drop_zero, List.drop_nil, List.cons_append, List.nil_append, List.append_nil, Nat.reduceAdd, Nat.reduceMul, Nat.reduceLeDiff, Nat.reduceEqDiff, and_self, and_true, true_and, if_true, Nat.le_refl, Nat.zero_add, Nat.add_zero, Nat.zero_mul, reduceIte, if_false] <;> rfl))) (encSl _) fun q5 h s wq => ?_
    have hsl : (exS.take j).length ≤ 7 := by rw [List.length_take]; omega
    refine s.r_appL (f := encS) (L := exS.take j) (M := [(0, x.1, x.2, false)]) 2 rfl w rfl (by have := wq.rdl s 0 (by rw [List.append_nil]; rfl); simpa using this) (fun y _ => encS1 y) (by rw [List.length_singleton]; omega) (by rw [List.length_singleton]; omega) fun v' b' o' sp' h s w' => ?_
    have s : St hB [] ((q5, 0, encS (0, x.1, x.2, false)) :: (t3, 0, encA x) :: (b', o', (exS.take j ++ [(0, x.1, x.2, false)]).flatMap encS ++ sp') :: (q0, 0, exI.flatMap encA) :: R) h := s
    rw [ex] at w' s
    unfold l_exCosts.j4
    refine r_add1 (by omega) ?_
    exact HK (7 - (j + 1)) _ _ (by omega) ⟨j + 1, v', b', o', sp', (q5, 0, encS (0, x.1, x.2, false)) :: (t3, 0, encA x) :: R, rfl, by omega, rfl, w', s.perm (by ((apply perm_rg; intro f; simp only [List.set_cons_zero, List.set_cons_succ, List.eraseIdx_cons_zero, List.eraseIdx_cons_succ, List.cons_append, List.nil_append, List.map_append, List.map_cons, List.map_nil, List.sum_append, List.sum_cons, List.sum_nil, List.map_flatMap, Nat.add_zero, Nat.zero_add]; ac_rfl)))⟩
  · have hge : j = 7 := by
      have : ¬ ((j : Nat) : Int) < ((7 : Nat) : Int) := of_decide_eq_false hge
      omega
    subst hge
    unfold l_exCosts.j1
    refine r_build (cs := [.int .i64 9, .int .i64 0]) (by ((simp only [fillV, fill1, Value.cells, zeros_succ, zeros_zero, List.size_toArray, List.length_cons, List.length_nil, List.length_append, List.take_succ_cons, List.take_zero, List.take_nil, List.drop_succ_cons, List.drop_zero, List.drop_nil, List.cons_append, List.nil_append, List.append_nil, Nat.reduceAdd, Nat.reduceMul, Nat.reduceLeDiff, Nat.reduceEqDiff, and_self, and_true, true_and, if_true, Nat.le_refl, Nat.zero_add, Nat.add_zero, Nat.zero_mul, reduceIte, if_false] <;> rfl))) ?_
    refine r_build (cs := encS (2, 9, 0, false)) (by ((simp only [fillV, fill1, Value.cells, zeros_succ, zeros_zero, List.size_toArray, List.length_cons, List.length_nil, List.length_append, List.take_succ_cons, List.take_zero, List.take_nil, List.drop_succ_cons, List.drop_zero, List.drop_nil, List.cons_append, List.nil_append, List.append_nil, Nat.reduceAdd, Nat.reduceMul, Nat.reduceLeDiff, Nat.reduceEqDiff, and_self, and_true, true_and, if_true, Nat.le_refl, Nat.zero_add, Nat.add_zero, Nat.zero_mul, reduceIte, if_false] <;> rfl))) ?_
    refine r_build (cs := encS (4, 0, 0, false)) (by ((simp only [fillV, fill1, Value.cells, zeros_succ, zeros_zero, List.size_toArray, List.length_cons, List.length_nil, List.length_append, List.take_succ_cons, List.take_zero, List.take_nil, List.drop_succ_cons, List.drop_zero, List.drop_nil, List.cons_append, List.nil_append, List.append_nil, Nat.reduceAdd, Nat.reduceMul, Nat.reduceLeDiff, Nat.reduceEqDiff, and_self, and_true, true_and, if_true, Nat.le_refl, Nat.zero_add, Nat.add_zero, Nat.zero_mul, reduceIte, if_false] <;> rfl))) ?_
    refine St.r_mkSl (sz := 9) (cs := [(2, 9, 0, false), (4, 0, 0, false)].flatMap encS) s (by ((simp only [fillV, fill1, Value.cells, zeros_succ, zeros_zero, List.size_toArray, List.length_cons, List.length_nil, List.length_append, List.take_succ_cons, List.take_zero, List.take_nil, List.drop_succ_cons, List.drop_zero, List.drop_nil, List.cons_append, List.nil_append, List.append_nil, Nat.reduceAdd, Nat.reduceMul, Nat.reduceLeDiff, Nat.reduceEqDiff, and_self, and_true, true_and, if_true, Nat.le_refl, Nat.zero_add, Nat.add_zero, Nat.zero_mul, reduceIte, if_false] <;> rfl))) rfl fun q5 h s wq => ?_
    refine s.r_appL (f := encS) (L := exS.take 7) (M := [(2, 9, 0, false), (4, 0, 0, false)]) 1 rfl w rfl (by have := wq.rdl s 0 (by rw [List.append_nil]; rfl); simpa using this) (fun y _ => encS1 y) (by decide) (by decide) fun v' b' o' sp' h s w' => ?_
    exact H v' _ h s (w'.rdl s 1 rfl)
theorem aliveShapes_ok {v : Value} (hr : Rdl 3 h v 1 (shC (2, 6))) (H : Q (.bool true) h) : l_aliveShapes.call #[v] h Q := by
  refine l_aliveShapes.body _ _ _ ?_
  unfold l_aliveShapes.sh
  refine l_aliveShape.body _ _ _ _ ?_
  unfold l_aliveShape.sh
  refine hr.lenV ?_
  refine r_cmpI ?_
  refine r_br (fun _ => ?_) (fun e => absurd e (by decide))
  refine hr.at (l := [(2, 6)]) (f := shC) (n := 0) rfl (fun _ => rfl) rfl rfl (by decide) fun b o hb => ?_
  refine r_fld ?_
  refine hb.load (j := 1) rfl ?_
  refine r_cmpI ?_
  refine r_br (fun _ => ?_) (fun e => absurd e (by decide))
  refine hr.at (l := [(2, 6)]) (f := shC) (n := 0) rfl (fun _ => rfl) rfl rfl (by decide) fun b o hb => ?_
  refine r_fld ?_
  refine hb.load0 rfl ?_
  refine r_cmpI ?_
  exact H
theorem exFold : (exS.foldl (eff (2 * 2 - 1)) none).hgt = 2 ∧ (exS.foldl (eff (2 * 2 - 1)) none).items.length = 6 := ⟨by kernel_rfl, by kernel_rfl⟩
theorem live_ok {hB : Heap} (H : ∀ E' h', St hB [] E' h' → Q (.bool true) h') : l_exCosts.call #[] hB fun t17 h => i_MShapes.call #[.int .i64 2, t17] h fun t18 h => l_aliveShapes.call #[t18] h fun t19 h => Q t19 h := by
  refine l_exCosts_ok fun v E1 h1 s1 r1 => ?_
  refine MShapes_ok (d := 2) (S := exS) (by decide) (by decide) (by decide) r1 (fun j hj => ?_) fun v2 E2 h2 s2 r2 => ?_
  · have : ∀ x ∈ exS, x.1 = 0 ∨ x.1 = 2 ∨ x.1 = 4 := by decide
    rcases this _ (List.getElem_mem hj) with h | h | h
    · exact .inl h
    · exact .inr (.inr (.inl h))
    · exact .inr (.inr (.inr h))
  rw [exFold.1, exFold.2] at r2
  exact aliveShapes_ok r2 (H _ _ (s1.join s2))
theorem l_FnMRising_ok {d n how : Int} (hn : 0 ≤ n ∧ n ≤ 65535) (H : ∀ E' h', St h [] E' h' → Q (.bool true) h') : l_FnMRising.call #[.int .i64 d, .int .u16 n, .int .u8 how] h Q := by
  refine l_FnMRising.body _ _ _ _ _ ?_
  unfold l_FnMRising.sh
  refine fit_ok ?_
  refine r_not ?_
  refine r_br (fun e => ?_) (fun e => live_ok H)
  have hd : 2 ≤ d ∧ d ≤ 128 := by simpa using e
  obtain ⟨d, rfl⟩ : ∃ k : Nat, d = k := ⟨d.toNat, by omega⟩
  obtain ⟨n, rfl⟩ : ∃ k : Nat, n = k := ⟨n.toNat, by omega⟩
  have hd1 : 2 ≤ d := by omega
  have hd2 : d ≤ 128 := by omega
  refine r_cmpI ?_
  refine r_if (fun _ => live_ok H) (fun hle => ?_)
  have hle : n ≤ 4000 := by have := of_decide_eq_false hle; omega
  unfold l_FnMRising.j1
  refine r_cvI (z := (n : Nat)) (i64w (by omega) (by omega)) ?_
  refine l_rising_ok (how := how) hle fun v E1 h1 s1 r1 => ?_
  refine MShapes_ok (d := d) (S := steps n how n) hd1 (by omega) (by rw [steps_len]; omega) r1 (fun j hj => ?_) fun v2 E2 h2 s2 r2 => ?_
  · have hjn : j < n := by rw [steps_len] at hj; exact hj
    obtain ⟨p, cs, ep, _, _, _, _, _, _, hb⟩ := rise (how := how) hd1 hle j (by omega)
    rw [steps_take n how (by omega), ← ep, steps_at]
    by_cases h2 : how = 2
    · refine .inr (.inl ⟨if_pos h2, fun y hy => ?_⟩)
      have := hb y hy
      rw [if_neg (by omega)] at this
      have ek : (rst n how j).2.1 = ((j : Nat) : Int) := if_neg (by omega)
      show @LE.le Int _ y.1 (rst n how j).2.1
      rw [ek]
      exact Int.le_of_lt this
    · exact .inl (if_neg h2)
  obtain ⟨p, cs, ep, ok, ev, sp, _, _, hl, _⟩ := rise (how := how) hd1 hle n (Nat.le_refl n)
  rw [← ep, hl, sp.hgt] at r2
  refine r_cvI (z := (n : Nat)) (i64w (by omega) (by omega)) ?_
  refine s_Rows_ok (d := d) (n := n) hd1 hd2 ok ev (by omega) fun v3 => ?_
  refine r_ext rfl ?_
  refine r_ext rfl ?_
  refine r2.lenV ?_
  refine r_cmpI ?_
  refine r_br (fun _ => ?_) (fun e => absurd e (by decide))
  refine r2.at (l := [(cs.length, n)]) (f := shC) (n := 0) (by simp) (fun _ => rfl) rfl rfl Nat.zero_lt_one fun b o hb => ?_
  have hb : Rw h2 b o (shC (cs.length, n)) := hb
  refine r_fld ?_
  refine hb.load0 rfl ?_
  refine r_cmpI ?_
  refine r_br (fun _ => ?_) (fun e => absurd e (by simp))
  refine r2.at (l := [(cs.length, n)]) (f := shC) (n := 0) (by simp) (fun _ => rfl) rfl rfl Nat.zero_lt_one fun b o hb => ?_
  have hb : Rw h2 b o (shC (cs.length, n)) := hb
  refine r_fld ?_
  refine hb.load (j := 1) rfl ?_
  refine r_cvI (z := (n : Nat)) (i64w (by omega) (by omega)) ?_
  refine r_cmpI ?_
  refine r_br (fun _ => ?_) (fun e => absurd e (by simp))
  have s := s1.join s2
  exact live_ok fun E3 h3 s3 => H _ _ (s.join s3)
end Go.Proofs.Ytkkappjbcgnacaa.Ii
end
