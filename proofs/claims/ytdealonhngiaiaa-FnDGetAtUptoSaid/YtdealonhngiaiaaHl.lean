/-
  Nodes as data among a law's arguments: read out of memory, whatever their shape; and those that are as high everywhere.
  Conditions: none.
-/
import Derived.Test.YtdealonhngiaiaaHk
namespace Go.Hp
open Go.RowKit Go.ChangeShapes Go.WideShapes
set_option linter.unusedVariables false
set_option linter.unusedSimpArgs false

/-- Trees of any shape, of fewer than k levels. -/
def DT : Nat → Type
  | 0 => Empty
  | k + 1 => List (Int × Int) × List (DT k)
def DT.its : {k : Nat} → DT k → List (Int × Int)
  | 0, e => e.elim
  | _ + 1, t => t.1
def DT.bulk : {k : Nat} → DT k → Nat
  | 0, e => e.elim
  | _ + 1, t => 1 + t.1.length + (t.2.map DT.bulk).sum
def DT.items : {k : Nat} → DT k → List (Int × Int)
  | 0, e => e.elim
  | _ + 1, t => inter t.1 (t.2.map DT.items)
/-- The first i kids' items and the first i items, by turns. -/
def pre2 {α : Type} (its : List α) (ks : List (List α)) (i : Nat) : List α := (List.range i).flatMap fun j => ks[j]?.getD [] ++ its[j]?.toList
theorem pre2_succ {α : Type} (its : List α) (ks : List (List α)) (i : Nat) : pre2 its ks (i + 1) = pre2 its ks i ++ (ks[i]?.getD [] ++ its[i]?.toList) := by
  unfold pre2; rw [List.range_succ, List.flatMap_append]; simp
theorem inter_pre2 {α : Type} : ∀ (its : List α) (ks : List (List α)), inter its ks = pre2 its ks (max ks.length its.length)
  | [], [] => by simp [inter, pre2]
  | i :: r, [] => by
    have := inter_pre2 r []
    simp only [inter] at this ⊢
    simp only [pre2, List.length_nil, List.length_cons, Nat.zero_max, List.getElem?_nil, Option.getD_none, List.nil_append] at this ⊢
    rw [List.range_succ_eq_map, List.flatMap_cons, List.flatMap_map]
    simp only [List.getElem?_cons_zero, Option.toList_some, List.getElem?_cons_succ]
    rw [← this]; rfl
  | [], k :: ks => by
    have := inter_pre2 [] ks
    simp only [inter]
    rw [this]
    simp only [pre2, List.length_nil, List.length_cons, Nat.max_zero, List.getElem?_nil, Option.toList_none, List.append_nil]
    rw [List.range_succ_eq_map, List.flatMap_cons, List.flatMap_map]
    simp
  | i :: r, k :: ks => by
    have := inter_pre2 r ks
    simp only [inter]
    rw [this]
    simp only [pre2, List.length_cons, Nat.succ_max_succ]
    rw [List.range_succ_eq_map, List.flatMap_cons, List.flatMap_map]
    simp
theorem pre2_le {α : Type} {its : List α} {ks : List (List α)} {i j : Nat} (h : i ≤ j) : (pre2 its ks i).length ≤ (pre2 its ks j).length := by
  obtain ⟨d, rfl⟩ : ∃ d, j = i + d := ⟨j - i, by omega⟩
  unfold pre2
  rw [List.range_add, List.flatMap_append, List.length_append]; omega
theorem DT.items_le : ∀ {k : Nat} (t : DT k), t.items.length ≤ t.bulk
  | 0, e => e.elim
  | k + 1, t => by
    show (inter t.1 (t.2.map DT.items)).length ≤ 1 + t.1.length + (t.2.map DT.bulk).sum
    rw [inter_length]
    have : ∀ l : List (DT k), ((l.map DT.items).map List.length).sum ≤ (l.map DT.bulk).sum := fun l => by
      induction l with
      | nil => simp
      | cons a r ih => simp only [List.map_cons, List.sum_cons]; have := a.items_le; omega
    have := this t.2
    omega
theorem DT.bulk_pos : ∀ {k : Nat} (t : DT k), 1 ≤ t.bulk
  | 0, e => e.elim
  | k + 1, t => (by show 1 ≤ 1 + _ + _; omega)
theorem DT.kids_le {k : Nat} (t : DT (k + 1)) : 1 + t.1.length + t.2.length ≤ t.bulk := by
  have : ∀ l : List (DT k), l.length ≤ (l.map DT.bulk).sum := fun l => by
    induction l with
    | nil => simp
    | cons a r ih => simp only [List.length_cons, List.map_cons, List.sum_cons]; have := a.bulk_pos; omega
  show _ ≤ 1 + t.1.length + (t.2.map DT.bulk).sum
  have := this t.2
  omega
theorem DT.kid_le {k : Nat} (t : DT (k + 1)) {q : DT k} (hq : q ∈ t.2) : q.bulk + 1 ≤ t.bulk := by
  have : q.bulk ≤ (t.2.map DT.bulk).sum := mem_le_sum (List.mem_map.2 ⟨q, hq, rfl⟩)
  show _ ≤ 1 + t.1.length + (t.2.map DT.bulk).sum
  omega
/-- The levels, and whether all leaves lie equally deep and each node with kids has one kid more than items. -/
def DT.lv : {k : Nat} → DT k → Nat × Bool
  | 0, e => e.elim
  | _ + 1, t => match t.2 with
    | [] => (1, true)
    | q :: qs => if qs.length = t.1.length then ((DT.lv q).1 + 1, (DT.lv q).2 && qs.all fun x => (DT.lv x).2 && (DT.lv x).1 == (DT.lv q).1) else (0, false)
/-- Each node has at most 2 * d - 1 items, the first one at least least, those below at least d - 1. -/
def DT.fl (d : Int) : {k : Nat} → Int → DT k → Bool
  | 0, _, e => e.elim
  | _ + 1, least, t => decide (least ≤ t.1.length) && decide ((t.1.length : Int) ≤ 2 * d - 1) && t.2.all fun q => DT.fl d (d - 1) q
theorem DT.lv_le : ∀ {k : Nat} (t : DT k), t.lv.1 ≤ k
  | 0, e => e.elim
  | k + 1, t => by
    unfold DT.lv
    split
    · exact Nat.le_add_left 1 k
    · rename_i q qs _
      split
      · exact Nat.succ_le_succ q.lv_le
      · exact Nat.zero_le _
/-- A node as data in memory: the slices of its items and of its kids. -/
def ArgD (h : Heap) : {k : Nat} → DT k → Value → Value → Prop
  | 0, e, _, _ => e.elim
  | _ + 1, t, vi, vk => Rdl 2 h vi t.1.length (t.1.flatMap fun p => [.int .i64 p.1, .int .i64 p.2]) ∧ ∃ cs : List (Value × Value × Int), cs.length = t.2.length ∧ Rdl 3 h vk cs.length (cs.flatMap fun c => [c.1, c.2.1, .int .i64 c.2.2]) ∧
      ∀ j (h1 : j < t.2.length) (h2 : j < cs.length), ArgD h t.2[j] cs[j].1 cs[j].2.1
theorem ArgD.fr {h h' : Heap} (f : Fr (fun _ _ => False) h h') : ∀ {k : Nat} {x : DT k} {vi vk : Value}, ArgD h x vi vk → ArgD h' x vi vk
  | 0, e, _, _, _ => e.elim
  | k + 1, _, _, _, ⟨h1, cs, h3, h4, h5⟩ => ⟨h1.fr f (fun _ _ e => e), cs, h3, h4.fr f (fun _ _ e => e), fun j j1 j2 => ArgD.fr f (h5 j j1 j2)⟩
theorem ArgD.one {h : Heap} : ∀ {k : Nat} {x : DT k} {vi vk : Value}, ArgD h x vi vk → one1 vi = true ∧ one1 vk = true
  | 0, e, _, _, _ => e.elim
  | k + 1, _, _, _, ⟨h1, cs, h3, h4, h5⟩ => ⟨h1.one, h4.one⟩

section
variable {H : Type} {enc : TypeId × Value → H} {P : Program}
/-- What the program's types of nodes and items are. -/
structure NodeTy (P : Program) (tn ts tk ti tc : TypeId) (f0 f1 f2 g0 g1 : Field) : Prop where
  un : P.underlying tn = some (.struct #[f0, f1, f2])
  off : f0.offset = 0 ∧ f1.offset = 1 ∧ f2.offset = 2
  typ : f0.type = ts ∧ f1.type = tk ∧ f2.type = tc
  cn : P.cellsOf tn = 3
  c1 : P.cellsOf ts = 1 ∧ P.cellsOf tk = 1 ∧ P.cellsOf tc = 1
  us : P.underlying ts = some (.slice ti)
  uk : P.underlying tk = some (.slice tn)
  uc : P.underlying tc = some (.int .i64)
  ui : P.underlying ti = some (.struct #[g0, g1])
  ci : P.cellsOf ti = 2
  goff : g0.offset = 0 ∧ g1.offset = 1
  gc : P.cellsOf g0.type = 1 ∧ P.cellsOf g1.type = 1
  gu : P.underlying g0.type = some (.int .i64) ∧ P.underlying g1.type = some (.int .i64)

theorem sum_ge_length {α : Type} (f : α → Nat) (hf : ∀ a, 1 ≤ f a) (l : List α) : l.length ≤ (l.map f).sum := by
  induction l with
  | nil => simp
  | cons a r ih => simp only [List.length_cons, List.map_cons, List.sum_cons]; have := hf a; omega

theorem open_node {tn ts tk ti tc : TypeId} {f0 f1 f2 g0 g1 : Field} (N : NodeTy P tn ts tk ti tc f0 f1 f2 g0 g1) {bk : DataW H → Nat} (b1 : ∀ d, 1 ≤ bk d) (ba : ∀ l, bk (.agg l) = (l.map bk).sum + 1) (bs : ∀ e s, bk (.slice e s) = (e.map bk).sum + (s.map bk).sum + 1)
    {W : World} {base : Nat} : ∀ (n fuel : Nat) (cs : List Value) (x : DataW H × List MemPlace), DataW.trod enc P W base (fun _ => true) true fuel tn cs = some x → bk x.1 ≤ n →
      ∃ (t : DT n) (vi vk : Value) (c : Int), cs = [vi, vk, .int .i64 c] ∧ ArgD W.heap t vi vk ∧ t.bulk ≤ bk x.1
  | 0, _, _, x, _, h => absurd h (by have := b1 x.1; omega)
  | n + 1, fuel, cs, x, h, hb => by
    obtain ⟨xs, k, rfl, hx, hcl, hxl, hf⟩ := DataW.trod_struct N.un h
    have e0 := hf 0 f0 rfl
    have e1 := hf 1 f1 rfl
    have e2 := hf 2 f2 rfl
    rw [N.cn] at hcl
    match xs, hxl, cs, hcl with
    | [y0, y1, y2], _, [v0, v1, v2], _ =>
      simp [N.off, N.typ, N.c1] at e0 e1 e2
      obtain ⟨l, vi, hc0, hr, _, hk0⟩ := open_pairsC N.us N.ui N.ci N.goff.1 N.goff.2 N.gc.1 N.gc.2 N.gu.1 N.gu.2 e0
      obtain ⟨c, hc2, _, _⟩ := DataW.trod_int N.uc e2
      simp only [List.cons.injEq, and_true] at hc0 hc2
      subst hc0; subst hc2
      have hbx : bk x.1 = bk y0.1 + bk y1.1 + bk y2.1 + 1 := by
        rw [hx]; simp [ba]; omega
      have hl : l.length ≤ bk y0.1 := by
        rcases hk0 with ⟨rfl, _⟩ | ⟨es, ss, he, hel⟩
        · simp
        · rw [he, bs, ← hel]; have := sum_ge_length bk b1 es; omega
      rcases Go.Deep.open_slice N.uk e1 with ⟨hc, hy⟩ | ⟨a, len, cap, m, n', D, Pl, hc, _, hlc, hm, hmm, hy, hall⟩
      · simp only [List.cons.injEq, and_true] at hc
        subst hc
        refine ⟨(l, []), _, _, c, rfl, ⟨hr, [], rfl, Rdl.nil 3 _, fun j h1 _ => absurd h1 (Nat.not_lt_zero _)⟩, ?_⟩
        show 1 + l.length + 0 ≤ _
        have := b1 y1.1
        omega
      · simp only [List.cons.injEq, and_true] at hc
        subst hc
        have hm' : m = cap := by simpa using hmm
        subst hm'
        rw [N.cn] at hall hy
        have hby : bk y1.1 = (((List.range len).map D).map bk).sum + (((List.range (m - len)).map fun j => D (len + j)).map bk).sum + 1 := by rw [hy]; exact bs _ _
        have hbi : ∀ i, i < len → bk (D i) ≤ n := fun i hi => by
          have : bk (D i) ≤ (((List.range len).map D).map bk).sum := mem_le_sum (List.mem_map.2 ⟨D i, List.mem_map.2 ⟨i, List.mem_range.2 hi, rfl⟩, rfl⟩)
          omega
        have each : ∀ i, i < len → ∃ q : DT n × Value × Value × Int, ArgD W.heap q.1 q.2.1 q.2.2.1 ∧ q.1.bulk ≤ bk (D i) ∧ (∀ j, j < 3 → W.cell? ((a.add (i * 3)).add j) = [q.2.1, q.2.2.1, Value.int .i64 q.2.2.2][j]?) := fun i hi => by
          obtain ⟨cs', g1, g2⟩ := hall i (by omega)
          obtain ⟨t, vi, vk, c, rfl, h3, h4⟩ := open_node N b1 ba bs n n' cs' _ g2 (hbi i hi)
          exact ⟨(t, vi, vk, c), h3, h4, (World.cells?_some g1).2.2⟩
        rcases Nat.eq_zero_or_pos len with hz | hz
        · subst hz
          refine ⟨(l, []), _, _, c, rfl, ⟨hr, [], rfl, ⟨_, _, rfl, rfl, fun e => absurd rfl e, Nat.zero_le _⟩, fun j h1 _ => absurd h1 (Nat.not_lt_zero _)⟩, ?_⟩
          show 1 + l.length + 0 ≤ _
          omega
        obtain ⟨q0, _⟩ := each 0 hz
        haveI : Inhabited (DT n × Value × Value × Int) := ⟨q0⟩
        obtain ⟨q, hq⟩ := Go.Deep.choose_lt each
        refine ⟨(l, (List.range len).map fun i => (q i).1), _, _, c, rfl, ⟨hr, (List.range len).map fun i => (q i).2, by simp, ⟨some a, m, by rw [List.length_map, List.length_range], flat_len (sz := 3) (fun _ => rfl) _, fun hn => ?_, by rw [List.length_map, List.length_range]; exact hlc⟩, fun j h1 h2 => ?_⟩, ?_⟩
        · simp only [List.length_map, List.length_range] at hn
          have h0 := (hq 0 (by omega)).2.2 0 (by omega)
          obtain ⟨b, o, sp⟩ := a
          cases sp with
          | some s =>
            have h1 : W.cell? ⟨b, o, some s⟩ = some (q 0).2.1 := h0
            unfold World.cell? at h1
            split at h1
            · simp only [Option.isSome_some, if_true] at h1; cases h1
            · cases h1
          | none =>
            refine ⟨b, o, rfl, fun j hj => ?_⟩
            rw [flat_len (sz := 3) (fun _ => rfl)] at hj
            simp only [List.length_map, List.length_range] at hj
            have hi : j / 3 < len := by omega
            have hi' : j / 3 < ((List.range len).map fun i => (q i).2).length := by simpa using hi
            have h1 := (hq (j / 3) hi).2.2 (j % 3) (Nat.mod_lt _ (by omega))
            rw [add_mk, add_mk, Nat.add_assoc, show j / 3 * 3 + j % 3 = j by omega] at h1
            have h2 := flat_get (f := fun c : Value × Value × Int => [c.1, c.2.1, .int .i64 c.2.2]) (sz := 3) (fun _ => rfl) _ (j / 3) hi' (j % 3) (Nat.mod_lt _ (by omega))
            rw [show j / 3 * 3 + j % 3 = j by omega] at h2
            rw [h2]
            simp only [List.getElem_map, List.getElem_range]
            exact h1
        · simp only [List.getElem_map, List.getElem_range]
          exact (hq j (by simpa using h1)).1
        · show 1 + l.length + (((List.range len).map fun i => (q i).1).map DT.bulk).sum ≤ _
          have hsum : (((List.range len).map fun i => (q i).1).map DT.bulk).sum ≤ (((List.range len).map D).map bk).sum := by
            rw [List.map_map, List.map_map]
            have : ∀ L : List Nat, (∀ i, i ∈ L → i < len) → (L.map (DT.bulk ∘ fun i => (q i).1)).sum ≤ (L.map (bk ∘ D)).sum := fun L hL => by
              induction L with
              | nil => simp
              | cons i r ih =>
                simp only [List.map_cons, List.sum_cons, Function.comp]
                have h1 := (hq i (hL i (List.mem_cons_self ..))).2.1
                have h2 : (r.map (DT.bulk ∘ fun i => (q i).1)).sum ≤ (r.map (bk ∘ D)).sum := ih fun j hj => hL j (List.mem_cons_of_mem _ hj)
                omega
            exact this _ fun i hi => List.mem_range.1 hi
          omega
end
end Go.Hp
