/-
  Slicing, building, and the operations that write, allocate or call: each comes to its shallow word.
  Conditions: the types' facts, as premises.
-/
import Derived.Test.YtlihjljdndbpdaaHo
import Derived.IntWalk
namespace Go.Hp
open Go.RowKit
set_option linter.unusedVariables false
set_option linter.unusedSimpArgs false

section
variable {P : Program} {h : Heap} {e : Env}
section
variable {K : Value → (Heap → Prop) → Prop} {K' : Value → Prop} {d : Option Nat} {ty : TypeId} {ps : String} {af : Array Edge} {g : Option (Nat × Bool)}

theorem ro_bound {v : Value} {top r : Nat} {c : BoundsCode} {β : Type} {f : Nat → Sem β} {K : β → (Heap → Prop) → Prop} {S : Heap → Prop} (H : ∃ k i, v = .int k i ∧ 0 ≤ i ∧ i ≤ (top : Int) ∧ r = i.toNat) :
    ro P h ((Instr.sliceBound v top c).bind f) K S = ro P h (f r) K S := by
  obtain ⟨k, i, rfl, h0, h1, rfl⟩ := H
  simp only [Instr.sliceBound, asIntOf, bind, Sem.bind, pure]
  rw [if_pos ⟨h0, h1⟩]
  rfl

theorem ro_bounds {isS : Bool} {len cap l hh m : Nat} {lo hi mx : Option Value} {β : Type} {f : Nat × Nat × Nat → Sem β} {K : β → (Heap → Prop) → Prop} {S : Heap → Prop}
    (hm : bnd mx cap cap m) (hhi : bnd hi len m hh) (hlo : bnd lo 0 hh l) (hx : mx.isSome = true → hi.isSome = true) :
    ro P h ((Instr.sliceBounds isS len cap lo hi mx).bind f) K S = ro P h (f (l, hh, m)) K S := by
  have tail : ∀ (hh' : Nat), hh' = hh → ro P h ((match lo with
      | some v => (Instr.sliceBound v hh' (if mx.isSome = true then .slice3C else .sliceB)).bind fun l => Sem.pure (l, hh', m)
      | none => Sem.pure (0, hh', m)).bind f) K S = ro P h (f (l, hh, m)) K S := by
    rintro _ rfl
    cases lo with
    | none => simp only [bnd] at hlo; subst hlo; rfl
    | some v => simp only [sem_assoc]; rw [ro_bound hlo]; rfl
  unfold Instr.sliceBounds
  simp only [bind, sem_assoc]
  cases mx with
  | none =>
    simp only [bnd] at hm
    subst hm
    cases hi with
    | none =>
      simp only [bnd] at hhi
      exact tail len hhi.symm
    | some v =>
      simp only [pure, Sem.bind, sem_assoc]
      rw [ro_bound hhi]
      exact tail hh rfl
  | some mv =>
    simp only [sem_assoc]
    rw [ro_bound hm]
    cases hi with
    | none => simp at hx
    | some v =>
      simp only [pure, Sem.bind, sem_assoc]
      rw [ro_bound hhi]
      exact tail hh rfl

theorem R_slice {t el : TypeId} {n : Nat} {x : Operand} {lo hi mx : Option Operand} (hT : TyE P t el n) (hx : mx.isSome = true → hi.isSome = true) (H : slc n (ev e x) (lo.map (ev e)) (hi.map (ev e)) (mx.map (ev e)) K') (hk : ∀ v, K' v → K v fun _ => True) :
    opR P e ⟨d, .slice t x lo hi mx, ty, ps, af, g⟩ h K := by
  obtain ⟨a, len, cap, l, hh, m, hs, hm, hhi, hlo, hK⟩ := H
  obtain ⟨hu, i, hj, rfl⟩ := hT
  have := hk _ hK
  show ro P h ((Instr.sliceAt t (ev e x) (lo.map (ev e)) (hi.map (ev e)) (mx.map (ev e))).bind fun v => Sem.pure (Next.value v)) _ _
  unfold Instr.sliceAt
  simp only [bind, sem_assoc]
  rw [ro_und hu, hs]
  simp only
  unfold Instr.slice
  simp only [bind, sem_assoc]
  rw [ro_und hu]
  simp only [sem_assoc]
  rw [ro_bounds hm hhi hlo (by simpa using hx)]
  simp only [sem_assoc]
  rw [ro_size hj]
  exact this
theorem R_sliceS {t : TypeId} {x : Operand} {lo hi : Option Operand} (hT : P.underlying t = some .string) (H : slcS (ev e x) (lo.map (ev e)) (hi.map (ev e)) K') (hk : ∀ v, K' v → K v fun _ => True) :
    opR P e ⟨d, .slice t x lo hi none, ty, ps, af, g⟩ h K := by
  obtain ⟨b, l, hh, hs, hhi, hlo, hK⟩ := H
  have := hk _ hK
  show ro P h ((Instr.sliceAt t (ev e x) (lo.map (ev e)) (hi.map (ev e)) none).bind fun v => Sem.pure (Next.value v)) _ _
  unfold Instr.sliceAt
  simp only [bind, sem_assoc]
  rw [ro_und hT, hs]
  simp only
  unfold Instr.slice
  simp only [bind, sem_assoc]
  rw [ro_und hT]
  simp only [Option.isSome_none, Bool.false_eq_true, if_false, pure, Sem.bind, sem_assoc]
  rw [ro_bounds (m := b.size) (show bnd none b.size b.size b.size from rfl) hhi hlo (by simp)]
  exact this

theorem size_cells (v : Value) : v.cells.size = v.cells.toList.length := by simp

/-- the model's 'fill' is 'fillV' -/
theorem foldl_set : ∀ (vs : List Value) (off k : Nat) (cs : Array Value), off + k + vs.length ≤ cs.size →
    ((vs.zipIdx k).foldl (fun (cs : Array Value) (p : Value × Nat) => cs.setIfInBounds (off + p.2) p.1) cs).toList = cs.toList.take (off + k) ++ vs ++ cs.toList.drop (off + k + vs.length)
  | [], off, k, cs, _ => by simp
  | v :: r, off, k, cs, hle => by
    simp only [List.length_cons] at hle
    simp only [List.zipIdx_cons, List.foldl_cons]
    rw [foldl_set r off (k + 1) _ (by simp; omega)]
    have hlt : off + k < cs.toList.length := by simp; omega
    simp only [Array.toList_setIfInBounds, List.length_cons]
    rw [show off + (k + 1) = off + k + 1 by omega, show off + k + 1 + r.length = off + k + (r.length + 1) by omega]
    rw [List.take_set, List.drop_set]
    rw [if_pos (by omega)]
    rw [List.take_succ_eq_append_getElem hlt]
    rw [List.set_append]
    simp
    have hlt' : off + k < cs.size := by simpa using hlt
    rw [if_neg (by omega)]
    have h0 : off + k - min (off + k) cs.size = 0 := by omega
    rw [h0]
    simp

theorem fill_eq {place : Nat → Option (Nat × Nat)} : ∀ (parts : List (Nat × Value)) (cs : Array Value) (l : List (Nat × Nat × Value)) (out : List Value),
    l = parts.map (fun p => (((place p.1).getD (0, 0)).1, ((place p.1).getD (0, 0)).2, p.2)) → (∀ p ∈ parts, (place p.1).isSome = true) → fillV l cs.toList = some out → Instr.fill place cs parts = some out.toArray
  | [], cs, l, out, hl, _, hf => by
    subst hl
    simp only [List.map_nil, fillV, Option.some.injEq] at hf
    simp [Instr.fill, ← hf]
  | (i, v) :: rest, cs, l, out, hl, hp, hf => by
    subst hl
    have hs := hp (i, v) (List.mem_cons_self ..)
    simp only at hs
    cases hpl : place i with
    | none => simp [hpl] at hs
    | some os =>
      obtain ⟨off, size⟩ := os
      simp only [List.map_cons, hpl, Option.getD_some, fillV, fill1] at hf
      split at hf
      · rename_i cs' heq
        split at heq
        · rename_i hc
          simp only [Option.some.injEq] at heq
          simp only [Instr.fill, hpl]
          have hlen : cs.size = cs.toList.length := by simp
          rw [if_neg (show ¬ ((decide (v.cells.size ≠ size) || decide (off + v.cells.size > cs.size)) = true) from by
            have h1 := hc.1; have h2 := hc.2; simp only [Array.length_toList] at h2; simp only [Bool.or_eq_true, decide_eq_true_eq]; omega)]
          refine fill_eq rest _ _ out rfl (fun p hp' => hp p (List.mem_cons_of_mem _ hp')) ?_
          have hfs := foldl_set v.cells.toList off 0 cs (by rw [← size_cells, hc.1]; simpa using hc.2)
          have hfold : (v.cells.zipIdx.foldl (fun cs (c, j) => cs.setIfInBounds (off + j) c) cs) = (v.cells.toList.zipIdx 0).foldl (fun (cs : Array Value) (p : Value × Nat) => cs.setIfInBounds (off + p.2) p.1) cs := by
            rw [← Array.foldl_toList, Array.toList_zipIdx]
          rw [hfold, hfs]
          simp only [Nat.add_zero, ← size_cells, hc.1]
          rw [heq]
          exact hf
        · cases heq
      · cases hf

def plOk (P : Program) : List Field → List (Nat × Nat) → Prop
  | [], [] => True
  | f :: fs, p :: pl => f.offset = p.1 ∧ TyS P f.type p.2 ∧ plOk P fs pl
  | _, _ => False
/-- A struct type's fields' places, as a list. -/
def TyB (P : Program) (t : TypeId) (zero : List Value) (places : List (Nat × Nat)) : Prop :=
  ∃ fs i z, P.underlying t = some (.struct fs) ∧ P.info? t = some i ∧ i.zero = some z ∧ z.cells = zero.toArray ∧
    plOk P fs.toList places
theorem plOk_map : ∀ {fs : List Field} {pl : List (Nat × Nat)}, plOk P fs pl → fs.map (fun f => (f.offset, (P.info? f.type).map (·.size))) = pl.map (fun p => (p.1, some p.2))
  | [], [], _ => rfl
  | f :: fs, p :: pl, ⟨h1, ⟨i, hi, hs⟩, h3⟩ => by simp only [List.map_cons, plOk_map h3, h1, hi, Option.map_some, hs]
  | [], _ :: _, h => h.elim
  | _ :: _, [], h => h.elim

theorem ro_places {β : Type} {f : Array (Nat × Nat) → Sem β} {K : β → (Heap → Prop) → Prop} {S : Heap → Prop} : ∀ (fs : List Field) (pl : List (Nat × Nat)) (acc : Array (Nat × Nat)),
    fs.map (fun f => (f.offset, (P.info? f.type).map (·.size))) = pl.map (fun p => (p.1, some p.2)) →
    ro P h ((List.foldlM (fun (acc : Array (Nat × Nat)) (f : Field) => (sizeOf f.type).bind fun s => Sem.pure (acc.push (f.offset, s))) acc fs).bind f) K S = ro P h (f (acc ++ pl.toArray)) K S
  | [], pl, acc, hp => by
    cases pl with
    | nil => simp [pure, Sem.bind]
    | cons p pl => simp at hp
  | fl :: fs, pl, acc, hp => by
    cases pl with
    | nil => simp at hp
    | cons p pl =>
      simp only [List.map_cons, List.cons.injEq, Prod.mk.injEq] at hp
      obtain ⟨⟨h1, h2⟩, h3⟩ := hp
      cases hi : P.info? fl.type with
      | none => rw [hi] at h2; cases h2
      | some i =>
        rw [hi] at h2
        simp only [Option.map_some, Option.some.injEq] at h2
        simp only [List.foldlM_cons, bind, sem_assoc]
        rw [ro_size hi]
        simp only [Sem.bind]
        rw [ro_places fs pl _ h3, h1, h2]
        simp

theorem R_build {t : TypeId} {zero : List Value} {pl : List (Nat × Nat)} {parts : Array (Nat × Operand)} {l : List (Nat × Nat × Value)} (hT : TyB P t zero pl)
    (hl : l = parts.toList.map (fun p => ((pl.getD p.1 (0, 0)).1, (pl.getD p.1 (0, 0)).2, ev e p.2))) (hp : ∀ p ∈ parts.toList, p.1 < pl.length) (H : buildV zero l K') (hk : ∀ v, K' v → K v fun _ => True) :
    opR P e ⟨d, .build t parts, ty, ps, af, g⟩ h K := by
  obtain ⟨cs, hf, hK⟩ := H
  obtain ⟨fs, i, z, hu, hi, hz, hzc, hpl⟩ := hT
  have := hk _ hK
  show ro P h ((Instr.build t (parts.map fun (i, x) => (i, ev e x))).bind fun v => Sem.pure (Next.value v)) _ _
  unfold Instr.build
  simp only [bind, sem_assoc, zeroValue]
  rw [ro_info hi]
  simp only [hz, pure, Sem.bind]
  rw [ro_und hu]
  simp only [sem_assoc]
  have hm : (Array.mapM (fun (f : Field) => ((sizeOf f.type).bind fun s => Sem.pure (f.offset, s) : Sem (Nat × Nat))) fs) = List.foldlM (fun (acc : Array (Nat × Nat)) (f : Field) => (sizeOf f.type).bind fun s => Sem.pure (acc.push (f.offset, s))) #[] fs.toList := by
    rw [Array.mapM_eq_foldlM, ← Array.foldlM_toList]
    congr 1
    funext acc f
    simp only [Functor.map, bind, pure, sem_assoc, Sem.bind]
    rfl
  rw [hm, ro_places fs.toList pl #[] (plOk_map hpl)]
  have hfill : Instr.fill (fun x => (#[] ++ pl.toArray)[x]?) z.cells (parts.map fun (i, x) => (i, ev e x)).toList = some cs.toArray := by
    refine fill_eq _ _ l cs ?_ ?_ (by rw [hzc]; exact hf)
    · rw [hl]
      simp only [Array.toList_map, List.map_map]
      refine List.map_congr_left fun p hp' => ?_
      simp [List.getD_eq_getElem?_getD]
    · intro p hp'
      simp only [Array.toList_map, List.mem_map] at hp'
      obtain ⟨q, hq, rfl⟩ := hp'
      simp [hp q hq]
  rw [hfill]
  exact this
theorem R_field {t : TypeId} {fi : Nat} {x : Operand} {fs : Array Field} {f : Field} {df : TypeDesc} (hu : P.underlying t = some (.struct fs)) (hf : fs[fi]? = some f) (hd : P.underlying f.type = some df) {n : Nat} (hn : TyS P f.type n)
    (H : fldV f.offset n (aggD df) (ev e x) K') (hk : ∀ v, K' v → K v fun _ => True) : opR P e ⟨d, .field t x fi, ty, ps, af, g⟩ h K := by
  obtain ⟨cs, hx, hK⟩ := H
  obtain ⟨i, hi, rfl⟩ := hn
  show ro P h ((Instr.field t (ev e x) fi).bind fun v => Sem.pure (Next.value v)) _ _
  unfold Instr.field
  simp only [bind, sem_assoc]
  rw [ro_und hu, hx]
  simp only [hf, asAgg, pure, Sem.bind, sem_assoc]
  unfold part
  simp only [bind, sem_assoc]
  rw [ro_agg hd]
  cases hag : aggD df with
  | true =>
    rw [hag] at hK
    simp only [if_true, sem_assoc] at hK ⊢
    rw [ro_size hi]
    exact hk _ hK
  | false =>
    rw [hag] at hK
    simp only [Bool.false_eq_true, if_false] at hK ⊢
    obtain ⟨v, hv, hK⟩ := hK
    rw [hv]
    exact hk _ hK
theorem R_idxS {t : TypeId} {x ix : Operand} (hT : P.underlying t = some .string) (H : idxS (ev e x) (ev e ix) K') (hk : ∀ v, K' v → K v fun _ => True) : opR P e ⟨d, .index t x ix, ty, ps, af, g⟩ h K := by
  obtain ⟨b, k, n, v, hx, hi, h0, hv, hK⟩ := H
  have := hk _ hK
  show ro P h ((Instr.index t (ev e x) (ev e ix)).bind fun v => Sem.pure (Next.value v)) _ _
  unfold Instr.index
  simp only [bind, sem_assoc, hi, asIntOf, pure, Sem.bind]
  rw [ro_und hT, hx]
  simp only [h0, if_true, hv]
  exact this
theorem R_mkFn {fn : Fn} {la lb : List Operand} {v : Value} (hv : Value.func fn (la.map (ev e)).toArray (lb.map (ev e)).toArray = v) (hk : K v fun _ => True) : opR P e ⟨d, .makeFunc fn la.toArray lb.toArray, ty, ps, af, g⟩ h K := by
  subst hv
  have h1 : (la.toArray.map (ev e)) = (la.map (ev e)).toArray := by simp
  have h2 : (lb.toArray.map (ev e)) = (lb.map (ev e)).toArray := by simp
  show K (.func fn (la.toArray.map (ev e)) (lb.toArray.map (ev e))) _
  rw [h1, h2]; exact hk
theorem R_mkI {t : TypeId} {x : Operand} {dt : TypeDesc} (hT : P.underlying t = some dt) (hd : ∀ ms, dt ≠ .interface ms) (hk : K (.iface t (ev e x)) fun _ => True) : opR P e ⟨d, .makeInterface t x, ty, ps, af, g⟩ h K := by
  show ro P h ((Instr.makeInterface t (ev e x)).bind fun v => Sem.pure (Next.value v)) _ _
  unfold Instr.makeInterface
  simp only [bind, sem_assoc]
  rw [ro_und hT]
  cases dt <;> first | exact hk | exact absurd rfl (hd _)
/-- An operation whose run is known outright. -/
theorem R_pickC {c a b : Operand} {v : Value} (t : Bool) (hc : ev e c = .bool t) (hv : cond t (ev e a) (ev e b) = v) (hk : K v fun _ => True) : opR P e ⟨d, .pick c a b, ty, ps, af, g⟩ h K :=
  R_pick (K' := fun v => K v fun _ => True) ⟨t, hc, by cases t <;> (subst hv; exact hk)⟩ fun _ hv => hv
theorem least_some {l : List String} (h : l ≠ []) : (Instr.least l).isSome = true := by
  cases l with
  | nil => exact absurd rfl h
  | cons a r => rfl
theorem missing_some {want : Array (String × TypeId)} {x : String × TypeId} {r : List (String × TypeId)} (hw : want = (x :: r).toArray) : (Instr.missingMethod want #[]).isSome = true := by
  subst hw
  unfold Instr.missingMethod
  have hf : ((x :: r).toArray.toList.filter fun (name, sig) => !(#[] : Array Method).any fun m => m.name == name && m.sig == sig) = x :: r := by
    simp
  simp only [hf]
  generalize hl : (x :: r).map (·.1) = l
  have hne : l ≠ [] := by rw [← hl]; simp
  rw [List.partition_eq_filter_filter]
  simp only
  by_cases h1 : List.filter (not ∘ fun s : String => s.contains '.') l = []
  · by_cases h2 : List.filter (fun s : String => s.contains '.') l = []
    · exfalso
      cases l with
      | nil => exact hne rfl
      | cons a t =>
        rw [List.filter_eq_nil_iff] at h1 h2
        have a1 := h1 a (List.mem_cons_self ..)
        have a2 := h2 a (List.mem_cons_self ..)
        simp at a1 a2
        first | exact a2 a1 | exact a1 a2
    · have h3 := least_some (l := (List.filter (fun s : String => s.contains '.') l).map fun id => (id.splitOn ".").getLastD id) (by simpa using h2)
      rw [h1]
      simpa [Instr.least] using h3
  · obtain ⟨m, hm⟩ := Option.isSome_iff_exists.1 (least_some h1)
    rw [hm]
    rfl
theorem R_ta {as xt t : TypeId} {x : Operand} {v z : Value} {want : Array (String × TypeId)} {i j : TypeInfo} (hu : P.underlying as = some (.interface want)) (hi : P.info? t = some i) (hm : (Instr.missingMethod want i.methods).isSome = true)
    (hj : P.info? as = some j) (hz : j.zero = some z) (hx : ev e x = .iface t v) (hk : K (.tuple #[z, .bool false]) fun _ => True) : opR P e ⟨d, .typeAssert x xt as true, ty, ps, af, g⟩ h K := by
  obtain ⟨m, hm⟩ := Option.isSome_iff_exists.1 hm
  show ro P h ((Instr.typeAssert (ev e x) xt as true).bind fun v => Sem.pure (Next.value v)) _ _
  unfold Instr.typeAssert
  simp only [bind, sem_assoc]
  rw [ro_und hu, hx]
  simp only [sem_assoc]
  rw [ro_info hi]
  simp only [hm, if_true, zeroValue, bind, sem_assoc]
  rw [ro_info hj]
  simp only [hz, pure, Sem.bind]
  exact hk
theorem R_run {o : Oper} {v : Value} (hr : ∀ (Q : Next → (Heap → Prop) → Prop) (S : Heap → Prop), ro P h (execOp (ev e) o) Q S = Q (.value v) S) (hk : K v fun _ => True) : opR P e o h K := by
  unfold opR; rw [hr]; exact hk
end

section
variable {K : Value → Heap → Prop} {d : Option Nat} {ty : TypeId} {ps : String} {af : Array Edge} {g : Option (Nat × Bool)}

theorem hwp_puts {a : Addr} {β : Type} {f : Unit → Sem β} {Q : β → Heap → Prop} : ∀ (vs : List Value) (i : Nat) (h : Heap), putsAt a vs i h (fun h' => hwp P (f ()) Q h') → hwp P ((storeCells a vs i).bind f) Q h
  | [], i, h, hh => hh
  | v :: r, i, h, hh => by
    obtain ⟨h1, h2, h3⟩ := hh
    unfold storeCells
    show hwp P (((store (a.add i) v).bind fun _ => storeCells a r (i + 1)).bind f) Q h
    simp only [store, Sem.bind, hwp]
    exact ⟨h1, h2.1, h2.2, hwp_puts r (i + 1) _ h3⟩
theorem hwp_rd {a : Addr} {n : Nat} {xs : List Value} {β : Type} {f : Array Value → Sem β} {Q : β → Heap → Prop} (hr : rd h a n = some xs) (hh : hwp P (f xs.toArray) Q h) : hwp P ((loadCells a n).bind f) Q h := by
  have key : ∀ (n i : Nat) (acc : Array Value) (xs : List Value), rdFrom h a i n = some xs → hwp P (f (acc ++ xs.toArray)) Q h → hwp P ((loadCellsFrom a i n acc).bind f) Q h := by
    intro n
    induction n with
    | zero =>
      intro i acc xs hx hh
      simp only [rdFrom, Option.some.injEq] at hx
      subst hx
      simpa [loadCellsFrom, pure, Sem.bind] using hh
    | succ n ih =>
      intro i acc xs hx hh
      simp only [rdFrom] at hx
      cases hc : cell h (a.add i) with
      | none => simp [hc] at hx
      | some v =>
        cases hr : rdFrom h a (i + 1) n with
        | none => simp [hc, hr] at hx
        | some r =>
          simp only [hc, hr, Option.some.injEq] at hx
          subst hx
          show hwp P (((load (a.add i)).bind fun v => loadCellsFrom a (i + 1) n (acc.push v)).bind f) Q h
          simp only [load, Sem.bind, hwp]
          exact ⟨v, hc, ih (i + 1) (acc.push v) r hr (by simpa using hh)⟩
  exact key n 0 #[] xs hr (by simpa using hh)

theorem H_store1 {t : TypeId} {x y : Operand} {K' : Heap → Prop} (hT : TyS P t 1) (H : store1 (ev e x) (ev e y) h K') (hk : ∀ h', K' h' → K undef h') : opH P e ⟨d, .store t x y, ty, ps, af, g⟩ h K := by
  obtain ⟨a, ha, h1, h2, hK⟩ := H
  obtain ⟨i, hi, hs⟩ := hT
  show hwp P ((Instr.storeAt t (ev e x) (ev e y)).bind fun _ => Sem.pure Next.skip) _ _
  unfold Instr.storeAt storeVar
  simp only [bind, sem_assoc, ha, Instr.sureAddr, pure, Sem.bind]
  rw [hwp_size hi]
  have hc : (ev e y).cells = #[ev e y] := by cases hv : ev e y <;> simp [Value.cells] <;> simp [hv, one1] at h1
  rw [if_neg (by rw [hc, hs]; simp), hc]
  refine hwp_puts [ev e y] 0 h ?_
  exact ⟨h1, by simpa [Addr.add] using h2, hk _ (by simpa [Addr.add] using hK)⟩
theorem H_storeN {t : TypeId} {n : Nat} {x y : Operand} {K' : Heap → Prop} (hT : TyS P t n) (H : storeN n (ev e x) (ev e y) h K') (hk : ∀ h', K' h' → K undef h') : opH P e ⟨d, .store t x y, ty, ps, af, g⟩ h K := by
  obtain ⟨a, ha, h1, hK⟩ := H
  obtain ⟨i, hi, hs⟩ := hT
  show hwp P ((Instr.storeAt t (ev e x) (ev e y)).bind fun _ => Sem.pure Next.skip) _ _
  unfold Instr.storeAt storeVar
  simp only [bind, sem_assoc, ha, Instr.sureAddr, pure, Sem.bind]
  rw [hwp_size hi, if_neg (by rw [h1, hs]; simp)]
  have mono : ∀ (vs : List Value) (i : Nat) (h : Heap) (K1 K2 : Heap → Prop), putsAt a vs i h K1 → (∀ h', K1 h' → K2 h') → putsAt a vs i h K2 := by
    intro vs
    induction vs with
    | nil => intro i h K1 K2 hh hk; exact hk _ hh
    | cons v r ih => intro i h K1 K2 ⟨a1, a2, a3⟩ hk; exact ⟨a1, a2, ih _ _ _ _ a3 hk⟩
  exact hwp_puts _ 0 h (mono _ _ _ _ _ hK hk)
theorem H_alloc {t : TypeId} {zero : List Value} (hT : TyV P t zero) {K' : Value → Heap → Prop} (H : alloc zero t h K') (hk : ∀ v h', K' v h' → K v h') : opH P e ⟨d, .alloc t, ty, ps, af, g⟩ h K := by
  obtain ⟨i, z, hi, hz, hzc⟩ := hT
  show hwp P ((Instr.alloc t true (.tuple #[])).bind fun v => Sem.pure (Next.value v)) _ _
  unfold Instr.alloc
  simp only [bind, sem_assoc]
  rw [hwp_zero hi hz]
  simp only [newVar, newRow, newObj, bind, Sem.bind, pure, hwp, hzc]
  exact hk _ _ H
theorem H_box {t : TypeId} {x : Operand} {K' : Value → Heap → Prop} (H : box t (ev e x) h K') (hk : ∀ v h', K' v h' → K v h') : opH P e ⟨d, .box t x, ty, ps, af, g⟩ h K := hk _ _ H

theorem H_mkSl {t el : TypeId} {n len bytes : Nat} {zero : List Value} {parts : Array (Nat × Operand)} {l : List (Nat × Nat × Value)} (hT : TyZ P t el n bytes zero) (hbig : ¬ (len * n > 2 ^ 24))
    (hl : l = parts.toList.map (fun p => (p.1 * n, n, ev e p.2))) {K' : Value → Heap → Prop} (H : mkSl (if len * n = 0 then [] else zeros zero len) len l el h K') (hzn : zero.length = n) (hk : ∀ v h', K' v h' → K v h') :
    opH P e ⟨d, .buildSlice t len parts, ty, ps, af, g⟩ h K := by
  obtain ⟨cs, hf, hK⟩ := H
  obtain ⟨hu, i, z, hi, hs, hb, hz, hzc⟩ := hT
  have hx0 : ∀ ρ : Operand → Value, execOp ρ ⟨d, .buildSlice t len parts, ty, ps, af, g⟩ = (Instr.buildSlice t len (parts.map fun (i, x) => (i, ρ x))).bind fun v => Sem.pure (Next.value v) := fun _ => rfl
  unfold opH
  rw [hx0]
  unfold Instr.buildSlice
  simp only [bind, sem_assoc]
  rw [hwp_und hu]
  simp only [sem_assoc]
  rw [hwp_size hi, hs]
  rw [if_neg hbig]
  have hfill : Instr.fill (fun i => some (i * n, n)) (if len * n = 0 then [] else zeros zero len).toArray (parts.map fun (i, x) => (i, ev e x)).toList = some cs.toArray := by
    refine fill_eq _ _ l cs ?_ (fun _ _ => rfl) hf
    rw [hl]
    simp only [Array.toList_map, List.map_map]
    rfl
  by_cases h0 : len * n = 0
  · simp only [h0, if_true, pure, Sem.bind] at hfill ⊢
    have he : (Array.range 0).map (fun x => (#[] : Array Value)[x % (#[] : Array Value).size]!) = ([] : List Value).toArray := by simp
    rw [he, hfill]
    simp only [newRow, newObj, bind, Sem.bind, pure, hwp, nextH]
    exact hk _ _ hK
  · simp only [h0, if_false] at hfill ⊢
    simp only [zeroValue, bind, sem_assoc]
    rw [hwp_info hi]
    simp only [hz, pure, Sem.bind]
    rw [hzc]
    have he : (Array.range (len * n)).map (fun x => zero.toArray[x % zero.toArray.size]!) = (zeros zero len).toArray := by
      apply Array.ext'
      simp [zeros, Builtin.zeroCells, hzn]
    rw [he, hfill]
    simp only [newRow, newObj, bind, Sem.bind, pure, hwp, nextH]
    exact hk _ _ hK

theorem lenOf_len {x : Value} {n : Nat} (hx : lenS x = some n) : Builtin.lenOf x = Sem.pure n := by
  cases x <;> simp [lenS] at hx <;> subst hx <;> rfl
theorem hwp_first {size n : Nat} {x : Value} {xs : List Value} {β : Type} {f : Array Value → Sem β} {Q : β → Heap → Prop} (hr : rdV h size n x = some xs) (hh : hwp P (f xs.toArray) Q h) : hwp P ((Builtin.firstCells size n x).bind f) Q h := by
  cases x <;> simp only [rdV] at hr <;> first
    | (cases hr; done)
    | (rename_i a l c
       cases a with
       | none => simp only [Option.some.injEq] at hr; subst hr; exact hh
       | some a => exact hwp_rd hr hh)
    | (simp only [Option.some.injEq] at hr; subst hr
       simp only [Builtin.firstCells, pure, Sem.bind]
       rw [← Array.toList_map, Array.toArray_toList] at hh; exact hh)
theorem hwp_putsO {base : Option Addr} {off : Nat} {vs : List Value} {β : Type} {f : Unit → Sem β} {Q : β → Heap → Prop} (H : putsO base off vs h fun h' => hwp P (f ()) Q h') :
    hwp P ((match base with | some a => storeCells (a.add off) vs | none => Sem.pure ()).bind f) Q h := by
  cases base with
  | none => exact H
  | some a => exact hwp_puts vs 0 h H

theorem putsAt_mono {a : Addr} : ∀ (vs : List Value) (i : Nat) (h : Heap) {K1 K2 : Heap → Prop}, putsAt a vs i h K1 → (∀ h', K1 h' → K2 h') → putsAt a vs i h K2
  | [], _, _, _, _, hh, hk => hk _ hh
  | _ :: r, i, _, _, _, ⟨a1, a2, a3⟩, hk => ⟨a1, a2, putsAt_mono r (i + 1) _ a3 hk⟩
theorem putsO_mono {b : Option Addr} {off : Nat} {vs : List Value} {h : Heap} {K1 K2 : Heap → Prop} (hh : putsO b off vs h K1) (hk : ∀ h', K1 h' → K2 h') : putsO b off vs h K2 := by
  cases b with
  | none => exact hk _ hh
  | some a => exact putsAt_mono _ _ _ hh hk

theorem H_app {t u el : TypeId} {n bytes : Nat} {zero : List Value} {x y : Operand} {K' : Value → Heap → Prop} (hT : TyZ P t el n bytes zero) (hU : ∃ du, P.underlying u = some du ∧ ∀ k, du ≠ .int k)
    (H : app el n bytes zero (ev e x) (ev e y) h K') (hk : ∀ v h', K' v h' → K v h') : opH P e ⟨d, .call ⟨.builtin .append, #[x, y], #[t, u]⟩, ty, ps, af, g⟩ h K := by
  obtain ⟨base, sLen, sCap, m, hs, hx, hroom, hgrow⟩ := H
  obtain ⟨hu, i, z, hi, hsz, hb, hz, hzc⟩ := hT
  obtain ⟨du, hdu, hni⟩ := hU
  have hx0 : execOp (ev e) ⟨d, .call ⟨.builtin .append, #[x, y], #[t, u]⟩, ty, ps, af, g⟩ = (Builtin.append_ #[t, u] ty #[ev e x, ev e y]).bind fun v => Sem.pure (Next.value v) := by
    simp only [execOp, resolve, invoke, builtin, bind, Sem.bind, pure, List.map_toArray, List.map_cons, List.map_nil]
  unfold opH
  rw [hx0]
  unfold Builtin.append_
  simp only [bind, sem_assoc, List.getElem?_toArray, List.getElem?_cons_zero, List.getElem?_cons_succ]
  rw [hwp_und hu, hs]
  simp only [sem_assoc]
  rw [hwp_size hi, hsz, hwp_und hdu]
  have hz0 : (match du with | .int _ => true | _ => false) = false := by cases du <;> first | rfl | exact absurd rfl (hni _)
  simp only [hz0, pure, Sem.bind, Bool.false_eq_true, if_false, sem_assoc]
  rw [lenOf_len hx]
  simp only [Sem.bind, Bool.not_false, if_true]
  by_cases hle : sLen + m ≤ sCap
  · rw [if_pos hle]
    obtain ⟨new, hnew, hp⟩ := hroom hle
    simp only [sem_assoc]
    refine hwp_first hnew ?_
    cases base with
    | none => exact hk _ _ hp
    | some a =>
      simp only [sem_assoc, List.toList_toArray]
      exact hwp_puts new 0 h (putsAt_mono _ _ _ hp fun h' hh => hk _ _ hh)
  · rw [if_neg hle]
    obtain ⟨h1, h2, old, new, hold, hnew, hc⟩ := hgrow (by omega)
    rw [sem_assoc, hwp_info hi, if_neg (by rw [hb]; simp only [false_or, not_and, Bool.false_eq_true]; intro h3 h4; have := h1 h4; rw [i64max] at h3; omega)]
    simp only [sem_assoc]
    rw [hwp_info hi, if_neg (by rw [hb]; omega)]
    simp only [sem_assoc, choose, Sem.bind, hwp, Question.forced, Bool.false_eq_true, if_false]
    intro c
    rw [hwp_info hi]
    have hcap : sLen + m ≤ (Question.appendCap (sLen + m) sCap el).cut c := by simp only [Question.cut]; omega
    generalize (Question.appendCap (sLen + m) sCap el).cut c = cap at hcap ⊢
    have rest : hwp P ((Builtin.firstCells n sLen (Value.slice base sLen sCap)).bind fun old => (Builtin.firstCells n m (ev e y)).bind fun new => (zeroValue el).bind fun z =>
        (newRow el (old ++ new ++ Builtin.zeroCells z.cells (cap - (sLen + m)))).bind fun a => Sem.pure (Next.value (Value.slice (some a) (sLen + m) cap))) (nextH P K) h := by
      rw [hs] at hold
      refine hwp_first hold (hwp_first hnew ?_)
      rw [hwp_zero hi hz, hzc]
      simp only [newRow, newObj, bind, Sem.bind, pure, hwp, nextH]
      have hcat : old.toArray ++ new.toArray ++ Builtin.zeroCells zero.toArray (cap - (sLen + m)) = (old ++ new ++ zeros zero (cap - (sLen + m))).toArray := by
        simp [zeros]
      rw [hcat]
      exact hk _ _ (hc cap hcap)
    unfold askRoom
    split
    · exact rest
    · exact rest

theorem H_appZ {t u el : TypeId} {n bytes : Nat} {zero : List Value} {x y : Operand} {K' : Value → Heap → Prop} {ku : IntKind} (hT : TyZ P t el n bytes zero) (hU : P.underlying u = some (.int ku))
    (H : appZ el n bytes zero (ev e x) (ev e y) h K') (hk : ∀ v h', K' v h' → K v h') : opH P e ⟨d, .call ⟨.builtin .append, #[x, y], #[t, u]⟩, ty, ps, af, g⟩ h K := by
  obtain ⟨base, sLen, sCap, m, hs, hx, hm, hmb, hroom, hgrow⟩ := H
  obtain ⟨hu, i, z, hi, hsz, hb, hz, hzc⟩ := hT
  have hx0 : execOp (ev e) ⟨d, .call ⟨.builtin .append, #[x, y], #[t, u]⟩, ty, ps, af, g⟩ = (Builtin.append_ #[t, u] ty #[ev e x, ev e y]).bind fun v => Sem.pure (Next.value v) := by
    simp only [execOp, resolve, invoke, builtin, bind, Sem.bind, pure, List.map_toArray, List.map_cons, List.map_nil]
  unfold opH
  rw [hx0]
  unfold Builtin.append_
  simp only [bind, sem_assoc, List.getElem?_toArray, List.getElem?_cons_zero, List.getElem?_cons_succ]
  rw [hwp_und hu, hs]
  simp only [sem_assoc]
  rw [hwp_size hi, hsz, hwp_und hU]
  simp only [bind, pure, Sem.bind, if_true, sem_assoc, hx, asInt, asIntOf]
  rw [IntWalk.i64_in (m : Int) ⟨by omega, hm⟩]
  have hneg : ¬ ((m : Int) < 0) := by omega
  simp only [hneg, if_false, sem_assoc]
  rw [hwp_info hi]
  have hb2 : ¬ ((m : Int) * (i.bytes : Int) > 2 ^ 48) := by
    rw [hb]
    have : ((m * bytes : Nat) : Int) ≤ 281474976710656 := Int.ofNat_le.2 hmb
    rw [Int.natCast_mul] at this
    omega
  simp only [hb2, if_false, sem_assoc, Sem.bind, Int.toNat_natCast, Bool.not_true, Bool.false_eq_true]
  have app : ∀ {β : Type} (f : Array Value → Sem β) (Q : β → Heap → Prop), hwp P (f (if m * n = 0 then [] else zeros zero m).toArray) Q h →
      hwp P ((if m * n = 0 then Sem.pure #[] else (zeroValue el).bind fun z => Sem.pure (Builtin.zeroCells z.cells m)).bind f) Q h := by
    intro β f Q hh
    by_cases h0 : m * n = 0
    · simp only [h0, if_true] at hh ⊢; exact hh
    · simp only [h0, if_false] at hh ⊢
      rw [sem_assoc, hwp_zero hi hz, hzc]
      simp only [Sem.bind]
      have : Builtin.zeroCells zero.toArray m = (zeros zero m).toArray := by simp [zeros]
      rw [this]; exact hh
  by_cases hle : sLen + m ≤ sCap
  · rw [if_pos hle]
    have hp := hroom hle
    rw [sem_assoc]
    refine app _ _ ?_
    cases base with
    | none => exact hk _ _ hp
    | some a =>
      simp only [sem_assoc, List.toList_toArray]
      exact hwp_puts _ 0 h (putsAt_mono _ _ _ hp fun h' hh => hk _ _ hh)
  · rw [if_neg hle]
    obtain ⟨h1, h2, old, hold, hc⟩ := hgrow (by omega)
    rw [sem_assoc, hwp_info hi, if_neg (by intro h3; have := h3.1; rw [i64max] at this; omega)]
    simp only [sem_assoc]
    rw [hwp_info hi, if_neg (by rw [hb]; omega)]
    simp only [sem_assoc, choose, Sem.bind, hwp, Question.forced, Bool.false_eq_true, if_false]
    intro c
    rw [hwp_info hi]
    have hcap : sLen + m ≤ (Question.appendCap (sLen + m) sCap el).cut c := by simp only [Question.cut]; omega
    generalize (Question.appendCap (sLen + m) sCap el).cut c = cap at hcap ⊢
    have rest : hwp P ((Builtin.firstCells n sLen (Value.slice base sLen sCap)).bind fun old => (if m * n = 0 then Sem.pure #[] else (zeroValue el).bind fun z => Sem.pure (Builtin.zeroCells z.cells m)).bind fun new => (zeroValue el).bind fun z =>
        (newRow el (old ++ new ++ Builtin.zeroCells z.cells (cap - (sLen + m)))).bind fun a => Sem.pure (Next.value (Value.slice (some a) (sLen + m) cap))) (nextH P K) h := by
      rw [hs] at hold
      refine hwp_first hold (app _ _ ?_)
      rw [hwp_zero hi hz, hzc]
      simp only [newRow, newObj, bind, Sem.bind, pure, hwp, nextH]
      have hcat : old.toArray ++ (if m * n = 0 then [] else zeros zero m).toArray ++ Builtin.zeroCells zero.toArray (cap - (sLen + m)) = (old ++ (if m * n = 0 then [] else zeros zero m) ++ zeros zero (cap - (sLen + m))).toArray := by
        simp [zeros]
      rw [hcat]
      exact hk _ _ (hc cap hcap)
    unfold askRoom
    split
    · exact rest
    · exact rest

theorem H_cpy {t u el : TypeId} {n : Nat} {x y : Operand} {K' : Value → Heap → Prop} (hT : TyE P t el n) (H : cpy n (ev e x) (ev e y) h K') (hk : ∀ v h', K' v h' → K v h') :
    opH P e ⟨d, .call ⟨.builtin .copy, #[x, y], #[t, u]⟩, ty, ps, af, g⟩ h K := by
  obtain ⟨base, dl, dc, m, cs, hd, hx, hrd, hp⟩ := H
  obtain ⟨hu, i, hi, hsz⟩ := hT
  have hx0 : execOp (ev e) ⟨d, .call ⟨.builtin .copy, #[x, y], #[t, u]⟩, ty, ps, af, g⟩ = (Builtin.copy_ #[t, u] ty #[ev e x, ev e y]).bind fun v => Sem.pure (Next.value v) := by
    simp only [execOp, resolve, invoke, builtin, bind, Sem.bind, pure, List.map_toArray, List.map_cons, List.map_nil]
  unfold opH
  rw [hx0]
  unfold Builtin.copy_
  simp only [bind, sem_assoc, List.getElem?_toArray, List.getElem?_cons_zero, List.getElem?_cons_succ]
  rw [hwp_und hu, hd]
  simp only [sem_assoc]
  rw [lenOf_len hx]
  simp only [Sem.bind, sem_assoc]
  rw [hwp_size hi, hsz]
  refine hwp_first hrd ?_
  cases base with
  | none => exact hk _ _ hp
  | some a =>
    simp only [sem_assoc, List.toList_toArray]
    refine hwp_puts cs 0 h (putsAt_mono _ _ _ (K1 := K' (.int .i64 (Nat.min m dl : Nat))) ?_ fun h' hh => hk _ _ hh)
    simpa [putsO, Addr.add] using hp

theorem H_mks {t el : TypeId} {n bytes : Nat} {zero : List Value} {x y : Operand} {K' : Value → Heap → Prop} (hT : TyZ P t el n bytes zero) (hzn : zero.length = n) (H : mks el n bytes zero (ev e x) (ev e y) h K') (hk : ∀ v h', K' v h' → K v h') :
    opH P e ⟨d, .makeSlice t x y, ty, ps, af, g⟩ h K := by
  obtain ⟨l, c, hl, hc, hle, hmax, hbig, hK⟩ := H
  obtain ⟨hu, i, z, hi, hs, hb, hz, hzc⟩ := hT
  have hx0 : execOp (ev e) ⟨d, .makeSlice t x y, ty, ps, af, g⟩ = (Instr.makeSlice t (ev e x) (ev e y)).bind fun v => Sem.pure (Next.value v) := rfl
  unfold opH
  rw [hx0]
  unfold Instr.makeSlice
  simp only [bind, sem_assoc, hl, hc, asInt, asIntOf, pure, Sem.bind]
  rw [hwp_und hu]
  simp only [sem_assoc]
  rw [hwp_info hi]
  have hw : ∀ k : Nat, (k : Int) ≤ 9223372036854775807 → IntKind.i64.wrap (k : Int) = (k : Int) := fun k hk => IntWalk.i64_in _ ⟨by omega, hk⟩
  rw [hw c hmax, hw l (by omega)]
  have hb2 : ¬ ((i.bytes : Int) * (c : Int) > 2 ^ 48) := by
    rw [hb]
    have : ((bytes * c : Nat) : Int) ≤ 281474976710656 := Int.ofNat_le.2 hbig
    rw [Int.natCast_mul] at this
    omega
  have hnn : ¬ ((c : Int) < 0) := by omega
  have hnl : ¬ ((l : Int) < 0) := by omega
  have hlc : ¬ ((l : Int) > (c : Int)) := by omega
  simp only [hnn, hnl, hlc, hb2, decide_false, Bool.or_false, Bool.false_eq_true, if_false]
  simp only [sem_assoc]
  have rest : hwp P ((sizeOf el).bind fun sz => (if (c : Int).toNat * sz = 0 then
      (newRow el ((Array.range ((c : Int).toNat * sz)).map (fun x => (#[] : Array Value)[x % (#[] : Array Value).size]!))).bind fun a => Sem.pure (Value.slice (some a) (l : Int).toNat (c : Int).toNat)
      else (zeroValue el).bind fun z => (newRow el ((Array.range ((c : Int).toNat * sz)).map (fun x => z.cells[x % z.cells.size]!))).bind fun a => Sem.pure (Value.slice (some a) (l : Int).toNat (c : Int).toNat)).bind fun v => Sem.pure (Next.value v)) (nextH P K) h := by
    rw [hwp_size hi, hs]
    simp only [Int.toNat_natCast]
    by_cases h0 : c * n = 0
    · rw [if_pos h0]
      have he : (Array.range (c * n)).map (fun x => (#[] : Array Value)[x % (#[] : Array Value).size]!) = (zeros zero c).toArray := by
        rw [h0]
        simp [zeros, Builtin.zeroCells, hzn, h0]
      rw [he]
      simp only [newRow, newObj, bind, Sem.bind, pure, hwp, nextH]
      exact hk _ _ hK
    · rw [if_neg h0, sem_assoc, hwp_zero hi hz, hzc]
      have he : (Array.range (c * n)).map (fun x => zero.toArray[x % zero.toArray.size]!) = (zeros zero c).toArray := by
        apply Array.ext'
        simp [zeros, Builtin.zeroCells, hzn]
      rw [he]
      simp only [newRow, newObj, bind, Sem.bind, pure, hwp, nextH]
      exact hk _ _ hK
  unfold askRoom
  split
  · exact rest
  · exact rest
/-- A call of a named Go function. -/
theorem nbT {v : Value} (h : v = .bool false) : ¬ v = .bool true := by rw [h]; intro hh; cases hh
theorem nbF {v : Value} (h : v = .bool true) : ¬ v = .bool false := by rw [h]; intro hh; cases hh
theorem nbU {b : Bool} : ¬ undef = .bool b := by intro hh; cases hh
theorem still_1 {p v : Value} {a : Addr} {h' : Heap} (hs : still1 p v h') (hp : p = .pointer (some a)) : True ∧ cell h' a = some v := by
  obtain ⟨b, hb, hc⟩ := hs
  rw [hp] at hb
  cases hb
  exact ⟨trivial, hc⟩
theorem still_N {n : Nat} {p v : Value} {a : Addr} {xs : List Value} {h' : Heap} (hs : stillN n p v h') (hp : p = .pointer (some a)) (hv : v = .agg xs.toArray) : rd h' a n = some xs := by
  obtain ⟨b, ys, hb, hw, hc⟩ := hs
  rw [hp] at hb
  cases hb
  rw [hv] at hw
  have : xs = ys := by simpa using hw
  rw [this]; exact hc
theorem ro_byteOf {b o n : Nat} {u : TypeId} (hs : shp h b = some (u, n)) (hz : (P.cellsOf u == 0) = true ∨ ∃ bb, byteOfCell P P.depth u (o % P.cellsOf u) = some bb) :
    ∃ bb : Nat, ∀ {β : Type} (f : Nat → Sem β) (K : β → (Heap → Prop) → Prop) (S : Heap → Prop), (∀ S', ro P h (f bb) K S') → ro P h ((byteOf ⟨b, o, none⟩).bind f) K S := by
  by_cases h0 : P.cellsOf u = 0
  · refine ⟨0, fun f K S hf => ?_⟩
    simp only [byteOf, program, noView, viewAt, shape, bind, Sem.bind, pure, ro, hs, Option.isSome_some, Option.isSome_none, if_true, Bool.false_eq_true, if_false, h0]
    exact hf _
  · rcases hz with hz | ⟨bb, hz⟩
    · simp [h0] at hz
    · refine ⟨o / P.cellsOf u * P.bytesOf u + bb, fun f K S hf => ?_⟩
      simp only [byteOf, program, noView, viewAt, shape, bind, Sem.bind, pure, ro, hs, Option.isSome_some, Option.isSome_none, if_true, Bool.false_eq_true, if_false, h0, hz]
      exact hf _
theorem R_fldZ {K : Value → (Heap → Prop) → Prop} {K' : Value → Prop} {t : TypeId} {i off : Nat} {x : Operand} (hT : ∃ fs f j, P.underlying t = some (.struct fs) ∧ fs[i]? = some f ∧ f.offset = off ∧ f.byteOffset = 0 ∧ off = 0 ∧ P.info? f.type = some j ∧ j.size = 0) (H : fldZ P off (ev e x) h K')
    (hk : ∀ v, K' v → ∀ S : Heap → Prop, K v S) : opR P e ⟨d, .fieldAddr t x i, ty, ps, af, g⟩ h K := by
  obtain ⟨b, o, u, n, ha, hs, hz, hK⟩ := H
  obtain ⟨fs, f, j, hu, hf, h1, h2, h3, hj, h0⟩ := hT
  subst h3
  have := hk _ hK
  have hzz : (P.cellsOf u == 0) = true ∨ ∃ bb, byteOfCell P P.depth u (o % P.cellsOf u) = some bb := by
    simp only [zokB, Bool.or_eq_true, Option.isSome_iff_exists] at hz; exact hz
  obtain ⟨bb, hbb⟩ := ro_byteOf hs hzz
  show ro P h ((Instr.fieldAt t (ev e x) i).bind fun v => Sem.pure (Next.value v)) _ _
  unfold Instr.fieldAt
  simp only [bind, sem_assoc]
  rw [ro_und hu]
  simp only [hf, ha, Instr.sureAddr, pure, Sem.bind, sem_assoc]
  unfold fieldPlace
  simp only [bind, sem_assoc]
  rw [ro_size hj, h0]
  simp only [if_true]
  unfold partAt
  simp only [bind, sem_assoc]
  refine hbb _ _ _ fun S1 => ?_
  rw [h1, h2]
  simp only [Nat.add_zero, sem_assoc]
  refine hbb _ _ _ fun S2 => ?_
  simp only [if_true, pure, Sem.bind, ro]
  exact this S2
theorem H_call {f : FuncId} {l : List Operand} {ts : Array TypeId} {K' : Value → Heap → Prop} (hb : hasBody P f)
    (H : CallsH P f (l.map (ev e)).toArray h K') (hk : ∀ v h', K' v h' → K v h') : opH P e ⟨d, .call ⟨.value (.func f), l.toArray, ts⟩, ty, ps, af, g⟩ h K := by
  obtain ⟨fn, hf, hb, hnm⟩ := hb
  have hx0 : execOp (ev e) ⟨d, .call ⟨.value (.func f), l.toArray, ts⟩, ty, ps, af, g⟩ = callFunc f (l.map (ev e)).toArray := by
    simp [execOp, resolve, ev, Deferred.ofValue, invoke, bind, Sem.bind, pure]
  unfold opH
  rw [hx0]
  unfold callFunc
  simp only [bind, Sem.bind, program, hwp, hf, hb, hnm, Bool.false_eq_true, if_false, pure, nextH]
  exact H.mono hk
theorem H_callV {x : Operand} {l : List Operand} {ts : Array TypeId} {K' : Value → Heap → Prop}
    (H : callV P (ev e x) (l.map (ev e)).toArray h K') (hk : ∀ v h', K' v h' → K v h') : opH P e ⟨d, .call ⟨.value x, l.toArray, ts⟩, ty, ps, af, g⟩ h K := by
  obtain ⟨n, first, cap, hx, ⟨fn, hf, hb, hnm⟩, hc⟩ := H
  have hx0 : execOp (ev e) ⟨d, .call ⟨.value x, l.toArray, ts⟩, ty, ps, af, g⟩ = callFunc n (first ++ (l.map (ev e)).toArray ++ cap) := by
    simp [execOp, resolve, hx, Deferred.ofValue, invoke, bind, Sem.bind, pure]
  unfold opH
  rw [hx0]
  unfold callFunc
  simp only [bind, Sem.bind, program, hwp, hf, hb, hnm, Bool.false_eq_true, if_false, pure, nextH]
  exact hc.mono hk
end
end
def isAggB (P : Program) (t : TypeId) : Bool := match P.underlying t with
  | some (.struct _) | some (.array _ _) => true
  | _ => false
def PartV (P : Program) (t : TypeId) (cs : Array Value) (off : Nat) (v : Value) : Prop :=
  ∃ u, P.underlying t = some u ∧ ((isAggB P t = true ∧ ∃ i, P.info? t = some i ∧ v = .agg (cs.extract off (off + i.size))) ∨ (isAggB P t = false ∧ cs[off]? = some v))
def EqF (E : TypeId → Value → Value → Bool → Prop) (P : Program) (xs ys : Array Value) : List Field → Bool → Prop
  | [], r => r = true
  | f :: fs, r => f.name ≠ "_" ∧ ∃ a b r1, PartV P f.type xs f.offset a ∧ PartV P f.type ys f.offset b ∧ E f.type a b r1 ∧ ((r1 = false ∧ r = false) ∨ (r1 = true ∧ EqF E P xs ys fs r))
def EqV (P : Program) : Nat → TypeId → Value → Value → Bool → Prop
  | 0, _, _, _, _ => False
  | d + 1, t, x, y, r => (∃ k k2 a b, P.underlying t = some (.int k2) ∧ x = .int k a ∧ y = .int k b ∧ r = (a == b)) ∨ (∃ a b, P.underlying t = some .bool ∧ x = .bool a ∧ y = .bool b ∧ r = (a == b)) ∨
      (∃ a b, P.underlying t = some .string ∧ x = .string a ∧ y = .string b ∧ r = (a == b)) ∨
      (∃ fs xs ys, P.underlying t = some (.struct fs) ∧ P.stoodInHeld t = false ∧ x = .agg xs ∧ y = .agg ys ∧ EqF (EqV P d) P xs ys fs.toList r)
section
variable {P : Program} {h : Heap}
theorem ro_part {t : TypeId} {cs : Array Value} {off : Nat} {v : Value} (hp : PartV P t cs off v) {β : Type} {f : Value → Sem β} {K : β → (Heap → Prop) → Prop} {S : Heap → Prop} (H : ro P h (f v) K S) : ro P h ((part t cs off).bind f) K S := by
  obtain ⟨u, hu, hp⟩ := hp
  unfold part isAgg
  rcases hp with ⟨ha, i, hi, rfl⟩ | ⟨ha, hc⟩
  · unfold isAggB at ha
    rw [hu] at ha
    simp only [underlying, program, bind, Sem.bind, ro, hu, pure, sizeOf, typeInfo]
    cases u <;> simp_all [Sem.bind, ro]
  · unfold isAggB at ha
    rw [hu] at ha
    simp only [underlying, program, bind, Sem.bind, ro, hu, pure, sizeOf, typeInfo]
    cases u <;> simp_all [Sem.bind, ro]

theorem eqV_ro : ∀ (d : Nat) {t : TypeId} {x y : Value} {r : Bool}, EqV P d t x y r → ∀ {β : Type} {f : Bool → Sem β} {K : β → (Heap → Prop) → Prop} {S : Heap → Prop}, ro P h (f r) K S → ro P h ((Op.equalIn d t x y).bind f) K S
  | 0, _, _, _, _, e, _, _, _, _, _ => e.elim
  | d + 1, t, x, y, r, e, β, f, K, S, H => by
    rw [Op.equalIn]
    rcases e with ⟨k, k2, a, b, hu, rfl, rfl, rfl⟩ | ⟨a, b, hu, rfl, rfl, rfl⟩ | ⟨a, b, hu, rfl, rfl, rfl⟩ | ⟨fs, xs, ys, hu, hs, rfl, rfl, hE⟩
    · simpa [underlying, program, bind, Sem.bind, ro, hu, pure] using H
    · simpa [underlying, program, bind, Sem.bind, ro, hu, pure] using H
    · simpa [underlying, program, bind, Sem.bind, ro, hu, pure] using H
    · simp only [underlying, program, bind, Sem.bind, ro, hu, pure, hs, Bool.false_eq_true, if_false]
      rw [← Array.forIn_toList]
      clear hu
      generalize fs.toList = l at hE
      induction l with
      | nil =>
        have hr : r = true := hE
        subst hr
        simpa [pure, Sem.bind] using H
      | cons g l ih =>
        obtain ⟨hn, a, b, r1, h1, h2, h3, h4⟩ := hE
        simp only [List.forIn_cons, if_pos hn, bind, sem_assoc]
        refine ro_part h1 (ro_part h2 (eqV_ro d h3 ?_))
        rcases h4 with ⟨rfl, rfl⟩ | ⟨rfl, h4⟩
        · simpa [pure, Sem.bind] using H
        · have := ih h4
          simpa [pure, Sem.bind, bind, sem_assoc] using this
end

/-- '==' of structs. -/
def eqR (E : Value → Value → Bool → Prop) (x y : Value) (K : Value → Prop) : Prop := ∃ a b r, x = .agg a ∧ y = .agg b ∧ E x y r ∧ K (.bool r)
def neR (E : Value → Value → Bool → Prop) (x y : Value) (K : Value → Prop) : Prop := ∃ a b r, x = .agg a ∧ y = .agg b ∧ E x y r ∧ K (.bool !r)
section
variable {P : Program} {h : Heap} {e : Env} {K' : Value → Prop} {K : Value → (Heap → Prop) → Prop} {d : Option Nat} {t u ty : TypeId} {x y : Operand} {ps : String} {af : Array Edge} {g : Option (Nat × Bool)}
theorem R_eqA (hG : P.eqGuardType P.depth t = false) (H : eqR (EqV P 10000 t) (ev e x) (ev e y) K') (hk : ∀ v, K' v → K v fun _ => True) : opR P e ⟨d, .binOp .eql t x y u, ty, ps, af, g⟩ h K := by
  obtain ⟨a, b, r, hx, hy, hE, hK⟩ := H
  have := hk _ hK
  show ro P h (((eqGuard .eql t x y (ev e x) (ev e y)).bind fun _ => binOp .eql t (ev e x) (ev e y)).bind fun v => Sem.pure (Next.value v)) _ _
  rw [hx, hy] at hE ⊢
  have hg : ∀ {β : Type} {f : Unit → Sem β} {K : β → (Heap → Prop) → Prop} {S : Heap → Prop}, ro P h (f ()) K S → ro P h ((eqGuard .eql t x y (.agg a) (.agg b)).bind f) K S := fun H => by
    simpa [eqGuard, program, bind, Sem.bind, ro, hG, pure] using H
  rw [sem_assoc]
  refine hg ?_
  show ro P h (((Op.equalIn 10000 t (.agg a) (.agg b)).bind fun b => Sem.pure (Value.bool b)).bind fun v => Sem.pure (Next.value v)) _ _
  rw [sem_assoc]
  exact eqV_ro 10000 hE this
theorem R_neA (hG : P.eqGuardType P.depth t = false) (H : neR (EqV P 10000 t) (ev e x) (ev e y) K') (hk : ∀ v, K' v → K v fun _ => True) : opR P e ⟨d, .binOp .neq t x y u, ty, ps, af, g⟩ h K := by
  obtain ⟨a, b, r, hx, hy, hE, hK⟩ := H
  have := hk _ hK
  show ro P h (((eqGuard .neq t x y (ev e x) (ev e y)).bind fun _ => binOp .neq t (ev e x) (ev e y)).bind fun v => Sem.pure (Next.value v)) _ _
  rw [hx, hy] at hE ⊢
  have hg : ∀ {β : Type} {f : Unit → Sem β} {K : β → (Heap → Prop) → Prop} {S : Heap → Prop}, ro P h (f ()) K S → ro P h ((eqGuard .neq t x y (.agg a) (.agg b)).bind f) K S := fun H => by
    simpa [eqGuard, program, bind, Sem.bind, ro, hG, pure] using H
  rw [sem_assoc]
  refine hg ?_
  show ro P h (((Op.equalIn 10000 t (.agg a) (.agg b)).bind fun b => Sem.pure (Value.bool !b)).bind fun v => Sem.pure (Next.value v)) _ _
  rw [sem_assoc]
  exact eqV_ro 10000 hE this
end
end Go.Hp
