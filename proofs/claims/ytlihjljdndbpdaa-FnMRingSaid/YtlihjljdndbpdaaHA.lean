/-
  Further operations come to their shallow words: conversions of integers, shifts, bytes to a string, Go's own maps whose keys are strings.
  Conditions: the types' facts, as premises.
-/
import Derived.Test.YtlihjljdndbpdaaHy
import Derived.Test.YtlihjljdndbpdaaHh
namespace Go.Hp
open Go.RowKit
set_option linter.unusedVariables false
set_option linter.unusedSimpArgs false
def cvI (k : IntKind) (x : Value) (K : Value → Prop) : Prop := ∃ j n, x = .int j n ∧ K (.int k (k.wrap n))
theorem r_cvI {k j : IntKind} {n z : Int} {K : Value → Prop} (hz : k.wrap n = z) (H : K (.int k z)) : cvI k (.int j n) K := ⟨j, n, rfl, by rw [hz]; exact H⟩
def shlV (x y : Value) (K : Value → Prop) : Prop := ∃ k a j b, x = .int k a ∧ y = .int j b ∧ 0 ≤ b ∧ K (.int k (k.wrap (a * 2 ^ min b.toNat k.bits)))
def shrV (x y : Value) (K : Value → Prop) : Prop := ∃ k a j b, x = .int k a ∧ y = .int j b ∧ 0 ≤ b ∧ K (.int k (a.fdiv (2 ^ min b.toNat k.bits)))
theorem r_shl {k j : IntKind} {a b z : Int} {K : Value → Prop} (hb : 0 ≤ b) (hz : k.wrap (a * 2 ^ min b.toNat k.bits) = z) (H : K (.int k z)) : shlV (.int k a) (.int j b) K := ⟨k, a, j, b, rfl, rfl, hb, by rw [hz]; exact H⟩
theorem r_shr {k j : IntKind} {a b z : Int} {K : Value → Prop} (hb : 0 ≤ b) (hz : a.fdiv (2 ^ min b.toNat k.bits) = z) (H : K (.int k z)) : shrV (.int k a) (.int j b) K := ⟨k, a, j, b, rfl, rfl, hb, by rw [hz]; exact H⟩
/-- The string of a slice of bytes. -/
def bstr (x : Value) (h : Heap) (K : Value → Heap → Prop) : Prop :=
  ∃ a n c, ∃ bs : List UInt8, x = .slice a n c ∧ (∀ p, a = some p → rd h p n = some (bs.map fun b => .int .u8 b.toNat)) ∧ (a = none → bs = []) ∧ K (.string ⟨bs.toArray⟩) h
/-! ### Go's maps -/
def mkM (h : Heap) (K : Value → Heap → Prop) : Prop := K (.map (some h.size)) (h.push (.map #[] 0))
/-- The entry of a key, and where it stands. -/
def fndM (s : ByteArray) : List MapEntry → Nat → Option (Nat × Value)
  | [], _ => none
  | e :: es, i => match e.key with
    | .string t => if s = t then some (i, e.val) else fndM s es (i + 1)
    | _ => fndM s es (i + 1)
def StrK (es : List MapEntry) : Prop := ∀ e, e ∈ es → ∃ t, e.key = .string t
def updM (m k v : Value) (h : Heap) (KH : Heap → Prop) : Prop :=
  ∃ r es c s, m = .map (some r) ∧ k = .string s ∧ h[r]? = some (.map es c) ∧ StrK es.toList ∧
    (∀ i v', fndM s es.toList 0 = some (i, v') → KH (h.setIfInBounds r (.map (es.modify i fun e => { e with key := .string s, val := v }) c))) ∧
    (fndM s es.toList 0 = none → KH (h.setIfInBounds r (.map (es.push { key := .string s, val := v, born := c }) (c + 1))))
def getM (zero : Value) (ok : Bool) (m k : Value) (h : Heap) (K : Value → Heap → Prop) : Prop :=
  ∃ r es c s, m = .map (some r) ∧ k = .string s ∧ h[r]? = some (.map es c) ∧ StrK es.toList ∧
    (∀ i v', fndM s es.toList 0 = some (i, v') → K (if ok then .tuple #[v', .bool true] else v') h) ∧ (fndM s es.toList 0 = none → K (if ok then .tuple #[zero, .bool false] else zero) h)
def lenM (m : Value) (h : Heap) (K : Value → Heap → Prop) : Prop := ∃ r es c, m = .map (some r) ∧ h[r]? = some (.map es c) ∧ K (.int .i64 es.size) h
theorem ba_beq (a b : ByteArray) : (a == b) = decide (a = b) := by
  cases a with | mk x => cases b with | mk y =>
  have : ((⟨x⟩ : ByteArray) == ⟨y⟩) = (x == y) := rfl
  rw [this]
  by_cases h : x = y
  · subst h; simp
  · have : ¬ ((⟨x⟩ : ByteArray) = ⟨y⟩) := fun e => h (by injection e)
    simp [h, this]
theorem findNow_fnd {s : ByteArray} : ∀ {es : List MapEntry} {i : Nat}, StrK es → Instr.findNow .string (.string s) es i = some (fndM s es i)
  | [], _, _ => rfl
  | e :: es, i, hk => by
    obtain ⟨t, ht⟩ := hk e (List.mem_cons_self ..)
    unfold Instr.findNow fndM
    rw [ht]
    simp only [Instr.sameNow, ba_beq]
    by_cases hst : s = t
    · subst hst; simp
    · simp only [hst, decide_false, if_false]
      exact findNow_fnd fun e he => hk e (List.mem_cons_of_mem _ he)
theorem fnd_at {s : ByteArray} : ∀ {es : List MapEntry} {i j : Nat} {v : Value}, fndM s es i = some (j, v) → i ≤ j ∧ ∃ e, es[j - i]? = some e ∧ e.key = .string s ∧ e.val = v
  | [], _, _, _, h => by cases h
  | e :: es, i, j, v, h => by
    have step : fndM s es (i + 1) = some (j, v) → i ≤ j ∧ ∃ e', (e :: es)[j - i]? = some e' ∧ e'.key = .string s ∧ e'.val = v := fun h => by
      obtain ⟨h1, e', h2, h3, h4⟩ := fnd_at h
      refine ⟨by omega, e', ?_, h3, h4⟩
      rw [show j - i = (j - (i + 1)) + 1 by omega]; simpa using h2
    unfold fndM at h
    split at h
    · rename_i t hk
      split at h
      · rename_i hst
        cases h
        exact ⟨Nat.le_refl _, e, by simp, by rw [hk, hst], rfl⟩
      · exact step h
    · exact step h
section
variable {P : Program} {h : Heap} {e : Env} {K : Value → (Heap → Prop) → Prop} {K' : Value → Prop} {d : Option Nat} {ty : TypeId} {ps : String} {af : Array Edge} {g : Option (Nat × Bool)} {x y : Operand} {t u : TypeId}
theorem R_cvI {ds : TypeDesc} {k : IntKind} (hs : P.underlying u = some ds) (ht : P.underlying t = some (.int k)) (H : cvI k (ev e x) K') (hk : ∀ v, K' v → K v fun _ => True) : opR P e ⟨d, .convert u t x, ty, ps, af, g⟩ h K := by
  obtain ⟨j, n, hx, hK⟩ := H
  have := hk _ hK
  show ro P h ((convert u t (ev e x)).bind fun v => Sem.pure (Next.value v)) _ _
  unfold convert
  simp only [bind, sem_assoc]
  rw [ro_und hs, ro_und ht, hx]
  exact this
theorem R_shl (H : shlV (ev e x) (ev e y) K') (hk : ∀ v, K' v → K v fun _ => True) : opR P e ⟨d, .binOp .shl t x y u, ty, ps, af, g⟩ h K := by
  obtain ⟨k, a, j, b, hx, hy, hb, hK⟩ := H
  have := hk _ hK
  show ro P h (((eqGuard .shl t x y (ev e x) (ev e y)).bind fun _ => binOp .shl t (ev e x) (ev e y)).bind fun v => Sem.pure (Next.value v)) _ _
  rw [hx, hy]
  show ro P h ((Op.shift .shl k a j b).bind fun v => Sem.pure (Next.value v)) _ _
  unfold Op.shift
  rw [if_neg (by omega)]
  exact this
theorem R_shr (H : shrV (ev e x) (ev e y) K') (hk : ∀ v, K' v → K v fun _ => True) : opR P e ⟨d, .binOp .shr t x y u, ty, ps, af, g⟩ h K := by
  obtain ⟨k, a, j, b, hx, hy, hb, hK⟩ := H
  have := hk _ hK
  show ro P h (((eqGuard .shr t x y (ev e x) (ev e y)).bind fun _ => binOp .shr t (ev e x) (ev e y)).bind fun v => Sem.pure (Next.value v)) _ _
  rw [hx, hy]
  show ro P h ((Op.shift .shr k a j b).bind fun v => Sem.pure (Next.value v)) _ _
  unfold Op.shift
  rw [if_neg (by omega)]
  exact this
end
section
variable {P : Program} {h : Heap} {e : Env} {K : Value → Heap → Prop} {d : Option Nat} {ty : TypeId} {ps : String} {af : Array Edge} {g : Option (Nat × Bool)} {x y z : Operand} {t u : TypeId} {K' : Value → Heap → Prop}
theorem H_mkM (H : mkM h K') (hk : ∀ v h', K' v h' → K v h') : opH P e ⟨d, .makeMap t none, ty, ps, af, g⟩ h K := hk _ _ H
theorem hwp_load {α : Type} {a : Addr} {v : Value} {f : Value → Sem α} {Q : α → Heap → Prop} (hc : cell h a = some v) (H : hwp P (f v) Q h) : hwp P ((load a).bind f) Q h := ⟨v, hc, H⟩
theorem hwp_loads {α : Type} {a : Addr} {Q : α → Heap → Prop} {f : Array Value → Sem α} : ∀ (xs : List Value) (i : Nat) (acc : Array Value), (∀ j, j < xs.length → cell h (a.add (i + j)) = xs[j]?) → hwp P (f (acc ++ xs.toArray)) Q h →
    hwp P ((loadCellsFrom a i xs.length acc).bind f) Q h
  | [], i, acc, _, H => by simpa [loadCellsFrom, pure, Sem.bind] using H
  | v :: r, i, acc, hc, H => by
    simp only [List.length_cons, loadCellsFrom, bind, sem_assoc]
    refine hwp_load (v := v) (by have := hc 0 (by simp); simpa using this) ?_
    refine hwp_loads r (i + 1) (acc.push v) (fun j hj => ?_) (by simpa using H)
    have := hc (j + 1) (by simpa using hj)
    rw [show i + (j + 1) = i + 1 + j by omega] at this
    simpa using this
theorem bytes_loop {β : Type} (f : ByteArray → Sem β) (Q : β → Heap → Prop) (F : Value → ByteArray → Sem (ForInStep ByteArray)) (hF : ∀ (b : UInt8) s, F (.int .u8 b.toNat) s = Sem.pure (.yield (s.push b))) : ∀ (bs : List UInt8) (s : ByteArray), hwp P (f (s ++ ⟨bs.toArray⟩)) Q h → hwp P ((forIn (bs.map fun b => Value.int .u8 (b.toNat : Int)) s F).bind f) Q h
  | [], s, H => by
    simp only [List.map_nil, List.forIn_nil, pure, Sem.bind]
    have : s ++ (⟨#[]⟩ : ByteArray) = s := by apply ByteArray.ext; simp [ByteArray.data_append]
    rw [this] at H; exact H
  | b :: r, s, H => by
    simp only [List.map_cons, List.forIn_cons, hF, bind, Sem.bind]
    refine bytes_loop f Q F hF r (s.push b) ?_
    have : s.push b ++ (⟨r.toArray⟩ : ByteArray) = s ++ ⟨(b :: r).toArray⟩ := by apply ByteArray.ext; simp [ByteArray.data_append, ByteArray.data_push]
    rw [this]; exact H
theorem H_bstr {el : TypeId} (hs : P.underlying u = some (.slice el)) (ht : P.underlying t = some .string) (he : P.underlying el = some (.int .u8)) (H : bstr (ev e x) h K') (hk : ∀ v h', K' v h' → K v h') : opH P e ⟨d, .convert u t x, ty, ps, af, g⟩ h K := by
  obtain ⟨a, n, c, bs, hx, hr, ha, hK⟩ := H
  have hK := hk _ _ hK
  show hwp P ((convert u t (ev e x)).bind fun v => Sem.pure (Next.value v)) _ _
  unfold convert
  simp only [bind, sem_assoc]
  rw [hwp_und hs, hwp_und ht, hx]
  simp only [sem_assoc]
  rw [hwp_und he]
  cases a with
  | none => rw [ha rfl] at hK; exact hK
  | some p =>
    have hrd := hr p rfl
    rw [rd_some] at hrd
    simp only [Conv.bytesToString, bind, sem_assoc, loadCells]
    have hn : n = (bs.map fun b => Value.int .u8 (b.toNat : Int)).length := hrd.1.symm
    rw [hn]
    refine hwp_loads _ 0 #[] (fun j hj => ?_) ?_
    · rw [Nat.zero_add]; exact hrd.2 j (by omega)
    · simp only [Array.empty_append, List.forIn_toArray, pure, Sem.bind]
      refine bytes_loop _ _ _ (fun b s => ?_) bs _ ?_
      · simp [pure, Sem.bind]
      · have : ByteArray.empty ++ (⟨bs.toArray⟩ : ByteArray) = ⟨bs.toArray⟩ := by apply ByteArray.ext; simp [ByteArray.data_append]
        rw [this]; exact hK
theorem chkS {α : Type} {b : Bool} {n : Nat} {s : ByteArray} {f : Unit → Sem α} {Q : α → Heap → Prop} (hks : P.underlying t = some .string) (H : hwp P (f ()) Q h) : hwp P ((Instr.checkKey b (n + 1) t (.string s)).bind f) Q h := by
  unfold Instr.checkKey
  simp only [bind, sem_assoc]
  rw [hwp_und hks]
  exact H
theorem H_updM {kt et : TypeId} {K' : Heap → Prop} (hm : P.underlying t = some (.map kt et)) (hks : P.underlying kt = some .string) (H : updM (ev e x) (ev e y) (ev e z) h K') (hk : ∀ h', K' h' → K undef h') : opH P e ⟨d, .mapUpdate t x y z, ty, ps, af, g⟩ h K := by
  obtain ⟨r, es, c, s, hx, hy, hg, hS, h1, h2⟩ := H
  show hwp P ((Instr.mapUpdate t (ev e x) (ev e y) (ev e z)).bind fun _ => Sem.pure Next.skip) _ _
  unfold Instr.mapUpdate
  simp only [bind, sem_assoc]
  rw [hwp_und hm, hx, hy]
  simp only [sem_assoc, getObj]
  refine ⟨_, hg, (fun _ _ _ e => by cases e), ?_⟩
  simp only [Sem.bind, bind, sem_assoc]
  refine chkS (n := 9999) hks ?_
  simp only [pure, Sem.bind, sem_assoc, Instr.findKey, bind]
  rw [hwp_und hks, findNow_fnd hS]
  simp only [pure, Sem.bind]
  cases hf : fndM s es.toList 0 with
  | none => exact ⟨_, hg, (fun _ _ _ e => by cases e), hk _ (h2 hf)⟩
  | some q =>
    obtain ⟨i, v'⟩ := q
    obtain ⟨_, en, he, hek, _⟩ := fnd_at hf
    rw [Nat.sub_zero, Array.getElem?_toList] at he
    simp only [he, Option.map_some, Option.getD_some, hek, Instr.keyThatStays, Instr.sameBits, ba_beq, decide_true, eq_self, if_true, pure, Sem.bind]
    exact ⟨_, hg, (fun _ _ _ e => by cases e), hk _ (h1 i v' hf)⟩
theorem H_getM {kt et : TypeId} {zero : Value} {ok : Bool} {i : TypeInfo} (hm : P.underlying t = some (.map kt et)) (hks : P.underlying kt = some .string) (hi : P.info? et = some i) (hz : i.zero = some zero) (H : getM zero ok (ev e x) (ev e y) h K') (hk : ∀ v h', K' v h' → K v h') : opH P e ⟨d, .lookup t x y ok, ty, ps, af, g⟩ h K := by
  obtain ⟨r, es, c, s, hx, hy, hg, hS, h1, h2⟩ := H
  show hwp P ((Instr.lookup t (ev e x) (ev e y) ok).bind fun v => Sem.pure (Next.value v)) _ _
  unfold Instr.lookup
  simp only [bind, sem_assoc]
  rw [hwp_und hm, hx, hy]
  simp only [sem_assoc, getObj]
  refine ⟨_, hg, (fun _ _ _ e => by cases e), ?_⟩
  simp only [Sem.bind, bind, pure, sem_assoc]
  refine chkS (n := 9999) hks ?_
  simp only [pure, Sem.bind, sem_assoc, Instr.findKey, bind]
  rw [hwp_und hks, findNow_fnd hS]
  simp only [pure, Sem.bind, sem_assoc]
  cases hf : fndM s es.toList 0 with
  | none =>
    simp only [sem_assoc]
    rw [hwp_zero hi hz]
    exact hk _ _ (h2 hf)
  | some q =>
    obtain ⟨i, v'⟩ := q
    exact hk _ _ (h1 i v' hf)
theorem H_lenM {kt et : TypeId} {l : List Operand} (hm : P.underlying t = some (.map kt et)) (H : lenM (ev e x) h K') (hk : ∀ v h', K' v h' → K v h') : opH P e ⟨d, .call ⟨.builtin .len, #[x], #[t]⟩, ty, ps, af, g⟩ h K := by
  obtain ⟨r, es, c, hx, hg, hK⟩ := H
  have hx0 : execOp (ev e) ⟨d, .call ⟨.builtin .len, #[x], #[t]⟩, ty, ps, af, g⟩ = (Builtin.len_ #[t] ty #[ev e x]).bind fun v => Sem.pure (Next.value v) := by
    simp only [execOp, resolve, invoke, builtin, bind, Sem.bind, pure, List.map_toArray, List.map_cons, List.map_nil]
  unfold opH
  rw [hx0]
  unfold Builtin.len_
  simp only [bind, sem_assoc, List.getElem?_toArray, List.getElem?_cons_zero]
  rw [hwp_und hm, hx]
  simp only [sem_assoc, getObj]
  exact ⟨_, hg, (fun _ _ _ e => by cases e), hk _ _ hK⟩
end
end Go.Hp
