/-
  Lists among a law's arguments: slices of structs of two fields, slices of single cells.
  Conditions: none.
-/
import Derived.Test.YtlihjljdndbpdaaHk
import Derived.Deep.Slices
namespace Go.Hp
open Go.RowKit Go.ChangeShapes Go.WideShapes
set_option linter.unusedVariables false
set_option linter.unusedSimpArgs false
section
variable {H : Type} {enc : TypeId × Value → H} {P : Program}
theorem open_two {α β : Type} [Inhabited α] [Inhabited β] {W : World} {t e : TypeId} {f0 f1 : Field} {base : Nat} {v : Value} {d : DataW H} {ps : List MemPlace} (ht : P.underlying t = some (.slice e)) (he : P.underlying e = some (.struct #[f0, f1]))
    (ce : P.cellsOf e = 2) (o0 : f0.offset = 0) (o1 : f1.offset = 1) (c0 : P.cellsOf f0.type = 1) (c1 : P.cellsOf f1.type = 1) (g0 : α → Value) (g1 : β → Value) (p0 : α → Prop) (p1 : β → Prop)
    (k0 : ∀ {b : Nat} {sp : Nat → Bool} {hd : Bool} {n : Nat} {V : Value} {x : DataW H × List MemPlace}, DataW.trod enc P W b sp hd n f0.type [V] = some x → ∃ a, V = g0 a ∧ p0 a)
    (k1 : ∀ {b : Nat} {sp : Nat → Bool} {hd : Bool} {n : Nat} {V : Value} {x : DataW H × List MemPlace}, DataW.trod enc P W b sp hd n f1.type [V] = some x → ∃ a, V = g1 a ∧ p1 a)
    (hval : Value.okWide P W .any base t v) (hd : DataW.Trod enc P W 0 (fun _ => true) true t v d ps) :
    ∃ l : List (α × β), Rdl 2 W.heap v l.length (l.flatMap fun p => [g0 p.1, g1 p.2]) ∧ ∀ p ∈ l, p0 p.1 ∧ p1 p.2 := by
  obtain ⟨a, len, cap, rfl⟩ := okWide_slice ht hval
  obtain ⟨fuel, hf⟩ := hd
  have hcs : (Value.slice a len cap).cells.toList = [.slice a len cap] := rfl
  rw [hcs] at hf
  rcases Go.Deep.open_slice_pairs ht he ce o0 o1 c0 c1 hf with ⟨hc, hx⟩ | ⟨a', len', cap', m, k, V0, V1, D0, D1, P0, P1, hc, _, hl, hm, hmm, hx, hall⟩
  · simp only [List.cons.injEq, and_true] at hc
    rw [hc]
    exact ⟨[], Rdl.nil 2 _, fun p hp => absurd hp List.not_mem_nil⟩
  · simp only [List.cons.injEq, and_true, Value.slice.injEq] at hc
    obtain ⟨rfl, rfl, rfl⟩ := hc
    have hlm : len ≤ m := by rw [hmm]; split <;> omega
    have each : ∀ i, i < len → ∃ q : α × β, V0 i = g0 q.1 ∧ V1 i = g1 q.2 ∧ p0 q.1 ∧ p1 q.2 := fun i hi => by
      obtain ⟨_, _, t0, t1⟩ := hall i (by omega)
      obtain ⟨x, hx, px⟩ := k0 t0
      obtain ⟨y, hy, py⟩ := k1 t1
      exact ⟨(x, y), hx, hy, px, py⟩
    classical
    let q : Nat → α × β := fun i => if h : i < len then Classical.choose (each i h) else default
    have hq : ∀ i (hi : i < len), V0 i = g0 (q i).1 ∧ V1 i = g1 (q i).2 ∧ p0 (q i).1 ∧ p1 (q i).2 := fun i hi => by
      simp only [q, dif_pos hi]; exact Classical.choose_spec (each i hi)
    refine ⟨(List.range len).map q, ⟨_, _, by rw [List.length_map, List.length_range], flat_len (sz := 2) (fun _ => rfl) _, fun hn => ?_, by rw [List.length_map, List.length_range]; exact hl⟩, fun p hp => ?_⟩
    · simp only [List.length_map, List.length_range] at hn
      have h0 := (hall 0 (by omega)).1
      obtain ⟨b, o, sp⟩ := a'
      cases sp with
      | some s =>
        have h1 : W.cell? ⟨b, o, some s⟩ = some (V0 0) := h0
        unfold World.cell? at h1
        split at h1
        · simp only [Option.isSome_some, if_true] at h1; cases h1
        · cases h1
      | none =>
        refine ⟨b, o, rfl, fun j hj => ?_⟩
        rw [flat_len (sz := 2) (fun _ => rfl)] at hj
        simp only [List.length_map, List.length_range] at hj
        have hi : j / 2 < len := by omega
        have hi' : j / 2 < ((List.range len).map q).length := by simpa using hi
        obtain ⟨c0', c1', _, _⟩ := hall (j / 2) (by omega)
        obtain ⟨e0, e1, _, _⟩ := hq (j / 2) hi
        simp only [add_mk] at c0' c1'
        rcases Nat.mod_two_eq_zero_or_one j with hr | hr
        · have hj2 : j = j / 2 * 2 + 0 := by omega
          rw [hj2, flat_get (sz := 2) (fun _ => rfl) _ (j / 2) hi' 0 (by omega)]
          simp only [List.getElem_map, List.getElem_range, List.getElem?_cons_zero, Nat.add_zero]
          rw [← e0]; exact c0'
        · have hj2 : j = j / 2 * 2 + 1 := by omega
          rw [hj2, flat_get (sz := 2) (fun _ => rfl) _ (j / 2) hi' 1 (by omega)]
          simp only [List.getElem_map, List.getElem_range, List.getElem?_cons_succ, List.getElem?_cons_zero]
          rw [← e1]; exact c1'
    · obtain ⟨i, hi, rfl⟩ := List.mem_map.1 hp
      exact (hq i (List.mem_range.1 hi)).2.2

/-- A slice of structs of a string and an integer. -/
theorem open_words {W : World} {t e : TypeId} {f0 f1 : Field} {base : Nat} {v : Value} {d : DataW H} {ps : List MemPlace} (ht : P.underlying t = some (.slice e)) (he : P.underlying e = some (.struct #[f0, f1]))
    (ce : P.cellsOf e = 2) (o0 : f0.offset = 0) (o1 : f1.offset = 1) (c0 : P.cellsOf f0.type = 1) (c1 : P.cellsOf f1.type = 1) (t0 : P.underlying f0.type = some .string) (t1 : P.underlying f1.type = some (.int .i64))
    (hval : Value.okWide P W .any base t v) (hd : DataW.Trod enc P W 0 (fun _ => true) true t v d ps) :
    ∃ l : List (ByteArray × Int), Rdl 2 W.heap v l.length (l.flatMap fun p => [.string p.1, .int .i64 p.2]) ∧ ∀ p ∈ l, p.1.size ≤ maxLen ∧ -9223372036854775808 ≤ p.2 ∧ p.2 ≤ 9223372036854775807 :=
  haveI : Inhabited ByteArray := ⟨⟨#[]⟩⟩
  open_two ht he ce o0 o1 c0 c1 (fun s => .string s) (fun n => .int .i64 n) (fun s => s.size ≤ maxLen) (fun n => -9223372036854775808 ≤ n ∧ n ≤ 9223372036854775807)
    (fun h => by obtain ⟨s, h1, _, h3⟩ := DataW.trod_string t0 h; simp at h1; exact ⟨s, h1, h3⟩)
    (fun h => by obtain ⟨n, h1, _, h3⟩ := DataW.trod_int t1 h; simp at h1; exact ⟨n, h1, bounds_i64 h3⟩) hval hd
theorem open_one {α : Type} [Inhabited α] {W : World} {t e : TypeId} {base : Nat} {v : Value} {d : DataW H} {ps : List MemPlace} (ht : P.underlying t = some (.slice e)) (ce : P.cellsOf e = 1) (g : α → Value) (p : α → Prop)
    (k : ∀ {b : Nat} {sp : Nat → Bool} {hd : Bool} {n : Nat} {V : Value} {x : DataW H × List MemPlace}, DataW.trod enc P W b sp hd n e [V] = some x → ∃ a, V = g a ∧ p a)
    (hval : Value.okWide P W .any base t v) (hd : DataW.Trod enc P W 0 (fun _ => true) true t v d ps) : ∃ l : List α, Rdl 1 W.heap v l.length (l.flatMap fun a => [g a]) ∧ ∀ a ∈ l, p a := by
  obtain ⟨a, len, cap, rfl⟩ := okWide_slice ht hval
  obtain ⟨fuel, hf⟩ := hd
  have hcs : (Value.slice a len cap).cells.toList = [.slice a len cap] := rfl
  rw [hcs] at hf
  rcases Go.Deep.open_slice ht hf with ⟨hc, hx⟩ | ⟨a', len', cap', m, n, D, Pl, hc, _, hl, hm, hmm, hx, hall⟩
  · simp only [List.cons.injEq, and_true] at hc
    rw [hc]
    exact ⟨[], Rdl.nil 1 _, fun p hp => absurd hp List.not_mem_nil⟩
  · simp only [List.cons.injEq, and_true, Value.slice.injEq] at hc
    obtain ⟨rfl, rfl, rfl⟩ := hc
    have hlm : len ≤ m := by rw [hmm]; split <;> omega
    have each : ∀ i, i < len → ∃ q : α, W.cell? (a'.add i) = some (g q) ∧ p q := fun i hi => by
      obtain ⟨cs', h1, h2⟩ := hall i (by omega)
      rw [ce] at h1
      obtain ⟨_, hlen, hcell⟩ := World.cells?_some h1
      match cs', hlen with
      | [V], _ =>
        obtain ⟨x, hx, px⟩ := k h2
        have := hcell 0 (by omega)
        refine ⟨x, ?_, px⟩
        rw [← hx]
        simpa [Nat.mul_one, Addr.add] using this
    classical
    let q : Nat → α := fun i => if h : i < len then Classical.choose (each i h) else default
    have hq : ∀ i (hi : i < len), W.cell? (a'.add i) = some (g (q i)) ∧ p (q i) := fun i hi => by
      simp only [q, dif_pos hi]; exact Classical.choose_spec (each i hi)
    refine ⟨(List.range len).map q, ⟨_, _, by rw [List.length_map, List.length_range], flat_len (sz := 1) (fun _ => rfl) _, fun hn => ?_, by rw [List.length_map, List.length_range]; exact hl⟩, fun p hp => ?_⟩
    · simp only [List.length_map, List.length_range] at hn
      have h0 := (hq 0 (by omega)).1
      obtain ⟨b, o, sp⟩ := a'
      cases sp with
      | some s =>
        have h1 : W.cell? ⟨b, o, some s⟩ = some (g (q 0)) := by simpa [Addr.add] using h0
        unfold World.cell? at h1
        split at h1
        · simp only [Option.isSome_some, if_true] at h1; cases h1
        · cases h1
      | none =>
        refine ⟨b, o, rfl, fun j hj => ?_⟩
        rw [flat_len (sz := 1) (fun _ => rfl)] at hj
        simp only [List.length_map, List.length_range, Nat.mul_one] at hj
        have hi' : j < ((List.range len).map q).length := by simpa using hj
        have h2 := (hq j hj).1
        simp only [add_mk] at h2
        have h3 := flat_get (f := fun a => [g a]) (sz := 1) (fun _ => rfl) ((List.range len).map q) j hi' 0 (by omega)
        rw [Nat.mul_one, Nat.add_zero] at h3
        rw [h3]
        simp only [List.getElem_map, List.getElem_range, List.getElem?_cons_zero]
        exact h2
    · obtain ⟨i, hi, rfl⟩ := List.mem_map.1 hp
      exact (hq i (List.mem_range.1 hi)).2
theorem open_strs {W : World} {t e : TypeId} {base : Nat} {v : Value} {d : DataW H} {ps : List MemPlace} (ht : P.underlying t = some (.slice e)) (ce : P.cellsOf e = 1) (te : P.underlying e = some .string)
    (hval : Value.okWide P W .any base t v) (hd : DataW.Trod enc P W 0 (fun _ => true) true t v d ps) : ∃ l : List ByteArray, Rdl 1 W.heap v l.length (l.flatMap fun s => [.string s]) ∧ ∀ s ∈ l, s.size ≤ maxLen :=
  haveI : Inhabited ByteArray := ⟨⟨#[]⟩⟩
  open_one ht ce (fun s => .string s) (fun s => s.size ≤ maxLen) (fun h => by obtain ⟨s, h1, _, h3⟩ := DataW.trod_string te h; simp at h1; exact ⟨s, h1, h3⟩) hval hd
theorem open_u8s {W : World} {t e : TypeId} {base : Nat} {v : Value} {d : DataW H} {ps : List MemPlace} (ht : P.underlying t = some (.slice e)) (ce : P.cellsOf e = 1) (te : P.underlying e = some (.int .u8))
    (hval : Value.okWide P W .any base t v) (hd : DataW.Trod enc P W 0 (fun _ => true) true t v d ps) : ∃ l : List UInt8, Rdl 1 W.heap v l.length (l.flatMap fun b => [.int .u8 b.toNat]) := by
  obtain ⟨l, h1, _⟩ := open_one (α := UInt8) ht ce (fun b => .int .u8 b.toNat) (fun _ => True) (fun h => by
    obtain ⟨n, h1, _, h3⟩ := DataW.trod_int te h
    simp at h1
    have hb := bounds_u8 h3
    refine ⟨UInt8.ofNat n.toNat, ?_, trivial⟩
    rw [h1]
    have : ((UInt8.ofNat n.toNat).toNat : Int) = n := by rw [UInt8.toNat_ofNat', Nat.mod_eq_of_lt (by omega)]; omega
    rw [this]) hval hd
  exact ⟨l, h1⟩
theorem open_u16s {W : World} {t e : TypeId} {base : Nat} {v : Value} {d : DataW H} {ps : List MemPlace} (ht : P.underlying t = some (.slice e)) (ce : P.cellsOf e = 1) (te : P.underlying e = some (.int .u16))
    (hval : Value.okWide P W .any base t v) (hd : DataW.Trod enc P W 0 (fun _ => true) true t v d ps) : ∃ l : List Int, Rdl 1 W.heap v l.length (l.flatMap fun n => [.int .u16 n]) ∧ ∀ n ∈ l, 0 ≤ n ∧ n ≤ 65535 :=
  open_one (α := Int) ht ce (fun n => .int .u16 n) (fun n => 0 ≤ n ∧ n ≤ 65535) (fun h => by
    obtain ⟨n, h1, _, h3⟩ := DataW.trod_int te h
    simp at h1
    exact ⟨n, h1, bounds_u16 h3⟩) hval hd
theorem open_u8b {r : Reach} {b0 : Nat} {w : World} {base : Nat} {spare : Nat → Bool} {held : Bool} {t : TypeId} {v : Value} {d : DataW H} {ps : List MemPlace} (ht : P.underlying t = some (.int .u8)) (hval : Value.okWide P w r b0 t v) (hd : DataW.Trod enc P w base spare held t v d ps) :
    ∃ n, v = .int .u8 n ∧ d = .lit (.int .u8 n) ∧ ps = [] ∧ 0 ≤ n ∧ n ≤ 255 := by
  obtain ⟨n, e1, e2, e3, e4⟩ := Go.ChangeShapes.open_int ht hval hd
  exact ⟨n, e1, e2, e3, bounds_u8 e4⟩
end
end Go.Hp
