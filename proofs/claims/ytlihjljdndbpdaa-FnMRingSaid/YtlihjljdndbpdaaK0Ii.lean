/-
  The items of a map as values and as cells, their order, a list that is set in order.
  Conditions: none.
-/
import Derived.Test.YtlihjljdndbpdaaHx
namespace Go.Proofs.Ytlihjljdndbpdaa.Ii
open Go.Hp
set_option linter.unusedVariables false
set_option linter.unusedSimpArgs false
abbrev KT := Int
abbrev VT := Int
abbrev It := KT × VT
abbrev enc (p : It) : List Value := [.int .i64 p.2, .int .i64 p.1]
abbrev kv (k : KT) : Value := .int .i64 k
abbrev vv (v : VT) : Value := .int .i64 v
abbrev emp : It := (0, 0)
def lt (a b : It) : Bool := decide (a.1 < b.1)
/-- The cells of a map's head, in parts. -/
abbrev hd0 (iso : Int) (ctr : Option Addr) : List Value := [.int .u64 iso, .pointer ctr]
abbrev hd4 (mn mx : Int) : List Value := enc emp ++ [.int .i64 mn, .int .i64 mx, .bool false, .bool false]
abbrev hdr (iso : Int) (ctr root : Option Addr) (cnt mn mx : Int) : List Value := [.int .u64 iso, .pointer ctr, .pointer root, .int .i64 cnt] ++ hd4 mn mx
theorem encl (p : It) : (enc p).length = 2 := rfl
theorem enc1 (p : It) : ∀ y ∈ enc p, one1 y = true := by simp [one1]
theorem swo : Swo lt where
  irr a := by simp [lt]
  tr a b c h1 h2 := by simp only [lt, decide_eq_true_eq] at *; exact Int.lt_trans h1 h2
  ntr a b c h1 h2 := by simp only [lt, decide_eq_false_iff_not, Int.not_lt] at *; exact Int.le_trans h2 h1

/-- An item as the laws have it. -/
abbrev encA (p : It) : List Value := [kv p.1, vv p.2]
theorem encAl (p : It) : (encA p).length = 2 := rfl
theorem encA1 (p : It) : ∀ y ∈ encA p, one1 y = true := by simp [one1]
abbrev fk (k : KT) : List Value := [kv k]
theorem fkl (k : KT) : (fk k).length = 1 := rfl
theorem snoc_fk (l : List KT) (k : KT) : l.flatMap fk ++ [kv k] = (l ++ [k]).flatMap fk := by rw [List.flatMap_append, List.flatMap_singleton]
/-- The items of a list that is set in order. -/
def setAll (l : List It) : List It := l.foldl (lput lt) []
theorem setAll_asc (l : List It) : Asc lt (setAll l) := by
  unfold setAll
  have : ∀ (l a : List It), Asc lt a → Asc lt (l.foldl (lput lt) a) := fun l => by
    induction l with
    | nil => intro a h; exact h
    | cons x r ih => intro a h; exact ih _ (asc_lput swo h)
  exact this l [] List.Pairwise.nil
theorem setAll_snoc (l : List It) (x : It) : setAll (l ++ [x]) = lput lt (setAll l) x := by unfold setAll; rw [List.foldl_append]; rfl
theorem setAll_len (l : List It) : (setAll l).length ≤ l.length := by
  unfold setAll
  have : ∀ (l a : List It), (l.foldl (lput lt) a).length ≤ a.length + l.length := fun l => by
    induction l with
    | nil => intro a; simp
    | cons x r ih =>
      intro a
      have h1 := ih (lput lt a x)
      have h2 : (lput lt a x).length = _ := lput_length
      simp only [List.foldl_cons, List.length_cons]
      split at h2 <;> omega
  have := this l []; simpa using this
/-- The tree of a list that is set in order. -/
def grown (m : Nat) (l : List It) : MT It := l.foldl (MT.set lt m) none
theorem grown_snoc (m : Nat) (l : List It) (x : It) : grown m (l ++ [x]) = (grown m l).set lt m x := by unfold grown; rw [List.foldl_append]; rfl
end Go.Proofs.Ytlihjljdndbpdaa.Ii
