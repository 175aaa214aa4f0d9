/-
  Further operations come to their shallow words: '!=' of truth values.
  Conditions: the types' facts, as premises.
-/
import Derived.Test.YtlihjljdndbpdaaHq
namespace Go.Hp
open Go.RowKit
set_option linter.unusedVariables false
set_option linter.unusedSimpArgs false
def neB (x y : Value) (K : Value → Prop) : Prop := ∃ a b, x = .bool a ∧ y = .bool b ∧ K (.bool (!(a == b)))
theorem r_neB {x y : Bool} {K : Value → Prop} (H : K (.bool (!(x == y)))) : neB (.bool x) (.bool y) K := ⟨x, y, rfl, rfl, H⟩
section
variable {P : Program} {h : Heap} {e : Env} {K : Value → (Heap → Prop) → Prop} {K' : Value → Prop} {d : Option Nat} {ty : TypeId} {ps : String} {af : Array Edge} {g : Option (Nat × Bool)} {x y : Operand} {t u : TypeId}
theorem R_neB (hT : P.underlying t = some .bool) (H : neB (ev e x) (ev e y) K') (hk : ∀ v, K' v → K v fun _ => True) : opR P e ⟨d, .binOp .neq t x y u, ty, ps, af, g⟩ h K := by
  obtain ⟨a, b, hx, hy, hK⟩ := H
  have := hk _ hK
  show ro P h (((eqGuard .neq t x y (ev e x) (ev e y)).bind fun _ => binOp .neq t (ev e x) (ev e y)).bind fun v => Sem.pure (Next.value v)) _ _
  rw [hx, hy]
  show ro P h (((Op.equal t (.bool a) (.bool b)).bind fun b => Sem.pure (Value.bool !b)).bind fun v => Sem.pure (Next.value v)) _ _
  rw [sem_assoc, equal_bind, eqIn_B hT]
  exact this
end
end Go.Hp
