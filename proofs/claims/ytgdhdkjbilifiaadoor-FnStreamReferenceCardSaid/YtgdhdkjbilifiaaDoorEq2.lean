/- More rules for comparing interface values with nil; new cells of arrays. No program. -/
import Derived.Test.YtgdhdkjbilifiaaDoorEq
namespace Go.Sx
open Go
section
variable {P : Program} {w0 : World} {W : Nat → Prop} {H : Hp}
theorem ValK.eqNil {t : TypeId} {x : Operand} {c : Value} {ms : Array (String × TypeId)} {K : Value → Prop} (ht : P.underlying t = some (.interface ms)) (h : K (.bool true)) : ValK P (do eqGuard .eql t x (.const c) .nilIface .nilIface; binOp .eql t .nilIface .nilIface) K :=
  ⟨⟨.bool true, fun w => by simp only [binOp]; simp [eqGuard, run_equal_nil_nil ht], h⟩⟩
theorem ValK.eqIface {t tp : TypeId} {x y : Operand} {v : Value} {ms : Array (String × TypeId)} {K : Value → Prop} (ht : P.underlying t = some (.interface ms)) (h : K (.bool false)) : ValK P (do eqGuard .eql t x y (.iface tp v) .nilIface; binOp .eql t (.iface tp v) .nilIface) K :=
  ⟨⟨.bool false, fun w => by simp only [binOp]; simp [eqGuard, run_equal_iface_nil ht], h⟩⟩
/-- new cells of a type, told as a list -/
theorem NewK.rep {e : TypeId} {K : List Value → Prop} (l : List Value) {i : TypeInfo} {z : Value} (hi : P.info? e = some i) (hz : i.zero = some z) (hl : z.cells.toList = l) (h : K l) : NewK P e K := ⟨i, z, hi, hz, hl ▸ h⟩
end
end Go.Sx
