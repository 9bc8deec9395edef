/- What is told, compared as a struct: its float. No condition but that the float is a number. -/
import Derived.Test.YtndkiphlpddbaaaSpE
import Derived.Laws.StructEq
namespace Go.Proofs.Ytndkiphlpddbaaa
open Go.RowKit Go.Deep Flt

theorem float_eq {P : Program} (d : Nat) (t : TypeId) (a b : Nat) (h : P.underlying t = some (.float .f64)) (w : World) :
    (Op.equalIn (d + 1) t (Value.float FloatKind.f64 a) (Value.float FloatKind.f64 b)).run P w = .ok (FloatKind.f64.format.order a b == some Ordering.eq) w := by
  simp [Op.equalIn, run_underlying h, Op.floatEq]

theorem float_same (t : Nat) (h : (FloatKind.f64.format.order t t == some Ordering.eq) = true) (w : World) :
    (Op.equalIn 9999 28 (Value.float FloatKind.f64 t) (Value.float FloatKind.f64 t)).run Try.prog w = .ok true w := by
  have := float_eq (P := Try.prog) 9998 28 t t Try.underlying28 w
  rw [h] at this
  exact this

end Go.Proofs.Ytndkiphlpddbaaa
