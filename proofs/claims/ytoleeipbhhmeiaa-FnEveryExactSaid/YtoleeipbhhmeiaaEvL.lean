/- The walk of the law FnEvery: for every interval it returns true. No condition. -/
import Derived.Test.YtoleeipbhhmeiaaEvW
import Derived.Test.YtoleeipbhhmeiaaEvP
namespace Go.Proofs.Ytoleeipbhhmeiaa
open Go.RowKit

theorem law_out (a : Int) (w : World) (h : 1125899906842624 < a ∨ a < -1125899906842624) :
    Calls Try.prog 3 #[.int .i64 a] w fun e w' => e = .returned (.bool true) ∧ w = w' := by
  rcases h with h | h
  · go_enter Try.func3, Try.ntmps3
    go_wp2_with fail
    go_ret
    exact ⟨rfl, rfl⟩
  · have h' : ¬ 1125899906842624 < a := by omega
    go_enter Try.func3, Try.ntmps3
    go_wp2_with fail
    go_ret
    exact ⟨rfl, rfl⟩

theorem order_self_max : (Ieee.double.order 9218868437227405311 9218868437227405311 == some .eq) = true := by decide +kernel

theorem law_none (a : Int) (w : World) (h0 : a ≤ 0) (h1 : -1125899906842624 ≤ a) :
    Calls Try.prog 3 #[.int .i64 a] w fun e w' => e = .returned (.bool true) ∧ w = w' := by
  have hc : ∀ w, Calls Try.prog 5 #[.int .i64 a] w fun e w' => e = .returned (.tuple #[.float .f64 9218868437227405311, .bool true]) ∧ w = w' := by
    intro w
    have := every_of a _ w (fun w => xevery_none a w h0)
    rwa [order_self_max] at this
  have Hc := Lib.hid hc
  clear hc
  go_enter Try.func3, Try.ntmps3
  go_wp2_with (first | (go_at_call 5; refine (Hc.out _).mono ?_; rintro e w' ⟨rfl, rfl⟩))
  go_ret
  exact ⟨rfl, rfl⟩

theorem law_some (a : Int) (w : World) (h0 : 0 < a) (h1 : a ≤ 1125899906842624) :
    Calls Try.prog 3 #[.int .i64 a] w fun e w' => e = .returned (.bool true) ∧ w = w' := by
  obtain ⟨b, z, r, x, hb, hz, hr, hx, o1, o2, o3⟩ := Flt.every_plain a.toNat (by omega) (by omega)
  rw [show (((a.toNat % 1000000000 : Nat)) : Int) = a % 1000000000 from by omega] at hb
  rw [show (((a.toNat / 1000000000 : Nat)) : Int) = a / 1000000000 from by omega] at hz
  rw [show ((a.toNat : Nat) : Int) = a from by omega] at hx
  have hc : ∀ w, Calls Try.prog 5 #[.int .i64 a] w fun e w' => e = .returned (.tuple #[.float .f64 r, .bool false]) ∧ w = w' := by
    intro w
    have := every_of a r w (fun w => xevery_some a b z r w h0 (by omega) hb hz hr)
    rwa [o1] at this
  have Hc := Lib.hid hc
  have hm : ∀ t w, (binOp .mul t (.float .f64 r) (.float .f64 (floatOfInt .f64 a))).run Try.prog w = .ok (.float .f64 x) w := fun t w => run_float_arith w .mul t .f64 _ _ x hx
  have p2 : (FloatKind.f64.format.order x 4741671816366307410 == some Ordering.gt) = true := by rw [show FloatKind.f64.format.order x 4741671816366307410 = some .gt from o2]; rfl
  have p3 : (FloatKind.f64.format.order x 4741671816366475182 == some Ordering.lt) = true := by rw [show FloatKind.f64.format.order x 4741671816366475182 = some .lt from o3]; rfl
  clear hc hb hz hr hx o1 o2 o3
  go_enter Try.func3, Try.ntmps3
  go_wp2_with (first | (go_at_call 5; refine (Hc.out _).mono ?_; rintro e w' ⟨rfl, rfl⟩))
  go_ret
  exact ⟨rfl, rfl⟩

theorem law_every (a : Int) (w : World) : Calls Try.prog 3 #[.int .i64 a] w fun e w' => e = .returned (.bool true) ∧ w = w' := by
  by_cases h : 1125899906842624 < a ∨ a < -1125899906842624
  · exact law_out a w h
  · by_cases h0 : a ≤ 0
    · exact law_none a w h0 (by omega)
    · exact law_some a w (by omega) (by omega)

end Go.Proofs.Ytoleeipbhhmeiaa
