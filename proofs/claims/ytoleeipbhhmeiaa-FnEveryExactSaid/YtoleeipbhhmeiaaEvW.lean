/- The walks of Seconds, xrate.Every, impl.Every and the two laws over them. Condition: the float operations' results are handed in as premises. -/
import Derived.Test.YtoleeipbhhmeiaaChecked
import Derived.Tactics
import Derived.Tactics2
import Derived.WalkKit
import Derived.WalkLawsBesides
import Derived.Outline
import Derived.KernelRfl
import Derived.RowKit3
import Derived.Lib.Hide
namespace Go.Proofs.Ytoleeipbhhmeiaa

theorem seconds_any (d : Int) (b z : Nat) (w : World) (h0 : 0 ≤ d) (h1 : d ≤ 9223372036854775807)
    (hb : floatBits .quo .f64 (floatOfInt .f64 (d % 1000000000)) 4741671816366391296 = some b) (hz : floatBits .add .f64 (floatOfInt .f64 (d / 1000000000)) b = some z) :
    Calls Try.prog 7 #[.int .i64 d] w fun e w' => e = .returned (.float .f64 z) ∧ w = w' := by
  have hq : ∀ t w, (binOp .quo t (.float .f64 (floatOfInt .f64 (d % 1000000000))) (.float .f64 4741671816366391296)).run Try.prog w = .ok (.float .f64 b) w := fun t w => run_float_arith w .quo t .f64 _ _ b hb
  have ha : ∀ t w, (binOp .add t (.float .f64 (floatOfInt .f64 (d / 1000000000))) (.float .f64 b)).run Try.prog w = .ok (.float .f64 z) w := fun t w => run_float_arith w .add t .f64 _ _ z hz
  clear hb hz
  go_enter Try.func7, Try.ntmps7
  go_wp2_with fail
  go_ret
  exact ⟨rfl, rfl⟩

theorem xevery_none (d : Int) (w : World) (h0 : d ≤ 0) :
    Calls Try.prog 6 #[.int .i64 d] w fun e w' => e = .returned (.float .f64 9218868437227405311) ∧ w = w' := by
  go_enter Try.func6, Try.ntmps6
  go_wp2_with fail
  go_ret
  exact ⟨rfl, rfl⟩

theorem xevery_some (d : Int) (b z r : Nat) (w : World) (h0 : 0 < d) (h1 : d ≤ 9223372036854775807)
    (hb : floatBits .quo .f64 (floatOfInt .f64 (d % 1000000000)) 4741671816366391296 = some b) (hz : floatBits .add .f64 (floatOfInt .f64 (d / 1000000000)) b = some z)
    (hr : floatBits .quo .f64 4607182418800017408 z = some r) :
    Calls Try.prog 6 #[.int .i64 d] w fun e w' => e = .returned (.float .f64 r) ∧ w = w' := by
  have hs := fun w => seconds_any d b z w (by omega) h1 hb hz
  have hq : ∀ t w, (binOp .quo t (.float .f64 4607182418800017408) (.float .f64 z)).run Try.prog w = .ok (.float .f64 r) w := fun t w => run_float_arith w .quo t .f64 _ _ r hr
  have Hs := Lib.hid hs
  clear hb hz hr hs
  go_enter Try.func6, Try.ntmps6
  go_wp2_with (first | (go_at_call 7; refine (Hs.out _).mono ?_; rintro e w' ⟨rfl, rfl⟩))
  go_ret
  exact ⟨rfl, rfl⟩

theorem every_of (d : Int) (r : Nat) (w : World) (hc : ∀ w, Calls Try.prog 6 #[.int .i64 d] w fun e w' => e = .returned (.float .f64 r) ∧ w = w') :
    Calls Try.prog 5 #[.int .i64 d] w fun e w' => e = .returned (.tuple #[.float .f64 r, .bool (Ieee.double.order r 9218868437227405311 == some .eq)]) ∧ w = w' := by
  have Hc := Lib.hid hc
  clear hc
  go_enter Try.func5, Try.ntmps5
  go_wp2_with (first | (go_at_call 6; refine (Hc.out _).mono ?_; rintro e w' ⟨rfl, rfl⟩))
  go_ret2
  exact ⟨rfl, rfl⟩

end Go.Proofs.Ytoleeipbhhmeiaa
