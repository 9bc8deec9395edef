/- The walk of the law FnEveryExact: for every k it returns true. No condition. -/
import Derived.Test.YtoleeipbhhmeiaaEvL
namespace Go.Proofs.Ytoleeipbhhmeiaa
open Go.RowKit

theorem exact_out (a : Int) (w : World) (h : a < 0 ∨ 20 < a) :
    Calls Try.prog 4 #[.int .i64 a] w fun e w' => e = .returned (.bool true) ∧ w = w' := by
  rcases h with h | h
  · go_enter Try.func4, Try.ntmps4
    go_wp2_with fail
    go_ret
    exact ⟨rfl, rfl⟩
  · have h' : ¬ a < 0 := by omega
    go_enter Try.func4, Try.ntmps4
    go_wp2_with fail
    go_ret
    exact ⟨rfl, rfl⟩

/-- One interval: the chain of float operations, and what is asked of its end. -/
def chk (d m : Int) : Bool :=
  match floatBits .quo .f64 (floatOfInt .f64 (d % 1000000000)) 4741671816366391296 with
  | none => false
  | some b => match floatBits .add .f64 (floatOfInt .f64 (d / 1000000000)) b with
    | none => false
    | some z => match floatBits .quo .f64 4607182418800017408 z with
      | none => false
      | some r => match floatBits .mul .f64 r (floatOfInt .f64 m) with
        | none => false
        | some x => (Ieee.double.order x 4647714815446351872 == some .eq) && !(Ieee.double.order r 9218868437227405311 == some .eq)

theorem chk_parts (d m : Int) (hc : chk d m = true) :
    ∃ b z r x, floatBits .quo .f64 (floatOfInt .f64 (d % 1000000000)) 4741671816366391296 = some b ∧ floatBits .add .f64 (floatOfInt .f64 (d / 1000000000)) b = some z ∧
      floatBits .quo .f64 4607182418800017408 z = some r ∧ floatBits .mul .f64 r (floatOfInt .f64 m) = some x ∧
      (Ieee.double.order x 4647714815446351872 == some .eq) = true ∧ (Ieee.double.order r 9218868437227405311 == some .eq) = false := by
  unfold chk at hc
  generalize h1 : floatBits .quo .f64 (floatOfInt .f64 (d % 1000000000)) 4741671816366391296 = o1 at hc
  cases o1 with
  | none => cases hc
  | some b =>
    dsimp only at hc
    generalize h2 : floatBits .add .f64 (floatOfInt .f64 (d / 1000000000)) b = o2 at hc
    cases o2 with
    | none => cases hc
    | some z =>
      dsimp only at hc
      generalize h3 : floatBits .quo .f64 4607182418800017408 z = o3 at hc
      cases o3 with
      | none => cases hc
      | some r =>
        dsimp only at hc
        generalize h4 : floatBits .mul .f64 r (floatOfInt .f64 m) = o4 at hc
        cases o4 with
        | none => cases hc
        | some x =>
          dsimp only at hc
          rw [Bool.and_eq_true] at hc
          obtain ⟨p, q⟩ := hc
          exact ⟨b, z, r, x, rfl, h2, h3, h4, p, by simpa using q⟩

theorem exact_of (k d m : Int) (w : World) (h0 : 0 ≤ k) (h1 : k ≤ 20) (ed : wrap64 (1953125 * 2 ^ k.toNat) = d) (em : wrap64 (2 ^ k.toNat) = m)
    (hd0 : 0 < d) (hd1 : d ≤ 9223372036854775807) (hc : chk d m = true) :
    Calls Try.prog 4 #[.int .i64 k] w fun e w' => e = .returned (.bool true) ∧ w = w' := by
  obtain ⟨b, z, r, x, hb, hz, hr, hx, p1, p2⟩ := chk_parts d m hc
  have hcall : ∀ w, Calls Try.prog 5 #[.int .i64 d] w fun e w' => e = .returned (.tuple #[.float .f64 r, .bool false]) ∧ w = w' := by
    intro w
    have := every_of d r w (fun w => xevery_some d b z r w hd0 hd1 hb hz hr)
    rwa [p2] at this
  have Hc := Lib.hid hcall
  have hm : ∀ t w, (binOp .mul t (.float .f64 r) (.float .f64 (floatOfInt .f64 m))).run Try.prog w = .ok (.float .f64 x) w := fun t w => run_float_arith w .mul t .f64 _ _ x hx
  have o1 : (FloatKind.f64.format.order x 4647714815446351872 == some Ordering.eq) = true := p1
  clear hd0 hd1 hc hcall hb hz hr hx p1 p2
  go_enter Try.func4, Try.ntmps4
  go_wp2_with (first | (go_at_call 5; rw [ed]; refine (Hc.out _).mono ?_; rintro e w' ⟨rfl, rfl⟩))
  go_ret
  exact ⟨rfl, rfl⟩

theorem law_exact (a : Int) (w : World) : Calls Try.prog 4 #[.int .i64 a] w fun e w' => e = .returned (.bool true) ∧ w = w' := by
  by_cases h : a < 0 ∨ 20 < a
  · exact exact_out a w h
  · have hk : a = 0 ∨ a = 1 ∨ a = 2 ∨ a = 3 ∨ a = 4 ∨ a = 5 ∨ a = 6 ∨ a = 7 ∨ a = 8 ∨ a = 9 ∨ a = 10 ∨ a = 11 ∨ a = 12 ∨ a = 13 ∨ a = 14 ∨ a = 15 ∨ a = 16 ∨ a = 17 ∨ a = 18 ∨ a = 19 ∨ a = 20 := by omega
    clear h
    rcases hk with rfl | rfl | rfl | rfl | rfl | rfl | rfl | rfl | rfl | rfl | rfl | rfl | rfl | rfl | rfl | rfl | rfl | rfl | rfl | rfl | rfl
    all_goals exact exact_of _ _ _ w (by decide) (by decide) rfl rfl (by decide +kernel) (by decide +kernel) (by decide +kernel)

end Go.Proofs.Ytoleeipbhhmeiaa
