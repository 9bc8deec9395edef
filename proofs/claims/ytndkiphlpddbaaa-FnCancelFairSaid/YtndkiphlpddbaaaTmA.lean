/- The walks of gotime's addSec, Add, Sub, Unix and of impl.moment. -/
import Derived.Test.YtndkiphlpddbaaaTmW
namespace Go.Proofs.Ytndkiphlpddbaaa
open Go.RowKit

theorem addSec_any (b : Nat) (x y d : Int) (w : World) (hc : w.cell? ⟨b, 0, none⟩ = some (.int .u64 x)) (hc1 : w.cell? ⟨b, 1, none⟩ = some (.int .i64 y)) (hf : w.frozen? ⟨b, 1, none⟩ = false)
    (h0 : 0 ≤ x) (h1 : x < 1000000000) (hy0 : -4611686018427387904 ≤ y) (hy1 : y ≤ 4611686018427387904) (hd0 : -4611686018427387904 ≤ d) (hd1 : d ≤ 4611686018427387903) :
    Calls Try.prog 59 #[.pointer (some ⟨b, 0, none⟩), .int .i64 d] w fun e w' => e = .returned (.tuple #[]) ∧ w.setCell ⟨b, 1, none⟩ (.int .i64 (y + d)) = w' := by
  have hm := and_top x h0 (by omega)
  by_cases hd : 0 < d
  · have e1 : decide (y < y + d) = true := decide_eq_true (by omega)
    have e2 : decide (0 < d) = true := decide_eq_true hd
    go_enter Try.func59, Try.ntmps59
    go_wp2
    go_end0
    exact ⟨rfl, rfl⟩
  · have e1 : decide (y < y + d) = false := decide_eq_false (by omega)
    have e2 : decide (0 < d) = false := decide_eq_false hd
    go_enter Try.func59, Try.ntmps59
    go_wp2
    go_end0
    exact ⟨rfl, rfl⟩

theorem tdiv_neg (d : Int) (h : d < 0) (h1 : -9223372036854775808 ≤ d) : -9223372037 ≤ d.tdiv 1000000000 ∧ d.tdiv 1000000000 ≤ 0 := by
  obtain ⟨n, rfl⟩ : ∃ n : Int, d = -n := ⟨-d, by omega⟩
  rw [Int.neg_tdiv, Int.tdiv_eq_ediv_of_nonneg (by omega)]
  omega

theorem tmod_neg (d : Int) (h : d < 0) : -1000000000 < d.tmod 1000000000 ∧ d.tmod 1000000000 ≤ 0 := by
  obtain ⟨n, rfl⟩ : ∃ n : Int, d = -n := ⟨-d, by omega⟩
  rw [Int.neg_tmod, Int.tmod_eq_emod_of_nonneg (by omega)]
  omega

theorem add_pm (x y d : Int) (w : World) (hx0 : 0 ≤ x) (hx1 : x < 1000000000) (hy0 : -4611686009000000000 ≤ y) (hy1 : y ≤ 4611686009000000000) (hd0 : 0 ≤ d) (hd1 : d ≤ 9223372036854775807)
    (h : x + d % 1000000000 < 1000000000) (h' : 0 ≤ x + d % 1000000000) :
    Calls Try.prog 49 #[.agg #[.int .u64 x, .int .i64 y, .pointer none], .int .i64 d] w fun e w' => e = .returned (.agg #[.int .u64 (x + d % 1000000000), .int .i64 (y + d / 1000000000), .pointer none]) ∧ Below w.heap.size w w' := by
  have h1 := and_mask x hx0 (by omega)
  have h2 := and_top (x + d % 1000000000) (by omega) (by omega)
  have h3 := andNot_mask x hx0 (by omega)
  have h4 := or_zero (x + d % 1000000000) (by omega) (by omega)
  go_enter Try.func49, Try.ntmps49
  go_wp2_with (first | (go_at_call 59; refine (addSec_any _ (x + d % 1000000000) y _ _ (by go_simp) (by go_simp) (by go_simp) (by omega) (by omega) (by omega) (by omega) (by omega) (by omega)).mono ?_; rintro e w' ⟨rfl, rfl⟩) | go_in)
  exact bodyPost_ret (v := .agg #[.int .u64 (x + d % 1000000000), .int .i64 (y + d / 1000000000), .pointer none]) (by simp [results, Try.results49, go_sem]) rfl ⟨rfl, ((Below.refl _ _).alloc (Nat.le_refl _) _).alloc (by simp) _⟩

theorem add_pc (x y d : Int) (w : World) (hx0 : 0 ≤ x) (hx1 : x < 1000000000) (hy0 : -4611686009000000000 ≤ y) (hy1 : y ≤ 4611686009000000000) (hd0 : 0 ≤ d) (hd1 : d ≤ 9223372036854775807)
    (h : 1000000000 ≤ x + d % 1000000000) :
    Calls Try.prog 49 #[.agg #[.int .u64 x, .int .i64 y, .pointer none], .int .i64 d] w fun e w' => e = .returned (.agg #[.int .u64 (x + d % 1000000000 - 1000000000), .int .i64 (y + (d / 1000000000 + 1)), .pointer none]) ∧ Below w.heap.size w w' := by
  have h1 := and_mask x hx0 (by omega)
  have h2 := and_top (x + d % 1000000000 - 1000000000) (by omega) (by omega)
  have h3 := andNot_mask x hx0 (by omega)
  have h4 := or_zero (x + d % 1000000000 - 1000000000) (by omega) (by omega)
  go_enter Try.func49, Try.ntmps49
  go_wp2_with (first | (go_at_call 59; refine (addSec_any _ (x + d % 1000000000 - 1000000000) y _ _ (by go_simp) (by go_simp) (by go_simp) (by omega) (by omega) (by omega) (by omega) (by omega) (by omega)).mono ?_; rintro e w' ⟨rfl, rfl⟩) | go_in)
  exact bodyPost_ret (v := .agg #[.int .u64 (x + d % 1000000000 - 1000000000), .int .i64 (y + (d / 1000000000 + 1)), .pointer none]) (by simp [results, Try.results49, go_sem]) rfl ⟨rfl, ((Below.refl _ _).alloc (Nat.le_refl _) _).alloc (by simp) _⟩

theorem add_nm (x y d : Int) (w : World) (hx0 : 0 ≤ x) (hx1 : x < 1000000000) (hy0 : -4611686009000000000 ≤ y) (hy1 : y ≤ 4611686009000000000) (hd0 : d < 0) (hd1 : -9223372036854775808 ≤ d)
    (h : x + d.tmod 1000000000 < 1000000000) (h' : 0 ≤ x + d.tmod 1000000000) :
    Calls Try.prog 49 #[.agg #[.int .u64 x, .int .i64 y, .pointer none], .int .i64 d] w fun e w' => e = .returned (.agg #[.int .u64 (x + d.tmod 1000000000), .int .i64 (y + d.tdiv 1000000000), .pointer none]) ∧ Below w.heap.size w w' := by
  have hq0 : -9223372037 ≤ d.tdiv 1000000000 ∧ d.tdiv 1000000000 ≤ 0 := tdiv_neg d hd0 hd1
  have hr0 : -1000000000 < d.tmod 1000000000 ∧ d.tmod 1000000000 ≤ 0 := tmod_neg d hd0
  have h1 := and_mask x hx0 (by omega)
  have h2 := and_top (x + d.tmod 1000000000) (by omega) (by omega)
  have h3 := andNot_mask x hx0 (by omega)
  have h4 := or_zero (x + d.tmod 1000000000) (by omega) (by omega)
  go_enter Try.func49, Try.ntmps49
  go_wp2_with (first | (go_at_call 59; refine (addSec_any _ (x + d.tmod 1000000000) y _ _ (by go_simp) (by go_simp) (by go_simp) (by omega) (by omega) (by omega) (by omega) (by omega) (by omega)).mono ?_; rintro e w' ⟨rfl, rfl⟩) | go_in)
  exact bodyPost_ret (v := .agg #[.int .u64 (x + d.tmod 1000000000), .int .i64 (y + d.tdiv 1000000000), .pointer none]) (by simp [results, Try.results49, go_sem]) rfl ⟨rfl, ((Below.refl _ _).alloc (Nat.le_refl _) _).alloc (by simp) _⟩

theorem add_nb (x y d : Int) (w : World) (hx0 : 0 ≤ x) (hx1 : x < 1000000000) (hy0 : -4611686009000000000 ≤ y) (hy1 : y ≤ 4611686009000000000) (hd0 : d < 0) (hd1 : -9223372036854775808 ≤ d)
    (h : x + d.tmod 1000000000 < 0) :
    Calls Try.prog 49 #[.agg #[.int .u64 x, .int .i64 y, .pointer none], .int .i64 d] w fun e w' => e = .returned (.agg #[.int .u64 (x + d.tmod 1000000000 + 1000000000), .int .i64 (y + (d.tdiv 1000000000 - 1)), .pointer none]) ∧ Below w.heap.size w w' := by
  have hq0 : -9223372037 ≤ d.tdiv 1000000000 ∧ d.tdiv 1000000000 ≤ 0 := tdiv_neg d hd0 hd1
  have hr0 : -1000000000 < d.tmod 1000000000 ∧ d.tmod 1000000000 ≤ 0 := tmod_neg d hd0
  have h1 := and_mask x hx0 (by omega)
  have h2 := and_top (x + d.tmod 1000000000 + 1000000000) (by omega) (by omega)
  have h3 := andNot_mask x hx0 (by omega)
  have h4 := or_zero (x + d.tmod 1000000000 + 1000000000) (by omega) (by omega)
  go_enter Try.func49, Try.ntmps49
  go_wp2_with (first | (go_at_call 59; refine (addSec_any _ (x + d.tmod 1000000000 + 1000000000) y _ _ (by go_simp) (by go_simp) (by go_simp) (by omega) (by omega) (by omega) (by omega) (by omega) (by omega)).mono ?_; rintro e w' ⟨rfl, rfl⟩) | go_in)
  exact bodyPost_ret (v := .agg #[.int .u64 (x + d.tmod 1000000000 + 1000000000), .int .i64 (y + (d.tdiv 1000000000 - 1)), .pointer none]) (by simp [results, Try.results49, go_sem]) rfl ⟨rfl, ((Below.refl _ _).alloc (Nat.le_refl _) _).alloc (by simp) _⟩

/-- Add: as of the numbers. -/
theorem add_any (T d : Int) (w : World) (hT0 : -4000000000000000000000000000 ≤ T) (hT1 : T ≤ 4000000000000000000000000000) (hd0 : -9223372036854775808 ≤ d) (hd1 : d ≤ 9223372036854775807) :
    Calls Try.prog 49 #[tv T, .int .i64 d] w fun e w' => e = .returned (tv (T + d)) ∧ Below w.heap.size w w' := by
  have ha0 := ns_nonneg T
  have ha1 := ns_lt T
  have hb0 : -4611686009000000000 ≤ sc T := by unfold sc; omega
  have hb1 : sc T ≤ 4611686009000000000 := by unfold sc; omega
  by_cases hd : 0 ≤ d
  · by_cases hc : ns T + d % 1000000000 < 1000000000
    · have := add_pm (ns T) (sc T) d w ha0 ha1 hb0 hb1 hd hd1 hc (by omega)
      rwa [show ns T + d % 1000000000 = ns (T + d) from by unfold ns at *; omega, show sc T + d / 1000000000 = sc (T + d) from by unfold ns at hc; unfold sc; omega] at this
    · have := add_pc (ns T) (sc T) d w ha0 ha1 hb0 hb1 hd hd1 (by omega)
      rwa [show ns T + d % 1000000000 - 1000000000 = ns (T + d) from by unfold ns at *; omega, show sc T + (d / 1000000000 + 1) = sc (T + d) from by unfold ns at hc; unfold sc; omega] at this
  · have hq := tdiv_neg d (by omega) hd0
    have hr := tmod_neg d (by omega)
    have hqr := Int.tmod_add_mul_tdiv d 1000000000
    by_cases hc : 0 ≤ ns T + d.tmod 1000000000
    · have := add_nm (ns T) (sc T) d w ha0 ha1 hb0 hb1 (by omega) hd0 (by omega) hc
      rwa [show ns T + d.tmod 1000000000 = ns (T + d) from by unfold ns at *; omega, show sc T + d.tdiv 1000000000 = sc (T + d) from by unfold ns at hc; unfold sc; omega] at this
    · have := add_nb (ns T) (sc T) d w ha0 ha1 hb0 hb1 (by omega) hd0 (by omega)
      rwa [show ns T + d.tmod 1000000000 + 1000000000 = ns (T + d) from by unfold ns at *; omega, show sc T + (d.tdiv 1000000000 - 1) = sc (T + d) from by unfold ns at hc; unfold sc; omega] at this

end Go.Proofs.Ytndkiphlpddbaaa
