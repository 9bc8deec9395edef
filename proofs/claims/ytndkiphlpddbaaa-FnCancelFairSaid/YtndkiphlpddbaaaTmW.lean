/- The walks of gotime's functions: sec, nsec, Before, Equal. -/
import Derived.Test.YtndkiphlpddbaaaChecked
import Derived.Test.YtndkiphlpddbaaaMem
import Derived.Tactics
import Derived.Tactics2
import Derived.WalkKit
import Derived.WalkLawsBesides
import Derived.Outline
import Derived.KernelRfl
import Derived.RowKit3
import Derived.BigQuiet
import Derived.Deep.QuietTactic
namespace Go.Proofs.Ytndkiphlpddbaaa
open Go.RowKit

theorem nsec_any (b : Nat) (x : Int) (w : World) (hc : w.cell? ⟨b, 0, none⟩ = some (.int .u64 x)) (h0 : 0 ≤ x) (h1 : x < 1000000000) :
    Calls Try.prog 58 #[.pointer (some ⟨b, 0, none⟩)] w fun e w' => e = .returned (.int .i32 x) ∧ w = w' := by
  have hm := and_mask x h0 (by omega)
  go_enter Try.func58, Try.ntmps58
  go_wp2
  go_ret
  exact ⟨rfl, rfl⟩

theorem sec_any (b : Nat) (x y : Int) (w : World) (hc : w.cell? ⟨b, 0, none⟩ = some (.int .u64 x)) (hc1 : w.cell? ⟨b, 1, none⟩ = some (.int .i64 y)) (h0 : 0 ≤ x) (h1 : x < 1000000000) :
    Calls Try.prog 62 #[.pointer (some ⟨b, 0, none⟩)] w fun e w' => e = .returned (.int .i64 y) ∧ w = w' := by
  have hm := and_top x h0 (by omega)
  go_enter Try.func62, Try.ntmps62
  go_wp2
  go_ret
  exact ⟨rfl, rfl⟩

theorem before_lt (x y u v : Int) (w : World) (hx0 : 0 ≤ x) (hx1 : x < 1000000000) (hu0 : 0 ≤ u) (hu1 : u < 1000000000) (h : y < v) :
    Calls Try.prog 53 #[.agg #[.int .u64 x, .int .i64 y, .pointer none], .agg #[.int .u64 u, .int .i64 v, .pointer none]] w fun e w' => e = .returned (.bool true) ∧ Below w.heap.size w w' := by
  have hm := and_small x u hx0 (by omega) hu0 (by omega)
  have h1 := and_top x hx0 (by omega)
  have h2 := and_top u hu0 (by omega)
  go_enter Try.func53, Try.ntmps53
  go_wp2
  go_ret
  exact ⟨rfl, ((Below.refl _ _).alloc (Nat.le_refl _) _).alloc (by simp) _⟩

theorem before_eq (x y u : Int) (w : World) (hx0 : 0 ≤ x) (hx1 : x < 1000000000) (hu0 : 0 ≤ u) (hu1 : u < 1000000000) :
    Calls Try.prog 53 #[.agg #[.int .u64 x, .int .i64 y, .pointer none], .agg #[.int .u64 u, .int .i64 y, .pointer none]] w fun e w' => e = .returned (.bool (decide (x < u))) ∧ Below w.heap.size w w' := by
  have hm := and_small x u hx0 (by omega) hu0 (by omega)
  have h1 := and_top x hx0 (by omega)
  have h2 := and_top u hu0 (by omega)
  have h3 := and_mask x hx0 (by omega)
  have h4 := and_mask u hu0 (by omega)
  go_enter Try.func53, Try.ntmps53
  go_wp2
  go_ret
  exact ⟨rfl, ((Below.refl _ _).alloc (Nat.le_refl _) _).alloc (by simp) _⟩

theorem before_gt (x y u v : Int) (w : World) (hx0 : 0 ≤ x) (hx1 : x < 1000000000) (hu0 : 0 ≤ u) (hu1 : u < 1000000000) (h : v < y) :
    Calls Try.prog 53 #[.agg #[.int .u64 x, .int .i64 y, .pointer none], .agg #[.int .u64 u, .int .i64 v, .pointer none]] w fun e w' => e = .returned (.bool false) ∧ Below w.heap.size w w' := by
  have hm := and_small x u hx0 (by omega) hu0 (by omega)
  have h1 := and_top x hx0 (by omega)
  have h2 := and_top u hu0 (by omega)
  have h5 : (y == v) = false := beq_eq_false_iff_ne.2 (by omega)
  have h6 : decide (y < v) = false := decide_eq_false (by omega)
  go_enter Try.func53, Try.ntmps53
  go_wp2
  go_ret
  exact ⟨rfl, ((Below.refl _ _).alloc (Nat.le_refl _) _).alloc (by simp) _⟩

/-- Before: as of the numbers. -/
theorem before_any (a b : Int) (w : World) :
    Calls Try.prog 53 #[tv a, tv b] w fun e w' => e = .returned (.bool (decide (a < b))) ∧ Below w.heap.size w w' := by
  have ha0 := ns_nonneg a
  have ha1 := ns_lt a
  have hb0 := ns_nonneg b
  have hb1 := ns_lt b
  rcases Int.lt_trichotomy (sc a) (sc b) with h | h | h
  · have hd : decide (a < b) = true := decide_eq_true (by unfold sc at h; omega)
    rw [hd]
    exact before_lt _ _ _ _ w ha0 ha1 hb0 hb1 h
  · have hd : decide (a < b) = decide (ns a < ns b) := by unfold sc at h; unfold ns; by_cases hh : a < b <;> simp [hh] <;> omega
    rw [hd]
    have := before_eq (ns a) (sc a) (ns b) w ha0 ha1 hb0 hb1
    rwa [show (tv b : Value) = .agg #[.int .u64 (ns b), .int .i64 (sc a), .pointer none] from by rw [h]]
  · have hd : decide (a < b) = false := decide_eq_false (by unfold sc at h; omega)
    rw [hd]
    exact before_gt _ _ _ _ w ha0 ha1 hb0 hb1 h

theorem equal_ne (x y u v : Int) (w : World) (hx0 : 0 ≤ x) (hx1 : x < 1000000000) (hu0 : 0 ≤ u) (hu1 : u < 1000000000) (h : y ≠ v) :
    Calls Try.prog 55 #[.agg #[.int .u64 x, .int .i64 y, .pointer none], .agg #[.int .u64 u, .int .i64 v, .pointer none]] w fun e w' => e = .returned (.bool false) ∧ Below w.heap.size w w' := by
  have hm := and_small x u hx0 (by omega) hu0 (by omega)
  have h1 := and_top x hx0 (by omega)
  have h2 := and_top u hu0 (by omega)
  have h5 : (y == v) = false := beq_eq_false_iff_ne.2 h
  clear h
  go_enter Try.func55, Try.ntmps55
  go_wp2
  go_ret
  exact ⟨rfl, ((Below.refl _ _).alloc (Nat.le_refl _) _).alloc (by simp) _⟩

theorem equal_eq (x y u : Int) (w : World) (hx0 : 0 ≤ x) (hx1 : x < 1000000000) (hu0 : 0 ≤ u) (hu1 : u < 1000000000) :
    Calls Try.prog 55 #[.agg #[.int .u64 x, .int .i64 y, .pointer none], .agg #[.int .u64 u, .int .i64 y, .pointer none]] w fun e w' => e = .returned (.bool (x == u)) ∧ Below w.heap.size w w' := by
  have hm := and_small x u hx0 (by omega) hu0 (by omega)
  have h1 := and_top x hx0 (by omega)
  have h2 := and_top u hu0 (by omega)
  have h3 := and_mask x hx0 (by omega)
  have h4 := and_mask u hu0 (by omega)
  go_enter Try.func55, Try.ntmps55
  go_wp2
  go_ret
  exact ⟨rfl, ((Below.refl _ _).alloc (Nat.le_refl _) _).alloc (by simp) _⟩

/-- Equal: as of the numbers. -/
theorem equal_any (a b : Int) (w : World) :
    Calls Try.prog 55 #[tv a, tv b] w fun e w' => e = .returned (.bool (a == b)) ∧ Below w.heap.size w w' := by
  have ha0 := ns_nonneg a
  have ha1 := ns_lt a
  have hb0 := ns_nonneg b
  have hb1 := ns_lt b
  by_cases h : sc a = sc b
  · have hd : (a == b) = (ns a == ns b) := by unfold sc at h; unfold ns; rw [Bool.eq_iff_iff]; simp only [beq_iff_eq]; omega
    rw [hd]
    have := equal_eq (ns a) (sc a) (ns b) w ha0 ha1 hb0 hb1
    rwa [show (tv b : Value) = .agg #[.int .u64 (ns b), .int .i64 (sc a), .pointer none] from by rw [h]]
  · have hd : (a == b) = false := beq_eq_false_iff_ne.2 (by rintro rfl; exact h rfl)
    rw [hd]
    exact equal_ne _ _ _ _ w ha0 ha1 hb0 hb1 h

end Go.Proofs.Ytndkiphlpddbaaa
