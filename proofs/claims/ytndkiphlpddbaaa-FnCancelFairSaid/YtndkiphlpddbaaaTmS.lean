/- The walks of gotime's Sub and Unix and of impl.moment. -/
import Derived.Test.YtndkiphlpddbaaaTmA
import Derived.Deep.RegionHeld3
namespace Go.Proofs.Ytndkiphlpddbaaa
open Go.RowKit

/-- The number that Sub reckons first. -/
def dif (x y u v : Int) : Int := wrap64 (wrap64 (wrap64 (y - v) * 1000000000) + (x - u))

theorem keep_blk {W w1 w2 : World} {x y u v : Int} (hb : Below w1.heap.size w1 w2)
    (h : Below W.heap.size W w1 ∧ W.heap.size + 1 < w1.heap.size ∧ w1.cell? ⟨W.heap.size, 0, none⟩ = some (.int .u64 x) ∧ w1.cell? ⟨W.heap.size, 1, none⟩ = some (.int .i64 y) ∧ w1.cell? ⟨W.heap.size, 2, none⟩ = some (.pointer none) ∧
      w1.cell? ⟨W.heap.size + 1, 0, none⟩ = some (.int .u64 u) ∧ w1.cell? ⟨W.heap.size + 1, 1, none⟩ = some (.int .i64 v) ∧ w1.cell? ⟨W.heap.size + 1, 2, none⟩ = some (.pointer none)) :
    Below W.heap.size W w2 ∧ W.heap.size + 1 < w2.heap.size ∧ w2.cell? ⟨W.heap.size, 0, none⟩ = some (.int .u64 x) ∧ w2.cell? ⟨W.heap.size, 1, none⟩ = some (.int .i64 y) ∧ w2.cell? ⟨W.heap.size, 2, none⟩ = some (.pointer none) ∧
      w2.cell? ⟨W.heap.size + 1, 0, none⟩ = some (.int .u64 u) ∧ w2.cell? ⟨W.heap.size + 1, 1, none⟩ = some (.int .i64 v) ∧ w2.cell? ⟨W.heap.size + 1, 2, none⟩ = some (.pointer none) := by
  obtain ⟨h0, hs, c1, c2, c3, c4, c5, c6⟩ := h
  obtain ⟨k, _⟩ := bcell hb
  exact ⟨h0.trans (hb.mono (by omega)), Nat.lt_of_lt_of_le hs hb.size, by rw [k _ _ (by omega)]; exact c1, by rw [k _ _ (by omega)]; exact c2, by rw [k _ _ (by omega)]; exact c3, by rw [k _ _ (by omega)]; exact c4, by rw [k _ _ (by omega)]; exact c5, by rw [k _ _ (by omega)]; exact c6⟩

theorem start_blk (W : World) (x y u v : Int) : 
    Below W.heap.size W ((W.alloc (.cells #[.int .u64 x, .int .i64 y, .pointer none] 62)).alloc (.cells #[.int .u64 u, .int .i64 v, .pointer none] 62)).drew ∧
      W.heap.size + 1 < ((W.alloc (.cells #[.int .u64 x, .int .i64 y, .pointer none] 62)).alloc (.cells #[.int .u64 u, .int .i64 v, .pointer none] 62)).drew.heap.size ∧
      ((W.alloc (.cells #[.int .u64 x, .int .i64 y, .pointer none] 62)).alloc (.cells #[.int .u64 u, .int .i64 v, .pointer none] 62)).drew.cell? ⟨W.heap.size, 0, none⟩ = some (.int .u64 x) ∧
      ((W.alloc (.cells #[.int .u64 x, .int .i64 y, .pointer none] 62)).alloc (.cells #[.int .u64 u, .int .i64 v, .pointer none] 62)).drew.cell? ⟨W.heap.size, 1, none⟩ = some (.int .i64 y) ∧
      ((W.alloc (.cells #[.int .u64 x, .int .i64 y, .pointer none] 62)).alloc (.cells #[.int .u64 u, .int .i64 v, .pointer none] 62)).drew.cell? ⟨W.heap.size, 2, none⟩ = some (.pointer none) ∧
      ((W.alloc (.cells #[.int .u64 x, .int .i64 y, .pointer none] 62)).alloc (.cells #[.int .u64 u, .int .i64 v, .pointer none] 62)).drew.cell? ⟨W.heap.size + 1, 0, none⟩ = some (.int .u64 u) ∧
      ((W.alloc (.cells #[.int .u64 x, .int .i64 y, .pointer none] 62)).alloc (.cells #[.int .u64 u, .int .i64 v, .pointer none] 62)).drew.cell? ⟨W.heap.size + 1, 1, none⟩ = some (.int .i64 v) ∧
      ((W.alloc (.cells #[.int .u64 x, .int .i64 y, .pointer none] 62)).alloc (.cells #[.int .u64 u, .int .i64 v, .pointer none] 62)).drew.cell? ⟨W.heap.size + 1, 2, none⟩ = some (.pointer none) := by
  refine ⟨(((Below.refl _ _).alloc (Nat.le_refl _) _).alloc (by simp) _).drew, by simp, ?_⟩
  go_keep

theorem sub_in (x y u v : Int) (w : World) (hx0 : 0 ≤ x) (hx1 : x < 1000000000) (hu0 : 0 ≤ u) (hu1 : u < 1000000000)
    (hA : ∀ w, Calls Try.prog 49 #[.agg #[.int .u64 u, .int .i64 v, .pointer none], .int .i64 (wrap64 (wrap64 (wrap64 (y - v) * 1000000000) + (x - u)))] w fun e w' => e = .returned (.agg #[.int .u64 x, .int .i64 y, .pointer none]) ∧ Below w.heap.size w w')
    (hE : ∀ w, Calls Try.prog 55 #[.agg #[.int .u64 x, .int .i64 y, .pointer none], .agg #[.int .u64 x, .int .i64 y, .pointer none]] w fun e w' => e = .returned (.bool true) ∧ Below w.heap.size w w') :
    Calls Try.prog 51 #[.agg #[.int .u64 x, .int .i64 y, .pointer none], .agg #[.int .u64 u, .int .i64 v, .pointer none]] w fun e w' => e = .returned (.int .i64 (dif x y u v)) ∧ Below w.heap.size w w' := by
  have HA := Lib.hid hA
  have HE := Lib.hid hE
  clear hA hE
  have hm := and_small x u hx0 (by omega) hu0 (by omega)
  go_enter Try.func51, Try.ntmps51
  go_wp2_with fail
  refine (sec_any _ x y _ (by go_simp) (by go_simp) hx0 hx1).mono ?_; rintro e w' ⟨rfl, rfl⟩
  go_wp2_with fail
  refine (sec_any _ u v _ (by go_simp) (by go_simp) hu0 hu1).mono ?_; rintro e w' ⟨rfl, rfl⟩
  go_wp2_with fail
  refine (nsec_any _ x _ (by go_simp) hx0 hx1).mono ?_; rintro e w' ⟨rfl, rfl⟩
  go_wp2_with fail
  refine (nsec_any _ u _ (by go_simp) hu0 hu1).mono ?_; rintro e w' ⟨rfl, rfl⟩
  go_wp2_with fail
  go_region_held3 (fun w' => Below w.heap.size w w' ∧ w.heap.size + 1 < w'.heap.size ∧ w'.cell? ⟨w.heap.size, 0, none⟩ = some (.int .u64 x) ∧ w'.cell? ⟨w.heap.size, 1, none⟩ = some (.int .i64 y) ∧ w'.cell? ⟨w.heap.size, 2, none⟩ = some (.pointer none) ∧
      w'.cell? ⟨w.heap.size + 1, 0, none⟩ = some (.int .u64 u) ∧ w'.cell? ⟨w.heap.size + 1, 1, none⟩ = some (.int .i64 v) ∧ w'.cell? ⟨w.heap.size + 1, 2, none⟩ = some (.pointer none))
    (first | assumption | (refine keep_blk hb2 ?_; assumption) | (refine keep_blk hb1 ?_; assumption) | exact start_blk w x y u v | go_keep)
    (first | (go_at_call 49; refine (HA.out _).mono ?_; rintro e w' ⟨rfl, hb1⟩) | (go_at_call 55; refine (HE.out _).mono ?_; rintro e w' ⟨rfl, hb2⟩))
  go_wp2_with fail
  rename_i hS
  obtain ⟨hS0, _⟩ := hS
  go_ret
  exact ⟨rfl, hS0⟩

theorem sub_far (x y u v p q : Int) (w : World) (hx0 : 0 ≤ x) (hx1 : x < 1000000000) (hu0 : 0 ≤ u) (hu1 : u < 1000000000)
    (hA : ∀ w, Calls Try.prog 49 #[.agg #[.int .u64 u, .int .i64 v, .pointer none], .int .i64 (wrap64 (wrap64 (wrap64 (y - v) * 1000000000) + (x - u)))] w fun e w' => e = .returned (.agg #[.int .u64 p, .int .i64 q, .pointer none]) ∧ Below w.heap.size w w')
    (hE : ∀ w, Calls Try.prog 55 #[.agg #[.int .u64 p, .int .i64 q, .pointer none], .agg #[.int .u64 x, .int .i64 y, .pointer none]] w fun e w' => e = .returned (.bool false) ∧ Below w.heap.size w w')
    (hF : ∀ w, Calls Try.prog 53 #[.agg #[.int .u64 x, .int .i64 y, .pointer none], .agg #[.int .u64 u, .int .i64 v, .pointer none]] w fun e w' => e = .returned (.bool false) ∧ Below w.heap.size w w') :
    Calls Try.prog 51 #[.agg #[.int .u64 x, .int .i64 y, .pointer none], .agg #[.int .u64 u, .int .i64 v, .pointer none]] w fun e w' => e = .returned (.int .i64 9223372036854775807) ∧ Below w.heap.size w w' := by
  have HA := Lib.hid hA
  have HE := Lib.hid hE
  have HF := Lib.hid hF
  clear hA hE hF
  have hm := and_small x u hx0 (by omega) hu0 (by omega)
  go_enter Try.func51, Try.ntmps51
  go_wp2_with fail
  refine (sec_any _ x y _ (by go_simp) (by go_simp) hx0 hx1).mono ?_; rintro e w' ⟨rfl, rfl⟩
  go_wp2_with fail
  refine (sec_any _ u v _ (by go_simp) (by go_simp) hu0 hu1).mono ?_; rintro e w' ⟨rfl, rfl⟩
  go_wp2_with fail
  refine (nsec_any _ x _ (by go_simp) hx0 hx1).mono ?_; rintro e w' ⟨rfl, rfl⟩
  go_wp2_with fail
  refine (nsec_any _ u _ (by go_simp) hu0 hu1).mono ?_; rintro e w' ⟨rfl, rfl⟩
  go_wp2_with fail
  go_region_held3 (fun w' => Below w.heap.size w w' ∧ w.heap.size + 1 < w'.heap.size ∧ w'.cell? ⟨w.heap.size, 0, none⟩ = some (.int .u64 x) ∧ w'.cell? ⟨w.heap.size, 1, none⟩ = some (.int .i64 y) ∧ w'.cell? ⟨w.heap.size, 2, none⟩ = some (.pointer none) ∧
      w'.cell? ⟨w.heap.size + 1, 0, none⟩ = some (.int .u64 u) ∧ w'.cell? ⟨w.heap.size + 1, 1, none⟩ = some (.int .i64 v) ∧ w'.cell? ⟨w.heap.size + 1, 2, none⟩ = some (.pointer none))
    (first | assumption | (refine keep_blk hb2 ?_; assumption) | (refine keep_blk hb1 ?_; assumption) | exact start_blk w x y u v | go_keep)
    (first | (go_at_call 49; refine (HA.out _).mono ?_; rintro e w' ⟨rfl, hb1⟩) | (go_at_call 55; refine (HE.out _).mono ?_; rintro e w' ⟨rfl, hb2⟩))
  rename_i hS
  obtain ⟨hS0, hS1, c1, c2, c3, c4, c5, c6⟩ := hS
  go_wp2_with (go_at_call 53; refine (HF.out _).mono ?_; rintro e w' ⟨rfl, hb3⟩)
  go_ret
  exact ⟨rfl, hS0.trans (hb3.mono (by omega))⟩

/-- Sub, where the difference fits. -/
theorem sub_any (a b : Int) (w : World) (hb0 : 0 ≤ b) (hb1 : b ≤ 4000000000000000000000000000) (hd0 : -4611686018427387904 ≤ a - b) (hd1 : a - b ≤ 4611686018427387904) :
    Calls Try.prog 51 #[tv a, tv b] w fun e w' => e = .returned (.int .i64 (a - b)) ∧ Below w.heap.size w w' := by
  have e0 : dif (ns a) (sc a) (ns b) (sc b) = a - b := by
    unfold dif ns sc
    have h1 : wrap64 (a / 1000000000 - b / 1000000000) = a / 1000000000 - b / 1000000000 := IntWalk.wrap64_in _ ⟨by omega, by omega⟩
    rw [h1]
    have h2 : wrap64 ((a / 1000000000 - b / 1000000000) * 1000000000) = (a / 1000000000 - b / 1000000000) * 1000000000 := IntWalk.wrap64_in _ ⟨by omega, by omega⟩
    rw [h2]
    have h3 : (a / 1000000000 - b / 1000000000) * 1000000000 + (a % 1000000000 - b % 1000000000) = a - b := by omega
    rw [h3]
    exact IntWalk.wrap64_in _ ⟨by omega, by omega⟩
  have := sub_in (ns a) (sc a) (ns b) (sc b) w (ns_nonneg a) (ns_lt a) (ns_nonneg b) (ns_lt b)
    (fun w => by
      have := add_any b (a - b) w (by omega) (by omega) (by omega) (by omega)
      rw [show wrap64 (wrap64 (wrap64 (sc a - sc b) * 1000000000) + (ns a - ns b)) = a - b from e0]
      rwa [show b + (a - b) = a from by omega] at this)
    (fun w => by have := equal_any a a w; rwa [show (a == a) = true from by simp] at this)
  rwa [e0] at this

theorem wrap64_range (n : Int) : -9223372036854775808 ≤ wrap64 n ∧ wrap64 n ≤ 9223372036854775807 := by
  unfold wrap64; omega

/-- Sub of the first moment, where the difference is beyond what a duration holds. -/
theorem sub_zero (a : Int) (w : World) (ha0 : 9223372036854775807 < a) (ha1 : a ≤ 4000000000000000000000000000) :
    Calls Try.prog 51 #[tv a, tv 0] w fun e w' => e = .returned (.int .i64 9223372036854775807) ∧ Below w.heap.size w w' := by
  have hw := wrap64_range (wrap64 (wrap64 (sc a - sc 0) * 1000000000) + (ns a - ns 0))
  have := sub_far (ns a) (sc a) (ns 0) (sc 0) (ns (0 + wrap64 (wrap64 (wrap64 (sc a - sc 0) * 1000000000) + (ns a - ns 0)))) (sc (0 + wrap64 (wrap64 (wrap64 (sc a - sc 0) * 1000000000) + (ns a - ns 0)))) w (ns_nonneg a) (ns_lt a) (ns_nonneg 0) (ns_lt 0)
    (fun w => add_any 0 _ w (by omega) (by omega) hw.1 hw.2)
    (fun w => by
      have := equal_any (0 + wrap64 (wrap64 (wrap64 (sc a - sc 0) * 1000000000) + (ns a - ns 0))) a w
      rwa [show ((0 + wrap64 (wrap64 (wrap64 (sc a - sc 0) * 1000000000) + (ns a - ns 0))) == a) = false from beq_eq_false_iff_ne.2 (by omega)] at this)
    (fun w => by
      have := before_any a 0 w
      rwa [show decide (a < 0) = false from decide_eq_false (by omega)] at this)
  exact this

theorem unixTime_any (w : World) :
    Calls Try.prog 57 #[.int .i64 1000, .int .i32 0] w fun e w' => e = .returned (.agg #[.int .u64 0, .int .i64 62135597800, .pointer none]) ∧ Below w.heap.size w w' := by
  go_enter Try.func57, Try.ntmps57
  go_wp2_with fail
  exact bodyPost_ret (v := .agg #[.int .u64 0, .int .i64 62135597800, .pointer none]) (by simp [results, Try.results57, go_sem]) rfl ⟨rfl, (Below.refl _ _).alloc (Nat.le_refl _) _⟩

theorem unix_any (w : World) :
    Calls Try.prog 48 #[.int .i64 1000, .int .i64 0] w fun e w' => e = .returned (.agg #[.int .u64 0, .int .i64 62135597800, .pointer none]) ∧ Below w.heap.size w w' := by
  go_enter Try.func48, Try.ntmps48
  go_wp2_with fail
  refine (unixTime_any _).mono ?_; rintro e w1 ⟨rfl, hb⟩
  obtain ⟨hc, hf⟩ := bcell hb
  have hz : w.heap.size < w1.heap.size := by have := hb.size; simp at this; omega
  have hB := ((Below.refl w.heap.size w).alloc (Nat.le_refl _) (.cells #[.int .u64 0, .int .i64 0, .pointer none] 62)).trans (hb.mono (by simp))
  clear hb
  go_wp2_with fail
  refine bodyPost_ret (v := .agg #[.int .u64 0, .int .i64 62135597800, .pointer none]) (by simp [results, Try.results48, go_sem, hc]) rfl ⟨rfl, ?_⟩
  exact ((hB.setCell (by simp) _).setCell (by simp) _).setCell (by simp) _

/-- The moment of tick 0, in nanoseconds since year 1. -/
def M0 : Int := 62135597800000000000

theorem moment_any (k : Int) (w : World) (h0 : 0 ≤ k) (h1 : k ≤ 1099511627776) :
    Calls Try.prog 36 #[.int .i64 k] w fun e w' => e = .returned (tv (M0 + k * 1953125)) ∧ Below w.heap.size w w' := by
  have hA := fun w => add_any M0 (k * 1953125) w (by unfold M0; omega) (by unfold M0; omega) (by omega) (by omega)
  rw [show tv M0 = .agg #[.int .u64 0, .int .i64 62135597800, .pointer none] from by unfold tv ns sc M0; simp] at hA
  have HA := Lib.hid hA
  clear hA
  go_enter Try.func36, Try.ntmps36
  go_wp2_with fail
  refine (unix_any _).mono ?_; rintro e w1 ⟨rfl, hb⟩
  have hz : w.heap.size < w1.heap.size := by have := hb.size; simp at this; omega
  have hB := ((Below.refl w.heap.size w).alloc (Nat.le_refl _) (.cells #[.int .u64 0, .int .i64 0, .pointer none] 62)).trans (hb.mono (by simp))
  obtain ⟨hc, hf⟩ := bcell hb
  clear hb
  go_wp2_with fail
  refine (HA.out _).mono ?_; rintro e w2 ⟨rfl, hb2⟩
  have hz2 : w.heap.size < w2.heap.size := by have := hb2.size; omega
  have hB2 := hB.trans (hb2.mono (Nat.le_of_lt hz))
  obtain ⟨hc2, hf2⟩ := bcell hb2
  clear hb2 hB
  go_wp2_with fail
  refine bodyPost_ret (v := tv (M0 + k * 1953125)) (by simp [results, Try.results36, go_sem, hc, hz, hc2]) rfl ⟨rfl, ?_⟩
  exact ((hB2.setCell (by simp) _).setCell (by simp) _).setCell (by simp) _

end Go.Proofs.Ytndkiphlpddbaaa
