/- The walk of spec.Power. -/
import Derived.Test.YtndkiphlpddbaaaRtE
namespace Go.Proofs.Ytndkiphlpddbaaa
open Go.RowKit Flt

/-- One of 1, 2, 4 and so on up to 64. -/
def powB (n : Int) : Bool := n == 1 || n == 2 || n == 4 || n == 8 || n == 16 || n == 32 || n == 64

theorem pow_bits : ∀ m : Fin 65, 1 ≤ m.val → (bits .and .i64 (m.val : Int) ((m.val : Int) - 1) == 0) = powB (m.val : Int) := by decide +kernel

theorem power_any (n : Int) (w : World) : Calls Try.prog 21 #[.int .i64 n] w fun e w' => e = .returned (.bool (powB n)) ∧ w = w' := by
  by_cases h1 : n < 1
  · have hp : powB n = false := by unfold powB; simp; omega
    rw [hp]
    go_enter Try.func21, Try.ntmps21
    go_wp2_with fail
    go_ret
    exact ⟨rfl, rfl⟩
  · by_cases h2 : 64 < n
    · have hp : powB n = false := by unfold powB; simp; omega
      rw [hp]
      have h1' : 1 ≤ n := by omega
      have hd : decide (n ≤ 64) = false := decide_eq_false (by omega)
      go_enter Try.func21, Try.ntmps21
      go_wp2_with fail
      go_ret
      exact ⟨rfl, rfl⟩
    · have h1' : 1 ≤ n := by omega
      have h2' : n ≤ 64 := by omega
      have hb : (bits .and .i64 n (n - 1) == 0) = powB n := by
        obtain ⟨m, rfl⟩ := Int.eq_ofNat_of_zero_le (show 0 ≤ n by omega)
        exact pow_bits ⟨m, by omega⟩ (by show 1 ≤ m; omega)
      generalize powB n = p at *
      clear h1 h2
      cases p
      all_goals
        go_enter Try.func21, Try.ntmps21
        go_wp2_with fail
        go_ret
        exact ⟨rfl, rfl⟩

theorem powB_cases {n : Int} (h : powB n = true) : ∃ j : Nat, j ≤ 6 ∧ n = 2 ^ j := by
  unfold powB at h
  simp only [Bool.or_eq_true, beq_iff_eq] at h
  rcases h with (((((rfl | rfl) | rfl) | rfl) | rfl) | rfl) | rfl
  · exact ⟨0, by omega, rfl⟩
  · exact ⟨1, by omega, rfl⟩
  · exact ⟨2, by omega, rfl⟩
  · exact ⟨3, by omega, rfl⟩
  · exact ⟨4, by omega, rfl⟩
  · exact ⟨5, by omega, rfl⟩
  · exact ⟨6, by omega, rfl⟩

theorem powB_bounds {n : Int} (h : powB n = true) : 0 < n ∧ n ≤ 64 := by
  unfold powB at h
  simp only [Bool.or_eq_true, beq_iff_eq] at h
  omega

end Go.Proofs.Ytndkiphlpddbaaa
