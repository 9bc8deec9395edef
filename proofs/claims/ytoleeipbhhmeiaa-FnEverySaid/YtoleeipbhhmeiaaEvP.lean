/- The plain law of Every: one event in an interval, to eleven figures. Condition: 0 < d ≤ 2 ^ 50. -/
import Derived.Test.YtoleeipbhhmeiaaFlt
namespace Go.Proofs.Ytoleeipbhhmeiaa.Flt
open Ieee

theorem c1e9 : (4741671816366391296 : Nat) = G 0 ((1000000000 : Nat) : Int) := by decide +kernel
theorem c1 : (4607182418800017408 : Nat) = G 0 ((1 : Nat) : Int) := by decide +kernel
theorem read_lo : double.read 4741671816366307410 = .number false 8388607999916114 (-(23 : Nat)) := by decide +kernel
theorem read_hi : double.read 4741671816366475182 = .number false 8388608000083886 (-(23 : Nat)) := by decide +kernel

theorem mid_sum {P T D : Nat} (hT : Ap 3 (T * 1000000000) D) (hd1 : P ≤ D) (hd2 : D ≤ 1125899906842624 * P) : Midd P T := by
  have t1 := hT.1
  have t2 := hT.2
  constructor <;> omega

theorem mid_rec {P v r : Nat} (hP0 : 0 < P) (h1 : P ≤ v * 2000000000) (h2 : v * 1000000000 ≤ 2251799813685248 * P) (h : Ap 3 (r * v) (P * P)) : Midd P r := by
  constructor
  · have t : P * P ≤ 2 * (r * v) := by have := h.2; omega
    have t2 : r * v ≤ r * (2251799813685248 * P) := Nat.mul_le_mul_left _ (by omega)
    have t3 : P * P ≤ (2 * r * 2251799813685248) * P := by
      calc P * P ≤ 2 * (r * (2251799813685248 * P)) := by omega
        _ = (2 * r * 2251799813685248) * P := by simp only [Nat.mul_assoc]
    have t4 := Nat.le_of_mul_le_mul_right t3 hP0
    omega
  · have t : r * v ≤ 2 * (P * P) := by have := h.1; omega
    have t2 : r * P ≤ r * (v * 2000000000) := Nat.mul_le_mul_left _ h1
    have t3 : r * P ≤ (4000000000 * P) * P := by
      calc r * P ≤ r * (v * 2000000000) := t2
        _ = (r * v) * 2000000000 := (Nat.mul_assoc ..).symm
        _ ≤ 2 * (P * P) * 2000000000 := Nat.mul_le_mul_right _ t
        _ = (4000000000 * P) * P := by rw [Nat.mul_assoc 4000000000]; omega
    have t4 := Nat.le_of_mul_le_mul_right t3 hP0
    omega

theorem mid_z {P v D : Nat} (hS : Ap 5 (v * 1000000000) D) (hd1 : P ≤ D) (hd2 : D ≤ 1125899906842624 * P) : P ≤ v * 2000000000 ∧ v * 1000000000 ≤ 2251799813685248 * P ∧ Midd P v := by
  have t1 := hS.le2 (by decide)
  have t2 := hS.symm.le2 (by decide)
  clear hS
  exact ⟨by omega, by omega, by omega, by omega⟩

theorem fin_lo {v P Q : Nat} (hX : Ap 11 v (1000000000 * P)) (hQ : P = 2 ^ 23 * Q) (hP0 : 0 < P) : 8388607999916114 * Q < v := by
  have := hX.2
  rw [hQ] at this hP0
  omega

theorem fin_hi {v P Q : Nat} (hX : Ap 11 v (1000000000 * P)) (hQ : P = 2 ^ 23 * Q) (hP0 : 0 < P) : v < 8388608000083886 * Q := by
  have := hX.1
  rw [hQ] at this hP0
  omega

theorem every_plain (d : Nat) (h0 : 0 < d) (h1 : d ≤ 1125899906842624) :
    ∃ b z r x, double.div (G 0 ((d % 1000000000 : Nat) : Int)) 4741671816366391296 = some b ∧ double.add (G 0 ((d / 1000000000 : Nat) : Int)) b = some z ∧
      double.div 4607182418800017408 z = some r ∧ double.mul r (G 0 (d : Int)) = some x ∧
      double.order r 9218868437227405311 = some .lt ∧ double.order x 4741671816366307410 = some .gt ∧ double.order x 4741671816366475182 = some .lt := by
  obtain ⟨s, P, S, _⟩ := scale_ex
  have hP0 := S.pos
  rw [c1e9, c1]
  have hdm := Nat.div_add_mod d 1000000000
  have hml := Nat.mod_lt d (show 0 < 1000000000 by decide)
  generalize d / 1000000000 = q at *
  generalize d % 1000000000 = n at *
  -- the quotient of the nanoseconds
  obtain ⟨b, vb, hb, hvb, hab⟩ : ∃ b vb, double.div (G 0 (n : Int)) (G 0 ((1000000000 : Nat) : Int)) = some b ∧ Val s b vb ∧ Ap 3 (vb * 1000000000) (n * P) := by
    by_cases hz : n = 0
    · rw [hz]
      refine ⟨G 0 0, 0 * P, ?_, S.num 0 (by omega), ?_⟩
      · exact div_G 0 0 0 0 _ 0 0 (by decide) (by decide) (by decide) (by decide) (by decide) (by decide) (by decide) (by decide) (by decide) (by decide)
      · simp only [Nat.zero_mul]; exact Ap.refl _ _
    · obtain ⟨b, vb, e1, e2, e3, e4⟩ := S.div (S.num n (by omega)) (S.num 1000000000 (by omega)) (S.midNum n (by omega) (by omega)) (S.midNum 1000000000 (by omega) (by omega))
      refine ⟨b, vb, e1, e2, ?_⟩
      rw [← Nat.mul_assoc] at e4
      exact e4.cancel hP0
  -- the sum
  have hT : Ap 3 ((q * P + vb) * 1000000000) (d * P) := by
    have := hab.add (q * P * 1000000000)
    rw [Nat.add_mul]
    have e : q * P * 1000000000 + n * P = d * P := by
      rw [← hdm, Nat.add_mul, Nat.mul_right_comm, Nat.mul_comm q 1000000000]
    rwa [e] at this
  have hd1 : P ≤ d * P := Nat.le_mul_of_pos_left _ h0
  have hd2 : d * P ≤ 1125899906842624 * P := Nat.mul_le_mul_right _ h1
  obtain ⟨z, vz, hz, hvz, hz0, haz⟩ := S.add (S.num q (by omega)) hvb (mid_sum hT hd1 hd2)
  have hS : Ap 5 (vz * 1000000000) (d * P) := (haz.mul 1000000000).trans hT (by decide)
  obtain ⟨hzb1, hzb2, hzm⟩ := mid_z hS hd1 hd2
  -- one over it
  obtain ⟨r, vr, hr, hvr, hr0, har⟩ := S.div (S.num 1 (by omega)) hvz (S.midNum 1 (by omega) (by omega)) hzm
  rw [Nat.one_mul] at har
  have hrm : Midd P vr := mid_rec hP0 hzb1 hzb2 har
  -- times the interval
  obtain ⟨x, vx, hx, hvx, hx0, hax⟩ := S.mul hvr (S.num d (by omega)) hrm (S.midNum d h0 (by omega))
  have hX : Ap 11 vx (1000000000 * P) := by
    have a1 : Ap 1 vx (vr * d) := by
      rw [← Nat.mul_assoc] at hax
      exact hax.cancel hP0
    have a2 : Ap 1 (vx * vz) (vr * vz * d) := by have := a1.mul vz; rwa [Nat.mul_right_comm vr] at this
    have a3 : Ap 3 (vr * vz * d) (d * P * P) := by
      have := har.mul d
      rwa [show P * P * d = d * P * P from by rw [Nat.mul_comm, Nat.mul_assoc]] at this
    have a4 : Ap 5 (d * P * P) (vz * 1000000000 * P) := (hS.symm).mul P
    have a5 : Ap 11 (vx * vz) (1000000000 * P * vz) := by
      have := (a2.trans a3 (by decide)).trans a4 (by decide)
      rwa [show vz * 1000000000 * P = 1000000000 * P * vz from by rw [Nat.mul_assoc, Nat.mul_comm]] at this
    exact a5.cancel hz0
  obtain ⟨Q, hQ⟩ := S.part 23 (by omega)
  have vlo := S.word read_lo (by decide) (by omega) Q hQ
  have vhi := S.word read_hi (by decide) (by omega) Q hQ
  refine ⟨b, z, r, x, hb, hz, hr, hx, S.max hvr hr0 hrm, ?_, ?_⟩
  · rw [order_val hvx vlo]
    exact congrArg some (Nat.compare_eq_gt.2 (fin_lo hX hQ hP0))
  · rw [order_val hvx vhi]
    exact congrArg some (Nat.compare_eq_lt.2 (fin_hi hX hQ hP0))

end Go.Proofs.Ytoleeipbhhmeiaa.Flt
