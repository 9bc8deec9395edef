/- Plain facts on the limiter's doubles: tokens in 512ths, the time till there are enough. No program here. -/
import Derived.Test.YtndkiphlpddbaaaFlt
namespace Go.Proofs.Ytndkiphlpddbaaa.Flt
open Ieee

theorem c1e9 : (4741671816366391296 : Nat) = G 0 1000000000 := by decide +kernel

theorem G_512 (a : Int) : G 0 a = G (-9) (a * 512) := by
  have := G_shl (-9) a 9
  rw [show (a * 2 ^ 9 : Int) = a * 512 from by rw [show (2 ^ 9 : Int) = 512 from by decide]] at this
  rw [this]; congr 1

/-- The seconds of a number of ticks. -/
theorem ticks_div (m : Int) : double.div (G 0 (m * 1953125 % 1000000000)) 4741671816366391296 = some (G (-9) (m % 512)) := by
  rw [c1e9, show m * 1953125 % 1000000000 = m % 512 * 1953125 from by omega]
  refine div_G 0 0 (-9) _ _ _ 9 (by omega) (by decide) (by decide) (by decide) (by decide) ?_ (by decide) (by decide) (by decide) (by decide)
  rw [show (2 ^ 9 : Int) = 512 from by decide]; omega

theorem ticks_add (m : Int) (h0 : 0 ≤ m) (h1 : m ≤ 4503599627370496) : double.add (G 0 (m * 1953125 / 1000000000)) (G (-9) (m % 512)) = some (G (-9) m) := by
  rw [show m * 1953125 / 1000000000 = m / 512 from by omega, G_512, add_G (-9) _ _ (by omega) (by omega) (by decide) (by decide)]
  congr 2; omega

theorem ticks_mul (m r : Int) (h0 : 0 ≤ m) (h1 : m ≤ 4503599627370496) (hr0 : 0 < r) (hr1 : r ≤ 1000) : double.mul (G (-9) m) (G 0 r) = some (G (-9) (m * r)) :=
  mul_G (-9) 0 m r (by omega) (by omega) hr0 (by decide) (by decide) (by decide) (by decide)

theorem ord_gt (a b : Int) (ha : a.natAbs < 9007199254740992) (hb : b.natAbs < 9007199254740992) : (double.order (G (-9) a) (G (-9) b) == some .gt) = decide (b < a) := by
  rw [order_G (-9) a b ha hb (by decide) (by decide)]
  by_cases h : b < a
  · rw [show compare a b = .gt from Int.compare_eq_gt.2 h]; simp [h]
  · have : compare a b ≠ .gt := fun hh => h (Int.compare_eq_gt.1 hh)
    simp only [h, decide_false]
    exact beq_eq_false_iff_ne.2 (fun hh => this (by injection hh))

theorem ord_lt (a b : Int) (ha : a.natAbs < 9007199254740992) (hb : b.natAbs < 9007199254740992) : (double.order (G (-9) a) (G (-9) b) == some .lt) = decide (a < b) := by
  rw [order_G (-9) a b ha hb (by decide) (by decide)]
  by_cases h : a < b
  · rw [show compare a b = .lt from Int.compare_eq_lt.2 h]; simp [h]
  · have : compare a b ≠ .lt := fun hh => h (Int.compare_eq_lt.1 hh)
    simp only [h, decide_false]
    exact beq_eq_false_iff_ne.2 (fun hh => this (by injection hh))

/-- A positive rate is not below or at zero, and not the infinite one. -/
theorem rate_pos (r : Int) (hr0 : 0 < r) (hr1 : r ≤ 1000) : (double.order (G 0 r) 0 == some .lt || double.order (G 0 r) 0 == some .eq) = false := by
  have h := order_G 0 r 0 (by omega) (by decide) (by decide) (by decide)
  rw [G_zero] at h
  rw [h, show compare r 0 = .gt from Int.compare_eq_gt.2 hr0]
  rfl

theorem rate_inf (r : Int) (hr0 : 0 < r) (hr1 : r ≤ 1000) : (double.order (G 0 r) 9218868437227405311 == some .eq) = false := by
  obtain ⟨k, hk, hl⟩ := read_G 0 r (by omega) (by decide) (by decide)
  have hl := hl (by omega)
  rw [order_below _ _ _ _ _ _ _ hk read_max (by omega) (shl_bounds _ _ (by omega) hl).2 (by decide)]
  rfl

/-! ### the first fill: the time since year 1 is the longest duration -/
theorem first_fill (r b : Int) (hr0 : 0 < r) (hr1 : r ≤ 1000) (hb0 : 0 ≤ b) (hb1 : b ≤ 100) :
    ∃ q z p s, double.div (G 0 (9223372036854775807 % 1000000000)) 4741671816366391296 = some q ∧ double.add (G 0 (9223372036854775807 / 1000000000)) q = some z ∧
      double.mul z (G 0 r) = some p ∧ double.add (G (-9) (b * 512)) p = some s ∧ (double.order s (G 0 b) == some .gt) = true := by
  obtain ⟨s, P, S, hs⟩ := scale_ex
  have hP0 := S.pos
  obtain ⟨rn, rfl⟩ := Int.eq_ofNat_of_zero_le (Int.le_of_lt hr0)
  obtain ⟨bn, rfl⟩ := Int.eq_ofNat_of_zero_le hb0
  rw [c1e9, show (9223372036854775807 % 1000000000 : Int) = ((854775807 : Nat) : Int) from by decide, show (9223372036854775807 / 1000000000 : Int) = ((9223372036 : Nat) : Int) from by decide, show (1000000000 : Int) = ((1000000000 : Nat) : Int) from rfl, ← G_512]
  obtain ⟨q, vq, e1, v1, _, a1⟩ := S.div (S.num 854775807 (by decide)) (S.num 1000000000 (by decide)) (S.midNum 854775807 (by decide) (by decide)) (S.midNum 1000000000 (by decide) (by decide))
  have a1' : Ap 3 (vq * 1000000000) (854775807 * P) := by
    rw [← Nat.mul_assoc] at a1; exact a1.cancel hP0
  have hq : vq ≤ 2 * P := by have := a1'.le2 (by decide); omega
  obtain ⟨z, vz, e2, v2, _, a2⟩ := S.add (S.num 9223372036 (by decide)) v1 (by constructor <;> omega)
  have hz1 : vz ≤ 2 * (9223372036 * P + vq) := a2.le2 (by decide)
  have hz2 : 9223372036 * P + vq ≤ 2 * vz := a2.symm.le2 (by decide)
  obtain ⟨p, vp, e3, v3, _, a3⟩ := S.mul v2 (S.num rn (by omega)) (by constructor <;> omega) (S.midNum rn (by omega) (by omega))
  have a3' : Ap 1 vp (vz * rn) := by
    rw [← Nat.mul_assoc] at a3; exact a3.cancel hP0
  have hp1 : vp ≤ 2 * (vz * rn) := a3'.le2 (by decide)
  have hp2 : vz * rn ≤ 2 * vp := a3'.symm.le2 (by decide)
  have hvr1 : vz * 1 ≤ vz * rn := Nat.mul_le_mul_left _ (by omega)
  have hvr2 : vz * rn ≤ vz * 1000 := Nat.mul_le_mul_left _ (by omega)
  have hbP : bn * P ≤ 100 * P := Nat.mul_le_mul_right _ (by omega)
  obtain ⟨t, vt, e4, v4, _, a4⟩ := S.add (S.num bn (by omega)) v3 (by constructor <;> omega)
  have ht : bn * P + vp ≤ 2 * vt := a4.symm.le2 (by decide)
  refine ⟨q, z, p, t, e1, e2, e3, e4, ?_⟩
  rw [order_val v4 (S.num bn (by omega)), show compare vt (bn * P) = .gt from Nat.compare_eq_gt.2 (by omega)]
  rfl

/-! ### the time till there are enough -/
/-- The nanoseconds that d 512ths of a token take at a rate, as the code reckons them. -/
def W (r d : Int) : Int :=
  match double.div (G (-9) d) (G 0 r) with
  | none => 0
  | some q => match double.mul q 4741671816366391296 with
    | none => 0
    | some y => (floatToIntVal .f64 y .i64).getD 0

theorem toInt_val {s P x v : Nat} (S : Scale s P) (hx : Val s x v) : (double.read x).toInt .zero = some ((v / P : Nat) : Int) := by
  obtain ⟨M, E, hr, hE, rfl, hM⟩ := hx
  rw [hr]
  unfold Datum.toInt Datum.integral
  simp only [signed_false, cut_trunc, Nat.pow_zero, Nat.mul_one]
  congr 2
  rw [S.eq, Nat.shiftLeft_eq]
  by_cases h : 0 ≤ E
  · rw [show (-E).toNat = 0 by omega, Nat.pow_zero, Nat.div_one, show (E + s).toNat = E.toNat + s by omega, Nat.pow_add, ← Nat.mul_assoc, Nat.mul_div_cancel _ (Nat.two_pow_pos s)]
  · rw [show E.toNat = 0 by omega, Nat.pow_zero, Nat.mul_one]
    have : s = (E + s).toNat + (-E).toNat := by omega
    rw [show (2 : Nat) ^ s = 2 ^ (-E).toNat * 2 ^ (E + s).toNat from by rw [← Nat.pow_add]; congr 1; omega]
    rw [Nat.mul_div_mul_right _ _ (Nat.two_pow_pos _)]

theorem wait_arith {v r D P : Nat} (hP : 0 < P) (hD : D ≤ 17592186044416) (h : Ap 5 (v * r) (D * P)) : v / P * r ≤ D ∧ D ≤ (v / P + 1) * r := by
  have h1 := h.1
  have h2 := h.2
  have l2 := h.le2 (by decide)
  have hDP : D * P ≤ 17592186044416 * P := Nat.mul_le_mul_right _ hD
  have u1 : v * r < (D + 1) * P := by
    rw [Nat.add_mul, Nat.one_mul]
    generalize v * r = a at *
    generalize D * P = b at *
    omega
  have u2 : D * P < v * r + P := by
    generalize v * r = a at *
    generalize D * P = b at *
    omega
  have d1 := Nat.div_mul_le_self v P
  have d2 := Nat.lt_div_mul_add (a := v) hP
  constructor
  · have : v / P * r * P < (D + 1) * P := by
      calc v / P * r * P = (v / P * P) * r := Nat.mul_right_comm ..
        _ ≤ v * r := Nat.mul_le_mul_right _ d1
        _ < (D + 1) * P := u1
    have := Nat.lt_of_mul_lt_mul_right this
    omega
  · apply Nat.le_of_lt_succ
    apply Nat.lt_of_mul_lt_mul_right (a := P)
    have h3 : v * r ≤ (v / P * P + P) * r := Nat.mul_le_mul_right _ (Nat.le_of_lt d2)
    have h4 : (v / P * P + P) * r = (v / P + 1) * r * P := by rw [Nat.mul_right_comm, Nat.add_mul (v / P) 1 P, Nat.one_mul]
    rw [Nat.succ_eq_add_one, Nat.add_mul ((v / P + 1) * r), Nat.one_mul]
    omega

theorem W_ok (r d : Nat) (hr0 : 0 < r) (hr1 : r ≤ 1000) (hd0 : 0 < d) (hd1 : d ≤ 8388608) :
    ∃ q y, double.div (G (-9) (d : Int)) (G 0 (r : Int)) = some q ∧ double.mul q 4741671816366391296 = some y ∧ (double.order y 4890909195324358656 == some .gt) = false ∧
      floatToIntVal .f64 y .i64 = some (W r d) ∧ ∃ n : Nat, W r d = n ∧ n * r ≤ d * 1953125 ∧ d * 1953125 ≤ (n + 1) * r := by
  obtain ⟨s, P, S, hs⟩ := scale_ex
  have hP0 := S.pos
  obtain ⟨Q, hQ⟩ := S.part 9 (by omega)
  have hQ' : P = 512 * Q := hQ
  have vd : Val s (G (-9) (d : Int)) (d * Q) := by
    have := val_G s (-9) d S.s1 (by omega) (by decide) (by decide)
    have hp : 2 ^ ((-9 : Int) + s).toNat = Q := by
      apply Nat.eq_of_mul_eq_mul_left (show 0 < 2 ^ 9 by decide)
      rw [← hQ, S.eq, ← Nat.pow_add]; congr 1; omega
    rwa [hp] at this
  have hdQ1 : 1 * Q ≤ d * Q := Nat.mul_le_mul_right _ hd0
  have hdQ2 : d * Q ≤ 8388608 * Q := Nat.mul_le_mul_right _ hd1
  obtain ⟨q, vq, e1, v1, p1, a1⟩ := S.div vd (S.num r (by omega)) (by constructor <;> omega) (S.midNum r hr0 (by omega))
  have a1' : Ap 3 (vq * r) (d * Q) := by
    rw [← Nat.mul_assoc] at a1; exact a1.cancel hP0
  have l1 := a1'.le2 (by decide)
  have l2 := a1'.symm.le2 (by decide)
  have g1 : vq * 1 ≤ vq * r := Nat.mul_le_mul_left _ hr0
  have g2 : vq * r ≤ vq * 1000 := Nat.mul_le_mul_left _ hr1
  obtain ⟨y, vy, e2, v2, p2, a2⟩ := S.mul v1 (S.num 1000000000 (by decide)) (by constructor <;> omega) (S.midNum 1000000000 (by decide) (by decide))
  have a2' : Ap 1 vy (vq * 1000000000) := by
    rw [← Nat.mul_assoc] at a2; exact a2.cancel hP0
  have hA : Ap 5 (vy * r) (d * 1953125 * P) := by
    have k1 := a2'.mul r
    have k2 := a1'.mul 1000000000
    rw [Nat.mul_right_comm] at k1
    rw [Nat.mul_right_comm vq] at k2
    rw [Nat.mul_right_comm vq] at k1
    have := k1.trans k2 (by decide)
    rwa [show d * Q * 1000000000 = d * 1953125 * P from by rw [hQ']; simp only [Nat.mul_assoc]; congr 1; omega] at this
  obtain ⟨w1, w2⟩ := wait_arith hP0 (by omega) hA
  have e1' : double.div (G (-9) (d : Int)) (G 0 (r : Int)) = some q := e1
  have e2' : double.mul q 4741671816366391296 = some y := by rw [c1e9]; exact e2
  have hn : vy / P ≤ 17592186044416 := by
    have : vy / P * 1 ≤ vy / P * r := Nat.mul_le_mul_left _ hr0
    omega
  have hv : vy < 17592186044417 * P := by
    have := Nat.lt_div_mul_add (a := vy) hP0
    have h2 : vy / P * P ≤ 17592186044416 * P := Nat.mul_le_mul_right _ hn
    omega
  have vC : Val s 4890909195324358656 (4503599627370496 * 2 ^ ((11 : Int) + s).toNat) := ⟨_, _, read_c63, by omega, rfl, by decide⟩
  have eC : 4503599627370496 * 2 ^ ((11 : Int) + s).toNat = 9223372036854775808 * P := by
    rw [show ((11 : Int) + s).toNat = 11 + s by omega, Nat.pow_add, S.eq, ← Nat.mul_assoc]
  rw [eC] at vC
  have hc : double.order y 4890909195324358656 = some .lt := by
    rw [order_val v2 vC]
    exact congrArg some (Nat.compare_eq_lt.2 (by omega))
  have hf : floatToIntVal .f64 y .i64 = some ((vy / P : Nat) : Int) := by
    unfold floatToIntVal
    rw [show (FloatKind.f64.decode y).toInt .zero = some ((vy / P : Nat) : Int) from toInt_val S v2]
    dsimp only
    rw [if_pos]
    show (-9223372036854775808 : Int) ≤ ((vy / P : Nat) : Int) ∧ ((vy / P : Nat) : Int) ≤ (9223372036854775807 : Int)
    generalize vy / P = n at hn
    omega
  have hW : W r d = ((vy / P : Nat) : Int) := by
    unfold W
    rw [e1']; dsimp only
    rw [e2']; dsimp only
    rw [hf]; rfl
  exact ⟨q, y, e1', e2', by rw [hc]; rfl, by rw [hW]; exact hf, _, hW, w1, w2⟩

/-- At a rate that is a power of two the time is exact. -/
theorem W_pow (j : Nat) (d : Int) (hj : j ≤ 6) (hd0 : 0 ≤ d) (hd1 : d ≤ 8388608) : W (2 ^ j) d = d * 1953125 / 2 ^ j := by
  have hr : (2 : Int) ^ j ≤ 64 := by
    have h : ∀ i : Fin 7, (2 : Int) ^ i.val ≤ 64 := by decide
    exact h ⟨j, by omega⟩
  have hr0 : (0 : Int) < 2 ^ j := pow_pos j
  have e1 : double.div (G (-9) d) (G 0 (2 ^ j)) = some (G (-9 - j) d) :=
    div_G (-9) 0 (-9 - j) d _ d j (by omega) (by omega) hr0 (by omega) (by omega) (Int.mul_comm ..) (by decide) (by decide) (by decide) (by decide)
  have e2 : double.mul (G (-9 - j) d) 4741671816366391296 = some (G (-((9 + j : Nat) : Int)) (d * 1000000000)) := by
    rw [c1e9, mul_G (-9 - j) 0 d 1000000000 (by omega) (by decide) (by decide) (by omega) (by omega) (by decide) (by decide)]
    congr 2; omega
  have e3 : floatToIntVal .f64 (G (-((9 + j : Nat) : Int)) (d * 1000000000)) .i64 = some (d * 1953125 / 2 ^ j) := by
    have h := toInt_G (9 + j) (d * 1000000000) (by omega) (by omega)
    rw [Int.tdiv_eq_ediv_of_nonneg (by omega), Int.pow_add, show (2 ^ 9 : Int) = 512 from by decide, ← Int.ediv_ediv_of_nonneg (by decide), show d * 1000000000 / 512 = d * 1953125 from by omega] at h
    unfold floatToIntVal
    rw [show (FloatKind.f64.decode (G (-((9 + j : Nat) : Int)) (d * 1000000000))).toInt .zero = some (d * 1953125 / 2 ^ j) from h]
    dsimp only
    have h1 : 0 ≤ d * 1953125 / 2 ^ j := Int.ediv_nonneg (by omega) (by omega)
    have h2 : d * 1953125 / 2 ^ j ≤ d * 1953125 := Int.ediv_le_self _ (by omega)
    rw [if_pos]
    show (-9223372036854775808 : Int) ≤ d * 1953125 / 2 ^ j ∧ d * 1953125 / 2 ^ j ≤ (9223372036854775807 : Int)
    generalize d * 1953125 / 2 ^ j = z at *
    omega
  unfold W
  rw [e1]; dsimp only
  rw [e2]; dsimp only
  rw [e3]; rfl

theorem xor_top (R : Nat) (h : R < 9223372036854775808) : (9223372036854775808 + R) ^^^ 9223372036854775808 = R := by
  rw [show (9223372036854775808 : Nat) = 2 ^ 63 from rfl] at *
  apply Nat.eq_of_testBit_eq
  intro i
  rw [Nat.testBit_xor]
  rcases Nat.lt_trichotomy i 63 with h1 | h1 | h1
  · rw [Nat.testBit_two_pow_add_gt h1, Nat.testBit_two_pow_of_ne (by omega), Bool.xor_false]
  · subst h1
    rw [Nat.testBit_two_pow_add_eq, Nat.testBit_two_pow_self, Nat.testBit_lt_two_pow h]; rfl
  · rw [Nat.testBit_two_pow_of_ne (by omega), Bool.xor_false, Nat.testBit_lt_two_pow (x := R) (i := i) (Nat.lt_trans h (Nat.pow_lt_pow_right (by decide) h1))]
    exact Nat.testBit_lt_two_pow (Nat.lt_of_lt_of_le (show 2 ^ 63 + R < 2 ^ 64 by omega) (Nat.pow_le_pow_right (by decide) h1))

theorem neg_G (p a : Int) (h : a < 0) (ha : a.natAbs < 9007199254740992) (hp1 : -1000 ≤ p) (hp2 : p ≤ 900) : G p a ^^^ 9223372036854775808 = G p (-a) := by
  have h53 : a.natAbs.log2 < 53 := (Nat.log2_lt (by omega)).2 (by omega)
  obtain ⟨hb1, hb2⟩ := shl_bounds a.natAbs (52 - a.natAbs.log2) (by omega) (by omega)
  have hn : ¬ (-a) < 0 := by omega
  unfold G
  rw [Int.natAbs_neg, kept_exact _ a.natAbs (52 - a.natAbs.log2) p (by omega) (by omega) (by omega) (by omega), kept_exact _ a.natAbs (52 - a.natAbs.log2) p (by omega) (by omega) (by omega) (by omega)]
  simp only [h, hn, decide_true, decide_false]
  unfold Format.word
  rw [signWeight_double]
  simp only [if_true, Bool.false_eq_true, if_false]
  exact xor_top _ (by omega)

end Go.Proofs.Ytndkiphlpddbaaa.Flt
