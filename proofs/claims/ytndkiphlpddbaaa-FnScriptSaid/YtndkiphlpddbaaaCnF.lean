/- Plain facts on doubles that cancelling needs: the time of a negative number of tokens. No program here. -/
import Derived.Test.YtndkiphlpddbaaaRtP
namespace Go.Proofs.Ytndkiphlpddbaaa.Flt
open Ieee

/-- Rounding does not look at the sign. -/
theorem nearest_word (m : Nat) (p : Int) : ∃ K : Nat, K ≤ 9218868437227405312 ∧ ∀ neg, double.nearest neg m p = double.word neg K := by
  by_cases h : m = 0
  · exact ⟨0, by omega, fun neg => by unfold Format.nearest; rw [if_pos h]⟩
  · refine ⟨min ((max (p + (m.log2 : Int) - double.fractionBits) double.leastPlace - double.leastPlace).toNat * double.binade + Toward.even.cut false (m <<< (p - max (p + (m.log2 : Int) - double.fractionBits) double.leastPlace).toNat) (max (p + (m.log2 : Int) - double.fractionBits) double.leastPlace - p).toNat) double.infRung, ?_, fun neg => ?_⟩
    · rw [infRung_double]; exact Nat.min_le_right ..
    · unfold Format.nearest; rw [if_neg h]; rfl

/-- What a finite word reads as, but for its sign. -/
theorem read_both (K : Nat) (h : K < 9218868437227405312) : ∃ M E, ∀ neg, double.read (double.word neg K) = .number neg M E := by
  have e : ∀ neg : Bool, (double.word neg K) % 9223372036854775808 = K ∧ ((double.word neg K) / 9223372036854775808 % 2 == 1) = neg := by
    intro neg
    unfold Format.word
    rw [signWeight_double]
    cases neg
    · rw [if_neg (by simp)]
      exact ⟨by omega, by rw [show K / 9223372036854775808 = 0 by omega]; rfl⟩
    · rw [if_pos rfl]
      exact ⟨by omega, by rw [show (9223372036854775808 + K) / 9223372036854775808 = 1 by omega]; rfl⟩
  by_cases hb : K < 4503599627370496
  · refine ⟨K, -1074, fun neg => ?_⟩
    obtain ⟨e1, e2⟩ := e neg
    unfold Format.read
    rw [signWeight_double, binade_double, infRung_double, leastPlace_double]
    simp only [e1, e2]
    rw [if_pos hb]
  · refine ⟨4503599627370496 + K % 4503599627370496, -1074 + ((K / 4503599627370496 - 1 : Nat) : Int), fun neg => ?_⟩
    obtain ⟨e1, e2⟩ := e neg
    unfold Format.read
    rw [signWeight_double, binade_double, infRung_double, leastPlace_double]
    simp only [e1, e2]
    rw [if_neg hb, if_pos h]

theorem read_inf (neg : Bool) : double.read (double.word neg 9218868437227405312) = .infinity neg := by cases neg <;> decide +kernel

/-- Two words that are a number and its opposite. -/
def Opp (x x' : Nat) : Prop := ∃ M E, double.read x = .number false M E ∧ double.read x' = .number true M E

theorem opp_nearest (m : Nat) (p : Int) (h : double.read (double.nearest false m p) ≠ .infinity false) : Opp (double.nearest false m p) (double.nearest true m p) := by
  obtain ⟨K, hK, hw⟩ := nearest_word m p
  rw [hw] at h
  have hlt : K < 9218868437227405312 := by
    rcases Nat.lt_or_eq_of_le hK with h1 | h1
    · exact h1
    · exact absurd (by rw [h1]; exact read_inf false) h
  obtain ⟨M, E, hr⟩ := read_both K hlt
  exact ⟨M, E, by rw [hw]; exact hr false, by rw [hw]; exact hr true⟩

theorem opp_G (n : Nat) (h0 : 0 < n) (h1 : n < 9007199254740992) : Opp (G 0 (n : Int)) (G 0 (-(n : Int))) := by
  obtain ⟨k, hk, hl⟩ := read_G 0 (n : Int) (by omega) (by decide) (by decide)
  obtain ⟨k', hk', hl'⟩ := read_G 0 (-(n : Int)) (by omega) (by decide) (by decide)
  have a := hl (by omega)
  have b := hl' (by omega)
  rw [Int.natAbs_neg] at b
  have : k' = k := by omega
  subst this
  refine ⟨n <<< k', 0 - (k' : Int), ?_, ?_⟩
  · rw [hk]; simp only [show ¬ (n : Int) < 0 from by omega, decide_false, Int.natAbs_natCast]
  · rw [hk']; simp only [show -(n : Int) < 0 from by omega, decide_true, Int.natAbs_neg, Int.natAbs_natCast]

theorem opp_div {x x' y q : Nat} (h : Opp x x') {n : Nat} {j : Int} (hy : double.read y = .number false n j) (hn : n ≠ 0) (hq : double.div x y = some q) (hfin : double.read q ≠ .infinity false) : ∃ q', double.div x' y = some q' ∧ Opp q q' := by
  obtain ⟨M, E, h1, h2⟩ := h
  unfold Format.div at hq ⊢
  rw [h1, hy] at hq
  rw [h2, hy]
  simp only [Datum.quotient, if_neg hn, Option.map_some, Bool.xor_false] at hq ⊢
  injection hq with hq
  subst hq
  exact ⟨_, rfl, opp_nearest _ _ hfin⟩

theorem opp_mul {x x' y q : Nat} (h : Opp x x') {n : Nat} {j : Int} (hy : double.read y = .number false n j) (hq : double.mul x y = some q) (hfin : double.read q ≠ .infinity false) : ∃ q', double.mul x' y = some q' ∧ Opp q q' := by
  obtain ⟨M, E, h1, h2⟩ := h
  unfold Format.mul at hq ⊢
  rw [h1, hy] at hq
  rw [h2, hy]
  simp only [Datum.product, Option.map_some, Bool.xor_false] at hq ⊢
  injection hq with hq
  subst hq
  exact ⟨_, rfl, opp_nearest _ _ hfin⟩

theorem opp_toInt {x x' : Nat} (h : Opp x x') : ∃ v : Nat, (double.read x).toInt .zero = some (v : Int) ∧ (double.read x').toInt .zero = some (-(v : Int)) := by
  obtain ⟨M, E, h1, h2⟩ := h
  rw [h1, h2]
  refine ⟨Toward.zero.cut false (M <<< E.toNat) (-E).toNat, ?_, ?_⟩
  · unfold Datum.toInt Datum.integral signed
    simp
  · unfold Datum.toInt Datum.integral signed
    simp [cut_trunc]

/-- The time of as many tokens below none. -/
theorem W_neg (r n : Nat) (hr0 : 0 < r) (hr1 : r ≤ 1000) (hn0 : 0 < n) (hn1 : n ≤ 1000) :
    ∃ q y, double.div (G 0 (-(n : Int))) (G 0 (r : Int)) = some q ∧ double.mul q 4741671816366391296 = some y ∧ (double.order y 4890909195324358656 == some .gt) = false ∧ floatToIntVal .f64 y .i64 = some (-(W (r : Int) ((n : Int) * 512))) := by
  obtain ⟨q, y, e1, e2, e3, e4, v, hv, hb1, hb2⟩ := W_ok r (n * 512) hr0 hr1 (by omega) (by omega)
  have hG : G (-9) ((n * 512 : Nat) : Int) = G 0 (n : Int) := by rw [G_512]; congr 1
  rw [hG] at e1
  rw [show (((n * 512 : Nat)) : Int) = (n : Int) * 512 from by omega] at e4 hv
  obtain ⟨k, hk, hl⟩ := read_G 0 (r : Int) (by omega) (by decide) (by decide)
  simp only [show ¬ (r : Int) < 0 from by omega, decide_false, Int.natAbs_natCast] at hk
  have hl := hl (by omega)
  have hr : r <<< k ≠ 0 := by
    have := (shl_bounds r k (by omega) (by simpa using hl)).1
    omega
  have hc : ∃ n0 j0, double.read 4741671816366391296 = .number false n0 j0 := ⟨_, _, by rw [c1e9]; exact (read_G 0 1000000000 (by decide) (by decide) (by decide)).choose_spec.1⟩
  obtain ⟨n0, j0, hc⟩ := hc
  have hy : double.read y ≠ .infinity false := by
    intro h
    have e4' := e4
    unfold floatToIntVal at e4'
    rw [show FloatKind.f64.decode y = double.read y from rfl, h] at e4'
    simp [Datum.toInt, Datum.integral] at e4'
  have hq : double.read q ≠ .infinity false := by
    intro h
    unfold Format.mul at e2
    rw [h, hc] at e2
    simp only [Datum.product] at e2
    split at e2
    · cases e2
    · simp only [Option.map_some] at e2
      injection e2 with e2
      apply hy
      rw [← e2]
      show double.read (double.write (.infinity (false ^^ false))) = _
      show double.read (double.word false double.infRung) = _
      rw [infRung_double]; exact read_inf false
  obtain ⟨q', d1, o1⟩ := opp_div (opp_G n hn0 (by omega)) hk hr e1 hq
  obtain ⟨y', d2, o2⟩ := opp_mul o1 hc e2 hy
  refine ⟨q', y', d1, d2, ?_, ?_⟩
  · obtain ⟨M, E, _, h2⟩ := o2
    unfold Format.order
    rw [h2, read_c63]
    simp only [Datum.order]
    have a : signed true M (E - min E 11).toNat ≤ 0 := by unfold signed; simp only [if_true]; exact Int.neg_nonpos_of_nonneg (Int.natCast_nonneg _)
    have b : 0 < signed false 4503599627370496 (11 - min E 11).toNat := by
      rw [signed_false]
      have := Nat.mul_pos (show 0 < 4503599627370496 by decide) (Nat.two_pow_pos (11 - min E 11).toNat)
      generalize 4503599627370496 * 2 ^ (11 - min E 11).toNat = X at *
      omega
    rw [show compare (signed true M (E - min E 11).toNat) (signed false 4503599627370496 (11 - min E 11).toNat) = .lt from Int.compare_eq_lt.2 (by omega)]
    rfl
  · obtain ⟨u, t1, t2⟩ := opp_toInt o2
    unfold floatToIntVal at e4 ⊢
    rw [show FloatKind.f64.decode y = double.read y from rfl, t1] at e4
    rw [show FloatKind.f64.decode y' = double.read y' from rfl, t2]
    dsimp only at e4 ⊢
    split at e4
    · rename_i hr
      injection e4 with e4
      rw [← e4]
      have hr' : (-9223372036854775808 : Int) ≤ (u : Int) ∧ (u : Int) ≤ 9223372036854775807 := hr
      rw [if_pos]
      show (-9223372036854775808 : Int) ≤ -(u : Int) ∧ -(u : Int) ≤ 9223372036854775807
      omega
    · cases e4

end Go.Proofs.Ytndkiphlpddbaaa.Flt
