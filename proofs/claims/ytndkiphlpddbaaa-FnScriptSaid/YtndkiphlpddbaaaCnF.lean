/- Plain facts on doubles that cancelling needs: the time of a negative number of tokens; a rounded sum lies where the sum lies. No program here. -/
import Derived.Test.YtndkiphlpddbaaaRtP
namespace Go.Proofs.Ytndkiphlpddbaaa.Flt
open Ieee

/-- Rounding does not look at the sign. -/
theorem nearest_word (m : Nat) (p : Int) : ∃ K : Nat, K ≤ 9218868437227405312 ∧ ∀ neg, double.nearest neg m p = double.word neg K := by
  by_cases h : m = 0
  · exact ⟨0, by omega, fun neg => by unfold Format.nearest; rw [if_pos h]⟩
  · refine ⟨min ((max (p + (m.log2 : Int) - double.fractionBits) double.leastPlace - double.leastPlace).toNat * double.binade + Toward.even.cut false (m <<< (p - max (p + (m.log2 : Int) - double.fractionBits) double.leastPlace).toNat) (max (p + (m.log2 : Int) - double.fractionBits) double.leastPlace - p).toNat) double.infRung, ?_, fun neg => ?_⟩
    · rw [infRung_double]; exact Nat.min_le_right ..
    · unfold Format.nearest; rw [if_neg h]; rfl

/-- What a finite word reads as, but for its sign. -/
theorem read_both (K : Nat) (h : K < 9218868437227405312) : ∃ M E, ∀ neg, double.read (double.word neg K) = .number neg M E := by
  have e : ∀ neg : Bool, (double.word neg K) % 9223372036854775808 = K ∧ ((double.word neg K) / 9223372036854775808 % 2 == 1) = neg := by
    intro neg
    unfold Format.word
    rw [signWeight_double]
    cases neg
    · rw [if_neg (by simp)]
      exact ⟨by omega, by rw [show K / 9223372036854775808 = 0 by omega]; rfl⟩
    · rw [if_pos rfl]
      exact ⟨by omega, by rw [show (9223372036854775808 + K) / 9223372036854775808 = 1 by omega]; rfl⟩
  by_cases hb : K < 4503599627370496
  · refine ⟨K, -1074, fun neg => ?_⟩
    obtain ⟨e1, e2⟩ := e neg
    unfold Format.read
    rw [signWeight_double, binade_double, infRung_double, leastPlace_double]
    simp only [e1, e2]
    rw [if_pos hb]
  · refine ⟨4503599627370496 + K % 4503599627370496, -1074 + ((K / 4503599627370496 - 1 : Nat) : Int), fun neg => ?_⟩
    obtain ⟨e1, e2⟩ := e neg
    unfold Format.read
    rw [signWeight_double, binade_double, infRung_double, leastPlace_double]
    simp only [e1, e2]
    rw [if_neg hb, if_pos h]

theorem read_inf (neg : Bool) : double.read (double.word neg 9218868437227405312) = .infinity neg := by cases neg <;> decide +kernel

/-- Two words that are a number and its opposite. -/
def Opp (x x' : Nat) : Prop := ∃ M E, double.read x = .number false M E ∧ double.read x' = .number true M E

theorem opp_nearest (m : Nat) (p : Int) (h : double.read (double.nearest false m p) ≠ .infinity false) : Opp (double.nearest false m p) (double.nearest true m p) := by
  obtain ⟨K, hK, hw⟩ := nearest_word m p
  rw [hw] at h
  have hlt : K < 9218868437227405312 := by
    rcases Nat.lt_or_eq_of_le hK with h1 | h1
    · exact h1
    · exact absurd (by rw [h1]; exact read_inf false) h
  obtain ⟨M, E, hr⟩ := read_both K hlt
  exact ⟨M, E, by rw [hw]; exact hr false, by rw [hw]; exact hr true⟩

theorem opp_G (n : Nat) (h0 : 0 < n) (h1 : n < 9007199254740992) : Opp (G 0 (n : Int)) (G 0 (-(n : Int))) := by
  obtain ⟨k, hk, hl⟩ := read_G 0 (n : Int) (by omega) (by decide) (by decide)
  obtain ⟨k', hk', hl'⟩ := read_G 0 (-(n : Int)) (by omega) (by decide) (by decide)
  have a := hl (by omega)
  have b := hl' (by omega)
  rw [Int.natAbs_neg] at b
  have : k' = k := by omega
  subst this
  refine ⟨n <<< k', 0 - (k' : Int), ?_, ?_⟩
  · rw [hk]; simp only [show ¬ (n : Int) < 0 from by omega, decide_false, Int.natAbs_natCast]
  · rw [hk']; simp only [show -(n : Int) < 0 from by omega, decide_true, Int.natAbs_neg, Int.natAbs_natCast]

theorem opp_div {x x' y q : Nat} (h : Opp x x') {n : Nat} {j : Int} (hy : double.read y = .number false n j) (hn : n ≠ 0) (hq : double.div x y = some q) (hfin : double.read q ≠ .infinity false) : ∃ q', double.div x' y = some q' ∧ Opp q q' := by
  obtain ⟨M, E, h1, h2⟩ := h
  unfold Format.div at hq ⊢
  rw [h1, hy] at hq
  rw [h2, hy]
  simp only [Datum.quotient, if_neg hn, Option.map_some, Bool.xor_false] at hq ⊢
  injection hq with hq
  subst hq
  exact ⟨_, rfl, opp_nearest _ _ hfin⟩

theorem opp_mul {x x' y q : Nat} (h : Opp x x') {n : Nat} {j : Int} (hy : double.read y = .number false n j) (hq : double.mul x y = some q) (hfin : double.read q ≠ .infinity false) : ∃ q', double.mul x' y = some q' ∧ Opp q q' := by
  obtain ⟨M, E, h1, h2⟩ := h
  unfold Format.mul at hq ⊢
  rw [h1, hy] at hq
  rw [h2, hy]
  simp only [Datum.product, Option.map_some, Bool.xor_false] at hq ⊢
  injection hq with hq
  subst hq
  exact ⟨_, rfl, opp_nearest _ _ hfin⟩

theorem opp_toInt {x x' : Nat} (h : Opp x x') : ∃ v : Nat, (double.read x).toInt .zero = some (v : Int) ∧ (double.read x').toInt .zero = some (-(v : Int)) := by
  obtain ⟨M, E, h1, h2⟩ := h
  rw [h1, h2]
  refine ⟨Toward.zero.cut false (M <<< E.toNat) (-E).toNat, ?_, ?_⟩
  · unfold Datum.toInt Datum.integral signed
    simp
  · unfold Datum.toInt Datum.integral signed
    simp [cut_trunc]

/-- The time of as many tokens below none. -/
theorem W_neg (r n : Nat) (hr0 : 0 < r) (hr1 : r ≤ 1000) (hn0 : 0 < n) (hn1 : n ≤ 1000) :
    ∃ q y, double.div (G 0 (-(n : Int))) (G 0 (r : Int)) = some q ∧ double.mul q 4741671816366391296 = some y ∧ (double.order y 4890909195324358656 == some .gt) = false ∧ floatToIntVal .f64 y .i64 = some (-(W (r : Int) ((n : Int) * 512))) := by
  obtain ⟨q, y, e1, e2, e3, e4, v, hv, hb1, hb2⟩ := W_ok r (n * 512) hr0 hr1 (by omega) (by omega)
  have hG : G (-9) ((n * 512 : Nat) : Int) = G 0 (n : Int) := by rw [G_512]; congr 1
  rw [hG] at e1
  rw [show (((n * 512 : Nat)) : Int) = (n : Int) * 512 from by omega] at e4 hv
  obtain ⟨k, hk, hl⟩ := read_G 0 (r : Int) (by omega) (by decide) (by decide)
  simp only [show ¬ (r : Int) < 0 from by omega, decide_false, Int.natAbs_natCast] at hk
  have hl := hl (by omega)
  have hr : r <<< k ≠ 0 := by
    have := (shl_bounds r k (by omega) (by simpa using hl)).1
    omega
  have hc : ∃ n0 j0, double.read 4741671816366391296 = .number false n0 j0 := ⟨_, _, by rw [c1e9]; exact (read_G 0 1000000000 (by decide) (by decide) (by decide)).choose_spec.1⟩
  obtain ⟨n0, j0, hc⟩ := hc
  have hy : double.read y ≠ .infinity false := by
    intro h
    have e4' := e4
    unfold floatToIntVal at e4'
    rw [show FloatKind.f64.decode y = double.read y from rfl, h] at e4'
    simp [Datum.toInt, Datum.integral] at e4'
  have hq : double.read q ≠ .infinity false := by
    intro h
    unfold Format.mul at e2
    rw [h, hc] at e2
    simp only [Datum.product] at e2
    split at e2
    · cases e2
    · simp only [Option.map_some] at e2
      injection e2 with e2
      apply hy
      rw [← e2]
      show double.read (double.write (.infinity (false ^^ false))) = _
      show double.read (double.word false double.infRung) = _
      rw [infRung_double]; exact read_inf false
  obtain ⟨q', d1, o1⟩ := opp_div (opp_G n hn0 (by omega)) hk hr e1 hq
  obtain ⟨y', d2, o2⟩ := opp_mul o1 hc e2 hy
  refine ⟨q', y', d1, d2, ?_, ?_⟩
  · obtain ⟨M, E, _, h2⟩ := o2
    unfold Format.order
    rw [h2, read_c63]
    simp only [Datum.order]
    have a : signed true M (E - min E 11).toNat ≤ 0 := by unfold signed; simp only [if_true]; exact Int.neg_nonpos_of_nonneg (Int.natCast_nonneg _)
    have b : 0 < signed false 4503599627370496 (11 - min E 11).toNat := by
      rw [signed_false]
      have := Nat.mul_pos (show 0 < 4503599627370496 by decide) (Nat.two_pow_pos (11 - min E 11).toNat)
      generalize 4503599627370496 * 2 ^ (11 - min E 11).toNat = X at *
      omega
    rw [show compare (signed true M (E - min E 11).toNat) (signed false 4503599627370496 (11 - min E 11).toNat) = .lt from Int.compare_eq_lt.2 (by omega)]
    rfl
  · obtain ⟨u, t1, t2⟩ := opp_toInt o2
    unfold floatToIntVal at e4 ⊢
    rw [show FloatKind.f64.decode y = double.read y from rfl, t1] at e4
    rw [show FloatKind.f64.decode y' = double.read y' from rfl, t2]
    dsimp only at e4 ⊢
    split at e4
    · rename_i hr
      injection e4 with e4
      rw [← e4]
      have hr' : (-9223372036854775808 : Int) ≤ (u : Int) ∧ (u : Int) ≤ 9223372036854775807 := hr
      rw [if_pos]
      show (-9223372036854775808 : Int) ≤ -(u : Int) ∧ -(u : Int) ≤ 9223372036854775807
      omega
    · cases e4

/-! ### a rounded sum lies where the sum lies -/
/-- The word x stands for v / 2 ^ s, and v is a multiple of 2 ^ t. -/
def Sv (s t x : Nat) (v : Int) : Prop := ∃ (neg : Bool) (M : Nat) (E : Int), double.read x = .number neg M E ∧ 0 ≤ E + s ∧ v = (if neg then -1 else 1) * ((M * 2 ^ (E + s).toNat : Nat) : Int) ∧ M < 9007199254740992 ∧ 2 ^ t ∣ v.natAbs

theorem Sv.mono {s t t' x : Nat} {v : Int} (h : Sv s t x v) (ht : t' ≤ t) : Sv s t' x v := by
  obtain ⟨neg, M, E, a, b, c, d, e⟩ := h
  exact ⟨neg, M, E, a, b, c, d, Nat.dvd_trans (Nat.pow_dvd_pow 2 ht) e⟩

theorem signed_sv (neg : Bool) (M u : Nat) : signed neg M u = (if neg then -1 else 1) * ((M * 2 ^ u : Nat) : Int) := by
  unfold signed
  rw [Nat.shiftLeft_eq]
  cases neg <;> simp

theorem sv_order {s t t' x y : Nat} {a b : Int} (hx : Sv s t x a) (hy : Sv s t' y b) : double.order x y = some (compare a b) := by
  obtain ⟨n1, m, i, hrx, hi, ha, _⟩ := hx
  obtain ⟨n2, n, j, hry, hj, hb, _⟩ := hy
  unfold Format.order
  rw [hrx, hry]
  simp only [Datum.order, signed_sv]
  have e1 : a = (if n1 then -1 else 1) * ((m * 2 ^ (i - min i j).toNat : Nat) : Int) * ((2 ^ (min i j + s).toNat : Nat) : Int) := by
    rw [ha, Int.mul_assoc, ← Int.natCast_mul, Nat.mul_assoc, ← Nat.pow_add]; congr 5; omega
  have e2 : b = (if n2 then -1 else 1) * ((n * 2 ^ (j - min i j).toNat : Nat) : Int) * ((2 ^ (min i j + s).toNat : Nat) : Int) := by
    rw [hb, Int.mul_assoc, ← Int.natCast_mul, Nat.mul_assoc, ← Nat.pow_add]; congr 5; omega
  rw [e1, e2]
  have hp : (0 : Int) < ((2 ^ (min i j + s).toNat : Nat) : Int) := by have := Nat.two_pow_pos (min i j + s).toNat; omega
  generalize ((2 ^ (min i j + s).toNat : Nat) : Int) = g at *
  generalize (if n1 then -1 else 1) * ((m * 2 ^ (i - min i j).toNat : Nat) : Int) = a'
  generalize (if n2 then -1 else 1) * ((n * 2 ^ (j - min i j).toNat : Nat) : Int) = b'
  congr 1
  show compareOfLessAndEq _ _ = compareOfLessAndEq _ _
  unfold compareOfLessAndEq
  by_cases h : a' < b'
  · rw [if_pos h, if_pos (Int.mul_lt_mul_of_pos_right h hp)]
  · by_cases h' : a' = b'
    · subst h'; simp
    · have := Int.mul_lt_mul_of_pos_right (show b' < a' by omega) hp
      rw [if_neg h, if_neg h', if_neg (by omega), if_neg (by omega)]

/-- A magnitude, rounded: no double lies between it and what it is rounded to. -/
theorem round_sand (s m : Nat) (p : Int) (hm : m ≠ 0) (hs : 1074 ≤ s) (hp : 0 ≤ p + s) (h1 : -1022 ≤ p + m.log2) (h2 : p + m.log2 ≤ 900) :
    ∃ (M : Nat) (E : Int), (∀ neg, double.read (double.nearest neg m p) = .number neg M E) ∧ 0 ≤ E + s ∧ M < 9007199254740992 ∧ p + m.log2 - 52 ≤ E ∧
      ∀ (U : Nat) (F : Int), U < 9007199254740992 → 0 ≤ F + s → (m * 2 ^ (p + s).toNat ≤ U * 2 ^ (F + s).toNat → M * 2 ^ (E + s).toNat ≤ U * 2 ^ (F + s).toNat) ∧ (U * 2 ^ (F + s).toNat ≤ m * 2 ^ (p + s).toNat → U * 2 ^ (F + s).toNat ≤ M * 2 ^ (E + s).toNat) := by
  obtain ⟨M, c, K, hc, hr, hK, m1, m2, b1, b2⟩ := near_read false m p hm h1 h2
  have hboth : ∀ neg, double.read (double.nearest neg m p) = .number neg M (p + m.log2 - 52 + c) := by
    intro neg
    cases neg
    · exact hr
    · obtain ⟨M', E', r1, r2⟩ := opp_nearest m p (by rw [hr]; simp)
      rw [hr] at r1
      injection r1 with _ e1 e2
      rw [r2, e1, e2]
  refine ⟨M, p + m.log2 - 52 + c, hboth, by omega, m2, by omega, fun U F hU hF => ?_⟩
  have hg := Nat.log2_self_le hm
  have hl := @Nat.lt_log2_self m
  -- in units of g, the last place's: v lies within half of one of K * g
  obtain ⟨g, hgd⟩ : ∃ g : Nat, g = 2 ^ (p + m.log2 - 52 + s).toNat := ⟨_, rfl⟩
  have hg0 : 0 < g := by rw [hgd]; exact Nat.two_pow_pos _
  have hX : M * 2 ^ (p + m.log2 - 52 + c + s).toNat = K * g := by
    rw [hgd, ← hK, Nat.mul_assoc, ← Nat.pow_add]; congr 2; omega
  have hv : 2 * (K * g) ≤ 2 * (m * 2 ^ (p + s).toNat) + g ∧ 2 * (m * 2 ^ (p + s).toNat) ≤ 2 * (K * g) + g ∧ 4503599627370496 * g ≤ m * 2 ^ (p + s).toNat := by
    by_cases hle : m.log2 ≤ 52
    · rw [show m.log2 - 52 = 0 by omega, Nat.pow_zero, Nat.mul_one] at b1 b2
      have e : m * 2 ^ (p + s).toNat = m * 2 ^ (52 - m.log2) * g := by
        rw [hgd, Nat.mul_assoc, ← Nat.pow_add]; congr 2; omega
      have e52 : 4503599627370496 ≤ m * 2 ^ (52 - m.log2) := by
        calc 4503599627370496 = 2 ^ m.log2 * 2 ^ (52 - m.log2) := by rw [← Nat.pow_add, show m.log2 + (52 - m.log2) = 52 by omega]
          _ ≤ m * 2 ^ (52 - m.log2) := Nat.mul_le_mul_right _ hg
      rw [e]
      generalize m * 2 ^ (52 - m.log2) = v at *
      have : v = K := by omega
      subst this
      refine ⟨by omega, by omega, Nat.mul_le_mul_right _ e52⟩
    · rw [show 52 - m.log2 = 0 by omega, Nat.pow_zero, Nat.mul_one] at b1 b2
      have e : g = 2 ^ (m.log2 - 52) * 2 ^ (p + s).toNat := by
        rw [hgd, ← Nat.pow_add]; congr 1; omega
      have e52 : 4503599627370496 * 2 ^ (m.log2 - 52) ≤ m := by
        calc 4503599627370496 * 2 ^ (m.log2 - 52) = 2 ^ m.log2 := by
              rw [show (4503599627370496 : Nat) = 2 ^ 52 from rfl, ← Nat.pow_add]; congr 1; omega
          _ ≤ m := hg
      have hpp := Nat.two_pow_pos (p + s).toNat
      rw [e]
      generalize 2 ^ (p + s).toNat = h at *
      generalize 2 ^ (m.log2 - 52) = f at *
      refine ⟨?_, ?_, ?_⟩
      · have := Nat.mul_le_mul_right h b1
        rw [Nat.add_mul] at this
        simp only [Nat.mul_assoc] at this ⊢
        exact this
      · have := Nat.mul_le_mul_right h b2
        rw [Nat.add_mul] at this
        simp only [Nat.mul_assoc] at this ⊢
        exact this
      · have := Nat.mul_le_mul_right h e52
        simp only [Nat.mul_assoc] at this ⊢
        exact this
  have hK52 : 4503599627370496 ≤ K := by
    rw [← hK]; have : 1 ≤ 2 ^ c := Nat.one_le_two_pow; have := Nat.mul_le_mul m1 this; omega
  rw [hX]
  -- a double of at least 2 ^ 52 units is a multiple of the unit
  have mult : 4503599627370496 * g ≤ U * 2 ^ (F + s).toNat → ∃ u, U * 2 ^ (F + s).toNat = u * g := by
    intro h
    by_cases hF2 : p + m.log2 - 52 ≤ F
    · refine ⟨U * 2 ^ (F - (p + m.log2 - 52)).toNat, ?_⟩
      rw [hgd, Nat.mul_assoc, ← Nat.pow_add]; congr 2; omega
    · exfalso
      have hgg : g = 2 ^ (p + m.log2 - 52 - F).toNat * 2 ^ (F + s).toNat := by
        rw [hgd, ← Nat.pow_add]; congr 1; omega
      have h2' : 2 ≤ 2 ^ (p + m.log2 - 52 - F).toNat := by
        calc 2 = 2 ^ 1 := rfl
          _ ≤ 2 ^ (p + m.log2 - 52 - F).toNat := Nat.pow_le_pow_right (by decide) (by omega)
      rw [hgg] at h
      have hpp := Nat.two_pow_pos (F + s).toNat
      have h3 : 2 * 2 ^ (F + s).toNat ≤ 2 ^ (p + m.log2 - 52 - F).toNat * 2 ^ (F + s).toNat := Nat.mul_le_mul_right _ h2'
      have h4 : U * 2 ^ (F + s).toNat < 9007199254740992 * 2 ^ (F + s).toNat := Nat.mul_lt_mul_of_pos_right hU hpp
      omega
  obtain ⟨v1, v2, v3⟩ := hv
  generalize m * 2 ^ (p + s).toNat = v at *
  constructor
  · intro h
    obtain ⟨u, hu⟩ := mult (by omega)
    rw [hu] at h ⊢
    apply Nat.mul_le_mul_right
    apply Nat.le_of_lt_succ
    apply Nat.lt_of_mul_lt_mul_right (a := g)
    rw [Nat.succ_eq_add_one, Nat.add_mul, Nat.one_mul]
    generalize K * g = a at *
    generalize u * g = b at *
    omega
  · intro h
    by_cases hb : 4503599627370496 * g ≤ U * 2 ^ (F + s).toNat
    · obtain ⟨u, hu⟩ := mult hb
      rw [hu] at h ⊢
      apply Nat.mul_le_mul_right
      apply Nat.le_of_lt_succ
      apply Nat.lt_of_mul_lt_mul_right (a := g)
      rw [Nat.succ_eq_add_one, Nat.add_mul, Nat.one_mul]
      generalize K * g = a at *
      generalize u * g = b at *
      omega
    · have := Nat.mul_le_mul_right g hK52
      omega

/-- A sum, rounded: no double lies between it and what it is rounded to. -/
theorem add_sand {s t x y : Nat} {a b : Int} (hs : 1074 ≤ s) (ht0 : s ≤ t + 1022) (ht1 : 60 ≤ t) (hx : Sv s t x a) (hy : Sv s t y b) (hb : (a + b).natAbs < 2 ^ (s + 900)) :
    ∃ z v, double.add x y = some z ∧ Sv s (t - 53) z v ∧ ∀ w k u, Sv s k w u → (a + b ≤ u → v ≤ u) ∧ (u ≤ a + b → u ≤ v) := by
  obtain ⟨n1, m, i, hrx, hi, ha, _, da⟩ := hx
  obtain ⟨n2, n, j, hry, hj, hbb, _, db⟩ := hy
  have hdvd : 2 ^ t ∣ (a + b).natAbs := by
    have h1 : ((2 ^ t : Nat) : Int) ∣ a := Int.ofNat_dvd_left.2 da
    have h2 : ((2 ^ t : Nat) : Int) ∣ b := Int.ofNat_dvd_left.2 db
    exact Int.ofNat_dvd_left.1 (Int.dvd_add h1 h2)
  unfold Format.add
  rw [hrx, hry]
  simp only [Datum.sum, Option.map_some, signed_sv]
  have hsum : a + b = ((if n1 then -1 else 1) * ((m * 2 ^ (i - min i j).toNat : Nat) : Int) + (if n2 then -1 else 1) * ((n * 2 ^ (j - min i j).toNat : Nat) : Int)) * ((2 ^ (min i j + s).toNat : Nat) : Int) := by
    rw [Int.add_mul, ha, hbb, Int.mul_assoc, Int.mul_assoc, ← Int.natCast_mul, ← Int.natCast_mul, Nat.mul_assoc, Nat.mul_assoc, ← Nat.pow_add, ← Nat.pow_add]
    congr 5 <;> omega
  generalize (if n1 then -1 else 1) * ((m * 2 ^ (i - min i j).toNat : Nat) : Int) + (if n2 then -1 else 1) * ((n * 2 ^ (j - min i j).toNat : Nat) : Int) = T at *
  have hp := Nat.two_pow_pos (min i j + s).toNat
  by_cases h0 : T = 0
  · subst h0
    rw [Int.zero_mul] at hsum
    refine ⟨_, 0, rfl, ?_, fun w k u _ => by rw [hsum]; exact ⟨fun h => h, fun h => h⟩⟩
    show Sv s (t - 53) (double.nearest _ (Int.natAbs 0) (min i j)) 0
    obtain ⟨K, hK, hw⟩ := nearest_word 0 (min i j)
    refine ⟨(if (0 : Int) = 0 then n1 && n2 else decide ((0 : Int) < 0)), 0, -1074, ?_, by omega, by simp, by omega, by simp⟩
    unfold Format.nearest
    rw [if_pos rfl]
    exact read_zero _
  · have hm0 : T.natAbs ≠ 0 := by omega
    have hab : (a + b).natAbs = T.natAbs * 2 ^ (min i j + s).toNat := by rw [hsum, Int.natAbs_mul]; rfl
    have hne : T.natAbs * 2 ^ (min i j + s).toNat ≠ 0 := Nat.mul_ne_zero hm0 (by omega)
    have hlow : 2 ^ t ≤ T.natAbs * 2 ^ (min i j + s).toNat := Nat.le_of_dvd (by omega) (hab ▸ hdvd)
    have l1 := (Nat.le_log2 hne).2 hlow
    have l2 := (Nat.log2_lt hne).2 (hab ▸ hb)
    rw [log2_mul_pow _ _ hm0] at l1 l2
    obtain ⟨M, E, hr, hE, hM, hEl, hsand⟩ := round_sand s T.natAbs (min i j) hm0 hs (by omega) (by omega) (by omega)
    have hwr : double.write (.number (if T = 0 then n1 && n2 else decide (T < 0)) T.natAbs (min i j)) = double.nearest (decide (T < 0)) T.natAbs (min i j) := by
      rw [if_neg h0]; rfl
    refine ⟨_, (if decide (T < 0) then -1 else 1) * ((M * 2 ^ (E + s).toNat : Nat) : Int), rfl, ?_, fun w k u hu => ?_⟩
    · rw [hwr]
      refine ⟨decide (T < 0), M, E, hr _, hE, rfl, hM, ?_⟩
      have hd : 2 ^ (t - 53) ∣ M * 2 ^ (E + s).toNat := by
        refine Nat.dvd_trans (Nat.pow_dvd_pow 2 (show t - 53 ≤ (E + s).toNat by omega)) (Nat.dvd_mul_left ..)
      generalize M * 2 ^ (E + s).toNat = X at hd ⊢
      cases decide (T < 0)
      · simpa using hd
      · simpa using hd
    · obtain ⟨n3, U, F, _, hF, hu', hU, _⟩ := hu
      obtain ⟨q1, q2⟩ := hsand U F hU hF
      have hcast : ((T.natAbs * 2 ^ (min i j + s).toNat : Nat) : Int) = (T.natAbs : Int) * ((2 ^ (min i j + s).toNat : Nat) : Int) := by simp
      rw [hu']
      rw [← hab] at q1 q2
      by_cases hneg : T < 0
      · have hs2 : a + b < 0 := by
          rw [hsum]; exact Int.mul_neg_of_neg_of_pos hneg (by omega)
        simp only [hneg, decide_true, if_true]
        generalize M * 2 ^ (E + s).toNat = X at *
        generalize U * 2 ^ (F + s).toNat = Y at *
        cases n3 <;> simp only [Bool.false_eq_true, if_false, if_true] <;> constructor <;> intro h <;> omega
      · have hs2 : 0 < a + b := by
          rw [hsum]; exact Int.mul_pos (by omega) (by omega)
        simp only [hneg, decide_false, Bool.false_eq_true, if_false]
        generalize M * 2 ^ (E + s).toNat = X at *
        generalize U * 2 ^ (F + s).toNat = Y at *
        cases n3 <;> simp only [Bool.false_eq_true, if_false, if_true] <;> constructor <;> intro h <;> omega

end Go.Proofs.Ytndkiphlpddbaaa.Flt
