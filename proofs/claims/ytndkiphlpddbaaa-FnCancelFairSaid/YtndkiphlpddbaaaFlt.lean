/- Plain facts on doubles: exact sums, differences, products and quotients of small dyadic numbers. No condition: plain lemmas. -/
import Derived.Laws.FloatArith
namespace Go.Proofs.Ytndkiphlpddbaaa.Flt
open Ieee

theorem log2_shl (m k : Nat) (h : m ≠ 0) : (m <<< k).log2 = m.log2 + k := by
  have hm : m <<< k ≠ 0 := by rw [Nat.shiftLeft_eq]; exact Nat.mul_ne_zero h (Nat.pos_iff_ne_zero.1 (Nat.two_pow_pos k))
  rw [Nat.log2_eq_iff hm, Nat.shiftLeft_eq]
  have h1 := Nat.log2_self_le h
  have h2 := @Nat.lt_log2_self m
  constructor
  · rw [Nat.pow_add]; exact Nat.mul_le_mul_right _ h1
  · rw [show m.log2 + k + 1 = (m.log2 + 1) + k by omega, Nat.pow_add]
    exact Nat.mul_lt_mul_of_pos_right h2 (Nat.two_pow_pos k)

theorem shl_shl (m a b : Nat) : (m <<< a) <<< b = m <<< (a + b) := by
  simp only [Nat.shiftLeft_eq, Nat.pow_add, Nat.mul_assoc]

theorem cut_zero (neg : Bool) (n : Nat) : Toward.even.cut neg n 0 = n := by
  simp [Toward.cut, Nat.mod_one]

theorem cut_shl (neg : Bool) (n d k : Nat) (h : n ≠ 0) : Toward.even.cut neg (n <<< k) (d + k) = Toward.even.cut neg n d := by
  unfold Toward.cut
  rw [log2_shl n k h]
  have e1 : min (d + k) (n.log2 + k + 2) = min d (n.log2 + 2) + k := by omega
  rw [e1]
  generalize min d (n.log2 + 2) = m
  have e2 : 1 <<< (m + k) = (1 <<< m) * 2 ^ k := by simp [Nat.shiftLeft_eq, Nat.pow_add]
  have hk : 0 < 2 ^ k := Nat.two_pow_pos k
  simp only [e2, Nat.shiftLeft_eq n k]
  generalize (1 : Nat) <<< m = g
  rw [Nat.mul_div_mul_right _ _ hk, Nat.mul_mod_mul_right]
  have e3 : (decide (g * 2 ^ k < 2 * (n % g * 2 ^ k))) = decide (g < 2 * (n % g)) := by
    rw [← Nat.mul_assoc]
    by_cases hc : g < 2 * (n % g)
    · simp only [hc, decide_true]; exact decide_eq_true (Nat.mul_lt_mul_of_pos_right hc hk)
    · simp only [hc, decide_false]; exact decide_eq_false (fun hh => hc (Nat.lt_of_mul_lt_mul_right hh))
  have e4 : (g * 2 ^ k == 2 * (n % g * 2 ^ k)) = (g == 2 * (n % g)) := by
    rw [← Nat.mul_assoc]
    by_cases hc : g = 2 * (n % g)
    · rw [beq_iff_eq.2 hc, beq_iff_eq.2 (by rw [← hc])]
    · rw [beq_eq_false_iff_ne.2 hc, beq_eq_false_iff_ne.2 (fun hh => hc (Nat.eq_of_mul_eq_mul_right hk hh))]
  simp only [e3, e4]

theorem nearest_shl (f : Format) (neg : Bool) (m k : Nat) (p : Int) : f.nearest neg (m <<< k) p = f.nearest neg m (p + k) := by
  unfold Format.nearest
  by_cases h : m = 0
  · subst h; simp
  · have hm : m <<< k ≠ 0 := by rw [Nat.shiftLeft_eq]; exact Nat.mul_ne_zero h (Nat.pos_iff_ne_zero.1 (Nat.two_pow_pos k))
    rw [if_neg h, if_neg hm, log2_shl m k h]
    have e : p + ((m.log2 + k : Nat) : Int) - f.fractionBits = p + k + m.log2 - f.fractionBits := by omega
    rw [e]
    dsimp only
    generalize max (p + k + (m.log2 : Int) - f.fractionBits) f.leastPlace = last
    congr 3
    by_cases h1 : last ≤ p
    · rw [show (last - p).toNat = 0 by omega, show (last - (p + k)).toNat = 0 by omega, cut_zero, cut_zero, shl_shl, show (p + k - last).toNat = k + (p - last).toNat by omega]
    · by_cases h2 : last ≤ p + k
      · rw [show (p - last).toNat = 0 by omega, show (last - (p + k)).toNat = 0 by omega, cut_zero, Nat.shiftLeft_zero]
        have : m <<< k = (m <<< (p + k - last).toNat) <<< (last - p).toNat := by rw [shl_shl]; congr 1; omega
        rw [this]
        have hn : m <<< (p + k - last).toNat ≠ 0 := by rw [Nat.shiftLeft_eq]; exact Nat.mul_ne_zero h (Nat.pos_iff_ne_zero.1 (Nat.two_pow_pos _))
        have := cut_shl neg (m <<< (p + k - last).toNat) 0 (last - p).toNat hn
        rw [Nat.zero_add] at this
        rw [this, cut_zero]
      · rw [show (p - last).toNat = 0 by omega, show (p + k - last).toNat = 0 by omega, Nat.shiftLeft_zero, Nat.shiftLeft_zero]
        rw [show (last - p).toNat = (last - (p + k)).toNat + k by omega, cut_shl neg m _ k h]

/-- The double nearest to 'a * 2 ^ p'. -/
def G (p a : Int) : Nat := Ieee.double.nearest (decide (a < 0)) a.natAbs p

theorem nearest_of_int (n : Int) : FloatKind.nearest .f64 n = G 0 n := rfl

theorem pow_pos (k : Nat) : (0 : Int) < 2 ^ k := Int.pow_pos (by decide)

theorem natAbs_shl (a : Int) (k : Nat) : (a * 2 ^ k).natAbs = a.natAbs <<< k := by
  rw [Int.natAbs_mul, Nat.shiftLeft_eq]; congr 1

theorem sign_shl (a : Int) (k : Nat) : decide (a * 2 ^ k < 0) = decide (a < 0) := by
  have := pow_pos k
  by_cases h : a < 0
  · simp only [h, decide_true]; exact decide_eq_true (Int.mul_neg_of_neg_of_pos h this)
  · simp only [h, decide_false]; exact decide_eq_false (by have := Int.mul_nonneg (show 0 ≤ a by omega) (Int.le_of_lt this); omega)

theorem G_shl (p a : Int) (k : Nat) : G p (a * 2 ^ k) = G (p + k) a := by
  unfold G
  rw [sign_shl, natAbs_shl, nearest_shl]

theorem infRung_double : double.infRung = 9218868437227405312 := by decide +kernel
theorem binade_double : double.binade = 4503599627370496 := by decide +kernel
theorem signWeight_double : double.signWeight = 9223372036854775808 := by decide +kernel
theorem leastPlace_double : double.leastPlace = -1074 := by decide +kernel

theorem read_word (neg : Bool) (E M : Nat) (hE : E ≤ 2045) (h1 : 4503599627370496 ≤ M) (h2 : M < 9007199254740992) :
    double.read (double.word neg (E * 4503599627370496 + M)) = .number neg M (E - 1074) := by
  unfold Format.read Format.word
  rw [infRung_double, binade_double, signWeight_double, leastPlace_double]
  have hlt : E * 4503599627370496 + M < 9218868437227405312 := by omega
  have e1 : (if neg = true then 9223372036854775808 + (E * 4503599627370496 + M) else E * 4503599627370496 + M) % 9223372036854775808 = E * 4503599627370496 + M := by
    split <;> omega
  have e2 : ((if neg = true then 9223372036854775808 + (E * 4503599627370496 + M) else E * 4503599627370496 + M) / 9223372036854775808 % 2 == 1) = neg := by
    cases neg
    · rw [if_neg (by simp)]; rw [show (E * 4503599627370496 + M) / 9223372036854775808 = 0 by omega]; rfl
    · rw [if_pos rfl]; rw [show (9223372036854775808 + (E * 4503599627370496 + M)) / 9223372036854775808 = 1 by omega]; rfl
  simp only [e1, e2]
  rw [if_neg (by omega), if_pos (by omega)]
  congr 1
  · omega
  · omega

theorem read_zero (neg : Bool) : double.read (double.word neg 0) = .number neg 0 (-1074) := by
  cases neg <;> decide +kernel

theorem kept_exact (neg : Bool) (m k : Nat) (p : Int) (h : m ≠ 0) (hk : m.log2 + k = 52) (hp1 : -1074 ≤ p - k) (hp2 : p - k ≤ 900) :
    double.nearest neg m p = double.word neg ((p - k + 1074).toNat * 4503599627370496 + m <<< k) := by
  unfold Format.nearest
  rw [if_neg h]
  have e : max (p + (m.log2 : Int) - (double.fractionBits : Nat)) double.leastPlace = p - k := by
    rw [leastPlace_double, show double.fractionBits = 52 from rfl]; omega
  simp only [e]
  rw [show (p - k - p).toNat = 0 by omega, cut_zero, show (p - (p - k)).toNat = k by omega, leastPlace_double, binade_double, infRung_double]
  have hl := @Nat.lt_log2_self m
  have : m <<< k < 9007199254740992 := by
    rw [Nat.shiftLeft_eq]
    calc m * 2 ^ k < 2 ^ (m.log2 + 1) * 2 ^ k := Nat.mul_lt_mul_of_pos_right hl (Nat.two_pow_pos k)
      _ = 2 ^ (m.log2 + 1 + k) := (Nat.pow_add ..).symm
      _ = 9007199254740992 := by rw [show m.log2 + 1 + k = 53 by omega]
  rw [Nat.min_eq_left (by omega)]
  congr 2

theorem shl_bounds (m k : Nat) (h : m ≠ 0) (hk : m.log2 + k = 52) : 4503599627370496 ≤ m <<< k ∧ m <<< k < 9007199254740992 := by
  have hl := @Nat.lt_log2_self m
  have hg := Nat.log2_self_le h
  rw [Nat.shiftLeft_eq]
  constructor
  · calc 4503599627370496 = 2 ^ (m.log2 + k) := by rw [hk]
      _ = 2 ^ m.log2 * 2 ^ k := Nat.pow_add ..
      _ ≤ m * 2 ^ k := Nat.mul_le_mul_right _ hg
  · calc m * 2 ^ k < 2 ^ (m.log2 + 1) * 2 ^ k := Nat.mul_lt_mul_of_pos_right hl (Nat.two_pow_pos k)
      _ = 2 ^ (m.log2 + 1 + k) := (Nat.pow_add ..).symm
      _ = 9007199254740992 := by rw [show m.log2 + 1 + k = 53 by omega]

theorem read_nearest (neg : Bool) (m : Nat) (p : Int) (h : m ≠ 0) (hm : m < 9007199254740992) (hp1 : -1000 ≤ p) (hp2 : p ≤ 900) :
    ∃ k : Nat, m.log2 + k = 52 ∧ double.read (double.nearest neg m p) = .number neg (m <<< k) (p - k) := by
  have h53 : m.log2 < 53 := (Nat.log2_lt h).2 (by omega)
  refine ⟨52 - m.log2, by omega, ?_⟩
  have hk : m.log2 + (52 - m.log2) = 52 := by omega
  obtain ⟨hb1, hb2⟩ := shl_bounds m (52 - m.log2) h hk
  rw [kept_exact neg m (52 - m.log2) p h hk (by omega) (by omega), read_word neg _ _ (by omega) hb1 hb2]
  congr 1
  omega

theorem read_G (p a : Int) (ha : a.natAbs < 9007199254740992) (hp1 : -1000 ≤ p) (hp2 : p ≤ 900) :
    ∃ k : Nat, double.read (G p a) = .number (decide (a < 0)) (a.natAbs <<< k) (p - k) ∧ (a ≠ 0 → a.natAbs.log2 + k = 52) := by
  unfold G
  by_cases h : a.natAbs = 0
  · have ha0 : a = 0 := by omega
    subst ha0
    refine ⟨(p + 1074).toNat, ?_, fun h => absurd rfl h⟩
    have : double.nearest (decide ((0 : Int) < 0)) (Int.natAbs 0) p = double.word false 0 := by
      unfold Format.nearest; simp
    rw [this, read_zero]
    simp; omega
  · obtain ⟨k, hk, hr⟩ := read_nearest (decide (a < 0)) a.natAbs p h ha hp1 hp2
    exact ⟨k, hr, fun _ => hk⟩

theorem signed_eq (a : Int) (k u : Nat) : signed (decide (a < 0)) (a.natAbs <<< k) u = a * 2 ^ (k + u) := by
  unfold signed
  rw [shl_shl, Nat.shiftLeft_eq]
  by_cases h : a < 0
  · simp only [h, decide_true, if_true]
    rw [Int.natCast_mul, Int.natCast_pow, show ((2 : Nat) : Int) = 2 from rfl, ← Int.neg_mul]
    congr 1; omega
  · simp only [h, decide_false, Bool.false_eq_true, if_false]
    rw [Int.natCast_mul, Int.natCast_pow, show ((2 : Nat) : Int) = 2 from rfl]
    congr 1; omega

theorem write_total (p c : Int) (K : Nat) (base : Int) (hb : base + K = p) (s t : Bool) (hst : c = 0 → (s && t) = false) :
    double.write (.number (if c * 2 ^ K = 0 then s && t else decide (c * 2 ^ K < 0)) (c * 2 ^ K).natAbs base) = G p c := by
  show double.nearest _ _ _ = _
  unfold G
  rw [natAbs_shl, nearest_shl, hb, sign_shl]
  by_cases h : c = 0
  · subst h; rw [if_pos (by simp), hst rfl]; rfl
  · rw [if_neg]
    have := pow_pos K
    exact Int.mul_ne_zero h (by omega)

theorem add_G (p a b : Int) (ha : a.natAbs < 9007199254740992) (hb : b.natAbs < 9007199254740992) (hp1 : -1000 ≤ p) (hp2 : p ≤ 900) :
    double.add (G p a) (G p b) = some (G p (a + b)) := by
  obtain ⟨ka, hka, _⟩ := read_G p a ha hp1 hp2
  obtain ⟨kb, hkb, _⟩ := read_G p b hb hp1 hp2
  unfold Format.add
  rw [hka, hkb]
  simp only [Datum.sum, Option.map_some, signed_eq]
  congr 1
  have e1 : ka + ((p - ka) - min (p - (ka : Int)) (p - kb)).toNat = max ka kb := by omega
  have e2 : kb + ((p - kb) - min (p - (ka : Int)) (p - kb)).toNat = max ka kb := by omega
  rw [e1, e2, ← Int.add_mul]
  apply write_total p (a + b) (max ka kb)
  · omega
  · intro h0
    by_cases h : a < 0
    · have : ¬ b < 0 := by omega
      simp [h, this]
    · simp [h]

theorem sub_G (p a b : Int) (ha : a.natAbs < 9007199254740992) (hb : b.natAbs < 9007199254740992) (hp1 : -1000 ≤ p) (hp2 : p ≤ 900) :
    double.sub (G p a) (G p b) = some (G p (a - b)) := by
  obtain ⟨ka, hka, _⟩ := read_G p a ha hp1 hp2
  obtain ⟨kb, hkb, _⟩ := read_G p b hb hp1 hp2
  unfold Format.sub
  rw [hka, hkb]
  have hs : ∀ u, signed (!decide (b < 0)) (b.natAbs <<< kb) u = -(b * 2 ^ (kb + u)) := by
    intro u
    rw [← signed_eq]
    unfold signed
    by_cases h : b < 0 <;> simp [h]
  simp only [Datum.sum, Datum.opposite, Option.map_some, signed_eq, hs]
  congr 1
  have e1 : ka + ((p - ka) - min (p - (ka : Int)) (p - kb)).toNat = max ka kb := by omega
  have e2 : kb + ((p - kb) - min (p - (ka : Int)) (p - kb)).toNat = max ka kb := by omega
  rw [e1, e2, ← Int.sub_eq_add_neg, ← Int.sub_mul]
  apply write_total p (a - b) (max ka kb)
  · omega
  · intro h0
    have : a = b := by omega
    subst this
    by_cases h : a < 0 <;> simp [h]

theorem mul_G (p q a b : Int) (ha : a.natAbs < 9007199254740992) (hb : b.natAbs < 9007199254740992) (hb0 : 0 < b) (hp1 : -1000 ≤ p) (hp2 : p ≤ 900) (hq1 : -1000 ≤ q) (hq2 : q ≤ 900) :
    double.mul (G p a) (G q b) = some (G (p + q) (a * b)) := by
  obtain ⟨ka, hka, _⟩ := read_G p a ha hp1 hp2
  obtain ⟨kb, hkb, _⟩ := read_G q b hb hq1 hq2
  unfold Format.mul
  rw [hka, hkb]
  simp only [Datum.product, Option.map_some]
  congr 1
  show double.nearest _ _ _ = _
  have e1 : a.natAbs <<< ka * b.natAbs <<< kb = (a * b).natAbs <<< (ka + kb) := by
    simp only [Nat.shiftLeft_eq, Int.natAbs_mul, Nat.pow_add, Nat.mul_assoc, Nat.mul_left_comm]
  have e2 : (decide (a < 0) ^^ decide (b < 0)) = decide (a * b < 0) := by
    have hnb : ¬ b < 0 := by omega
    simp only [hnb, decide_false, Bool.xor_false]
    by_cases h : a < 0
    · simp only [h, decide_true]; exact (decide_eq_true (Int.mul_neg_of_neg_of_pos h hb0)).symm
    · simp only [h, decide_false]; exact (decide_eq_false (by have := Int.mul_nonneg (show 0 ≤ a by omega) (Int.le_of_lt hb0); omega)).symm
  rw [e1, e2, nearest_shl]
  unfold G
  congr 1
  omega

theorem order_G (p a b : Int) (ha : a.natAbs < 9007199254740992) (hb : b.natAbs < 9007199254740992) (hp1 : -1000 ≤ p) (hp2 : p ≤ 900) :
    double.order (G p a) (G p b) = some (compare a b) := by
  obtain ⟨ka, hka, _⟩ := read_G p a ha hp1 hp2
  obtain ⟨kb, hkb, _⟩ := read_G p b hb hp1 hp2
  unfold Format.order
  rw [hka, hkb]
  simp only [Datum.order, signed_eq]
  have e1 : ka + ((p - ka) - min (p - (ka : Int)) (p - kb)).toNat = max ka kb := by omega
  have e2 : kb + ((p - kb) - min (p - (ka : Int)) (p - kb)).toNat = max ka kb := by omega
  rw [e1, e2]
  have hp := pow_pos (max ka kb)
  generalize (2 : Int) ^ (max ka kb) = z at hp
  congr 1
  show compareOfLessAndEq _ _ = compareOfLessAndEq _ _
  unfold compareOfLessAndEq
  by_cases h : a < b
  · rw [if_pos h, if_pos (Int.mul_lt_mul_of_pos_right h hp)]
  · by_cases h' : a = b
    · subst h'; simp
    · have hg : b < a := by omega
      have := Int.mul_lt_mul_of_pos_right hg hp
      rw [if_neg h, if_neg h', if_neg (by omega), if_neg (by omega)]

theorem mul_two_pow_mul (a b : Nat) : a * 2 ^ b = a <<< b := (Nat.shiftLeft_eq a b).symm

theorem div_G (p q r a b c : Int) (D : Nat) (ha : a.natAbs < 1099511627776) (hb : b.natAbs < 9007199254740992) (hb0 : 0 < b) (hD : p = q + r + D) (hD1 : D ≤ 13) (hac : a * 2 ^ D = b * c)
    (hp1 : -900 ≤ p) (hp2 : p ≤ 900) (hq1 : -900 ≤ q) (hq2 : q ≤ 900) :
    double.div (G p a) (G q b) = some (G r c) := by
  obtain ⟨ka, hka, hla⟩ := read_G p a (by omega) (by omega) hp2
  obtain ⟨kb, hkb, hlb⟩ := read_G q b hb (by omega) hq2
  unfold Format.div
  rw [hka, hkb, show double.fractionBits + 2 = 54 from rfl]
  have hn0 : b.natAbs <<< kb ≠ 0 := by
    rw [Nat.shiftLeft_eq]; exact Nat.mul_ne_zero (by omega) (Nat.pos_iff_ne_zero.1 (Nat.two_pow_pos _))
  simp only [Datum.quotient]
  rw [if_neg hn0]
  simp only [Option.map_some]
  congr 1
  show double.nearest _ _ _ = _
  have hb52 : (b.natAbs <<< kb).log2 = 52 := by rw [log2_shl _ _ (by omega)]; exact hlb (by omega)
  have hnb : ¬ b < 0 := by omega
  rw [hb52]
  by_cases h0 : a = 0
  · subst h0
    have hc : c = 0 := by
      have : b * c = 0 := by omega
      rcases Int.mul_eq_zero.1 this with h | h
      · omega
      · exact h
    subst hc
    simp [Format.nearest, G, hnb]
  · have h2 := hla h0
    have ha52 : (a.natAbs <<< ka).log2 = 52 := by rw [log2_shl _ _ (by omega)]; exact h2
    have hl40 : a.natAbs.log2 < 40 := (Nat.log2_lt (by omega)).2 (by omega)
    have hkb52 : kb ≤ 52 := by have := hlb (by omega); omega
    rw [ha52, shl_shl]
    obtain ⟨t, ht⟩ : ∃ t : Nat, ka + (54 + 52 - 52) = D + (t + kb) := ⟨ka + 54 - D - kb, by omega⟩
    have hdv : a.natAbs <<< (ka + (54 + 52 - 52)) = (c.natAbs <<< t) * (b.natAbs <<< kb) := by
      rw [ht]
      have e : a.natAbs * 2 ^ D = b.natAbs * c.natAbs := by
        have := congrArg Int.natAbs hac
        rwa [Int.natAbs_mul, Int.natAbs_mul, show (2 ^ D : Int).natAbs = 2 ^ D from by rw [Int.natAbs_pow]; rfl] at this
      simp only [Nat.shiftLeft_eq, Nat.pow_add]
      rw [← Nat.mul_assoc, e]
      simp only [Nat.mul_assoc, Nat.mul_left_comm]
    rw [hdv, Nat.mul_div_cancel _ (Nat.pos_of_ne_zero hn0), Nat.mul_mod_left]
    have e1 : 2 * c.natAbs <<< t + (0 != 0 : Bool).toNat = c.natAbs <<< (t + 1) := by
      simp only [Nat.shiftLeft_eq, Nat.pow_succ, bne_self_eq_false, Bool.toNat_false, Nat.add_zero]
      rw [Nat.mul_comm 2, Nat.mul_assoc]
    rw [e1, nearest_shl]
    have e2 : (decide (a < 0) ^^ decide (b < 0)) = decide (c < 0) := by
      simp only [hnb, decide_false, Bool.xor_false]
      have hD0 := pow_pos D
      by_cases h : a < 0
      · have : a * 2 ^ D < 0 := Int.mul_neg_of_neg_of_pos h hD0
        have hc : c < 0 := by
          apply Int.lt_of_not_ge; intro hc
          have := Int.mul_nonneg (Int.le_of_lt hb0) hc
          omega
        simp [h, hc]
      · have : 0 ≤ a * 2 ^ D := Int.mul_nonneg (by omega) (Int.le_of_lt hD0)
        have hc : ¬ c < 0 := by
          intro hc
          have := Int.mul_neg_of_pos_of_neg hb0 hc
          omega
        simp [h, hc]
    rw [e2]
    unfold G
    congr 1
    omega

theorem G_zero (p : Int) : G p 0 = 0 := by
  unfold G Format.nearest; simp [Format.word]

theorem cut_trunc (neg : Bool) (n d : Nat) : Toward.zero.cut neg n d = n / 2 ^ d := by
  unfold Toward.cut
  simp only [Bool.toNat_false, Nat.add_zero]
  rw [Nat.shiftLeft_eq, Nat.one_mul]
  by_cases h : d ≤ n.log2 + 2
  · rw [Nat.min_eq_left h]
  · rw [Nat.min_eq_right (by omega)]
    have h1 := @Nat.lt_log2_self n
    have h2 : (2 : Nat) ^ (n.log2 + 1) ≤ 2 ^ (n.log2 + 2) := Nat.pow_le_pow_right (by decide) (by omega)
    have h3 : (2 : Nat) ^ (n.log2 + 2) ≤ 2 ^ d := Nat.pow_le_pow_right (by decide) (by omega)
    rw [Nat.div_eq_of_lt (by omega), Nat.div_eq_of_lt (by omega)]

theorem toInt_number (s : Bool) (m : Nat) (i : Int) (hi : i ≤ 0) : (Datum.number s m i).toInt .zero = some (if s then -((m / 2 ^ (-i).toNat : Nat) : Int) else ((m / 2 ^ (-i).toNat : Nat) : Int)) := by
  unfold Datum.toInt Datum.integral
  simp only [signed, cut_trunc, show i.toNat = 0 by omega, Nat.shiftLeft_zero]

theorem toInt_G (u : Nat) (a : Int) (ha : a.natAbs < 9007199254740992) (hu : u ≤ 900) : (double.read (G (-(u : Int)) a)).toInt .zero = some (a.tdiv (2 ^ u)) := by
  obtain ⟨k, hk, _⟩ := read_G (-(u : Int)) a ha (by omega) (by omega)
  rw [hk, toInt_number _ _ _ (by omega), show (-(-(u : Int) - k)).toNat = u + k by omega, Nat.shiftLeft_eq, Nat.pow_add, Nat.mul_div_mul_right _ _ (Nat.two_pow_pos k)]
  congr 1
  by_cases h : a < 0
  · simp only [h, decide_true, if_true]
    obtain ⟨n, rfl⟩ : ∃ n : Nat, a = -(n : Int) := ⟨a.natAbs, by omega⟩
    rw [Int.natAbs_neg, Int.natAbs_natCast, Int.neg_tdiv]
    congr 1
  · simp only [h, decide_false, Bool.false_eq_true, if_false]
    obtain ⟨n, rfl⟩ : ∃ n : Nat, a = (n : Int) := ⟨a.natAbs, by omega⟩
    rw [Int.natAbs_natCast]
    rfl

/-- The double of 2 ^ 63. -/
theorem read_c63 : double.read 4890909195324358656 = .number false 4503599627370496 11 := by decide +kernel
/-- The greatest finite double. -/
theorem read_max : double.read 9218868437227405311 = .number false 9007199254740991 971 := by decide +kernel

theorem order_below (x c : Nat) (s : Bool) (m n : Nat) (i j : Int) (hx : double.read x = .number s m i) (hc : double.read c = .number false n j) (hij : i < j) (hm : m < 9007199254740992) (hn : 4503599627370496 ≤ n) : double.order x c = some .lt := by
  unfold Format.order
  rw [hx, hc]
  simp only [Datum.order]
  congr 1
  have hmin : min i j = i := by omega
  rw [hmin, show (i - i).toNat = 0 by omega]
  have h1 : signed s m 0 ≤ (m : Int) := by
    unfold signed; simp only [Nat.shiftLeft_zero]; split <;> omega
  have h2 : (9007199254740992 : Int) ≤ signed false n (j - i).toNat := by
    unfold signed
    simp only [Bool.false_eq_true, if_false]
    rw [Nat.shiftLeft_eq]
    have : (2 : Nat) ^ 1 ≤ 2 ^ (j - i).toNat := Nat.pow_le_pow_right (by decide) (by omega)
    have := Nat.mul_le_mul hn this
    omega
  show compareOfLessAndEq _ _ = _
  unfold compareOfLessAndEq
  rw [if_pos (by omega)]

theorem cut_near (neg : Bool) (m d : Nat) (hm : m ≠ 0) (hd : m.log2 = 52 + d) :
    4503599627370496 ≤ Toward.even.cut neg m d ∧ Toward.even.cut neg m d ≤ 9007199254740992 ∧ 2 * (Toward.even.cut neg m d * 2 ^ d) ≤ 2 * m + 2 ^ d ∧ 2 * m ≤ 2 * (Toward.even.cut neg m d * 2 ^ d) + 2 ^ d := by
  have hl := @Nat.lt_log2_self m
  have hg := Nat.log2_self_le hm
  unfold Toward.cut
  rw [Nat.min_eq_left (by omega), Nat.shiftLeft_eq, Nat.one_mul]
  have hp := Nat.two_pow_pos d
  have e1 : (2 : Nat) ^ m.log2 = 4503599627370496 * 2 ^ d := by rw [hd, Nat.pow_add]
  have e2 : (2 : Nat) ^ (m.log2 + 1) = 9007199254740992 * 2 ^ d := by rw [hd, show 52 + d + 1 = 53 + d by omega, Nat.pow_add]
  rw [e1] at hg; rw [e2] at hl
  generalize (2 : Nat) ^ d = g at *
  have hdm := Nat.div_add_mod m g
  have hlt := Nat.mod_lt m hp
  have h52 : 4503599627370496 ≤ m / g := (Nat.le_div_iff_mul_le hp).2 hg
  have h53 : m / g < 9007199254740992 := (Nat.div_lt_iff_lt_mul hp).2 hl
  dsimp only
  generalize m / g = q at *
  generalize m % g = r at *
  have hbit : ((decide (g < 2 * r) || g == 2 * r && q % 2 == 1).toNat = 0 ∧ 2 * r ≤ g) ∨ ((decide (g < 2 * r) || g == 2 * r && q % 2 == 1).toNat = 1 ∧ g ≤ 2 * r) := by
    by_cases h1 : g < 2 * r
    · right; simp [h1]; omega
    · by_cases h2 : g = 2 * r
      · by_cases h3 : q % 2 = 1
        · right
          refine ⟨?_, by omega⟩
          rw [← h2]; simp [h3]
        · left
          refine ⟨?_, by omega⟩
          rw [← h2]; simp [h3]
      · left
        refine ⟨?_, by omega⟩
        simp [h1, h2]
  have hc : g * q = q * g := Nat.mul_comm ..
  rcases hbit with ⟨h0, hr⟩ | ⟨h0, hr⟩
  · rw [h0, Nat.add_zero]; omega
  · rw [h0, Nat.add_mul, Nat.one_mul]; omega

theorem near (neg : Bool) (m : Nat) (p : Int) (hm : m ≠ 0) (h1 : -1022 ≤ p + m.log2) (h2 : p + m.log2 ≤ 900) :
    ∃ K : Nat, 4503599627370496 ≤ K ∧ K ≤ 9007199254740992 ∧ double.nearest neg m p = double.word neg ((p + m.log2 + 1022).toNat * 4503599627370496 + K) ∧
      2 * (K * 2 ^ (m.log2 - 52)) ≤ 2 * (m * 2 ^ (52 - m.log2)) + 2 ^ (m.log2 - 52) ∧ 2 * (m * 2 ^ (52 - m.log2)) ≤ 2 * (K * 2 ^ (m.log2 - 52)) + 2 ^ (m.log2 - 52) := by
  have hn : double.nearest neg m p = double.word neg (min ((p + m.log2 + 1022).toNat * 4503599627370496 + Toward.even.cut neg (m <<< (52 - m.log2)) (m.log2 - 52)) 9218868437227405312) := by
    unfold Format.nearest
    rw [if_neg hm]
    have e : max (p + (m.log2 : Int) - (double.fractionBits : Nat)) double.leastPlace = p + m.log2 - 52 := by
      rw [leastPlace_double, show double.fractionBits = 52 from rfl]; omega
    simp only [e]
    rw [show (p + (m.log2 : Int) - 52 - p).toNat = m.log2 - 52 by omega, show (p - (p + (m.log2 : Int) - 52)).toNat = 52 - m.log2 by omega, leastPlace_double, binade_double, infRung_double]
    rw [show p + (m.log2 : Int) - 52 - -1074 = p + m.log2 + 1022 by omega]
  by_cases hs : m.log2 ≤ 52
  · have hb := shl_bounds m (52 - m.log2) hm (by omega)
    rw [show m.log2 - 52 = 0 by omega, cut_zero, Nat.min_eq_left (by omega)] at hn
    rw [Nat.shiftLeft_eq] at hn hb
    refine ⟨m * 2 ^ (52 - m.log2), by omega, by omega, hn, ?_, ?_⟩ <;> rw [show m.log2 - 52 = 0 by omega] <;> omega
  · obtain ⟨c1, c2, c3, c4⟩ := cut_near neg m (m.log2 - 52) hm (by omega)
    rw [show 52 - m.log2 = 0 by omega, Nat.shiftLeft_zero, Nat.min_eq_left (by omega)] at hn
    refine ⟨_, c1, c2, hn, ?_, ?_⟩ <;> rw [show 52 - m.log2 = 0 by omega, Nat.pow_zero, Nat.mul_one] <;> omega

theorem read_rung (neg : Bool) (E K : Nat) (hE : E ≤ 2000) (h1 : 4503599627370496 ≤ K) (h2 : K ≤ 9007199254740992) :
    ∃ M c : Nat, c ≤ 1 ∧ double.read (double.word neg (E * 4503599627370496 + K)) = .number neg M ((E : Int) + c - 1074) ∧ M * 2 ^ c = K ∧ 4503599627370496 ≤ M ∧ M < 9007199254740992 := by
  by_cases h : K < 9007199254740992
  · refine ⟨K, 0, by omega, ?_, by omega, h1, h⟩
    rw [read_word neg E K (by omega) h1 h]
    congr 1
  · refine ⟨4503599627370496, 1, by omega, ?_, by omega, by omega, by omega⟩
    have := read_word neg (E + 1) 4503599627370496 (by omega) (by omega) (by omega)
    rw [show E * 4503599627370496 + K = (E + 1) * 4503599627370496 + 4503599627370496 by omega, this]
    congr 1

/-- What a rounded number reads as, and how far it is from the number. -/
theorem near_read (neg : Bool) (m : Nat) (p : Int) (hm : m ≠ 0) (h1 : -1022 ≤ p + m.log2) (h2 : p + m.log2 ≤ 900) :
    ∃ M c K : Nat, c ≤ 1 ∧ double.read (double.nearest neg m p) = .number neg M (p + m.log2 - 52 + c) ∧ M * 2 ^ c = K ∧ 4503599627370496 ≤ M ∧ M < 9007199254740992 ∧
      2 * (K * 2 ^ (m.log2 - 52)) ≤ 2 * (m * 2 ^ (52 - m.log2)) + 2 ^ (m.log2 - 52) ∧ 2 * (m * 2 ^ (52 - m.log2)) ≤ 2 * (K * 2 ^ (m.log2 - 52)) + 2 ^ (m.log2 - 52) := by
  obtain ⟨K, k1, k2, hn, b1, b2⟩ := near neg m p hm h1 h2
  obtain ⟨M, c, hc, hr, hK, m1, m2⟩ := read_rung neg (p + m.log2 + 1022).toNat K (by omega) k1 k2
  refine ⟨M, c, K, hc, ?_, hK, m1, m2, b1, b2⟩
  rw [hn, hr]
  congr 1; omega

/-- 'x' and 'y' differ by at most 'k' parts in 2 ^ 53. -/
def Ap (k x y : Nat) : Prop := x * 9007199254740992 ≤ y * (9007199254740992 + k) ∧ y * 9007199254740992 ≤ x * (9007199254740992 + k)

theorem Ap.symm {k x y : Nat} (h : Ap k x y) : Ap k y x := ⟨h.2, h.1⟩
theorem Ap.refl (k x : Nat) : Ap k x x := ⟨Nat.mul_le_mul_left _ (by omega), Nat.mul_le_mul_left _ (by omega)⟩
theorem Ap.mono {j k x y : Nat} (h : Ap j x y) (hk : j ≤ k) : Ap k x y :=
  ⟨Nat.le_trans h.1 (Nat.mul_le_mul_left _ (by omega)), Nat.le_trans h.2 (Nat.mul_le_mul_left _ (by omega))⟩

theorem Ap.half {N j k x y z : Nat} (hN : 0 < N) (hjk : j * k ≤ N) (h1 : x * N ≤ y * (N + j)) (h2 : y * N ≤ z * (N + k)) : x * N ≤ z * (N + (j + k + 1)) := by
  apply Nat.le_of_mul_le_mul_right _ hN
  calc x * N * N ≤ y * (N + j) * N := Nat.mul_le_mul_right _ h1
    _ = (y * N) * (N + j) := by rw [Nat.mul_assoc, Nat.mul_comm (N + j) N, Nat.mul_assoc]
    _ ≤ (z * (N + k)) * (N + j) := Nat.mul_le_mul_right _ h2
    _ = z * ((N + k) * (N + j)) := Nat.mul_assoc ..
    _ ≤ z * ((N + (j + k + 1)) * N) := by
      apply Nat.mul_le_mul_left
      have e1 : (N + k) * (N + j) = N * N + N * j + k * N + k * j := by
        rw [Nat.add_mul, Nat.mul_add, Nat.mul_add]; omega
      have e2 : (N + (j + k + 1)) * N = N * N + j * N + k * N + N := by
        rw [Nat.add_mul, Nat.add_mul, Nat.add_mul]; omega
      rw [e1, e2, Nat.mul_comm N j, Nat.mul_comm k j]
      omega
    _ = z * (N + (j + k + 1)) * N := (Nat.mul_assoc ..).symm

theorem Ap.trans {j k x y z : Nat} (h1 : Ap j x y) (h2 : Ap k y z) (hjk : j * k ≤ 9007199254740992) : Ap (j + k + 1) x z :=
  ⟨Ap.half (by decide) hjk h1.1 h2.1, by have := Ap.half (by decide) (by rwa [Nat.mul_comm]) h2.2 h1.2; rwa [Nat.add_comm k j] at this⟩

theorem Ap.mul {k x y : Nat} (h : Ap k x y) (c : Nat) : Ap k (x * c) (y * c) := by
  constructor
  · have := Nat.mul_le_mul_right c h.1
    rwa [Nat.mul_right_comm, Nat.mul_right_comm y] at this
  · have := Nat.mul_le_mul_right c h.2
    rwa [Nat.mul_right_comm, Nat.mul_right_comm x] at this

theorem Ap.cancel {k x y c : Nat} (hc : 0 < c) (h : Ap k (x * c) (y * c)) : Ap k x y := by
  constructor
  · apply Nat.le_of_mul_le_mul_right _ hc
    rw [Nat.mul_right_comm, Nat.mul_right_comm y]; exact h.1
  · apply Nat.le_of_mul_le_mul_right _ hc
    rw [Nat.mul_right_comm, Nat.mul_right_comm x]; exact h.2

theorem Ap.add {k x y : Nat} (h : Ap k x y) (z : Nat) : Ap k (z + x) (z + y) := by
  have := (Ap.refl k z)
  constructor
  · rw [Nat.add_mul, Nat.add_mul]; exact Nat.add_le_add this.1 h.1
  · rw [Nat.add_mul, Nat.add_mul]; exact Nat.add_le_add this.2 h.2

theorem Ap.le2 {k x y : Nat} (h : Ap k x y) (hk : k ≤ 9007199254740992) : x ≤ 2 * y := by
  have h1 := h.1
  have hN : 0 < 9007199254740992 := by decide
  generalize 9007199254740992 = N at *
  apply Nat.le_of_mul_le_mul_right _ hN
  calc x * N ≤ y * (N + k) := h1
    _ ≤ y * (2 * N) := Nat.mul_le_mul_left _ (by omega)
    _ = 2 * y * N := by rw [Nat.mul_left_comm, Nat.mul_assoc]

/-- The word 'x' stands for the number 'v / 2 ^ s'. -/
def Val (s x v : Nat) : Prop := ∃ M : Nat, ∃ E : Int, double.read x = .number false M E ∧ 0 ≤ E + s ∧ v = M * 2 ^ (E + s).toNat ∧ M < 9007199254740992

theorem log2_mul_pow (m k : Nat) (h : m ≠ 0) : (m * 2 ^ k).log2 = m.log2 + k := by rw [← Nat.shiftLeft_eq]; exact log2_shl m k h

theorem round_val (s u m : Nat) (p : Int) (hm : m ≠ 0) (hs : 1074 ≤ s) (hp : 0 ≤ p + (s + u)) (h1 : 2 ^ (s + u - 1022) ≤ m * 2 ^ (p + (s + u)).toNat) (h2 : m * 2 ^ (p + (s + u)).toNat < 2 ^ (s + u + 900)) :
    ∃ c, Val s (double.nearest false m p) c ∧ 0 < c ∧ Ap 1 (c * 2 ^ u) (m * 2 ^ (p + (s + u)).toNat) := by
  have hne : m * 2 ^ (p + (s + u)).toNat ≠ 0 := Nat.mul_ne_zero hm (Nat.pos_iff_ne_zero.1 (Nat.two_pow_pos _))
  have l1 := (Nat.le_log2 hne).2 h1
  have l2 := (Nat.log2_lt hne).2 h2
  rw [log2_mul_pow _ _ hm] at l1 l2
  obtain ⟨M, c, K, hc, hr, hK, m1, m2, b1, b2⟩ := near_read false m p hm (by omega) (by omega)
  refine ⟨M * 2 ^ (p + m.log2 - 52 + c + s).toNat, ⟨M, _, hr, by omega, rfl, m2⟩, Nat.mul_pos (by omega) (Nat.two_pow_pos _), ?_⟩
  -- both sides, in units of 2 ^ (p + s + u - (52 - log2 m))
  have hg := Nat.log2_self_le hm
  have hK1 : 4503599627370496 ≤ K := by
    rw [← hK]; have : 1 ≤ 2 ^ c := Nat.one_le_two_pow; have := Nat.mul_le_mul m1 this; omega
  have key : Ap 1 (K * 2 ^ (m.log2 - 52)) (m * 2 ^ (52 - m.log2)) := by
    have hd : 4503599627370496 * 2 ^ (m.log2 - 52) ≤ m * 2 ^ (52 - m.log2) := by
      calc 4503599627370496 * 2 ^ (m.log2 - 52) = 2 ^ (52 + (m.log2 - 52)) := (Nat.pow_add 2 52 _).symm
        _ = 2 ^ (m.log2 + (52 - m.log2)) := by congr 1; omega
        _ = 2 ^ m.log2 * 2 ^ (52 - m.log2) := Nat.pow_add ..
        _ ≤ m * 2 ^ (52 - m.log2) := Nat.mul_le_mul_right _ hg
    have hd2 : 4503599627370496 * 2 ^ (m.log2 - 52) ≤ K * 2 ^ (m.log2 - 52) := Nat.mul_le_mul_right _ hK1
    generalize K * 2 ^ (m.log2 - 52) = x at *
    generalize m * 2 ^ (52 - m.log2) = y at *
    generalize 2 ^ (m.log2 - 52) = g at *
    constructor <;> omega
  obtain ⟨A, B, hA, hB⟩ : ∃ A B : Nat, (c : Nat) + (m.log2 - 52) + A = ((p + m.log2 - 52 + c + s).toNat + u) + B ∧ (52 - m.log2) + A = (p + (s + u)).toNat + B := by
    by_cases hl : m.log2 ≤ 52
    · refine ⟨(p + (s + u)).toNat, 52 - m.log2, by omega, by omega⟩
    · refine ⟨(p + (s + u)).toNat, 0, by omega, by omega⟩
  have k2 := key.mul (2 ^ A)
  have e1 : K * 2 ^ (m.log2 - 52) * 2 ^ A = (M * 2 ^ (p + m.log2 - 52 + c + s).toNat * 2 ^ u) * 2 ^ B := by
    rw [← hK]
    simp only [Nat.mul_assoc, ← Nat.pow_add]
    congr 2
  have e2 : m * 2 ^ (52 - m.log2) * 2 ^ A = (m * 2 ^ (p + (s + u)).toNat) * 2 ^ B := by
    simp only [Nat.mul_assoc, ← Nat.pow_add]
    congr 2
  rw [e1, e2] at k2
  exact k2.cancel (Nat.two_pow_pos _)

theorem val_G (s : Nat) (p : Int) (a : Nat) (hs : 1074 ≤ s) (ha : a < 9007199254740992) (hp1 : -900 ≤ p) (hp2 : p ≤ 900) : Val s (G p a) (a * 2 ^ (p + s).toNat) := by
  by_cases h : a = 0
  · subst h
    refine ⟨0, -1074, ?_, by omega, by simp, by omega⟩
    rw [show ((0 : Nat) : Int) = 0 from rfl, G_zero]; exact read_zero false
  · obtain ⟨k, hk, hl⟩ := read_G p a (by omega) (by omega) hp2
    have hl := hl (by omega)
    have hneg : ¬ (a : Int) < 0 := by omega
    simp only [hneg, decide_false, Int.natAbs_natCast] at hk hl
    refine ⟨_, _, hk, by omega, ?_, ?_⟩
    · rw [Nat.shiftLeft_eq, Nat.mul_assoc, ← Nat.pow_add]; congr 2; omega
    · exact (shl_bounds a k h hl).2

theorem signed_false (m u : Nat) : signed false m u = ((m * 2 ^ u : Nat) : Int) := by
  unfold signed; simp [Nat.shiftLeft_eq]

theorem val_add {s x y a b : Nat} (hs : 1074 ≤ s) (hx : Val s x a) (hy : Val s y b) (h1 : 2 ^ (s - 1022) ≤ a + b) (h2 : a + b < 2 ^ (s + 900)) :
    ∃ z c, double.add x y = some z ∧ Val s z c ∧ 0 < c ∧ Ap 1 c (a + b) := by
  obtain ⟨m, i, hrx, hi, rfl, _⟩ := hx
  obtain ⟨n, j, hry, hj, rfl, _⟩ := hy
  unfold Format.add
  rw [hrx, hry]
  simp only [Datum.sum, signed_false, Option.map_some]
  rw [← Int.natCast_add, Int.natAbs_natCast]
  have e1 : (m * 2 ^ (i - min i j).toNat + n * 2 ^ (j - min i j).toNat) * 2 ^ (min i j + s).toNat = m * 2 ^ (i + s).toNat + n * 2 ^ (j + s).toNat := by
    rw [Nat.add_mul]
    simp only [Nat.mul_assoc, ← Nat.pow_add]
    congr 3 <;> omega
  rw [← e1] at h1 h2 ⊢
  generalize hT : m * 2 ^ (i - min i j).toNat + n * 2 ^ (j - min i j).toNat = T at *
  have hT0 : T ≠ 0 := by
    intro h; rw [h, Nat.zero_mul] at h1
    have := Nat.two_pow_pos (s - 1022); omega
  have hneg : (if ((T : Nat) : Int) = 0 then false && false else decide (((T : Nat) : Int) < 0)) = false := by
    rw [if_neg (by omega)]; exact decide_eq_false (by omega)
  rw [hneg]
  obtain ⟨c, hc, hc0, hap⟩ := round_val s 0 T (min i j) hT0 hs (by omega) (by simpa using h1) (by simpa using h2)
  exact ⟨_, c, rfl, hc, hc0, by simpa using hap⟩

theorem val_mul {s x y a b : Nat} (hs : 1074 ≤ s) (hx : Val s x a) (hy : Val s y b) (h1 : 2 ^ (s + s - 1022) ≤ a * b) (h2 : a * b < 2 ^ (s + s + 900)) :
    ∃ z c, double.mul x y = some z ∧ Val s z c ∧ 0 < c ∧ Ap 1 (c * 2 ^ s) (a * b) := by
  obtain ⟨m, i, hrx, hi, rfl, _⟩ := hx
  obtain ⟨n, j, hry, hj, rfl, _⟩ := hy
  unfold Format.mul
  rw [hrx, hry]
  simp only [Datum.product, Bool.xor_false, Option.map_some]
  have e1 : m * 2 ^ (i + s).toNat * (n * 2 ^ (j + s).toNat) = m * n * 2 ^ (i + j + (s + s)).toNat := by
    have : (i + j + (s + s)).toNat = (i + s).toNat + (j + s).toNat := by omega
    rw [this, Nat.pow_add]
    simp only [Nat.mul_assoc, Nat.mul_left_comm]
  rw [e1] at h1 h2 ⊢
  have hT0 : m * n ≠ 0 := by
    intro h; rw [h, Nat.zero_mul] at h1
    have := Nat.two_pow_pos (s + s - 1022); omega
  obtain ⟨c, hc, hc0, hap⟩ := round_val s s (m * n) (i + j) hT0 hs (by omega) h1 h2
  exact ⟨_, c, rfl, hc, hc0, hap⟩

theorem quot_near (m n : Nat) (hm : m ≠ 0) (hn : n ≠ 0) (more : Nat) (h : 54 + n.log2 ≤ m.log2 + more) :
    Ap 1 ((2 * (m <<< more / n) + (m <<< more % n != 0).toNat) * n) (2 * (m * 2 ^ more)) ∧ 2 * (m <<< more / n) + (m <<< more % n != 0).toNat ≠ 0 := by
  have hg := Nat.log2_self_le hm
  have hl := @Nat.lt_log2_self n
  have h1 : 9007199254740992 * n ≤ m <<< more := by
    rw [Nat.shiftLeft_eq]
    calc 9007199254740992 * n ≤ 2 ^ 53 * 2 ^ (n.log2 + 1) := Nat.mul_le_mul_left _ (Nat.le_of_lt hl)
      _ = 2 ^ (54 + n.log2) := by rw [← Nat.pow_add]; congr 1; omega
      _ ≤ 2 ^ (m.log2 + more) := Nat.pow_le_pow_right (by decide) h
      _ = 2 ^ m.log2 * 2 ^ more := Nat.pow_add ..
      _ ≤ m * 2 ^ more := Nat.mul_le_mul_right _ hg
  rw [← Nat.shiftLeft_eq]
  generalize m <<< more = d at *
  have hdm := Nat.div_add_mod d n
  have hlt := Nat.mod_lt d (Nat.pos_of_ne_zero hn)
  have h53 : 9007199254740992 ≤ d / n := (Nat.le_div_iff_mul_le (Nat.pos_of_ne_zero hn)).2 h1
  generalize d / n = q at *
  generalize d % n = r at *
  have e : (2 * q + (r != 0).toNat) * n = 2 * (n * q) + (r != 0).toNat * n := by
    rw [Nat.add_mul, Nat.mul_assoc, Nat.mul_comm q n]
  have hq : 9007199254740992 * n ≤ n * q := by rw [Nat.mul_comm]; exact Nat.mul_le_mul_left _ h53
  refine ⟨?_, by omega⟩
  rw [e]
  generalize n * q = z at *
  by_cases hr : r = 0
  · subst hr; simp only [bne_self_eq_false, Bool.toNat_false, Nat.zero_mul, Nat.add_zero] ; constructor <;> omega
  · rw [show (r != 0) = true from by simp [hr]]
    simp only [Bool.toNat_true, Nat.one_mul]
    constructor <;> omega

theorem val_div {s x y a b : Nat} (hs : 1074 ≤ s) (hx : Val s x a) (hy : Val s y b) (ha : 0 < a) (hb : 0 < b) (k l : Nat) (hk : k ≤ 1000) (hl : l ≤ 800) (h1 : b ≤ a * 2 ^ k) (h2 : a ≤ b * 2 ^ l) :
    ∃ z c, double.div x y = some z ∧ Val s z c ∧ 0 < c ∧ Ap 3 (c * b) (a * 2 ^ s) := by
  obtain ⟨m, i, hrx, hi, rfl, _⟩ := hx
  obtain ⟨n, j, hry, hj, rfl, _⟩ := hy
  have hm : m ≠ 0 := by intro h; rw [h, Nat.zero_mul] at ha; omega
  have hn : n ≠ 0 := by intro h; rw [h, Nat.zero_mul] at hb; omega
  unfold Format.div
  rw [hrx, hry, show double.fractionBits + 2 = 54 from rfl]
  simp only [Datum.quotient]
  rw [if_neg hn]
  simp only [Option.map_some, Bool.xor_false]
  obtain ⟨hq, hq0⟩ := quot_near m n hm hn (54 + n.log2 - m.log2) (by omega)
  generalize 54 + n.log2 - m.log2 = more at *
  generalize 2 * (m <<< more / n) + (m <<< more % n != 0).toNat = Q at *
  obtain ⟨u, hu⟩ : ∃ u : Nat, u = (-(i - j - more - 1)).toNat := ⟨_, rfl⟩
  have hpu : 0 ≤ (i - j - (more : Int) - 1) + ((s : Int) + u) := by omega
  obtain ⟨w, hw⟩ : ∃ w : Nat, w = ((i - j - (more : Int) - 1) + ((s : Int) + u)).toNat := ⟨_, rfl⟩
  have k1 := hq.mul (2 ^ w)
  -- X = m * 2 ^ (i - j + s + u)
  have eX : 2 * (m * 2 ^ more) * 2 ^ w = m * 2 ^ (1 + more + w) := by
    rw [Nat.pow_add, Nat.pow_add, Nat.pow_one]
    simp only [Nat.mul_assoc, Nat.mul_left_comm]
  have eXs : m * 2 ^ (1 + more + w) * 2 ^ (j + s).toNat = m * 2 ^ (i + s).toNat * 2 ^ (s + u) := by
    simp only [Nat.mul_assoc, ← Nat.pow_add]; congr 2; omega
  rw [eX] at k1
  have hpj := Nat.two_pow_pos (j + s).toNat
  -- the bounds
  have b1 : n * 2 ^ (s + u) ≤ m * 2 ^ (1 + more + w) * 2 ^ k := by
    apply Nat.le_of_mul_le_mul_right _ hpj
    calc n * 2 ^ (s + u) * 2 ^ (j + s).toNat = n * 2 ^ (j + s).toNat * 2 ^ (s + u) := Nat.mul_right_comm ..
      _ ≤ m * 2 ^ (i + s).toNat * 2 ^ k * 2 ^ (s + u) := Nat.mul_le_mul_right _ h1
      _ = m * 2 ^ (i + s).toNat * 2 ^ (s + u) * 2 ^ k := Nat.mul_right_comm ..
      _ = m * 2 ^ (1 + more + w) * 2 ^ k * 2 ^ (j + s).toNat := by rw [← eXs]; exact Nat.mul_right_comm ..
  have b2 : m * 2 ^ (1 + more + w) ≤ n * 2 ^ (s + u + l) := by
    apply Nat.le_of_mul_le_mul_right _ hpj
    calc m * 2 ^ (1 + more + w) * 2 ^ (j + s).toNat = m * 2 ^ (i + s).toNat * 2 ^ (s + u) := eXs
      _ ≤ n * 2 ^ (j + s).toNat * 2 ^ l * 2 ^ (s + u) := Nat.mul_le_mul_right _ h2
      _ = n * 2 ^ (s + u + l) * 2 ^ (j + s).toNat := by
        rw [Nat.pow_add 2 (s + u) l]
        simp only [Nat.mul_assoc, Nat.mul_left_comm, Nat.mul_comm]
  obtain ⟨e22, he22⟩ : ∃ e : Nat, e = 1022 := ⟨_, rfl⟩
  have hW1 : 2 ^ (s + u - 1022) ≤ Q * 2 ^ w := by
    apply Nat.le_of_mul_le_mul_right _ (Nat.pos_of_ne_zero hn)
    apply Nat.le_of_mul_le_mul_right _ (Nat.two_pow_pos e22)
    have t1 : m * 2 ^ (1 + more + w) ≤ Q * n * 2 ^ w * 2 := by
      have := k1.2; omega
    calc 2 ^ (s + u - 1022) * n * 2 ^ e22 = n * 2 ^ (s + u) := by
          rw [Nat.mul_right_comm, ← Nat.pow_add, Nat.mul_comm, show s + u - 1022 + e22 = s + u from by omega]
      _ ≤ m * 2 ^ (1 + more + w) * 2 ^ k := b1
      _ ≤ Q * n * 2 ^ w * 2 * 2 ^ k := Nat.mul_le_mul_right _ t1
      _ = Q * 2 ^ w * n * 2 ^ (k + 1) := by
          rw [show (2 : Nat) ^ (k + 1) = 2 * 2 ^ k from by rw [Nat.pow_succ, Nat.mul_comm]]
          simp only [Nat.mul_assoc, Nat.mul_left_comm, Nat.mul_comm]
      _ ≤ Q * 2 ^ w * n * 2 ^ e22 := Nat.mul_le_mul_left _ (Nat.pow_le_pow_right (by decide) (by omega))
  have hW2 : Q * 2 ^ w < 2 ^ (s + u + 900) := by
    apply Nat.lt_of_mul_lt_mul_right (a := n)
    have t1 : Q * n * 2 ^ w ≤ m * 2 ^ (1 + more + w) * 2 := by
      have := k1.1; omega
    calc Q * 2 ^ w * n = Q * n * 2 ^ w := Nat.mul_right_comm ..
      _ ≤ m * 2 ^ (1 + more + w) * 2 := t1
      _ ≤ n * 2 ^ (s + u + l) * 2 := Nat.mul_le_mul_right _ b2
      _ = 2 ^ (s + u + l + 1) * n := by rw [Nat.mul_assoc, ← Nat.pow_succ, Nat.mul_comm]
      _ < 2 ^ (s + u + 900) * n := Nat.mul_lt_mul_of_pos_right (Nat.pow_lt_pow_right (by decide) (by omega)) (Nat.pos_of_ne_zero hn)
  rw [hw] at hW1 hW2
  obtain ⟨c, hc, hc0, hap⟩ := round_val s u Q (i - j - more - 1) hq0 hs hpu hW1 hW2
  refine ⟨_, c, rfl, hc, hc0, ?_⟩
  rw [← hw] at hap
  have k2 : Ap 1 (c * 2 ^ u * n) (Q * n * 2 ^ w) := by have := hap.mul n; rwa [Nat.mul_right_comm Q] at this
  have k3 := (k2.trans k1 (by decide)).mul (2 ^ (j + s).toNat)
  rw [eXs] at k3
  have e1 : c * 2 ^ u * n * 2 ^ (j + s).toNat = c * (n * 2 ^ (j + s).toNat) * 2 ^ u := by simp only [Nat.mul_assoc, Nat.mul_left_comm, Nat.mul_comm]
  have e2 : m * 2 ^ (i + s).toNat * 2 ^ (s + u) = m * 2 ^ (i + s).toNat * 2 ^ s * 2 ^ u := by rw [Nat.pow_add, Nat.mul_assoc]; simp only [Nat.mul_assoc]
  rw [e1, e2] at k3
  exact k3.cancel (Nat.two_pow_pos u)

theorem order_val {s x y a b : Nat} (hx : Val s x a) (hy : Val s y b) : double.order x y = some (compare a b) := by
  obtain ⟨m, i, hrx, hi, rfl, _⟩ := hx
  obtain ⟨n, j, hry, hj, rfl, _⟩ := hy
  unfold Format.order
  rw [hrx, hry]
  simp only [Datum.order, signed_false]
  have e1 : m * 2 ^ (i + s).toNat = (m * 2 ^ (i - min i j).toNat) * 2 ^ (min i j + s).toNat := by
    rw [Nat.mul_assoc, ← Nat.pow_add]; congr 2; omega
  have e2 : n * 2 ^ (j + s).toNat = (n * 2 ^ (j - min i j).toNat) * 2 ^ (min i j + s).toNat := by
    rw [Nat.mul_assoc, ← Nat.pow_add]; congr 2; omega
  rw [e1, e2]
  have hp := Nat.two_pow_pos (min i j + s).toNat
  generalize 2 ^ (min i j + s).toNat = g at *
  generalize m * 2 ^ (i - min i j).toNat = a
  generalize n * 2 ^ (j - min i j).toNat = b
  congr 1
  show compareOfLessAndEq _ _ = compareOfLessAndEq _ _
  unfold compareOfLessAndEq
  by_cases h : a < b
  · rw [if_pos (by omega), if_pos (Nat.mul_lt_mul_of_pos_right h hp)]
  · by_cases h' : a = b
    · subst h'; simp
    · have := Nat.mul_lt_mul_of_pos_right (show b < a by omega) hp
      rw [if_neg (by omega), if_neg (by omega), if_neg (by omega), if_neg (by omega)]

/-- A number of middling size. -/
def Mid (s v : Nat) : Prop := 2 ^ (s - 60) ≤ v ∧ v ≤ 2 ^ (s + 60)

theorem add_mid {s x y a b : Nat} (hs : 1074 ≤ s) (hx : Val s x a) (hy : Val s y b) (h : Mid s (a + b)) :
    ∃ z c, double.add x y = some z ∧ Val s z c ∧ 0 < c ∧ Ap 1 c (a + b) :=
  val_add hs hx hy (Nat.le_trans (Nat.pow_le_pow_right (by decide) (by omega)) h.1) (Nat.lt_of_le_of_lt h.2 (Nat.pow_lt_pow_right (by decide) (by omega)))

theorem mul_mid {s x y a b : Nat} (hs : 1074 ≤ s) (hx : Val s x a) (hy : Val s y b) (ha : Mid s a) (hb : Mid s b) :
    ∃ z c, double.mul x y = some z ∧ Val s z c ∧ 0 < c ∧ Ap 1 (c * 2 ^ s) (a * b) := by
  refine val_mul hs hx hy ?_ ?_
  · refine Nat.le_trans ?_ (Nat.mul_le_mul ha.1 hb.1)
    rw [← Nat.pow_add]; exact Nat.pow_le_pow_right (by decide) (by omega)
  · refine Nat.lt_of_le_of_lt (Nat.mul_le_mul ha.2 hb.2) ?_
    rw [← Nat.pow_add]; exact Nat.pow_lt_pow_right (by decide) (by omega)

theorem div_mid {s x y a b : Nat} (hs : 1074 ≤ s) (hx : Val s x a) (hy : Val s y b) (ha : Mid s a) (hb : Mid s b) :
    ∃ z c, double.div x y = some z ∧ Val s z c ∧ 0 < c ∧ Ap 3 (c * b) (a * 2 ^ s) := by
  have hp := Nat.two_pow_pos (s - 60)
  refine val_div hs hx hy (Nat.lt_of_lt_of_le hp ha.1) (Nat.lt_of_lt_of_le hp hb.1) 120 120 (by omega) (by omega) ?_ ?_
  · refine Nat.le_trans hb.2 (Nat.le_trans ?_ (Nat.mul_le_mul_right _ ha.1))
    rw [← Nat.pow_add]; exact Nat.pow_le_pow_right (by decide) (by omega)
  · refine Nat.le_trans ha.2 (Nat.le_trans ?_ (Nat.mul_le_mul_right _ hb.1))
    rw [← Nat.pow_add]; exact Nat.pow_le_pow_right (by decide) (by omega)

theorem order_max {s x a : Nat} (hx : Val s x a) (h0 : 0 < a) (h : a < 2 ^ (s + 900)) : double.order x 9218868437227405311 = some .lt := by
  obtain ⟨m, i, hrx, hi, rfl, hm⟩ := hx
  refine order_below x _ false m _ i 971 hrx read_max ?_ hm (by decide)
  apply Int.lt_of_not_ge
  intro hge
  have h1 : 1 ≤ m := by
    rcases Nat.eq_zero_or_pos m with h | h
    · subst h; rw [Nat.zero_mul] at h0; omega
    · exact h
  have h2 : (2 : Nat) ^ (s + 900) ≤ 2 ^ (i + s).toNat := Nat.pow_le_pow_right (by decide) (by omega)
  have h3 := Nat.mul_le_mul h1 h2
  omega

theorem order_c63 {s x a : Nat} (hx : Val s x a) (h0 : 0 < a) (h : a < 2 ^ (s + 11)) : double.order x 4890909195324358656 = some .lt := by
  obtain ⟨m, i, hrx, hi, rfl, hm⟩ := hx
  refine order_below x _ false m _ i 11 hrx read_c63 ?_ hm (by decide)
  apply Int.lt_of_not_ge
  intro hge
  have h1 : 1 ≤ m := by
    rcases Nat.eq_zero_or_pos m with h | h
    · subst h; rw [Nat.zero_mul] at h0; omega
    · exact h
  have h2 : (2 : Nat) ^ (s + 11) ≤ 2 ^ (i + s).toNat := Nat.pow_le_pow_right (by decide) (by omega)
  have h3 := Nat.mul_le_mul h1 h2
  omega

/-- All that is used of a scale: its unit P, exact small numbers, and the three operations on middling numbers. -/
structure Scale (s P : Nat) : Prop where
  s1 : 1074 ≤ s
  pos : 0 < P
  eq : P = 2 ^ s

def Midd (P v : Nat) : Prop := P ≤ 1152921504606846976 * v ∧ v ≤ 1152921504606846976 * P

theorem Scale.mid {s P v : Nat} (h : Scale s P) (hm : Midd P v) : Mid s v := by
  have hs := h.s1
  have e1 : P = 1152921504606846976 * 2 ^ (s - 60) := by
    rw [h.eq, show (1152921504606846976 : Nat) = 2 ^ 60 from rfl, ← Nat.pow_add]; congr 1; omega
  have e2 : 2 ^ (s + 60) = 1152921504606846976 * P := by
    rw [h.eq, show (1152921504606846976 : Nat) = 2 ^ 60 from rfl, ← Nat.pow_add]; congr 1; omega
  obtain ⟨a, b⟩ := hm
  refine ⟨?_, ?_⟩
  · rw [e1] at a; exact Nat.le_of_mul_le_mul_left a (by decide)
  · rw [e2]; exact b

theorem Scale.num {s P : Nat} (h : Scale s P) (a : Nat) (ha : a < 9007199254740992) : Val s (G 0 (a : Int)) (a * P) := by
  have := val_G s 0 a h.s1 ha (by omega) (by omega)
  rw [h.eq]
  rwa [show ((0 : Int) + s).toNat = s by omega] at this

theorem Scale.midNum {s P : Nat} (_h : Scale s P) (a : Nat) (h0 : 0 < a) (ha : a < 9007199254740992) : Midd P (a * P) := by
  have h1 : 1 * P ≤ a * P := Nat.mul_le_mul_right _ h0
  have h2 : a * P ≤ 9007199254740992 * P := Nat.mul_le_mul_right _ (Nat.le_of_lt ha)
  constructor <;> omega

theorem Scale.add {s P x y a b : Nat} (h : Scale s P) (hx : Val s x a) (hy : Val s y b) (hm : Midd P (a + b)) :
    ∃ z c, double.add x y = some z ∧ Val s z c ∧ 0 < c ∧ Ap 1 c (a + b) := add_mid h.s1 hx hy (h.mid hm)

theorem Scale.mul {s P x y a b : Nat} (h : Scale s P) (hx : Val s x a) (hy : Val s y b) (ha : Midd P a) (hb : Midd P b) :
    ∃ z c, double.mul x y = some z ∧ Val s z c ∧ 0 < c ∧ Ap 1 (c * P) (a * b) := by
  rw [h.eq]; exact mul_mid h.s1 hx hy (h.mid ha) (h.mid hb)

theorem Scale.div {s P x y a b : Nat} (h : Scale s P) (hx : Val s x a) (hy : Val s y b) (ha : Midd P a) (hb : Midd P b) :
    ∃ z c, double.div x y = some z ∧ Val s z c ∧ 0 < c ∧ Ap 3 (c * b) (a * P) := by
  rw [h.eq]; exact div_mid h.s1 hx hy (h.mid ha) (h.mid hb)

theorem Scale.max {s P x v : Nat} (h : Scale s P) (hx : Val s x v) (h0 : 0 < v) (hm : Midd P v) : double.order x 9218868437227405311 = some .lt :=
  order_max hx h0 (Nat.lt_of_le_of_lt (h.mid hm).2 (Nat.pow_lt_pow_right (by decide) (by omega)))

theorem scale_ex : ∃ s P, Scale s P ∧ s = 1100 := by
  obtain ⟨s, hs⟩ : ∃ s : Nat, s = 1100 := ⟨_, rfl⟩
  exact ⟨s, 2 ^ s, ⟨by omega, Nat.two_pow_pos _, rfl⟩, hs⟩

/-- A word with a negative place, at a scale. -/
theorem Scale.word {s P x M : Nat} {k : Nat} (h : Scale s P) (hr : double.read x = .number false M (-(k : Int))) (hM : M < 9007199254740992) (hk : k ≤ 1000) (Q : Nat) (hQ : P = 2 ^ k * Q) : Val s x (M * Q) := by
  have hs := h.s1
  refine ⟨_, _, hr, by omega, ?_, hM⟩
  have : 2 ^ k * Q = 2 ^ k * 2 ^ (-(k : Int) + s).toNat := by
    rw [← hQ, h.eq, ← Nat.pow_add]; congr 1; omega
  rw [Nat.eq_of_mul_eq_mul_left (Nat.two_pow_pos k) this]

theorem Scale.part {s P : Nat} (h : Scale s P) (k : Nat) (hk : k ≤ 1000) : ∃ Q, P = 2 ^ k * Q := by
  have hs := h.s1
  refine ⟨2 ^ (s - k), ?_⟩
  rw [h.eq, ← Nat.pow_add]; congr 1; omega

end Go.Proofs.Ytndkiphlpddbaaa.Flt
