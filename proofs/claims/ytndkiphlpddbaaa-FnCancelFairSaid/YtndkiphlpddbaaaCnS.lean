/- Plain facts on doubles that cancelling needs: a rounded sum lies where the sum lies; how many tokens a time gives. No program here. -/
import Derived.Test.YtndkiphlpddbaaaCnF
namespace Go.Proofs.Ytndkiphlpddbaaa.Flt
open Ieee

/-! ### a rounded sum lies where the sum lies -/
/-- The word x stands for v / 2 ^ s, and v is a multiple of 2 ^ t. -/
def SvD (s t : Nat) (D : Datum) (v : Int) : Prop := ∃ (neg : Bool) (M : Nat) (E : Int), D = .number neg M E ∧ 0 ≤ E + s ∧ v = (if neg then -1 else 1) * ((M * 2 ^ (E + s).toNat : Nat) : Int) ∧ M < 9007199254740992 ∧ 2 ^ t ∣ v.natAbs

def Sv (s t x : Nat) (v : Int) : Prop := SvD s t (double.read x) v

theorem SvD.opp {s t : Nat} {D : Datum} {v : Int} (h : SvD s t D v) : SvD s t D.opposite (-v) := by
  obtain ⟨neg, M, E, rfl, b, c, d, e⟩ := h
  refine ⟨!neg, M, E, rfl, b, ?_, d, by rw [Int.natAbs_neg]; exact e⟩
  rw [c]
  cases neg <;> simp

theorem Sv.mono {s t t' x : Nat} {v : Int} (h : Sv s t x v) (ht : t' ≤ t) : Sv s t' x v := by
  obtain ⟨neg, M, E, a, b, c, d, e⟩ := h
  exact ⟨neg, M, E, a, b, c, d, Nat.dvd_trans (Nat.pow_dvd_pow 2 ht) e⟩

theorem signed_sv (neg : Bool) (M u : Nat) : signed neg M u = (if neg then -1 else 1) * ((M * 2 ^ u : Nat) : Int) := by
  unfold signed
  rw [Nat.shiftLeft_eq]
  cases neg <;> simp

theorem sv_order {s t t' x y : Nat} {a b : Int} (hx : Sv s t x a) (hy : Sv s t' y b) : double.order x y = some (compare a b) := by
  obtain ⟨n1, m, i, hrx, hi, ha, _⟩ := hx
  obtain ⟨n2, n, j, hry, hj, hb, _⟩ := hy
  unfold Format.order
  rw [hrx, hry]
  simp only [Datum.order, signed_sv]
  have e1 : a = (if n1 then -1 else 1) * ((m * 2 ^ (i - min i j).toNat : Nat) : Int) * ((2 ^ (min i j + s).toNat : Nat) : Int) := by
    rw [ha, Int.mul_assoc, ← Int.natCast_mul, Nat.mul_assoc, ← Nat.pow_add]; congr 5; omega
  have e2 : b = (if n2 then -1 else 1) * ((n * 2 ^ (j - min i j).toNat : Nat) : Int) * ((2 ^ (min i j + s).toNat : Nat) : Int) := by
    rw [hb, Int.mul_assoc, ← Int.natCast_mul, Nat.mul_assoc, ← Nat.pow_add]; congr 5; omega
  rw [e1, e2]
  have hp : (0 : Int) < ((2 ^ (min i j + s).toNat : Nat) : Int) := by have := Nat.two_pow_pos (min i j + s).toNat; omega
  generalize ((2 ^ (min i j + s).toNat : Nat) : Int) = g at *
  generalize (if n1 then -1 else 1) * ((m * 2 ^ (i - min i j).toNat : Nat) : Int) = a'
  generalize (if n2 then -1 else 1) * ((n * 2 ^ (j - min i j).toNat : Nat) : Int) = b'
  congr 1
  show compareOfLessAndEq _ _ = compareOfLessAndEq _ _
  unfold compareOfLessAndEq
  by_cases h : a' < b'
  · rw [if_pos h, if_pos (Int.mul_lt_mul_of_pos_right h hp)]
  · by_cases h' : a' = b'
    · subst h'; simp
    · have := Int.mul_lt_mul_of_pos_right (show b' < a' by omega) hp
      rw [if_neg h, if_neg h', if_neg (by omega), if_neg (by omega)]

/-- A magnitude, rounded: no double lies between it and what it is rounded to. -/
theorem round_sand (s m : Nat) (p : Int) (hm : m ≠ 0) (hs : 1074 ≤ s) (hp : 0 ≤ p + s) (h1 : -1022 ≤ p + m.log2) (h2 : p + m.log2 ≤ 900) :
    ∃ (M : Nat) (E : Int), (∀ neg, double.read (double.nearest neg m p) = .number neg M E) ∧ 0 ≤ E + s ∧ M < 9007199254740992 ∧ p + m.log2 - 52 ≤ E ∧
      ∀ (U : Nat) (F : Int), U < 9007199254740992 → 0 ≤ F + s → (m * 2 ^ (p + s).toNat ≤ U * 2 ^ (F + s).toNat → M * 2 ^ (E + s).toNat ≤ U * 2 ^ (F + s).toNat) ∧ (U * 2 ^ (F + s).toNat ≤ m * 2 ^ (p + s).toNat → U * 2 ^ (F + s).toNat ≤ M * 2 ^ (E + s).toNat) := by
  obtain ⟨M, c, K, hc, hr, hK, m1, m2, b1, b2⟩ := near_read false m p hm h1 h2
  have hboth : ∀ neg, double.read (double.nearest neg m p) = .number neg M (p + m.log2 - 52 + c) := by
    intro neg
    cases neg
    · exact hr
    · obtain ⟨M', E', r1, r2⟩ := opp_nearest m p (by rw [hr]; simp)
      rw [hr] at r1
      injection r1 with _ e1 e2
      rw [r2, e1, e2]
  refine ⟨M, p + m.log2 - 52 + c, hboth, by omega, m2, by omega, fun U F hU hF => ?_⟩
  have hg := Nat.log2_self_le hm
  have hl := @Nat.lt_log2_self m
  -- in units of g, the last place's: v lies within half of one of K * g
  obtain ⟨g, hgd⟩ : ∃ g : Nat, g = 2 ^ (p + m.log2 - 52 + s).toNat := ⟨_, rfl⟩
  have hg0 : 0 < g := by rw [hgd]; exact Nat.two_pow_pos _
  have hX : M * 2 ^ (p + m.log2 - 52 + c + s).toNat = K * g := by
    rw [hgd, ← hK, Nat.mul_assoc, ← Nat.pow_add]; congr 2; omega
  have hv : 2 * (K * g) ≤ 2 * (m * 2 ^ (p + s).toNat) + g ∧ 2 * (m * 2 ^ (p + s).toNat) ≤ 2 * (K * g) + g ∧ 4503599627370496 * g ≤ m * 2 ^ (p + s).toNat := by
    by_cases hle : m.log2 ≤ 52
    · rw [show m.log2 - 52 = 0 by omega, Nat.pow_zero, Nat.mul_one] at b1 b2
      have e : m * 2 ^ (p + s).toNat = m * 2 ^ (52 - m.log2) * g := by
        rw [hgd, Nat.mul_assoc, ← Nat.pow_add]; congr 2; omega
      have e52 : 4503599627370496 ≤ m * 2 ^ (52 - m.log2) := by
        calc 4503599627370496 = 2 ^ m.log2 * 2 ^ (52 - m.log2) := by rw [← Nat.pow_add, show m.log2 + (52 - m.log2) = 52 by omega]
          _ ≤ m * 2 ^ (52 - m.log2) := Nat.mul_le_mul_right _ hg
      rw [e]
      generalize m * 2 ^ (52 - m.log2) = v at *
      have : v = K := by omega
      subst this
      refine ⟨by omega, by omega, Nat.mul_le_mul_right _ e52⟩
    · rw [show 52 - m.log2 = 0 by omega, Nat.pow_zero, Nat.mul_one] at b1 b2
      have e : g = 2 ^ (m.log2 - 52) * 2 ^ (p + s).toNat := by
        rw [hgd, ← Nat.pow_add]; congr 1; omega
      have e52 : 4503599627370496 * 2 ^ (m.log2 - 52) ≤ m := by
        calc 4503599627370496 * 2 ^ (m.log2 - 52) = 2 ^ m.log2 := by
              rw [show (4503599627370496 : Nat) = 2 ^ 52 from rfl, ← Nat.pow_add]; congr 1; omega
          _ ≤ m := hg
      have hpp := Nat.two_pow_pos (p + s).toNat
      rw [e]
      generalize 2 ^ (p + s).toNat = h at *
      generalize 2 ^ (m.log2 - 52) = f at *
      refine ⟨?_, ?_, ?_⟩
      · have := Nat.mul_le_mul_right h b1
        rw [Nat.add_mul] at this
        simp only [Nat.mul_assoc] at this ⊢
        exact this
      · have := Nat.mul_le_mul_right h b2
        rw [Nat.add_mul] at this
        simp only [Nat.mul_assoc] at this ⊢
        exact this
      · have := Nat.mul_le_mul_right h e52
        simp only [Nat.mul_assoc] at this ⊢
        exact this
  have hK52 : 4503599627370496 ≤ K := by
    rw [← hK]; have : 1 ≤ 2 ^ c := Nat.one_le_two_pow; have := Nat.mul_le_mul m1 this; omega
  rw [hX]
  -- a double of at least 2 ^ 52 units is a multiple of the unit
  have mult : 4503599627370496 * g ≤ U * 2 ^ (F + s).toNat → ∃ u, U * 2 ^ (F + s).toNat = u * g := by
    intro h
    by_cases hF2 : p + m.log2 - 52 ≤ F
    · refine ⟨U * 2 ^ (F - (p + m.log2 - 52)).toNat, ?_⟩
      rw [hgd, Nat.mul_assoc, ← Nat.pow_add]; congr 2; omega
    · exfalso
      have hgg : g = 2 ^ (p + m.log2 - 52 - F).toNat * 2 ^ (F + s).toNat := by
        rw [hgd, ← Nat.pow_add]; congr 1; omega
      have h2' : 2 ≤ 2 ^ (p + m.log2 - 52 - F).toNat := by
        calc 2 = 2 ^ 1 := rfl
          _ ≤ 2 ^ (p + m.log2 - 52 - F).toNat := Nat.pow_le_pow_right (by decide) (by omega)
      rw [hgg] at h
      have hpp := Nat.two_pow_pos (F + s).toNat
      have h3 : 2 * 2 ^ (F + s).toNat ≤ 2 ^ (p + m.log2 - 52 - F).toNat * 2 ^ (F + s).toNat := Nat.mul_le_mul_right _ h2'
      have h4 : U * 2 ^ (F + s).toNat < 9007199254740992 * 2 ^ (F + s).toNat := Nat.mul_lt_mul_of_pos_right hU hpp
      omega
  obtain ⟨v1, v2, v3⟩ := hv
  generalize m * 2 ^ (p + s).toNat = v at *
  constructor
  · intro h
    obtain ⟨u, hu⟩ := mult (by omega)
    rw [hu] at h ⊢
    apply Nat.mul_le_mul_right
    apply Nat.le_of_lt_succ
    apply Nat.lt_of_mul_lt_mul_right (a := g)
    rw [Nat.succ_eq_add_one, Nat.add_mul, Nat.one_mul]
    generalize K * g = a at *
    generalize u * g = b at *
    omega
  · intro h
    by_cases hb : 4503599627370496 * g ≤ U * 2 ^ (F + s).toNat
    · obtain ⟨u, hu⟩ := mult hb
      rw [hu] at h ⊢
      apply Nat.mul_le_mul_right
      apply Nat.le_of_lt_succ
      apply Nat.lt_of_mul_lt_mul_right (a := g)
      rw [Nat.succ_eq_add_one, Nat.add_mul, Nat.one_mul]
      generalize K * g = a at *
      generalize u * g = b at *
      omega
    · have := Nat.mul_le_mul_right g hK52
      omega

/-- A sum, rounded: no double lies between it and what it is rounded to. -/
theorem sum_sand {s t : Nat} {dx dy : Datum} {a b : Int} (hs : 1074 ≤ s) (ht0 : s ≤ t + 1022) (ht1 : 60 ≤ t) (hx : SvD s t dx a) (hy : SvD s t dy b) (hb : (a + b).natAbs < 2 ^ (s + 900)) :
    ∃ z v, (dx.sum dy).map double.write = some z ∧ Sv s (t - 53) z v ∧ ∀ w k u, Sv s k w u → (a + b ≤ u → v ≤ u) ∧ (u ≤ a + b → u ≤ v) := by
  obtain ⟨n1, m, i, rfl, hi, ha, _, da⟩ := hx
  obtain ⟨n2, n, j, rfl, hj, hbb, _, db⟩ := hy
  have hdvd : 2 ^ t ∣ (a + b).natAbs := by
    have h1 : ((2 ^ t : Nat) : Int) ∣ a := Int.ofNat_dvd_left.2 da
    have h2 : ((2 ^ t : Nat) : Int) ∣ b := Int.ofNat_dvd_left.2 db
    exact Int.ofNat_dvd_left.1 (Int.dvd_add h1 h2)
  simp only [Datum.sum, Option.map_some, signed_sv]
  have hsum : a + b = ((if n1 then -1 else 1) * ((m * 2 ^ (i - min i j).toNat : Nat) : Int) + (if n2 then -1 else 1) * ((n * 2 ^ (j - min i j).toNat : Nat) : Int)) * ((2 ^ (min i j + s).toNat : Nat) : Int) := by
    rw [Int.add_mul, ha, hbb, Int.mul_assoc, Int.mul_assoc, ← Int.natCast_mul, ← Int.natCast_mul, Nat.mul_assoc, Nat.mul_assoc, ← Nat.pow_add, ← Nat.pow_add]
    congr 5 <;> omega
  generalize (if n1 then -1 else 1) * ((m * 2 ^ (i - min i j).toNat : Nat) : Int) + (if n2 then -1 else 1) * ((n * 2 ^ (j - min i j).toNat : Nat) : Int) = T at *
  have hp := Nat.two_pow_pos (min i j + s).toNat
  by_cases h0 : T = 0
  · subst h0
    rw [Int.zero_mul] at hsum
    refine ⟨_, 0, rfl, ?_, fun w k u _ => by rw [hsum]; exact ⟨fun h => h, fun h => h⟩⟩
    show Sv s (t - 53) (double.nearest _ (Int.natAbs 0) (min i j)) 0
    obtain ⟨K, hK, hw⟩ := nearest_word 0 (min i j)
    refine ⟨(if (0 : Int) = 0 then n1 && n2 else decide ((0 : Int) < 0)), 0, -1074, ?_, by omega, by simp, by omega, by simp⟩
    unfold Format.nearest
    rw [if_pos rfl]
    exact read_zero _
  · have hm0 : T.natAbs ≠ 0 := by omega
    have hab : (a + b).natAbs = T.natAbs * 2 ^ (min i j + s).toNat := by rw [hsum, Int.natAbs_mul]; rfl
    have hne : T.natAbs * 2 ^ (min i j + s).toNat ≠ 0 := Nat.mul_ne_zero hm0 (by omega)
    have hlow : 2 ^ t ≤ T.natAbs * 2 ^ (min i j + s).toNat := Nat.le_of_dvd (by omega) (hab ▸ hdvd)
    have l1 := (Nat.le_log2 hne).2 hlow
    have l2 := (Nat.log2_lt hne).2 (hab ▸ hb)
    rw [log2_mul_pow _ _ hm0] at l1 l2
    obtain ⟨M, E, hr, hE, hM, hEl, hsand⟩ := round_sand s T.natAbs (min i j) hm0 hs (by omega) (by omega) (by omega)
    have hwr : double.write (.number (if T = 0 then n1 && n2 else decide (T < 0)) T.natAbs (min i j)) = double.nearest (decide (T < 0)) T.natAbs (min i j) := by
      rw [if_neg h0]; rfl
    refine ⟨_, (if decide (T < 0) then -1 else 1) * ((M * 2 ^ (E + s).toNat : Nat) : Int), rfl, ?_, fun w k u hu => ?_⟩
    · rw [hwr]
      refine ⟨decide (T < 0), M, E, hr _, hE, rfl, hM, ?_⟩
      have hd : 2 ^ (t - 53) ∣ M * 2 ^ (E + s).toNat := by
        refine Nat.dvd_trans (Nat.pow_dvd_pow 2 (show t - 53 ≤ (E + s).toNat by omega)) (Nat.dvd_mul_left ..)
      generalize M * 2 ^ (E + s).toNat = X at hd ⊢
      cases decide (T < 0)
      · simpa using hd
      · simpa using hd
    · obtain ⟨n3, U, F, _, hF, hu', hU, _⟩ := hu
      obtain ⟨q1, q2⟩ := hsand U F hU hF
      have hcast : ((T.natAbs * 2 ^ (min i j + s).toNat : Nat) : Int) = (T.natAbs : Int) * ((2 ^ (min i j + s).toNat : Nat) : Int) := by simp
      rw [hu']
      rw [← hab] at q1 q2
      by_cases hneg : T < 0
      · have hs2 : a + b < 0 := by
          rw [hsum]; exact Int.mul_neg_of_neg_of_pos hneg (by omega)
        simp only [hneg, decide_true, if_true]
        generalize M * 2 ^ (E + s).toNat = X at *
        generalize U * 2 ^ (F + s).toNat = Y at *
        cases n3 <;> simp only [Bool.false_eq_true, if_false, if_true] <;> constructor <;> intro h <;> omega
      · have hs2 : 0 < a + b := by
          rw [hsum]; exact Int.mul_pos (by omega) (by omega)
        simp only [hneg, decide_false, Bool.false_eq_true, if_false]
        generalize M * 2 ^ (E + s).toNat = X at *
        generalize U * 2 ^ (F + s).toNat = Y at *
        cases n3 <;> simp only [Bool.false_eq_true, if_false, if_true] <;> constructor <;> intro h <;> omega

theorem add_sand {s t x y : Nat} {a b : Int} (hs : 1074 ≤ s) (ht0 : s ≤ t + 1022) (ht1 : 60 ≤ t) (hx : Sv s t x a) (hy : Sv s t y b) (hb : (a + b).natAbs < 2 ^ (s + 900)) :
    ∃ z v, double.add x y = some z ∧ Sv s (t - 53) z v ∧ ∀ w k u, Sv s k w u → (a + b ≤ u → v ≤ u) ∧ (u ≤ a + b → u ≤ v) :=
  sum_sand hs ht0 ht1 hx hy hb

theorem sub_sand {s t x y : Nat} {a b : Int} (hs : 1074 ≤ s) (ht0 : s ≤ t + 1022) (ht1 : 60 ≤ t) (hx : Sv s t x a) (hy : Sv s t y b) (hb : (a - b).natAbs < 2 ^ (s + 900)) :
    ∃ z v, double.sub x y = some z ∧ Sv s (t - 53) z v ∧ ∀ w k u, Sv s k w u → (a - b ≤ u → v ≤ u) ∧ (u ≤ a - b → u ≤ v) := by
  have := sum_sand hs ht0 ht1 hx (SvD.opp hy) (by rwa [← Int.sub_eq_add_neg])
  rwa [← Int.sub_eq_add_neg] at this

theorem sv_G (s : Nat) (p a : Int) (hs : 1074 ≤ s) (ha : a.natAbs < 9007199254740992) (hp1 : -900 ≤ p) (hp2 : p ≤ 900) : Sv s (p + s).toNat (G p a) (a * ((2 ^ (p + s).toNat : Nat) : Int)) := by
  by_cases h : a = 0
  · subst h
    refine ⟨false, 0, -1074, ?_, by omega, by simp, by omega, by simp⟩
    rw [G_zero]; exact read_zero false
  · obtain ⟨k, hk, hl⟩ := read_G p a ha (by omega) hp2
    have hl := hl h
    refine ⟨decide (a < 0), a.natAbs <<< k, p - k, hk, by omega, ?_, (shl_bounds a.natAbs k (by omega) hl).2, ?_⟩
    · have e : a.natAbs <<< k * 2 ^ (p - k + s).toNat = a.natAbs * 2 ^ (p + s).toNat := by
        rw [Nat.shiftLeft_eq, Nat.mul_assoc, ← Nat.pow_add]; congr 2; omega
      rw [e, Int.natCast_mul, ← Int.mul_assoc]
      congr 1
      by_cases hn : a < 0
      · simp only [hn, decide_true, if_true]; omega
      · simp only [hn, decide_false, Bool.false_eq_true, if_false]; omega
    · rw [Int.natAbs_mul, Int.natAbs_natCast]
      exact Nat.dvd_mul_left ..

theorem sv_val {s x v : Nat} (hx : Val s x v) (h : v = 0 ∨ 2 ^ (s - 60) ≤ v) (hs : 1074 ≤ s) : Sv s (s - 113) x (v : Int) := by
  obtain ⟨M, E, hr, hE, hv, hM⟩ := hx
  refine ⟨false, M, E, hr, hE, by simp [hv], hM, ?_⟩
  rw [Int.natAbs_natCast]
  rcases h with h | h
  · rw [h]; exact Nat.dvd_zero _
  · have : s - 113 ≤ (E + s).toNat := by
      apply Nat.le_of_not_lt
      intro hlt
      have h1 : (2 : Nat) ^ (E + s).toNat ≤ 2 ^ (s - 114) := Nat.pow_le_pow_right (by decide) (by omega)
      have h2 : M * 2 ^ (E + s).toNat < 9007199254740992 * 2 ^ (E + s).toNat := Nat.mul_lt_mul_of_pos_right hM (Nat.two_pow_pos _)
      have h3 : 9007199254740992 * 2 ^ (s - 114) ≤ 2 ^ (s - 60) := by
        rw [show (9007199254740992 : Nat) = 2 ^ 53 from rfl, ← Nat.pow_add]
        exact Nat.pow_le_pow_right (by decide) (by omega)
      have h4 := Nat.mul_le_mul_left 9007199254740992 h1
      omega
    rw [hv]
    exact Nat.dvd_trans (Nat.pow_dvd_pow 2 this) (Nat.dvd_mul_left ..)

/-- How many tokens a time gives, as the code reckons them: a number, not below none. -/
theorem gives_val {s P : Nat} (S : Scale s P) (r d : Nat) (r0 : 0 < r) (r1 : r ≤ 1000) (d1 : d ≤ 4611686018427387904) :
    ∃ q z p, double.div (G 0 ((d : Int) % 1000000000)) 4741671816366391296 = some q ∧ double.add (G 0 ((d : Int) / 1000000000)) q = some z ∧ double.mul z (G 0 (r : Int)) = some p ∧
      ∃ v : Nat, Val s p v ∧ (v = 0 ∨ P ≤ 1152921504606846976 * v) ∧ v ≤ 1152921504606846976 * P := by
  have hP0 := S.pos
  rw [c1e9]
  by_cases hd : d = 0
  · subst hd
    refine ⟨G 0 0, G 0 0, G 0 (0 * (r : Int)), ?_, ?_, ?_, 0, ?_, .inl rfl, by omega⟩
    · exact div_G 0 0 0 0 1000000000 0 0 (by decide) (by decide) (by decide) (by decide) (by decide) (by decide) (by decide) (by decide) (by decide) (by decide)
    · have := add_G 0 0 0 (by decide) (by decide) (by decide) (by decide)
      exact this
    · exact mul_G 0 0 0 r (by decide) (by omega) (by omega) (by decide) (by decide) (by decide) (by decide)
    · rw [Int.zero_mul]
      have := S.num 0 (by decide)
      rwa [Nat.zero_mul] at this
  · obtain ⟨sec, hsec⟩ : ∃ sec : Nat, (d : Int) / 1000000000 = sec ∧ sec = d / 1000000000 := ⟨d / 1000000000, by omega, rfl⟩
    obtain ⟨ns, hns⟩ : ∃ ns : Nat, (d : Int) % 1000000000 = ns ∧ ns = d % 1000000000 := ⟨d % 1000000000, by omega, rfl⟩
    rw [hsec.1, hns.1]
    have hq : ∃ q vq, double.div (G 0 (ns : Int)) (G 0 1000000000) = some q ∧ Val s q vq ∧ (ns = 0 → vq = 0) ∧ (0 < ns → P ≤ 2000000000 * vq) ∧ vq ≤ 2 * P := by
      by_cases h0 : ns = 0
      · rw [h0]
        refine ⟨G 0 0, 0, div_G 0 0 0 0 1000000000 0 0 (by decide) (by decide) (by decide) (by decide) (by decide) (by decide) (by decide) (by decide) (by decide) (by decide), ?_, fun _ => rfl, fun h => absurd h (Nat.lt_irrefl _), by omega⟩
        have := S.num 0 (by decide)
        rwa [Nat.zero_mul] at this
      · obtain ⟨q, vq, e1, v1, _, a1⟩ := S.div (S.num ns (by omega)) (S.num 1000000000 (by decide)) (S.midNum ns (by omega) (by omega)) (S.midNum 1000000000 (by decide) (by decide))
        have a1' : Ap 3 (vq * 1000000000) (ns * P) := by
          rw [← Nat.mul_assoc] at a1; exact a1.cancel hP0
        have u1 := a1'.le2 (by decide)
        have u2 := a1'.symm.le2 (by decide)
        have hn1 : 1 * P ≤ ns * P := Nat.mul_le_mul_right _ (by omega)
        have hn2 : ns * P ≤ 1000000000 * P := Nat.mul_le_mul_right _ (by omega)
        exact ⟨q, vq, e1, v1, fun h => absurd h h0, fun _ => by omega, by omega⟩
    obtain ⟨q, vq, e1, v1, hq0, hq1, hq2⟩ := hq
    have hs0 : sec ≤ 4611686019 := by omega
    have hsP : sec * P ≤ 4611686019 * P := Nat.mul_le_mul_right _ hs0
    have hlow : P ≤ 2000000000 * (sec * P + vq) := by
      by_cases h0 : 0 < sec
      · have : 1 * P ≤ sec * P := Nat.mul_le_mul_right _ h0
        omega
      · have := hq1 (by omega)
        omega
    obtain ⟨z, vz, e2, v2, _, a2⟩ := S.add (S.num sec (by omega)) v1 (by constructor <;> omega)
    have hz1 : vz ≤ 2 * (sec * P + vq) := a2.le2 (by decide)
    have hz2 : sec * P + vq ≤ 2 * vz := a2.symm.le2 (by decide)
    obtain ⟨p, vp, e3, v3, _, a3⟩ := S.mul v2 (S.num r (by omega)) (by constructor <;> omega) (S.midNum r (by omega) (by omega))
    have a3' : Ap 1 vp (vz * r) := by
      rw [← Nat.mul_assoc] at a3; exact a3.cancel hP0
    have hp1 : vp ≤ 2 * (vz * r) := a3'.le2 (by decide)
    have hp2 : vz * r ≤ 2 * vp := a3'.symm.le2 (by decide)
    have hvr1 : vz * 1 ≤ vz * r := Nat.mul_le_mul_left _ (by omega)
    have hvr2 : vz * r ≤ vz * 1000 := Nat.mul_le_mul_left _ (by omega)
    exact ⟨q, z, p, e1, e2, e3, vp, v3, .inr (by omega), by omega⟩

end Go.Proofs.Ytndkiphlpddbaaa.Flt
