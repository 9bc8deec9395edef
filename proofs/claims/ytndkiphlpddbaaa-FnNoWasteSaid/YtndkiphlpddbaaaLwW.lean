/- The law FnNoWaste: its plain part: a question ahead of each step. -/
import Derived.Test.YtndkiphlpddbaaaLwT
namespace Go.Proofs.Ytndkiphlpddbaaa
open Go.RowKit Go.Deep Flt

/-- A question ahead of each step. -/
def Scr.dbl (X : Scr) : Scr := ⟨fun k => if k % 2 = 0 then 2 else X.kd (k / 2), fun k => X.at_ (k / 2), fun k => if k % 2 = 0 then 0 else X.nm (k / 2)⟩

theorem dbl_even (X : Scr) (i : Nat) : X.dbl.kd (2 * i) = 2 ∧ X.dbl.at_ (2 * i) = X.at_ i ∧ X.dbl.nm (2 * i) = 0 := by
  unfold Scr.dbl
  refine ⟨?_, ?_, ?_⟩
  · show (if 2 * i % 2 = 0 then (2 : Int) else _) = 2; rw [if_pos (by omega)]
  · show X.at_ (2 * i / 2) = _; rw [show 2 * i / 2 = i by omega]
  · show (if 2 * i % 2 = 0 then (0 : Int) else _) = 0; rw [if_pos (by omega)]

theorem dbl_odd (X : Scr) (i : Nat) : X.dbl.kd (2 * i + 1) = X.kd i ∧ X.dbl.at_ (2 * i + 1) = X.at_ i ∧ X.dbl.nm (2 * i + 1) = X.nm i := by
  unfold Scr.dbl
  refine ⟨?_, ?_, ?_⟩
  · show (if (2 * i + 1) % 2 = 0 then (2 : Int) else X.kd ((2 * i + 1) / 2)) = _; rw [if_neg (by omega), show (2 * i + 1) / 2 = i by omega]
  · show X.at_ ((2 * i + 1) / 2) = _; rw [show (2 * i + 1) / 2 = i by omega]
  · show (if (2 * i + 1) % 2 = 0 then (0 : Int) else X.nm ((2 * i + 1) / 2)) = _; rw [if_neg (by omega), show (2 * i + 1) / 2 = i by omega]

theorem dbl_cells (X : Scr) (i : Nat) : scrL X.dbl (2 * (i + 1)) = scrL X.dbl (2 * i) ++ [.int .i64 2, .int .i64 (X.at_ i), .int .i64 0, .int .i64 (X.kd i), .int .i64 (X.at_ i), .int .i64 (X.nm i)] := by
  obtain ⟨a, b, c⟩ := dbl_even X i
  obtain ⟨x, y, z⟩ := dbl_odd X i
  rw [show 2 * (i + 1) = 2 * i + 1 + 1 by omega, scrL, scrL, a, b, c, x, y, z, List.append_assoc]
  rfl

theorem dbl_steps {X : Scr} {N : Nat} (h : ∀ k, k < N → GoodStep X k) (ho : OnlyP X N 0 0) : Steps X.dbl (2 * N) := by
  have hup : ∀ k, k < 2 * N → 0 < k → X.dbl.at_ (k - 1) ≤ X.dbl.at_ k := by
    intro k hk h0
    show X.at_ ((k - 1) / 2) ≤ X.at_ (k / 2)
    rcases Nat.mod_two_eq_zero_or_one k with e | e
    · have := (h (k / 2) (by omega)).up (by omega)
      rwa [show (k - 1) / 2 = k / 2 - 1 by omega]
    · rw [show (k - 1) / 2 = k / 2 by omega]
      exact Int.le_refl _
  refine ⟨fun k hk => ?_, fun k hk => ?_⟩
  · have hs := h (k / 2) (by omega)
    have hk0 := ho (k / 2) (by omega)
    rcases Nat.mod_two_eq_zero_or_one k with e | e
    · have en : X.dbl.nm k = 0 := by unfold Scr.dbl; simp [e]
      have ek : X.dbl.kd k = 2 := by unfold Scr.dbl; simp [e]
      exact ⟨hs.lo, hs.hi, hup k hk, by rw [en]; omega, by rw [en]; omega, by rw [ek]; exact .inr (.inr (.inl rfl))⟩
    · have en : X.dbl.nm k = X.nm (k / 2) := by unfold Scr.dbl; simp [e]
      have ek : X.dbl.kd k = X.kd (k / 2) := by unfold Scr.dbl; simp [e]
      refine ⟨hs.lo, hs.hi, hup k hk, by rw [en]; exact hs.n0, by rw [en]; exact hs.n1, ?_⟩
      rw [ek, en]
      have e0 : X.kd (k / 2) = 0 := by omega
      rcases hs.kind with ⟨e', h1⟩ | ⟨e', h1⟩ | e' | ⟨e', h1⟩ | ⟨e', h1⟩ | ⟨e', h1⟩ | e'
      · exact .inl ⟨e', h1⟩
      all_goals omega
  · have hk0 := ho (k / 2) (by omega)
    rcases Nat.mod_two_eq_zero_or_one k with e | e
    · have ek : X.dbl.kd k = 2 := by unfold Scr.dbl; simp [e]
      rw [ek]; decide
    · have ek : X.dbl.kd k = X.kd (k / 2) := by unfold Scr.dbl; simp [e]
      rw [ek]; omega

theorem cmp_ge (m n : Int) (h0 : 0 ≤ m) (h1 : m ≤ 51200) (n0 : 0 ≤ n) (n1 : n ≤ 1000) :
    (FloatKind.f64.format.order (G (-9) m) (floatOfInt .f64 n)) = some (compare m (n * 512)) := by
  rw [floatOfInt_G, G_512]
  exact order_G (-9) m (n * 512) (by omega) (by omega) (by decide) (by decide)

/-- What is allowed is what there is of, as told just ahead. -/
theorem waste_told {rate burst : Int} {X : Scr} {N : Nat} (h : Steps X.dbl (2 * N)) (ho : OnlyP X N 0 0) (r0 : 1 ≤ rate) (b0 : 0 ≤ burst) (i : Nat) (hi : i < N) :
    ∃ m : Int, (toldOf (stN (St.new rate burst) X.dbl (2 * i)) (X.dbl.kd (2 * i)) (X.dbl.at_ (2 * i)) (X.dbl.nm (2 * i))).tok = G (-9) m ∧ 0 ≤ m ∧ m ≤ burst * 512 ∧
      (toldOf (stN (St.new rate burst) X.dbl (2 * i + 1)) (X.dbl.kd (2 * i + 1)) (X.dbl.at_ (2 * i + 1)) (X.dbl.nm (2 * i + 1))).ok = decide (X.nm i ≤ burst ∧ X.nm i * 512 ≤ m) := by
  have hkd : ∀ k, k < 2 * N → X.dbl.kd k = 0 ∨ X.dbl.kd k = 2 := by
    intro k hk
    rcases Nat.mod_two_eq_zero_or_one k with e | e
    · right; unfold Scr.dbl; simp [e]
    · left
      have := ho (k / 2) (by omega)
      have ek : X.dbl.kd k = X.kd (k / 2) := by unfold Scr.dbl; simp [e]
      rw [ek]; omega
  obtain ⟨-, e2, e3⟩ := tok_pos h hkd r0 b0 (2 * i) (by omega)
  obtain ⟨a, b, c⟩ := dbl_even X i
  obtain ⟨x, y, z⟩ := dbl_odd X i
  have hst : stN (St.new rate burst) X.dbl (2 * i + 1) = stN (St.new rate burst) X.dbl (2 * i) := by
    show stepSt (stN (St.new rate burst) X.dbl (2 * i)) (X.dbl.kd (2 * i)) (X.dbl.at_ (2 * i)) (X.dbl.nm (2 * i)) = _
    rw [a]; simp [stepSt]
  obtain ⟨m0, m1⟩ := e3 (X.at_ i) (by rw [b]; exact Int.le_refl _)
  have hx : X.kd i = 0 := by have := ho i hi; omega
  refine ⟨(stN (St.new rate burst) X.dbl (2 * i)).fill (X.at_ i), ?_, m0, m1, ?_⟩
  · rw [a, b]; unfold toldOf; rw [if_neg (by decide), if_neg (by decide), if_pos rfl]
  · rw [hst, x, y, z, hx]; unfold toldOf; rw [if_pos rfl, e2]

end Go.Proofs.Ytndkiphlpddbaaa
