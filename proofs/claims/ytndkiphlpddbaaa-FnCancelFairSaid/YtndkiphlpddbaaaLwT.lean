/- The law FnTokens: its plain part. -/
import Derived.Test.YtndkiphlpddbaaaSpA
import Derived.Test.YtndkiphlpddbaaaSpW
namespace Go.Proofs.Ytndkiphlpddbaaa
open Go.RowKit Go.Deep Flt

/-- One question ahead. -/
def Scr.ask (X : Scr) : Scr := ⟨fun k => if k = 0 then 2 else X.kd (k - 1), fun k => if k = 0 then 0 else X.at_ (k - 1), fun k => if k = 0 then 0 else X.nm (k - 1)⟩

theorem ask_cells (X : Scr) (N : Nat) : scrL X.ask (N + 1) = [.int .i64 2, .int .i64 0, .int .i64 0] ++ scrL X N := by
  induction N with
  | zero => rfl
  | succ N ih =>
    rw [scrL, ih, scrL]
    simp [Scr.ask]

theorem ask_steps {X : Scr} {N : Nat} (h : ∀ k, k < N → GoodStep X k) (ho : OnlyP X N 0 2) : Steps X.ask (N + 1) := by
  refine ⟨fun k hk => ?_, fun k hk => ?_⟩
  · cases k with
    | zero => exact ⟨by show (0 : Int) ≤ 0; omega, by show (0 : Int) ≤ 65536; omega, fun h => absurd h (by omega), by show (0 : Int) ≤ 0; omega, by show (0 : Int) ≤ 100; omega, .inr (.inr (.inl rfl))⟩
    | succ j =>
      obtain ⟨lo, hi, up, n0, n1, kind⟩ := h j (by omega)
      have hk2 := ho j (by omega)
      have e0 : X.ask.kd (j + 1) = X.kd j := by simp [Scr.ask]
      have e1 : X.ask.at_ (j + 1) = X.at_ j := by simp [Scr.ask]
      have e2 : X.ask.nm (j + 1) = X.nm j := by simp [Scr.ask]
      refine ⟨by rw [e1]; exact lo, by rw [e1]; exact hi, fun _ => ?_, by rw [e2]; exact n0, by rw [e2]; exact n1, ?_⟩
      · rw [e1, Nat.add_sub_cancel]
        cases j with
        | zero => exact lo
        | succ i =>
          rw [show X.ask.at_ (i + 1) = X.at_ i from by simp [Scr.ask]]
          have := up (by omega)
          simpa using this
      · rw [e0, e2]
        rcases hk2 with e | e
        · rcases kind with ⟨e', h1⟩ | ⟨e', h1⟩ | e' | ⟨e', h1⟩ | ⟨e', h1⟩ | ⟨e', h1⟩ | e'
          · exact .inl ⟨e, h1⟩
          all_goals omega
        · exact .inr (.inr (.inl e))
  · cases k with
    | zero => show (2 : Int) ≠ 5; decide
    | succ j =>
      have hk2 := ho j (by omega)
      rw [show X.ask.kd (j + 1) = X.kd j from by simp [Scr.ask]]
      omega

theorem ask_kd {X : Scr} {N : Nat} (ho : OnlyP X N 0 2) (k : Nat) (hk : k < N + 1) : X.ask.kd k = 0 ∨ X.ask.kd k = 2 := by
  cases k with
  | zero => exact .inr rfl
  | succ j => rw [show X.ask.kd (j + 1) = X.kd j from by simp [Scr.ask]]; exact ho j (by omega)

/-- With allowing and asking alone there are never fewer than none. -/
theorem tok_pos {rate burst : Int} {X : Scr} {N : Nat} (h : Steps X N) (hk : ∀ k, k < N → X.kd k = 0 ∨ X.kd k = 2) (r0 : 1 ≤ rate) (b0 : 0 ≤ burst) :
    ∀ k, k < N → (stN (St.new rate burst) X k).rate = rate ∧ (stN (St.new rate burst) X k).burst = burst ∧ ∀ a, X.at_ k ≤ a → 0 ≤ (stN (St.new rate burst) X k).fill a ∧ (stN (St.new rate burst) X k).fill a ≤ burst * 512 := by
  intro k
  induction k with
  | zero => intro _; exact ⟨rfl, rfl, fun a _ => ⟨by show 0 ≤ burst * 512; omega, Int.le_refl _⟩⟩
  | succ k ih =>
    intro hk1
    obtain ⟨e1, e2, e3⟩ := ih (by omega)
    have hup := (h.step (k + 1) hk1).up (by omega)
    rw [Nat.add_sub_cancel] at hup
    show (stepSt (stN (St.new rate burst) X k) (X.kd k) (X.at_ k) (X.nm k)).rate = rate ∧ (stepSt (stN (St.new rate burst) X k) (X.kd k) (X.at_ k) (X.nm k)).burst = burst ∧ ∀ a, X.at_ (k + 1) ≤ a → 0 ≤ (stepSt (stN (St.new rate burst) X k) (X.kd k) (X.at_ k) (X.nm k)).fill a ∧ (stepSt (stN (St.new rate burst) X k) (X.kd k) (X.at_ k) (X.nm k)).fill a ≤ burst * 512
    generalize stN (St.new rate burst) X k = s at *
    rcases hk k (by omega) with e | e
    · rw [e]
      unfold stepSt
      rw [if_pos rfl]
      by_cases hc : X.nm k ≤ s.burst ∧ X.nm k * 512 ≤ s.fill (X.at_ k)
      · rw [if_pos hc]
        refine ⟨e1, e2, fun a ha => ?_⟩
        show 0 ≤ min (s.fill (X.at_ k) - X.nm k * 512 + (a - X.at_ k) * s.rate) (s.burst * 512) ∧ min (s.fill (X.at_ k) - X.nm k * 512 + (a - X.at_ k) * s.rate) (s.burst * 512) ≤ burst * 512
        have m : 0 ≤ (a - X.at_ k) * s.rate := Int.mul_nonneg (by omega) (by omega)
        omega
      · rw [if_neg hc]
        exact ⟨e1, e2, fun a ha => e3 a (by omega)⟩
    · rw [e]
      exact ⟨e1, e2, fun a ha => e3 a (by omega)⟩

/-- What is told of tokens lies between none and the burst. -/
theorem tok_told {rate burst : Int} {X : Scr} {N : Nat} (h : Steps X N) (hk : ∀ k, k < N → X.kd k = 0 ∨ X.kd k = 2) (r0 : 1 ≤ rate) (b0 : 0 ≤ burst) (k : Nat) (hk1 : k < N) :
    ∃ m : Int, (toldOf (stN (St.new rate burst) X k) (X.kd k) (X.at_ k) (X.nm k)).tok = G (-9) m ∧ 0 ≤ m ∧ m ≤ burst * 512 := by
  obtain ⟨e1, e2, e3⟩ := tok_pos h hk r0 b0 k hk1
  rcases hk k hk1 with e | e
  · refine ⟨0, ?_, Int.le_refl _, by omega⟩
    rw [e]; unfold toldOf; rw [if_pos rfl]
    show 0 = G (-9) 0
    decide +kernel
  · refine ⟨_, ?_, e3 _ (Int.le_refl _)⟩
    rw [e]; unfold toldOf; rw [if_neg (by decide), if_neg (by decide), if_pos rfl]

theorem cmp_low (m : Int) (h0 : 0 ≤ m) (h1 : m ≤ 51200) : (FloatKind.f64.format.order (G (-9) m) 0 == some Ordering.lt) = false := by
  have := order_G (-9) m 0 (by omega) (by decide) (by decide) (by decide)
  rw [show (0 : Nat) = G (-9) 0 from by decide +kernel]
  rw [show FloatKind.f64.format.order (G (-9) m) (G (-9) 0) = _ from this]
  have : compare m 0 ≠ Ordering.lt := by rw [Ne, Int.compare_eq_lt]; omega
  simpa using this

theorem cmp_high (m burst : Int) (h0 : 0 ≤ m) (h1 : m ≤ burst * 512) (hb : burst ≤ 64) : (FloatKind.f64.format.order (G (-9) m) (floatOfInt .f64 burst) == some Ordering.gt) = false := by
  rw [floatOfInt_G, G_512]
  have := order_G (-9) m (burst * 512) (by omega) (by omega) (by decide) (by decide)
  rw [show FloatKind.f64.format.order (G (-9) m) (G (-9) (burst * 512)) = _ from this]
  have : compare m (burst * 512) ≠ Ordering.gt := by rw [Ne, Int.compare_eq_gt]; omega
  simpa using this

theorem cmp_eq (burst : Int) (h0 : 0 ≤ burst) (hb : burst ≤ 64) : (FloatKind.f64.format.order (G (-9) (burst * 512)) (floatOfInt .f64 burst) != some Ordering.eq) = false := by
  rw [floatOfInt_G, G_512]
  have := selfEq_G (-9) (burst * 512) (by omega) (by decide) (by decide)
  unfold selfEq at this
  rw [bne, this]; rfl

end Go.Proofs.Ytndkiphlpddbaaa
