/- The limiter in whole numbers and the reference's bucket go together. Plain. -/
import Derived.Test.YtndkiphlpddbaaaSpE
import Derived.Test.YtndkiphlpddbaaaTr
import Derived.Test.YtndkiphlpddbaaaSpG
namespace Go.Proofs.Ytndkiphlpddbaaa
open Go.RowKit Go.Deep Flt

theorem fill_at (r b t at_ u a : Int) (h : at_ ≤ a) : (Bk.mk r b t at_ u).fillTok a = min (t + (a - at_) * r) (b * 512) := by
  unfold Bk.fillTok
  dsimp only
  by_cases hlt : at_ < a
  · rw [if_pos hlt]
  · have : a = at_ := by omega
    subst this
    rw [if_neg hlt, Int.sub_self, Int.zero_mul, Int.add_zero]

theorem fill_fill (B : Bk) (a a' : Int) (h1 : B.at_ ≤ a) (h2 : a ≤ a') (hr : 0 ≤ B.rate) : min (B.fillTok a + (a' - a) * B.rate) (B.burst * 512) = B.fillTok a' := by
  obtain ⟨r, b, t, at_, u⟩ := B
  rw [fill_at r b t at_ u a h1, fill_at r b t at_ u a' (Int.le_trans h1 h2)]
  dsimp only at *
  have e : (a' - at_) * r = (a - at_) * r + (a' - a) * r := by rw [← Int.add_mul]; congr 1; omega
  have m : 0 ≤ (a' - a) * r := Int.mul_nonneg (by omega) hr
  rw [e]
  generalize (a - at_) * r = x at *
  generalize (a' - a) * r = y at *
  omega

structure Sim (s : St) (B : Bk) (cur : Int) (k : Nat) : Prop where
  r : s.rate = B.rate
  b : s.burst = B.burst
  r0 : 1 ≤ B.rate ∧ B.rate ≤ 1000
  b0 : 0 ≤ B.burst ∧ B.burst ≤ 64
  at0 : 0 ≤ B.at_ ∧ B.at_ ≤ 65536
  at1 : B.at_ ≤ cur
  lo : -32768 * (k : Int) ≤ B.tok
  hi : B.tok ≤ 32768
  tk : 0 ≤ B.taken ∧ B.taken ≤ 1000
  fill : ∀ a, cur ≤ a → s.fill a = B.fillTok a

theorem Sim.later {s : St} {B : Bk} {a b : Int} {k : Nat} (h : Sim s B a k) (hab : a ≤ b) : Sim s B b k :=
  ⟨h.r, h.b, h.r0, h.b0, h.at0, Int.le_trans h.at1 hab, h.lo, h.hi, h.tk, fun c hc => h.fill c (Int.le_trans hab hc)⟩

theorem Sim.bounds {s : St} {B : Bk} {a : Int} {k : Nat} (h : Sim s B a k) : -32768 * (k : Int) ≤ B.fillTok a ∧ B.fillTok a ≤ B.burst * 512 := by
  obtain ⟨hr, hb, r0, b0, at0, at1, lo, hi, tk, hf⟩ := h
  obtain ⟨r, b, t, at_, u⟩ := B
  rw [fill_at r b t at_ u a at1]
  dsimp only at *
  have m : 0 ≤ (a - at_) * r := Int.mul_nonneg (by omega) (by omega)
  omega

theorem Sim.ask {s : St} {B : Bk} {a n : Int} {k : Nat} (h : Sim s B a k) (hk : k ≤ 121) (a0 : 0 ≤ a) (a1 : a ≤ 65536) (n0 : 0 ≤ n) (n1 : n ≤ 1000) : B.In a n :=
  ⟨⟨by have := h.lo; omega, by have := h.hi; omega⟩, h.r0, h.b0, h.at0, ⟨a0, a1⟩, ⟨n0, n1⟩, h.tk⟩

/-- The limiter stays, the bucket is filled. -/
theorem Sim.rest {s : St} {B : Bk} {a : Int} {k : Nat} (h : Sim s B a k) (a0 : 0 ≤ a) (a1 : a ≤ 65536) : Sim s ⟨B.rate, B.burst, B.fillTok a, a, 0⟩ a (k + 1) := by
  have hb := h.bounds
  obtain ⟨hr, hbu, r0, b0, at0, at1, lo, hi, tk, hf⟩ := h
  refine ⟨hr, hbu, r0, b0, ⟨a0, a1⟩, Int.le_refl _, ?_, ?_, by show (0 : Int) ≤ 0 ∧ (0 : Int) ≤ 1000; omega, fun c hc => ?_⟩
  · show -32768 * ((k + 1 : Nat) : Int) ≤ B.fillTok a; omega
  · show B.fillTok a ≤ 32768; omega
  · rw [hf c hc, fill_at _ _ _ _ _ c hc, fill_fill B a c at1 hc (by omega)]

/-- Both take. -/
theorem Sim.move {s : St} {B : Bk} {a : Int} {k : Nat} (h : Sim s B a k) (a0 : 0 ≤ a) (a1 : a ≤ 65536) (r b x ev u : Int) (r0 : 1 ≤ r ∧ r ≤ 1000) (b0 : 0 ≤ b ∧ b ≤ 64) (x0 : 0 ≤ x ∧ x ≤ 32768) (u0 : 0 ≤ u ∧ u ≤ 1000) :
    Sim ⟨r, b, s.fill a - x, some a, ev⟩ ⟨r, b, B.fillTok a - x, a, u⟩ a (k + 1) := by
  have hb := h.bounds
  have hB := h.b0
  refine ⟨rfl, rfl, r0, b0, ⟨a0, a1⟩, Int.le_refl _, ?_, ?_, u0, fun c hc => ?_⟩
  · show -32768 * ((k + 1 : Nat) : Int) ≤ B.fillTok a - x; omega
  · show B.fillTok a - x ≤ 32768; omega
  · rw [fill_at _ _ _ _ _ c hc, h.fill a (Int.le_refl _)]
    rfl

theorem at_eq {B : Bk} {a : Int} (h : B.at_ ≤ a) : (if B.at_ < a then a else B.at_) = a := by split <;> omega

theorem Sim.step {s : St} {B : Bk} {a n kd : Int} {k : Nat} (h : Sim s B a k) (a0 : 0 ≤ a) (a1 : a ≤ 65536) (n0 : 0 ≤ n) (hk : kd = 0 ∨ kd = 1 ∨ kd = 2 ∨ (kd = 3 ∧ 1 ≤ n ∧ n ≤ 1000) ∨ (kd = 4 ∧ n ≤ 64) ∨ kd = 7) :
    Sim (stepSt s kd a n) (B.step kd a n) a (k + 1) := by
  have he := at_eq h.at1
  have hf := h.fill a (Int.le_refl _)
  have hbu := h.b
  have hB := h.b0
  rcases hk with rfl | rfl | rfl | ⟨rfl, n1, n2⟩ | ⟨rfl, n1⟩ | rfl
  · by_cases hc : n ≤ s.burst ∧ n * 512 ≤ s.fill a
    · have hc' : ¬ (B.burst < n ∨ B.fillTok a < n * 512) := by rw [← hf, ← hbu]; omega
      rw [show stepSt s 0 a n = takes s a n from by simp [stepSt, hc],
        show B.step 0 a n = ⟨B.rate, B.burst, B.fillTok a - n * 512, a, 0⟩ from by unfold Bk.step; dsimp only; rw [if_pos rfl, if_neg hc', he]]
      unfold takes
      rw [h.r, h.b]
      exact h.move a0 a1 _ _ _ _ _ h.r0 h.b0 (by omega) (by omega)
    · have hc' : B.burst < n ∨ B.fillTok a < n * 512 := by rw [← hf, ← hbu]; omega
      rw [show stepSt s 0 a n = s from by simp [stepSt, hc],
        show B.step 0 a n = ⟨B.rate, B.burst, B.fillTok a, a, 0⟩ from by unfold Bk.step; dsimp only; rw [if_pos rfl, if_pos hc', he]]
      exact h.rest a0 a1
  · by_cases hc : n ≤ s.burst
    · have hc' : ¬ B.burst < n := by rw [← hbu]; omega
      rw [show stepSt s 1 a n = takes s a n from by simp [stepSt, hc],
        show B.step 1 a n = ⟨B.rate, B.burst, B.fillTok a - n * 512, a, n⟩ from by unfold Bk.step; dsimp only; rw [if_neg (by decide), if_pos rfl, if_neg hc', he]]
      unfold takes
      rw [h.r, h.b]
      exact h.move a0 a1 _ _ _ _ _ h.r0 h.b0 (by omega) (by omega)
    · have hc' : B.burst < n := by rw [← hbu]; omega
      rw [show stepSt s 1 a n = s from by simp [stepSt, hc],
        show B.step 1 a n = ⟨B.rate, B.burst, B.fillTok a, a, 0⟩ from by unfold Bk.step; dsimp only; rw [if_neg (by decide), if_pos rfl, if_pos hc', he]]
      exact h.rest a0 a1
  · rw [show stepSt s 2 a n = s from by simp [stepSt], show B.step 2 a n = ⟨B.rate, B.burst, B.fillTok a, a, 0⟩ from by simp [Bk.step, he]]
    exact h.rest a0 a1
  · rw [show stepSt s 3 a n = ⟨n, s.burst, s.fill a - 0, some a, s.ev⟩ from by simp [stepSt], show B.step 3 a n = ⟨n, B.burst, B.fillTok a - 0, a, 0⟩ from by simp [Bk.step, he], h.b]
    exact h.move a0 a1 _ _ _ _ _ ⟨n1, n2⟩ h.b0 (by omega) (by omega)
  · rw [show stepSt s 4 a n = ⟨s.rate, n, s.fill a - 0, some a, s.ev⟩ from by simp [stepSt], show B.step 4 a n = ⟨B.rate, n, B.fillTok a - 0, a, 0⟩ from by simp [Bk.step, he], h.r]
    exact h.move a0 a1 _ _ _ _ _ h.r0 ⟨n0, n1⟩ (by omega) (by omega)
  · rw [show stepSt s 7 a n = s from by simp [stepSt], show B.step 7 a n = ⟨B.rate, B.burst, B.fillTok a, a, 0⟩ from by simp [Bk.step, he]]
    exact h.rest a0 a1

/-- What both are told, but for delays. -/
theorem Sim.told {s : St} {B : Bk} {a n kd : Int} {k : Nat} (h : Sim s B a k) (hk : kd = 0 ∨ kd = 1 ∨ kd = 2 ∨ kd = 3 ∨ kd = 4 ∨ kd = 7) (hd : kd = 1 → n ≤ s.burst → waitOf s a n = max 0 ((-(B.fillTok a - n * 512) * 1953125).tdiv B.rate)) :
    toldOf s kd a n = B.told kd a n := by
  have hf := h.fill a (Int.le_refl _)
  have hbu := h.b
  unfold toldOf Bk.told
  dsimp only
  rw [hf, hbu]
  rcases hk with rfl | rfl | rfl | rfl | rfl | rfl
  · simp only [if_true]
    by_cases hc : n ≤ B.burst ∧ n * 512 ≤ B.fillTok a
    · rw [if_neg (by omega)]; simp [hc]
    · rw [if_pos (by omega)]; simp only [hc, decide_false]; rfl
  · simp only [show ¬ (1 : Int) = 0 from by decide, if_false, if_true]
    by_cases hc : n ≤ B.burst
    · rw [if_pos hc, if_neg (by omega), hd rfl (by omega)]
    · rw [if_neg hc, if_pos (by omega)]
  · simp
  · simp [Tl.none]
  · simp [Tl.none]
  · simp [h.r, Bool.beq_comm]

end Go.Proofs.Ytndkiphlpddbaaa
