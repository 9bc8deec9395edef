/- The law FnAsking: its plain part: a question ahead of each step and one behind it. -/
import Derived.Test.YtndkiphlpddbaaaSpA
namespace Go.Proofs.Ytndkiphlpddbaaa
open Go.RowKit Go.Deep Flt

/-- A question ahead of each step, and one behind it. -/
def Scr.tri (X : Scr) : Scr := ⟨fun k => if k % 3 = 1 then X.kd (k / 3) else 2, fun k => X.at_ (k / 3), fun k => if k % 3 = 1 then X.nm (k / 3) else 0⟩

theorem tri_0 (X : Scr) (i : Nat) : X.tri.kd (3 * i) = 2 ∧ X.tri.at_ (3 * i) = X.at_ i ∧ X.tri.nm (3 * i) = 0 := by
  unfold Scr.tri
  refine ⟨?_, ?_, ?_⟩
  · show (if 3 * i % 3 = 1 then _ else (2 : Int)) = 2; rw [if_neg (by omega)]
  · show X.at_ (3 * i / 3) = _; rw [show 3 * i / 3 = i by omega]
  · show (if 3 * i % 3 = 1 then _ else (0 : Int)) = 0; rw [if_neg (by omega)]

theorem tri_1 (X : Scr) (i : Nat) : X.tri.kd (3 * i + 1) = X.kd i ∧ X.tri.at_ (3 * i + 1) = X.at_ i ∧ X.tri.nm (3 * i + 1) = X.nm i := by
  unfold Scr.tri
  refine ⟨?_, ?_, ?_⟩
  · show (if (3 * i + 1) % 3 = 1 then X.kd ((3 * i + 1) / 3) else (2 : Int)) = _; rw [if_pos (by omega), show (3 * i + 1) / 3 = i by omega]
  · show X.at_ ((3 * i + 1) / 3) = _; rw [show (3 * i + 1) / 3 = i by omega]
  · show (if (3 * i + 1) % 3 = 1 then X.nm ((3 * i + 1) / 3) else (0 : Int)) = _; rw [if_pos (by omega), show (3 * i + 1) / 3 = i by omega]

theorem tri_2 (X : Scr) (i : Nat) : X.tri.kd (3 * i + 2) = 2 ∧ X.tri.at_ (3 * i + 2) = X.at_ i ∧ X.tri.nm (3 * i + 2) = 0 := by
  unfold Scr.tri
  refine ⟨?_, ?_, ?_⟩
  · show (if (3 * i + 2) % 3 = 1 then _ else (2 : Int)) = 2; rw [if_neg (by omega)]
  · show X.at_ ((3 * i + 2) / 3) = _; rw [show (3 * i + 2) / 3 = i by omega]
  · show (if (3 * i + 2) % 3 = 1 then _ else (0 : Int)) = 0; rw [if_neg (by omega)]

theorem tri_cells (X : Scr) (i : Nat) : scrL X.tri (3 * (i + 1)) = scrL X.tri (3 * i) ++
    [.int .i64 2, .int .i64 (X.at_ i), .int .i64 0, .int .i64 (X.kd i), .int .i64 (X.at_ i), .int .i64 (X.nm i), .int .i64 2, .int .i64 (X.at_ i), .int .i64 0] := by
  obtain ⟨a, b, c⟩ := tri_0 X i
  obtain ⟨x, y, z⟩ := tri_1 X i
  obtain ⟨u, v, t⟩ := tri_2 X i
  rw [show 3 * (i + 1) = 3 * i + 2 + 1 by omega, scrL, show 3 * i + 2 = 3 * i + 1 + 1 by omega, scrL, scrL, a, b, c, x, y, z]
  rw [show 3 * i + 1 + 1 = 3 * i + 2 by omega, u, v, t, List.append_assoc, List.append_assoc]
  rfl

theorem tri_steps {X : Scr} {N : Nat} (h : ∀ k, k < N → GoodStep X k) (h5 : ∀ k, k < N → X.kd k ≠ 5) : Steps X.tri (3 * N) := by
  have hup : ∀ k, k < 3 * N → 0 < k → X.tri.at_ (k - 1) ≤ X.tri.at_ k := by
    intro k hk h0
    show X.at_ ((k - 1) / 3) ≤ X.at_ (k / 3)
    by_cases e : k % 3 = 0
    · have := (h (k / 3) (by omega)).up (by omega)
      rwa [show (k - 1) / 3 = k / 3 - 1 by omega]
    · rw [show (k - 1) / 3 = k / 3 by omega]
      exact Int.le_refl _
  refine ⟨fun k hk => ?_, fun k hk => ?_⟩
  · have hs := h (k / 3) (by omega)
    have hk5 := h5 (k / 3) (by omega)
    by_cases e : k % 3 = 1
    · have en : X.tri.nm k = X.nm (k / 3) := by unfold Scr.tri; simp [e]
      have ek : X.tri.kd k = X.kd (k / 3) := by unfold Scr.tri; simp [e]
      refine ⟨hs.lo, hs.hi, hup k hk, by rw [en]; exact hs.n0, by rw [en]; exact hs.n1, ?_⟩
      rw [ek, en]
      rcases hs.kind with ⟨e', h1⟩ | ⟨e', h1⟩ | e' | ⟨e', h1⟩ | ⟨e', h1⟩ | ⟨e', h1⟩ | e'
      · exact .inl ⟨e', h1⟩
      · exact .inr (.inl ⟨e', h1⟩)
      · exact .inr (.inr (.inl e'))
      · exact .inr (.inr (.inr (.inl ⟨e', h1⟩)))
      · exact .inr (.inr (.inr (.inr (.inl ⟨e', h1⟩))))
      · exact absurd e' hk5
      · exact .inr (.inr (.inr (.inr (.inr (.inr e')))))
    · have en : X.tri.nm k = 0 := by unfold Scr.tri; simp [e]
      have ek : X.tri.kd k = 2 := by unfold Scr.tri; simp [e]
      exact ⟨hs.lo, hs.hi, hup k hk, by rw [en]; omega, by rw [en]; omega, by rw [ek]; exact .inr (.inr (.inl rfl))⟩
  · have hk5 := h5 (k / 3) (by omega)
    by_cases e : k % 3 = 1
    · have ek : X.tri.kd k = X.kd (k / 3) := by unfold Scr.tri; simp [e]
      rw [ek]; exact hk5
    · have ek : X.tri.kd k = 2 := by unfold Scr.tri; simp [e]
      rw [ek]; decide

theorem step_ask (s : St) (a n : Int) : stepSt s 2 a n = s := by simp [stepSt]

theorem tri_st (s0 : St) (X : Scr) (i : Nat) : stN s0 X.tri (3 * i) = stN s0 X i ∧ stN s0 X.tri (3 * i + 1) = stN s0 X i := by
  have one : ∀ i, stN s0 X.tri (3 * i) = stN s0 X i → stN s0 X.tri (3 * i + 1) = stN s0 X i := by
    intro i h
    show stepSt (stN s0 X.tri (3 * i)) (X.tri.kd (3 * i)) (X.tri.at_ (3 * i)) (X.tri.nm (3 * i)) = _
    rw [(tri_0 X i).1, step_ask, h]
  induction i with
  | zero => exact ⟨rfl, one 0 rfl⟩
  | succ i ih =>
    have h : stN s0 X.tri (3 * (i + 1)) = stN s0 X (i + 1) := by
      show stepSt (stN s0 X.tri (3 * i + 1 + 1)) (X.tri.kd (3 * i + 2)) (X.tri.at_ (3 * i + 2)) (X.tri.nm (3 * i + 2)) = _
      rw [(tri_2 X i).1, step_ask]
      show stepSt (stN s0 X.tri (3 * i + 1)) (X.tri.kd (3 * i + 1)) (X.tri.at_ (3 * i + 1)) (X.tri.nm (3 * i + 1)) = _
      obtain ⟨x, y, z⟩ := tri_1 X i
      rw [ih.2, x, y, z]
      rfl
    exact ⟨h, one _ h⟩

theorem tri_told (s0 : St) (X : Scr) (i : Nat) :
    toldOf (stN s0 X.tri (3 * i + 1)) (X.tri.kd (3 * i + 1)) (X.tri.at_ (3 * i + 1)) (X.tri.nm (3 * i + 1)) = toldOf (stN s0 X i) (X.kd i) (X.at_ i) (X.nm i) := by
  obtain ⟨x, y, z⟩ := tri_1 X i
  rw [(tri_st s0 X i).2, x, y, z]

end Go.Proofs.Ytndkiphlpddbaaa
