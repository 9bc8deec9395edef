/- The law FnCancelNow: its plain part: a reservation and its cancelling, amid a script, leave all as it was. -/
import Derived.Test.YtndkiphlpddbaaaLwM
import Derived.Test.YtndkiphlpddbaaaCnW
namespace Go.Proofs.Ytndkiphlpddbaaa
open Go.RowKit Go.Deep Flt

/-- Two limiters that tell the same from a tick on, but for cancelling. -/
structure Eqv (s s' : St) (a : Int) : Prop where
  r : s.rate = s'.rate
  b : s.burst = s'.burst
  fill : ∀ c, a ≤ c → s.fill c = s'.fill c

theorem Eqv.later {s s' : St} {a b : Int} (h : Eqv s s' a) (hab : a ≤ b) : Eqv s s' b := ⟨h.r, h.b, fun c hc => h.fill c (by omega)⟩

theorem fill_from {s : St} {a c : Int} (h : s.Ok a) (hac : a ≤ c) : s.fill c = min (s.fill a + (c - a) * s.rate) (s.burst * 512) := by
  obtain ⟨r0, r1, b0, b1, t0, t1, hf, ht, k0, k1, e0, e1⟩ := h
  have m : 0 ≤ (c - a) * s.rate := Int.mul_nonneg (by omega) (by omega)
  unfold St.fill
  split
  · omega
  · rename_i j hj
    obtain ⟨h1, h2⟩ := ht j hj
    have e : (c - j) * s.rate = (a - j) * s.rate + (c - a) * s.rate := by rw [← Int.add_mul]; congr 1; omega
    rw [e]
    generalize (a - j) * s.rate = x at *
    generalize (c - a) * s.rate = y at *
    omega

theorem takes_fill (s : St) (a n c : Int) : (takes s a n).fill c = min (s.fill a - n * 512 + (c - a) * s.rate) (s.burst * 512) := rfl

theorem cancel_eqv {s : St} {a n : Int} (h : s.Ok a) (n0 : 0 ≤ n) : Eqv (cancelSt (takes s a n) a n) s a := by
  have hb := h.fill_bounds
  refine ⟨rfl, rfl, fun c hc => ?_⟩
  rw [fill_from h hc]
  show min (min ((takes s a n).fill a + n * 512) (s.burst * 512) + (c - a) * s.rate) (s.burst * 512) = _
  rw [takes_fill, Int.sub_self, Int.zero_mul]
  congr 2
  omega

theorem eqv_step {s s' : St} {a n kd : Int} (h : Eqv s s' a) (hk : kd = 0 ∨ kd = 1) : Eqv (stepSt s kd a n) (stepSt s' kd a n) a ∧ toldOf s kd a n = toldOf s' kd a n := by
  have hf := h.fill a (Int.le_refl _)
  have hr := h.r
  have hb := h.b
  have ht : Eqv (takes s a n) (takes s' a n) a := ⟨hr, hb, fun c hc => by rw [takes_fill, takes_fill, hf, hr, hb]⟩
  have hw : waitOf s a n = waitOf s' a n := by unfold waitOf; rw [hf, hr]
  rcases hk with rfl | rfl
  · unfold stepSt toldOf
    simp only [if_true]
    rw [hb, hf]
    refine ⟨?_, rfl⟩
    split
    · exact ht
    · exact h
  · unfold stepSt toldOf
    simp only [show ¬ (1 : Int) = 0 from by decide, if_false, if_true]
    rw [hb, hw]
    refine ⟨?_, rfl⟩
    split
    · exact ht
    · exact h

theorem stC_stN {s0 : St} {X : Scr} {K : Nat} (h : ∀ k, k < K → X.kd k ≠ 5) : ∀ k, k ≤ K → stC s0 X k = stN s0 X k := by
  intro k
  induction k with
  | zero => intro _; rfl
  | succ k ih =>
    intro hk
    rw [stC_plain (h k (by omega)), ih (by omega)]
    rfl

theorem stC_lo (s0 : St) (X : Scr) (p : Nat) (k1 a1 n1 k2 a2 n2 : Int) (k : Nat) (hk : k ≤ p) (h5 : ∀ k, k < p → X.kd k ≠ 5) : stC s0 (X.ins p k1 a1 n1 k2 a2 n2) k = stN s0 X k := by
  rw [stC_stN (K := p) (fun j hj => by rw [(ins_lo X p k1 a1 n1 k2 a2 n2 j hj).1]; exact h5 j hj) k hk, many_lo s0 X p k1 a1 n1 k2 a2 n2 k hk]

section
variable {rate burst n : Int} {X : Scr} {N p : Nat} (hX : Steps X N) (hp : p < N) (ho : OnlyP X N 0 1) (hN : N ≤ 40) (r0 : 0 < rate) (r1 : rate ≤ 1000) (b0 : 0 ≤ burst) (b1 : burst ≤ 64) (n0 : 1 ≤ n) (n1 : n ≤ 64)

include n0 n1 hX hp in
theorem now_scr : NowScr (X.ins p 1 (X.at_ p) n 5 (X.at_ p) p) (N + 2) := by
  have hpl := hX.plain
  have cases3 : ∀ k, k < N + 2 → k < p ∨ k = p ∨ k = p + 1 ∨ ∃ j, k = j + 2 ∧ p ≤ j ∧ j < N := by
    intro k hk
    by_cases h1 : k < p
    · exact .inl h1
    · by_cases h2 : k = p
      · exact .inr (.inl h2)
      · by_cases h3 : k = p + 1
        · exact .inr (.inr (.inl h3))
        · exact .inr (.inr (.inr ⟨k - 2, by omega, by omega, by omega⟩))
  have at_ : ∀ k, k < N + 2 → ∃ j, j < N ∧ (X.ins p 1 (X.at_ p) n 5 (X.at_ p) p).at_ k = X.at_ j := by
    intro k hk
    rcases cases3 k hk with h1 | rfl | rfl | ⟨j, rfl, h2, h3⟩
    · exact ⟨k, by omega, (ins_lo X p 1 (X.at_ p) n 5 (X.at_ p) p k h1).2.1⟩
    · exact ⟨k, hp, (ins_p X k 1 (X.at_ k) n 5 (X.at_ k) k).2.1⟩
    · exact ⟨p, hp, (ins_q X p 1 (X.at_ p) n 5 (X.at_ p) p).2.1⟩
    · exact ⟨j, h3, (ins_hi X p 1 (X.at_ p) n 5 (X.at_ p) p j h2).2.1⟩
  refine ⟨fun k hk => ?_, fun k hk => ?_, fun k hk => ?_, fun k hk => ?_⟩
  · rcases cases3 k hk with h1 | rfl | rfl | ⟨j, rfl, h2, h3⟩
    · obtain ⟨a, b, c⟩ := ins_lo X p 1 (X.at_ p) n 5 (X.at_ p) p k h1
      left; rw [a, c]; exact hpl.plain k (by omega)
    · obtain ⟨a, b, c⟩ := ins_p X k 1 (X.at_ k) n 5 (X.at_ k) k
      left; rw [a, c]; exact .inr (.inl ⟨rfl, by omega, by omega⟩)
    · obtain ⟨a, b, c⟩ := ins_q X p 1 (X.at_ p) n 5 (X.at_ p) p
      obtain ⟨a', b', c'⟩ := ins_p X p 1 (X.at_ p) n 5 (X.at_ p) p
      exact .inr ⟨a, p, rfl, c, a', by rw [b, b'], by rw [c']; exact n0, by rw [c']; omega⟩
    · obtain ⟨a, b, c⟩ := ins_hi X p 1 (X.at_ p) n 5 (X.at_ p) p j h2
      left; rw [a, c]; exact hpl.plain j h3
  · obtain ⟨j, hj, e⟩ := at_ k hk
    rw [e]; exact hpl.lo j hj
  · obtain ⟨j, hj, e⟩ := at_ k hk
    rw [e]; exact hpl.hi j hj
  · rcases cases3 k (by omega) with h1 | rfl | rfl | ⟨j, rfl, h2, h3⟩
    · by_cases h2 : k + 1 < p
      · rw [(ins_lo X p 1 (X.at_ p) n 5 (X.at_ p) p k h1).2.1, (ins_lo X p 1 (X.at_ p) n 5 (X.at_ p) p (k + 1) h2).2.1]
        exact hpl.up k (by omega)
      · have : p = k + 1 := by omega
        subst this
        rw [(ins_lo X (k + 1) 1 (X.at_ (k + 1)) n 5 (X.at_ (k + 1)) ((k + 1 : Nat) : Int) k h1).2.1, (ins_p X (k + 1) 1 (X.at_ (k + 1)) n 5 (X.at_ (k + 1)) ((k + 1 : Nat) : Int)).2.1]
        exact hpl.up k hp
    · rw [(ins_p X k 1 (X.at_ k) n 5 (X.at_ k) k).2.1, (ins_q X k 1 (X.at_ k) n 5 (X.at_ k) k).2.1]
      exact Int.le_refl _
    · rw [(ins_q X p 1 (X.at_ p) n 5 (X.at_ p) p).2.1, (ins_hi X p 1 (X.at_ p) n 5 (X.at_ p) p p (Nat.le_refl _)).2.1]
      exact Int.le_refl _
    · rw [(ins_hi X p 1 (X.at_ p) n 5 (X.at_ p) p j h2).2.1, show j + 2 + 1 = j + 1 + 2 by omega, (ins_hi X p 1 (X.at_ p) n 5 (X.at_ p) p (j + 1) (by omega)).2.1]
      exact hpl.up j (by omega)

include hX hp ho hN r0 r1 b0 b1 n0 n1 in
theorem now_mid : Eqv (stC (St.new rate burst) (X.ins p 1 (X.at_ p) n 5 (X.at_ p) p) (p + 2)) (stN (St.new rate burst) X p) (X.at_ p) := by
  have hfit := fit_stN (s0 := St.new rate burst) hX.plain (by omega) (fun h0 => new_fit rate burst _ r0 r1 b0 b1 (hX.plain.lo 0 h0) (hX.plain.hi 0 h0)) p hp
  have h5 : ∀ k, k < p → X.kd k ≠ 5 := fun k hk => by have := ho k (by omega); omega
  obtain ⟨a, b, c⟩ := ins_q X p 1 (X.at_ p) n 5 (X.at_ p) p
  obtain ⟨a', b', c'⟩ := ins_p X p 1 (X.at_ p) n 5 (X.at_ p) p
  obtain ⟨e1, e2⟩ := stC_now (s0 := St.new rate burst) (X := X.ins p 1 (X.at_ p) n 5 (X.at_ p) p) (j := p) a a'
  have hlo := stC_lo (St.new rate burst) X p 1 (X.at_ p) n 5 (X.at_ p) p p (Nat.le_refl _) h5
  show Eqv (stC (St.new rate burst) (X.ins p 1 (X.at_ p) n 5 (X.at_ p) p) (p + 1 + 1)) _ _
  rw [e2, hlo, b, b', c']
  split
  · exact cancel_eqv hfit.ok (by omega)
  · exact ⟨rfl, rfl, fun _ _ => rfl⟩

include hX hp ho hN r0 r1 b0 b1 n0 n1 in
theorem now_hi (k : Nat) (hk : p ≤ k) (hk2 : k < N) : Eqv (stC (St.new rate burst) (X.ins p 1 (X.at_ p) n 5 (X.at_ p) p) (k + 2)) (stN (St.new rate burst) X k) (X.at_ k) := by
  induction k with
  | zero =>
    have : p = 0 := by omega
    subst this
    exact now_mid hX hp ho hN r0 r1 b0 b1 n0 n1
  | succ k ih =>
    by_cases hkp : p = k + 1
    · subst hkp; exact now_mid hX hp ho hN r0 r1 b0 b1 n0 n1
    · obtain ⟨a, b, c⟩ := ins_hi X p 1 (X.at_ p) n 5 (X.at_ p) p k (by omega)
      have hk01 := ho k (by omega)
      have hup := (hX.step (k + 1) hk2).up (by omega)
      rw [Nat.add_sub_cancel] at hup
      have := (eqv_step (n := X.nm k) (kd := X.kd k) (ih (by omega) (by omega)) hk01).1
      rw [show k + 1 + 2 = k + 2 + 1 by omega, stC_plain (by rw [a]; omega), a, b, c]
      exact this.later hup

include hX hp ho hN r0 r1 b0 b1 n0 n1 in
/-- What the script with the two steps more is told: as without them, elsewhere. -/
theorem now_told : (∀ k, k < p → toldOf (stC (St.new rate burst) (X.ins p 1 (X.at_ p) n 5 (X.at_ p) p) k) ((X.ins p 1 (X.at_ p) n 5 (X.at_ p) p).kd k) ((X.ins p 1 (X.at_ p) n 5 (X.at_ p) p).at_ k) ((X.ins p 1 (X.at_ p) n 5 (X.at_ p) p).nm k) = toldOf (stN (St.new rate burst) X k) (X.kd k) (X.at_ k) (X.nm k)) ∧
    (∀ k, p ≤ k → k < N → toldOf (stC (St.new rate burst) (X.ins p 1 (X.at_ p) n 5 (X.at_ p) p) (k + 2)) ((X.ins p 1 (X.at_ p) n 5 (X.at_ p) p).kd (k + 2)) ((X.ins p 1 (X.at_ p) n 5 (X.at_ p) p).at_ (k + 2)) ((X.ins p 1 (X.at_ p) n 5 (X.at_ p) p).nm (k + 2)) = toldOf (stN (St.new rate burst) X k) (X.kd k) (X.at_ k) (X.nm k)) := by
  refine ⟨fun k hk => ?_, fun k hk hk2 => ?_⟩
  · obtain ⟨a, b, c⟩ := ins_lo X p 1 (X.at_ p) n 5 (X.at_ p) p k hk
    rw [stC_lo _ X p _ _ _ _ _ _ k (by omega) (fun k hk => by have := ho k (by omega); omega), a, b, c]
  · obtain ⟨a, b, c⟩ := ins_hi X p 1 (X.at_ p) n 5 (X.at_ p) p k hk
    rw [a, b, c]
    exact (eqv_step (n := X.nm k) (kd := X.kd k) (now_hi hX hp ho hN r0 r1 b0 b1 n0 n1 k hk hk2) (ho k hk2)).2
end

end Go.Proofs.Ytndkiphlpddbaaa
