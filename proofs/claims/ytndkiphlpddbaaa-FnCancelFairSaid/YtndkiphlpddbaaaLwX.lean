/- The laws FnWindow, FnRow, FnManySmall, FnLater: their plain parts. -/
import Derived.Test.YtndkiphlpddbaaaLwT
namespace Go.Proofs.Ytndkiphlpddbaaa
open Go.RowKit Go.Deep Flt

/-! ### windows -/
/-- The sum of m of them, from i on. -/
def sumW (o : Nat → Int) (i : Nat) : Nat → Int
  | 0 => 0
  | m + 1 => sumW o i m + o (i + m)

/-- What a step took. -/
def okN (T : Nat → Tl) (X : Scr) (j : Nat) : Int := if (T j).ok then X.nm j else 0

theorem fill_ge {s : St} {a b : Int} (hr : 0 ≤ s.rate) (hab : a ≤ b) : s.fill b ≤ s.fill a + s.rate * (b - a) := by
  have m : 0 ≤ (b - a) * s.rate := Int.mul_nonneg (by omega) hr
  rw [Int.mul_comm] at m
  unfold St.fill
  split
  · omega
  · rename_i j hj
    have e : (b - j) * s.rate = (a - j) * s.rate + s.rate * (b - a) := by
      rw [Int.mul_comm s.rate, ← Int.add_mul]; congr 1; omega
    rw [e]
    omega

theorem window_ok {rate burst : Int} {X : Scr} {N : Nat} (h : Steps X N) (ho : OnlyP X N 0 0) (r0 : 1 ≤ rate) (b0 : 0 ≤ burst) (i m : Nat) (hm : i + m < N) :
    sumW (okN (fun k => toldOf (stN (St.new rate burst) X k) (X.kd k) (X.at_ k) (X.nm k)) X) i (m + 1) * 512 ≤ burst * 512 + rate * (X.at_ (i + m) - X.at_ i) := by
  have hk : ∀ k, k < N → X.kd k = 0 ∨ X.kd k = 2 := fun k hk => by have := ho k hk; omega
  have one : ∀ k, k < N → (stN (St.new rate burst) X (k + 1)).fill (X.at_ k) + okN (fun k => toldOf (stN (St.new rate burst) X k) (X.kd k) (X.at_ k) (X.nm k)) X k * 512 = (stN (St.new rate burst) X k).fill (X.at_ k) ∧
      0 ≤ (stN (St.new rate burst) X (k + 1)).fill (X.at_ k) ∧ (stN (St.new rate burst) X (k + 1)).rate = rate := by
    intro k hkN
    obtain ⟨e1, e2, e3⟩ := tok_pos h hk r0 b0 k hkN
    obtain ⟨f0, f1⟩ := e3 _ (Int.le_refl _)
    have n0 := (h.step k hkN).n0
    have hkd : X.kd k = 0 := by have := ho k hkN; omega
    show (stepSt (stN (St.new rate burst) X k) (X.kd k) (X.at_ k) (X.nm k)).fill (X.at_ k) + (if (toldOf (stN (St.new rate burst) X k) (X.kd k) (X.at_ k) (X.nm k)).ok then X.nm k else 0) * 512 = _ ∧
      0 ≤ (stepSt (stN (St.new rate burst) X k) (X.kd k) (X.at_ k) (X.nm k)).fill (X.at_ k) ∧ (stepSt (stN (St.new rate burst) X k) (X.kd k) (X.at_ k) (X.nm k)).rate = rate
    generalize stN (St.new rate burst) X k = s at *
    rw [hkd]
    unfold stepSt toldOf
    rw [if_pos rfl, if_pos rfl]
    by_cases hc : X.nm k ≤ s.burst ∧ X.nm k * 512 ≤ s.fill (X.at_ k)
    · rw [if_pos hc]
      have : (takes s (X.at_ k) (X.nm k)).fill (X.at_ k) = s.fill (X.at_ k) - X.nm k * 512 := by
        show min (s.fill (X.at_ k) - X.nm k * 512 + (X.at_ k - X.at_ k) * s.rate) (s.burst * 512) = _
        rw [Int.sub_self, Int.zero_mul]
        omega
      rw [this]
      simp only [hc, and_self, decide_true, if_true]
      refine ⟨by omega, by omega, e1⟩
    · rw [if_neg hc]
      simp only [hc, decide_false, Bool.false_eq_true, if_false]
      refine ⟨by omega, f0, e1⟩
  generalize hoo : okN (fun k => toldOf (stN (St.new rate burst) X k) (X.kd k) (X.at_ k) (X.nm k)) X = o at *
  have key : ∀ m, i + m < N → (stN (St.new rate burst) X (i + m + 1)).fill (X.at_ (i + m)) + sumW o i (m + 1) * 512 ≤ burst * 512 + rate * (X.at_ (i + m) - X.at_ i) := by
    intro m
    induction m with
    | zero =>
      intro hi
      obtain ⟨q1, q2, q3⟩ := one i (by omega)
      obtain ⟨e1, e2, e3⟩ := tok_pos h hk r0 b0 i (by omega)
      obtain ⟨f0, f1⟩ := e3 _ (Int.le_refl _)
      show (stN (St.new rate burst) X (i + 1)).fill (X.at_ i) + (0 + o i) * 512 ≤ burst * 512 + rate * (X.at_ i - X.at_ i)
      rw [Int.sub_self, Int.mul_zero]
      omega
    | succ m ih =>
      intro hi
      have ih := ih (by omega)
      obtain ⟨q1, q2, q3⟩ := one (i + m) (by omega)
      obtain ⟨p1, p2, p3⟩ := one (i + m + 1) (by omega)
      have hup := (h.step (i + m + 1) (by omega)).up (by omega)
      rw [Nat.add_sub_cancel] at hup
      have hg := fill_ge (s := stN (St.new rate burst) X (i + m + 1)) (by rw [q3]; omega) hup
      rw [q3] at hg
      rw [show i + (m + 1) = i + m + 1 by omega]
      show _ + (sumW o i (m + 1) + o (i + (m + 1))) * 512 ≤ _
      rw [show i + (m + 1) = i + m + 1 by omega]
      have e : rate * (X.at_ (i + m + 1) - X.at_ i) = rate * (X.at_ (i + m + 1) - X.at_ (i + m)) + rate * (X.at_ (i + m) - X.at_ i) := by
        rw [← Int.mul_add]; congr 1; omega
      rw [e]
      generalize rate * (X.at_ (i + m + 1) - X.at_ (i + m)) = u at *
      generalize rate * (X.at_ (i + m) - X.at_ i) = v at *
      omega
  have := key m hm
  have h2 := (one (i + m) (by omega)).2.1
  omega

/-! ### a row of reservations at one time -/
def sumL (l : Nat → Int) : Nat → Int
  | 0 => 0
  | k + 1 => sumL l k + l k

def rowScr (l : Nat → Int) : Scr := ⟨fun _ => 1, fun _ => 0, l⟩

theorem sumL_pos {l : Nat → Int} {N : Nat} (hl : ∀ k, k < N → 1 ≤ l k) : ∀ k, k ≤ N → 0 ≤ sumL l k := by
  intro k
  induction k with
  | zero => intro _; exact Int.le_refl _
  | succ k ih => intro hk; have := ih (by omega); have := hl k (by omega); show 0 ≤ sumL l k + l k; omega

theorem row_st {rate burst : Int} {l : Nat → Int} {N : Nat} (hl : ∀ k, k < N → 1 ≤ l k ∧ l k ≤ burst) (k : Nat) (hk : k ≤ N) :
    (stN (St.new rate burst) (rowScr l) k).rate = rate ∧ (stN (St.new rate burst) (rowScr l) k).burst = burst ∧ (stN (St.new rate burst) (rowScr l) k).fill 0 = (burst - sumL l k) * 512 := by
  induction k with
  | zero => exact ⟨rfl, rfl, by show burst * 512 = (burst - 0) * 512; omega⟩
  | succ k ih =>
    obtain ⟨e1, e2, e3⟩ := ih (by omega)
    have hs := sumL_pos (fun k hk => (hl k hk).1) (k + 1) hk
    obtain ⟨n0, n1⟩ := hl k (by omega)
    show (stepSt (stN (St.new rate burst) (rowScr l) k) 1 0 (l k)).rate = rate ∧ (stepSt (stN (St.new rate burst) (rowScr l) k) 1 0 (l k)).burst = burst ∧ (stepSt (stN (St.new rate burst) (rowScr l) k) 1 0 (l k)).fill 0 = (burst - sumL l (k + 1)) * 512
    generalize stN (St.new rate burst) (rowScr l) k = s at *
    unfold stepSt
    rw [if_neg (by decide), if_pos rfl, if_pos (by omega)]
    refine ⟨e1, e2, ?_⟩
    show min (s.fill 0 - l k * 512 + (0 - 0) * s.rate) (s.burst * 512) = (burst - (sumL l k + l k)) * 512
    have hs' : 0 ≤ sumL l k + l k := hs
    rw [Int.sub_self, Int.zero_mul, e3, e2]
    omega

theorem row_told {rate burst : Int} {l : Nat → Int} {N : Nat} (hp : powB rate = true) (hb : burst ≤ 64) (hN : N ≤ 30) (hl : ∀ k, k < N → 1 ≤ l k ∧ l k ≤ burst) (k : Nat) (hk : k < N) :
    toldOf (stN (St.new rate burst) (rowScr l) k) ((rowScr l).kd k) ((rowScr l).at_ k) ((rowScr l).nm k) = ⟨true, max 0 (((sumL l (k + 1) - burst) * 1000000000).tdiv rate), 0⟩ := by
  obtain ⟨e1, e2, e3⟩ := row_st (rate := rate) hl k (by omega)
  obtain ⟨n0, n1⟩ := hl k hk
  have up : ∀ k, k ≤ N → sumL l k ≤ 64 * (k : Int) := by
    intro k
    induction k with
    | zero => intro _; exact Int.le_refl _
    | succ k ih => intro hk; have := ih (by omega); have := hl k (by omega); show sumL l k + l k ≤ 64 * ((k + 1 : Nat) : Int); omega
  have hu := up (k + 1) hk
  show toldOf (stN (St.new rate burst) (rowScr l) k) 1 0 (l k) = _
  generalize stN (St.new rate burst) (rowScr l) k = s at *
  unfold toldOf
  rw [if_neg (by decide), if_pos rfl, if_pos (by omega)]
  congr 1
  unfold waitOf
  have hsum : sumL l (k + 1) = sumL l k + l k := rfl
  have hw := wait_pow s.rate (l k * 512 - s.fill 0) (by rw [e1]; exact hp) (by rw [e3]; omega)
  rw [e1] at hw
  rw [e1, show (sumL l (k + 1) - burst) * 1000000000 = (l k * 512 - s.fill 0) * 1953125 from by rw [e3]; omega, ← hw]
  by_cases hlt : s.fill 0 < l k * 512
  · rw [if_pos hlt, if_pos (by omega)]
  · rw [if_neg hlt, if_neg (by omega)]

theorem row_plain {l : Nat → Int} {N : Nat} {burst : Int} (hb : burst ≤ 64) (hl : ∀ k, k < N → 1 ≤ l k ∧ l k ≤ burst) : PlainScr (rowScr l) N :=
  ⟨fun k hk => .inr (.inl ⟨rfl, by have := hl k hk; show 0 ≤ l k; omega, by have := hl k hk; show l k ≤ 1000; omega⟩), fun _ _ => Int.le_refl _, fun _ _ => by show (0 : Int) ≤ 16777216; omega, fun _ _ => Int.le_refl _⟩

/-! ### many small ones -/
def smallScr (first wait : Int) : Scr := ⟨fun k => if k = 1 then 2 else 0, fun k => if k = 0 then 0 else wait, fun k => if k = 0 then first else if k = 1 then 0 else 1⟩

theorem small_plain {first wait : Int} (N : Nat) (f0 : 1 ≤ first) (f1 : first ≤ 64) (w0 : 0 ≤ wait) (w1 : wait ≤ 65536) : PlainScr (smallScr first wait) N := by
  refine ⟨fun k hk => ?_, fun k hk => ?_, fun k hk => ?_, fun k hk => ?_⟩
  · unfold smallScr
    by_cases h1 : k = 1
    · subst h1; exact .inr (.inr (.inl rfl))
    · refine .inl ⟨by simp [h1], ?_⟩
      by_cases h0 : k = 0
      · subst h0; simp; omega
      · simp [h0, h1]
  · show 0 ≤ (if k = 0 then 0 else wait); split <;> omega
  · show (if k = 0 then 0 else wait) ≤ 16777216; split <;> omega
  · show (if k = 0 then 0 else wait) ≤ (if k + 1 = 0 then 0 else wait); rw [if_neg (by omega : ¬ k + 1 = 0)]; split <;> omega

theorem small_told {rate burst first wait : Int} (r0 : 1 ≤ rate) (b0 : 0 ≤ burst) (w0 : 0 ≤ wait) :
    ∃ m : Int, 0 ≤ m ∧ m ≤ burst * 512 ∧ (toldOf (stN (St.new rate burst) (smallScr first wait) 1) ((smallScr first wait).kd 1) ((smallScr first wait).at_ 1) ((smallScr first wait).nm 1)).tok = G (-9) m ∧
      ∀ i : Nat, (toldOf (stN (St.new rate burst) (smallScr first wait) (2 + i)) ((smallScr first wait).kd (2 + i)) ((smallScr first wait).at_ (2 + i)) ((smallScr first wait).nm (2 + i))).ok = decide (((i : Int) + 1) * 512 ≤ m) := by
  have hX2 : ∀ i, (smallScr first wait).kd (2 + i) = 0 ∧ (smallScr first wait).at_ (2 + i) = wait ∧ (smallScr first wait).nm (2 + i) = 1 := by
    intro i
    unfold smallScr
    simp only [show ¬ 2 + i = 1 from by omega, show ¬ 2 + i = 0 from by omega, if_false, and_self]
  have h1 : (stN (St.new rate burst) (smallScr first wait) 1).rate = rate ∧ (stN (St.new rate burst) (smallScr first wait) 1).burst = burst ∧ 0 ≤ (stN (St.new rate burst) (smallScr first wait) 1).fill wait ∧ (stN (St.new rate burst) (smallScr first wait) 1).fill wait ≤ burst * 512 := by
    show (stepSt (St.new rate burst) 0 0 first).rate = rate ∧ (stepSt (St.new rate burst) 0 0 first).burst = burst ∧ 0 ≤ (stepSt (St.new rate burst) 0 0 first).fill wait ∧ (stepSt (St.new rate burst) 0 0 first).fill wait ≤ burst * 512
    unfold stepSt
    rw [if_pos rfl]
    have hf : (St.new rate burst).fill 0 = burst * 512 := rfl
    rw [hf]
    by_cases hc : first ≤ (St.new rate burst).burst ∧ first * 512 ≤ burst * 512
    · rw [if_pos hc]
      refine ⟨rfl, rfl, ?_⟩
      show 0 ≤ min (burst * 512 - first * 512 + (wait - 0) * rate) (burst * 512) ∧ min (burst * 512 - first * 512 + (wait - 0) * rate) (burst * 512) ≤ burst * 512
      have : 0 ≤ (wait - 0) * rate := Int.mul_nonneg (by omega) (by omega)
      omega
    · rw [if_neg hc]
      refine ⟨rfl, rfl, ?_, ?_⟩
      · show 0 ≤ burst * 512; omega
      · show burst * 512 ≤ burst * 512; omega
  have h2 : stN (St.new rate burst) (smallScr first wait) 2 = stN (St.new rate burst) (smallScr first wait) 1 := by
    show stepSt (stN (St.new rate burst) (smallScr first wait) 1) 2 _ _ = _
    simp [stepSt]
  obtain ⟨hr, hb, m0, m1⟩ := h1
  generalize hm : (stN (St.new rate burst) (smallScr first wait) 1).fill wait = m at *
  have inv : ∀ i : Nat, (stN (St.new rate burst) (smallScr first wait) (2 + i)).rate = rate ∧ (stN (St.new rate burst) (smallScr first wait) (2 + i)).burst = burst ∧
      ((i : Int) * 512 ≤ m → (stN (St.new rate burst) (smallScr first wait) (2 + i)).fill wait = m - i * 512) ∧ (m < (i : Int) * 512 → (stN (St.new rate burst) (smallScr first wait) (2 + i)).fill wait < 512) := by
    intro i
    induction i with
    | zero => rw [Nat.add_zero, h2, hm]; exact ⟨hr, hb, fun _ => by omega, fun h => by omega⟩
    | succ i ih =>
      obtain ⟨i1, i2, i3, i4⟩ := ih
      obtain ⟨a, b, c⟩ := hX2 i
      have hs : stN (St.new rate burst) (smallScr first wait) (2 + (i + 1)) = stepSt (stN (St.new rate burst) (smallScr first wait) (2 + i)) 0 wait 1 := by
        show stepSt (stN (St.new rate burst) (smallScr first wait) (2 + i)) ((smallScr first wait).kd (2 + i)) ((smallScr first wait).at_ (2 + i)) ((smallScr first wait).nm (2 + i)) = _
        rw [a, b, c]
      rw [hs]
      generalize stN (St.new rate burst) (smallScr first wait) (2 + i) = s at *
      unfold stepSt
      rw [if_pos rfl]
      by_cases hc : 1 ≤ s.burst ∧ 1 * 512 ≤ s.fill wait
      · rw [if_pos hc]
        have hf : (takes s wait 1).fill wait = min (s.fill wait - 512) (s.burst * 512) := by
          show min (s.fill wait - 1 * 512 + (wait - wait) * s.rate) (s.burst * 512) = _
          rw [Int.sub_self, Int.zero_mul, Int.add_zero, Int.one_mul]
        refine ⟨i1, i2, fun h => ?_, fun h => ?_⟩
        · rw [hf]
          have := i3 (by omega)
          omega
        · rw [hf]
          by_cases hi : (i : Int) * 512 ≤ m
          · have := i3 hi; omega
          · have := i4 (by omega); omega
      · rw [if_neg hc]
        refine ⟨i1, i2, fun h => ?_, fun h => ?_⟩
        · have := i3 (by omega)
          exfalso; apply hc; omega
        · by_cases hi : (i : Int) * 512 ≤ m
          · have := i3 hi; omega
          · exact i4 (by omega)
  refine ⟨m, m0, m1, ?_, fun i => ?_⟩
  · show (toldOf (stN (St.new rate burst) (smallScr first wait) 1) 2 wait 0).tok = _
    unfold toldOf
    rw [if_neg (by decide), if_neg (by decide), if_pos rfl, hm]
  · obtain ⟨i1, i2, i3, i4⟩ := inv i
    obtain ⟨a, b, c⟩ := hX2 i
    rw [a, b, c]
    generalize stN (St.new rate burst) (smallScr first wait) (2 + i) = s at *
    unfold toldOf
    rw [if_pos rfl]
    show decide (1 ≤ s.burst ∧ 1 * 512 ≤ s.fill wait) = _
    by_cases hi : (i : Int) * 512 ≤ m
    · have := i3 hi
      by_cases h : ((i : Int) + 1) * 512 ≤ m
      · rw [decide_eq_true h]; exact decide_eq_true (by omega)
      · rw [decide_eq_false h]; exact decide_eq_false (by omega)
    · have := i4 (by omega)
      rw [decide_eq_false (by omega : ¬ ((i : Int) + 1) * 512 ≤ m)]; exact decide_eq_false (by omega)

end Go.Proofs.Ytndkiphlpddbaaa
