/- A script over the limiter in whole numbers, step by step (no cancelling), and impl.Run over it. -/
import Derived.Test.YtndkiphlpddbaaaRunT
namespace Go.Proofs.Ytndkiphlpddbaaa
open Go.RowKit Go.Deep Flt

/-- A reservation in whole numbers. -/
structure Rs where
  ok : Bool
  n : Int
  T : Int
  rate : Int

def Rs.cells (r : Rs) (L : Nat) : Array Value := rcells r.ok L r.n r.T (G 0 r.rate)

/-- How long what is taken must wait. -/
def waitOf (s : St) (a n : Int) : Int := if s.fill a < n * 512 then W s.rate (n * 512 - s.fill a) else 0

def takes (s : St) (a n : Int) : St := ⟨s.rate, s.burst, s.fill a - n * 512, some a, tick a + waitOf s a n⟩

def stepSt (s : St) (kd a n : Int) : St :=
  if kd = 0 then (if n ≤ s.burst ∧ n * 512 ≤ s.fill a then takes s a n else s)
  else if kd = 1 then (if n ≤ s.burst then takes s a n else s)
  else if kd = 3 then ⟨n, s.burst, s.fill a, some a, s.ev⟩
  else if kd = 4 then ⟨s.rate, n, s.fill a, some a, s.ev⟩
  else s

def resOf (s : St) (a n : Int) : Rs := if n ≤ s.burst then ⟨true, n, tick a + waitOf s a n, s.rate⟩ else ⟨false, 0, 0, s.rate⟩

def toldOf (s : St) (kd a n : Int) : Tl :=
  if kd = 0 then ⟨decide (n ≤ s.burst ∧ n * 512 ≤ s.fill a), 0, 0⟩
  else if kd = 1 then (if n ≤ s.burst then ⟨true, waitOf s a n, 0⟩ else ⟨false, 9223372036854775807, 0⟩)
  else if kd = 2 then ⟨false, 0, G (-9) (s.fill a)⟩
  else if kd = 7 then ⟨s.burst == n, 0, G 0 s.rate⟩
  else Tl.none

theorem wait_bounds {s : St} {a n : Int} (h : s.Ok a) (n1 : n ≤ 1000) : 0 ≤ waitOf s a n ∧ waitOf s a n ≤ 16384000000000 := by
  unfold waitOf
  have hb := h.fill_bounds
  split
  · have := W_bounds s.rate (n * 512 - s.fill a) h.r0 h.r1 (by omega) (by omega)
    omega
  · omega

/-- What ReserveN does, in whole numbers. -/
theorem rsv_one (L : Nat) (s : St) (a n : Int) (h : s.Ok a) (n0 : 0 ≤ n) (n1 : n ≤ 1000) :
    Rsv L a n 9223372036854775807 s.cells (resOf s a n).ok (resOf s a n).n (resOf s a n).T (G 0 (resOf s a n).rate) (stepSt s 1 a n).cells := by
  have hb := h.fill_bounds
  unfold resOf stepSt takes
  simp only [show ¬ (1 : Int) = 0 from by decide, if_false, if_true]
  by_cases hn : n ≤ s.burst
  · simp only [if_pos hn]
    unfold waitOf
    by_cases hf : s.fill a < n * 512
    · simp only [if_pos hf]
      have hw := W_bounds s.rate (n * 512 - s.fill a) h.r0 h.r1 (by omega) (by omega)
      exact Rsv.wait L s a n _ h n0 hn (by omega) hf
    · simp only [if_neg hf, Int.add_zero]
      exact Rsv.okay L s a n _ h n0 hn (by omega) (by omega)
  · simp only [if_neg hn]
    exact Rsv.no L s a n _ h n0 n1 (.inl (by omega)) (by omega)

/-- What AllowN does. -/
theorem allow_one (L : Nat) (s : St) (a n : Int) (h : s.Ok a) (n0 : 0 ≤ n) (n1 : n ≤ 1000) (w : World) (hL : Blk w L 76 s.cells) :
    Calls Try.prog 37 #[.pointer (some ⟨L, 0, none⟩), tv (tick a), .int .i64 n] w fun e w' => e = .returned (.bool (decide (n ≤ s.burst ∧ n * 512 ≤ s.fill a))) ∧ Blk w' L 76 (stepSt s 0 a n).cells ∧ w.grownBy w' (some L) := by
  have hb := h.fill_bounds
  unfold stepSt takes
  simp only [if_true]
  by_cases hn : n ≤ s.burst ∧ n * 512 ≤ s.fill a
  · simp only [hn, and_self, decide_true]
    unfold waitOf
    simp only [if_neg (show ¬ s.fill a < n * 512 by omega), Int.add_zero]
    exact allow_any (Rsv.okay L s a n 0 h n0 hn.1 (by omega) hn.2) w hL
  · simp only [hn, decide_false]
    have hf : s.fill a < n * 512 := by omega
    have hw := W_bounds s.rate (n * 512 - s.fill a) h.r0 h.r1 (by omega) (by omega)
    exact allow_any (Rsv.no L s a n 0 h n0 n1 (by omega) hf) w hL

/-- The delay of a reservation, from its own time. -/
theorem delay_one (s : St) (a n : Int) (h : s.Ok a) (n1 : n ≤ 1000) (L R : Nat) (w : World) (hR : Blk w R 82 ((resOf s a n).cells L)) :
    Calls Try.prog 40 #[.pointer (some ⟨R, 0, none⟩), tv (tick a)] w fun e w' => e = .returned (.int .i64 (toldOf s 1 a n).delay) ∧ Below w.heap.size w w' := by
  have hw := wait_bounds h n1
  unfold resOf Rs.cells at hR
  unfold toldOf
  simp only [show ¬ (1 : Int) = 0 from by decide, if_false, if_true]
  by_cases hn : n ≤ s.burst
  · simp only [if_pos hn] at hR ⊢
    have hs := fun w => sub_any (tick a + waitOf s a n) (tick a) w (by have := h.k0; unfold tick M0; omega) (by have := h.k1; unfold tick M0; omega) (by omega) (by omega)
    have := delay_yes L R n (tick a + waitOf s a n) (G 0 s.rate) (tick a) w hR _ hs
    rwa [show max 0 (tick a + waitOf s a n - tick a) = waitOf s a n from by omega] at this
  · simp only [if_neg hn] at hR ⊢
    exact delay_no L R 0 0 (G 0 s.rate) (tick a) w hR

/-- A plain step: all kinds but cancelling and asking for an elder reservation. -/
def Plain (kd n : Int) : Prop := (kd = 0 ∧ 0 ≤ n ∧ n ≤ 1000) ∨ (kd = 1 ∧ 0 ≤ n ∧ n ≤ 1000) ∨ kd = 2 ∨ (kd = 3 ∧ 0 < n ∧ n ≤ 1000) ∨ (kd = 4 ∧ 0 ≤ n ∧ n ≤ 64) ∨ kd = 7

theorem item_plain (L : Nat) (X : Scr) (C : Nat → Array Value) (H : Nat → Option (Array Value)) (T : Nat → Tl) (k : Nat) (s : St) (h : s.Ok (X.at_ k)) (hp : Plain (X.kd k) (X.nm k))
    (hC : C k = s.cells) (hC' : C (k + 1) = (stepSt s (X.kd k) (X.at_ k) (X.nm k)).cells) (hT : T k = toldOf s (X.kd k) (X.at_ k) (X.nm k))
    (hH : H k = if X.kd k = 1 then some ((resOf s (X.at_ k) (X.nm k)).cells L) else none) : Item L X C H T k := by
  unfold Item
  rcases hp with ⟨e, n0, n1⟩ | ⟨e, n0, n1⟩ | e | ⟨e, n0, n1⟩ | ⟨e, n0, n1⟩ | e
  · rw [e] at hC' hT hH
    refine .inl ⟨e, by rw [hH]; rfl, by rw [hT]; exact ⟨rfl, rfl⟩, fun w hL => ?_⟩
    rw [hC] at hL
    rw [hC', hT]
    exact allow_one L s _ _ h n0 n1 w hL
  · rw [e] at hC' hT hH
    refine .inr (.inl ⟨_, e, by rw [hH]; rfl, ?_, fun w hL => ?_, fun w R hR => ?_, fun w R hR => ?_⟩)
    · rw [hT]; unfold toldOf; simp only [show ¬ (1 : Int) = 0 from by decide, if_false, if_true]; split <;> rfl
    · rw [hC] at hL
      rw [hC']
      exact reserve_any (rsv_one L s _ _ h n0 n1) w hL
    · have := ok_any L R (resOf s (X.at_ k) (X.nm k)).ok (resOf s (X.at_ k) (X.nm k)).n (resOf s (X.at_ k) (X.nm k)).T (G 0 (resOf s (X.at_ k) (X.nm k)).rate) w hR
      rw [show (T k).ok = (resOf s (X.at_ k) (X.nm k)).ok from by rw [hT]; unfold toldOf resOf; simp only [show ¬ (1 : Int) = 0 from by decide, if_false, if_true]; split <;> rfl]
      exact this
    · rw [hT]
      exact delay_one s _ _ h n1 L R w hR
  · rw [e] at hC' hT hH
    refine .inr (.inr (.inl ⟨e, by rw [hH]; rfl, by rw [hT]; exact ⟨rfl, rfl⟩, by rw [hC', hC]; rfl, fun w hL => ?_⟩))
    rw [hC] at hL
    rw [hT]
    exact tokens_any L s _ w hL h
  · rw [e] at hC' hT hH
    refine .inr (.inr (.inr (.inl ⟨e, by rw [hH]; rfl, by rw [hT]; rfl, fun w hL => ?_⟩)))
    rw [hC] at hL
    rw [hC']
    exact set_limit L s _ _ w hL h
  · rw [e] at hC' hT hH
    refine .inr (.inr (.inr (.inr (.inl ⟨e, by rw [hH]; rfl, by rw [hT]; rfl, fun w hL => ?_⟩))))
    rw [hC] at hL
    rw [hC']
    exact set_burst L s _ _ w hL h
  · rw [e] at hC' hT hH
    refine .inr (.inr (.inr (.inr (.inr (.inr (.inr ⟨s.burst, e, by rw [hH]; rfl, by rw [hT]; exact ⟨rfl, rfl⟩, by rw [hC', hC]; rfl, fun w hL => ?_, fun w hL => ?_⟩))))))
    · rw [hC] at hL
      exact burst_any L _ _ _ _ _ w hL
    · rw [hC] at hL
      rw [hT]
      exact limit_any L _ _ _ _ _ w hL

/-- What a state keeps through a script: j steps have been made. -/
structure St.Fit (s : St) (a : Int) (j : Nat) : Prop where
  ok : s.Ok a
  b : s.burst ≤ 64
  t : -32768 * (j : Int) ≤ s.tok

theorem St.Ok.later {s : St} {a b : Int} (h : s.Ok a) (hab : a ≤ b) (hb : b ≤ 16777216) : s.Ok b := by
  obtain ⟨r0, r1, b0, b1, t0, t1, hf, ht, k0, k1, e0, e1⟩ := h
  exact ⟨r0, r1, b0, b1, t0, t1, hf, fun j hj => ⟨(ht j hj).1, by have := (ht j hj).2; omega⟩, by omega, hb, e0, e1⟩

theorem St.Fit.fill_lo {s : St} {a : Int} {j : Nat} (h : s.Fit a j) : -32768 * (j : Int) ≤ s.fill a := by
  have ht := h.t
  obtain ⟨r0, r1, b0, b1, t0, t1, hf, hl, k0, k1, e0, e1⟩ := h.ok
  unfold St.fill
  split
  · omega
  · rename_i i hi
    obtain ⟨h1, h2⟩ := hl i hi
    have : 0 ≤ (a - i) * s.rate := Int.mul_nonneg (by omega) (by omega)
    omega

theorem fit_takes {s : St} {a : Int} {j : Nat} (h : s.Fit a j) (n : Int) (n0 : 0 ≤ n) (n1 : n ≤ s.burst) (hj : j < 121) : (takes s a n).Fit a (j + 1) := by
  have hb := h.ok.fill_bounds
  have hl := h.fill_lo
  have hw := wait_bounds (n := n) h.ok (by have := h.b; omega)
  have hB := h.b
  obtain ⟨r0, r1, b0, b1, t0, t1, hf, ht, k0, k1, e0, e1⟩ := h.ok
  refine ⟨⟨r0, r1, b0, b1, ?_, ?_, (fun hh => by cases hh), fun i hi => ?_, k0, k1, ?_, ?_⟩, hB, ?_⟩
  · show -4000000 ≤ s.fill a - n * 512; omega
  · show s.fill a - n * 512 ≤ 51200; omega
  · cases hi; exact ⟨k0, Int.le_refl _⟩
  · show 0 ≤ tick a + waitOf s a n; unfold tick M0; omega
  · show tick a + waitOf s a n ≤ _; unfold tick M0; omega
  · show -32768 * ((j + 1 : Nat) : Int) ≤ s.fill a - n * 512; omega

theorem fit_step {s : St} {a : Int} {j : Nat} (h : s.Fit a j) (kd n : Int) (hp : Plain kd n) (hj : j < 121) : (stepSt s kd a n).Fit a (j + 1) := by
  have same : s.Fit a (j + 1) := ⟨h.ok, h.b, by have := h.t; omega⟩
  unfold stepSt
  rcases hp with ⟨e, n0, n1⟩ | ⟨e, n0, n1⟩ | e | ⟨e, n0, n1⟩ | ⟨e, n0, n1⟩ | e
  · subst e
    simp only [if_true]
    split
    · rename_i hn; exact fit_takes h n n0 hn.1 hj
    · exact same
  · subst e
    simp only [show ¬ (1 : Int) = 0 from by decide, if_false, if_true]
    split
    · rename_i hn; exact fit_takes h n n0 hn hj
    · exact same
  · subst e; simpa using same
  · subst e
    simp only [show ¬ (3 : Int) = 0 from by decide, show ¬ (3 : Int) = 1 from by decide, if_false, if_true]
    have hb := h.ok.fill_bounds
    have hl := h.fill_lo
    have hB := h.b
    obtain ⟨r0, r1, b0, b1, t0, t1, hf, ht, k0, k1, e0, e1⟩ := h.ok
    exact ⟨⟨n0, n1, b0, b1, hb.1, hb.2.2, (fun hh => by cases hh), (fun i hi => by cases hi; exact ⟨k0, Int.le_refl _⟩), k0, k1, e0, e1⟩, hB, by show -32768 * ((j + 1 : Nat) : Int) ≤ s.fill a; omega⟩
  · subst e
    simp only [show ¬ (4 : Int) = 0 from by decide, show ¬ (4 : Int) = 1 from by decide, show ¬ (4 : Int) = 3 from by decide, if_false, if_true]
    have hb := h.ok.fill_bounds
    have hl := h.fill_lo
    obtain ⟨r0, r1, b0, b1, t0, t1, hf, ht, k0, k1, e0, e1⟩ := h.ok
    exact ⟨⟨r0, r1, n0, by show n ≤ 100; omega, hb.1, hb.2.2, (fun hh => by cases hh), (fun i hi => by cases hi; exact ⟨k0, Int.le_refl _⟩), k0, k1, e0, e1⟩, n1, by show -32768 * ((j + 1 : Nat) : Int) ≤ s.fill a; omega⟩
  · subst e; simpa using same

/-- A limiter as NewLimiter makes it. -/
def St.new (rate burst : Int) : St := ⟨rate, burst, burst * 512, none, 0⟩

theorem new_cells (rate burst : Int) : (St.new rate burst).cells = lcells (G 0 rate) burst (G 0 burst) 0 0 := by
  unfold St.new St.cells lastNs
  rw [G_512 burst]

theorem new_fit (rate burst a : Int) (r0 : 0 < rate) (r1 : rate ≤ 1000) (b0 : 0 ≤ burst) (b1 : burst ≤ 64) (a0 : 0 ≤ a) (a1 : a ≤ 16777216) : (St.new rate burst).Fit a 0 :=
  ⟨⟨r0, r1, b0, by show burst ≤ 100; omega, by show -4000000 ≤ burst * 512; omega, by show burst * 512 ≤ 51200; omega, fun _ => rfl, (fun j hj => by cases hj), a0, a1, (show (0 : Int) ≤ 0 by decide), (show (0 : Int) ≤ 63000000000000000000 by decide)⟩, b1, by show -32768 * ((0 : Nat) : Int) ≤ burst * 512; omega⟩

/-- The state behind k steps. -/
def stN (s0 : St) (X : Scr) : Nat → St
  | 0 => s0
  | k + 1 => stepSt (stN s0 X k) (X.kd k) (X.at_ k) (X.nm k)

/-- A script of plain steps, its ticks in order. -/
structure PlainScr (X : Scr) (N : Nat) : Prop where
  plain : ∀ k, k < N → Plain (X.kd k) (X.nm k)
  lo : ∀ k, k < N → 0 ≤ X.at_ k
  hi : ∀ k, k < N → X.at_ k ≤ 16777216
  up : ∀ k, k + 1 < N → X.at_ k ≤ X.at_ (k + 1)

theorem fit_stN {s0 : St} {X : Scr} {N : Nat} (hX : PlainScr X N) (hN : N ≤ 121) (h0 : 0 < N → s0.Fit (X.at_ 0) 0) : ∀ k, k < N → (stN s0 X k).Fit (X.at_ k) k := by
  intro k
  induction k with
  | zero => intro hk; exact h0 hk
  | succ k ih =>
    intro hk
    have h1 := fit_step (ih (by omega)) (X.kd k) (X.nm k) (hX.plain k (by omega)) (by omega)
    exact ⟨h1.ok.later (hX.up k hk) (hX.hi _ hk), h1.b, h1.t⟩

/-- impl.Run over a plain script: what it is told is what the limiter in whole numbers tells. -/
theorem Run_plain (sb so N cap : Nat) (rate burst : Int) (X : Scr) (w : World) (A : Option Addr) (hX : PlainScr X N) (hN : N ≤ 121)
    (r0 : 0 < rate) (r1 : rate ≤ 1000) (b0 : 0 ≤ burst) (b1 : burst ≤ 64) (hA : 0 < N → A = some ⟨sb, so, none⟩ ∧ sb < w.heap.size)
    (hsteps : ∀ k, k < N → w.cell? ⟨sb, so + k * 3, none⟩ = some (.int .i64 (X.kd k)) ∧ w.cell? ⟨sb, so + k * 3 + 1, none⟩ = some (.int .i64 (X.at_ k)) ∧ w.cell? ⟨sb, so + k * 3 + 2, none⟩ = some (.int .i64 (X.nm k))) :
    Calls Try.prog 22 #[.int .i64 rate, .int .i64 burst, .slice A N cap] w (RunPost w N (fun k => toldOf (stN (St.new rate burst) X k) (X.kd k) (X.at_ k) (X.nm k))) := by
  have hfit := fit_stN (s0 := St.new rate burst) hX hN (fun h0 => new_fit rate burst _ r0 r1 b0 b1 (hX.lo 0 h0) (hX.hi 0 h0))
  refine Run_any sb so N cap rate burst X (fun k => (stN (St.new rate burst) X k).cells) (fun k => if X.kd k = 1 then some ((resOf (stN (St.new rate burst) X k) (X.at_ k) (X.nm k)).cells w.heap.size) else none) _ w A (by omega) (new_cells rate burst) hA hsteps
    (fun k hk => ⟨hX.lo k hk, by have := hX.hi k hk; omega⟩) (fun k hk => ?_)
  exact item_plain _ X _ _ _ k (stN (St.new rate burst) X k) (hfit k hk).ok (hX.plain k hk) rfl rfl rfl rfl

end Go.Proofs.Ytndkiphlpddbaaa
