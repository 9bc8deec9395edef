/- The law FnCancelFair: its plain part: the last event is not ahead of any reservation's time; impl.Run over a script with a question, a cancelling and a question behind it. -/
import Derived.Test.YtndkiphlpddbaaaCnG
import Derived.Test.YtndkiphlpddbaaaLwC
import Derived.Test.YtndkiphlpddbaaaLwL
import Derived.Test.YtndkiphlpddbaaaLwX
namespace Go.Proofs.Ytndkiphlpddbaaa
open Go.RowKit Go.Deep Flt

/-! ### the last event -/
/-- The last event is no later than the time at which there are none missing. -/
def Inv2 (s : St) (a : Int) : Prop := (s.ev - tick a) * s.rate ≤ max 0 (-s.fill a) * 1953125

theorem Inv2.later {s : St} {a b : Int} (h : Inv2 s a) (hr : 0 < s.rate) (hab : a ≤ b) : Inv2 s b := by
  have hf := fill_ge (s := s) (by omega : 0 ≤ s.rate) hab
  unfold Inv2 at *
  have e : (s.ev - tick b) * s.rate = (s.ev - tick a) * s.rate - s.rate * (b - a) * 1953125 := by
    have : tick b = tick a + (b - a) * 1953125 := by unfold tick; omega
    rw [this, show s.ev - (tick a + (b - a) * 1953125) = (s.ev - tick a) - (b - a) * 1953125 by omega, Int.sub_mul, Int.mul_right_comm (b - a), Int.mul_comm (b - a)]
  have m : 0 ≤ s.rate * (b - a) := Int.mul_nonneg (by omega) (by omega)
  rw [e]
  generalize (s.ev - tick a) * s.rate = x at *
  generalize s.rate * (b - a) = y at *
  omega

theorem inv2_takes {s : St} {a n : Int} (h : Inv2 s a) (ho : s.Ok a) (n0 : 1 ≤ n) (n1 : n ≤ s.burst) : Inv2 (takes s a n) a ∧ s.ev ≤ (takes s a n).ev := by
  have hb := ho.fill_bounds
  have hb1 := ho.b1
  have hr0 := ho.r0
  have hf : (takes s a n).fill a = s.fill a - n * 512 := by
    rw [takes_fill, Int.sub_self, Int.zero_mul]; omega
  unfold Inv2 at *
  rw [hf]
  show (tick a + waitOf s a n - tick a) * s.rate ≤ _ ∧ s.ev ≤ tick a + waitOf s a n
  rw [show tick a + waitOf s a n - tick a = waitOf s a n by omega]
  unfold waitOf
  by_cases hw : s.fill a < n * 512
  · rw [if_pos hw]
    obtain ⟨w1, w2, w3, w4⟩ := W_bounds s.rate (n * 512 - s.fill a) ho.r0 ho.r1 (by omega) (by omega)
    generalize W s.rate (n * 512 - s.fill a) = u at *
    refine ⟨by omega, ?_⟩
    apply Int.le_of_not_gt
    intro hgt
    have : (u + 1) * s.rate ≤ (s.ev - tick a) * s.rate := Int.mul_le_mul_of_nonneg_right (by omega) (by omega)
    omega
  · rw [if_neg hw]
    refine ⟨by rw [Int.zero_mul]; omega, ?_⟩
    apply Int.le_of_not_gt
    intro hgt
    have : (1 : Int) * s.rate ≤ (s.ev - tick a) * s.rate := Int.mul_le_mul_of_nonneg_right (by omega) (by omega)
    omega

theorem inv2_step {s : St} {a n kd : Int} (h : Inv2 s a) (ho : s.Ok a) (hk : (kd = 0 ∧ 1 ≤ n) ∨ (kd = 1 ∧ 1 ≤ n) ∨ kd = 2) :
    Inv2 (stepSt s kd a n) a ∧ s.ev ≤ (stepSt s kd a n).ev ∧ (stepSt s kd a n).rate = s.rate ∧ (stepSt s kd a n).burst = s.burst := by
  rcases hk with ⟨rfl, n0⟩ | ⟨rfl, n0⟩ | rfl
  · unfold stepSt
    rw [if_pos rfl]
    split
    · rename_i hc
      have := inv2_takes h ho n0 hc.1
      exact ⟨this.1, this.2, rfl, rfl⟩
    · exact ⟨h, Int.le_refl _, rfl, rfl⟩
  · unfold stepSt
    rw [if_neg (by decide), if_pos rfl]
    split
    · rename_i hc
      have := inv2_takes h ho n0 hc
      exact ⟨this.1, this.2, rfl, rfl⟩
    · exact ⟨h, Int.le_refl _, rfl, rfl⟩
  · rw [show stepSt s 2 a n = s from by simp [stepSt]]
    exact ⟨h, Int.le_refl _, rfl, rfl⟩

theorem kind3 {X : Scr} {k : Nat} (h : GoodStep X k) (hk : X.kd k ≤ 2) : (X.kd k = 0 ∧ 1 ≤ X.nm k) ∨ (X.kd k = 1 ∧ 1 ≤ X.nm k) ∨ X.kd k = 2 := by
  rcases h.kind with ⟨e, h1⟩ | ⟨e, h1⟩ | e | ⟨e, h1⟩ | ⟨e, h1⟩ | ⟨e, h1⟩ | e <;> omega

section
variable {rate burst : Int} {X : Scr} {N : Nat} (h : ∀ k, k < N → GoodStep X k) (hk : ∀ k, k < N → X.kd k ≤ 2) (hN : N ≤ 40) (r0 : 1 ≤ rate) (r1 : rate ≤ 1000) (b0 : 0 ≤ burst) (b1 : burst ≤ 64)

include h hk in
theorem low_steps : Steps X N := ⟨h, fun k hk' => by have := hk k hk'; omega⟩

include h hk hN r0 r1 b0 b1 in
theorem low_fit (k : Nat) (hkN : k < N) : (stN (St.new rate burst) X k).Fit (X.at_ k) k :=
  fit_stN (s0 := St.new rate burst) (low_steps h hk).plain (by omega) (fun h0 => new_fit rate burst _ (by omega) r1 b0 b1 ((low_steps h hk).plain.lo 0 h0) ((low_steps h hk).plain.hi 0 h0)) k hkN

include h hk hN r0 r1 b0 b1 in
theorem inv2_all : ∀ k, k < N → Inv2 (stN (St.new rate burst) X k) (X.at_ k) := by
  intro k
  induction k with
  | zero =>
    intro hkN
    have ha := (h 0 hkN).lo
    show (0 - tick (X.at_ 0)) * rate ≤ _
    have h1 : (0 - tick (X.at_ 0)) * rate ≤ 0 * rate := Int.mul_le_mul_of_nonneg_right (by unfold tick M0; omega) (by omega)
    omega
  | succ k ih =>
    intro hkN
    have hf := low_fit h hk hN r0 r1 b0 b1 k (by omega)
    have hup := (h (k + 1) hkN).up (by omega)
    rw [Nat.add_sub_cancel] at hup
    have := inv2_step (ih (by omega)) hf.ok (kind3 (h k (by omega)) (hk k (by omega)))
    exact this.1.later (by rw [this.2.2.1]; exact hf.ok.r0) hup

include h hk hN r0 r1 b0 b1 in
theorem ev_up (k : Nat) (hkN : k < N) : (stN (St.new rate burst) X k).ev ≤ (stN (St.new rate burst) X (k + 1)).ev ∧ (stN (St.new rate burst) X (k + 1)).rate = (stN (St.new rate burst) X k).rate ∧ (stN (St.new rate burst) X (k + 1)).burst = (stN (St.new rate burst) X k).burst :=
  (inv2_step (inv2_all h hk hN r0 r1 b0 b1 k hkN) (low_fit h hk hN r0 r1 b0 b1 k hkN).ok (kind3 (h k hkN) (hk k hkN))).2

include h hk hN r0 r1 b0 b1 in
theorem ev_mono (i m : Nat) (hm : i + m ≤ N) : (stN (St.new rate burst) X i).ev ≤ (stN (St.new rate burst) X (i + m)).ev ∧ (stN (St.new rate burst) X (i + m)).rate = (stN (St.new rate burst) X i).rate ∧ (stN (St.new rate burst) X (i + m)).burst = (stN (St.new rate burst) X i).burst := by
  induction m with
  | zero => exact ⟨Int.le_refl _, rfl, rfl⟩
  | succ m ih =>
    obtain ⟨a, b, c⟩ := ih (by omega)
    obtain ⟨d, e, f⟩ := ev_up h hk hN r0 r1 b0 b1 (i + m) (by omega)
    exact ⟨Int.le_trans a d, e.trans b, f.trans c⟩

include h hk hN r0 r1 b0 b1 in
/-- A reservation of the script, at its end: its time is not behind the last event. -/
theorem res_all (j : Nat) (hj : j < N) (hj1 : X.kd j = 1) :
    resOf (stN (St.new rate burst) X j) (X.at_ j) (X.nm j) = ⟨false, 0, 0, (stN (St.new rate burst) X N).rate⟩ ∨ ((resOf (stN (St.new rate burst) X j) (X.at_ j) (X.nm j)).ok = true ∧ (resOf (stN (St.new rate burst) X j) (X.at_ j) (X.nm j)).n = X.nm j ∧
      (resOf (stN (St.new rate burst) X j) (X.at_ j) (X.nm j)).rate = (stN (St.new rate burst) X N).rate ∧ (resOf (stN (St.new rate burst) X j) (X.at_ j) (X.nm j)).T ≤ (stN (St.new rate burst) X N).ev) := by
  have hm := ev_mono h hk hN r0 r1 b0 b1 (j + 1) (N - (j + 1)) (by omega)
  rw [show j + 1 + (N - (j + 1)) = N by omega] at hm
  obtain ⟨-, e2, -⟩ := ev_up h hk hN r0 r1 b0 b1 j hj
  have e1 : stN (St.new rate burst) X (j + 1) = stepSt (stN (St.new rate burst) X j) 1 (X.at_ j) (X.nm j) := by
    show stepSt (stN (St.new rate burst) X j) (X.kd j) (X.at_ j) (X.nm j) = _; rw [hj1]
  unfold resOf
  by_cases hc : X.nm j ≤ (stN (St.new rate burst) X j).burst
  · right
    rw [if_pos hc]
    refine ⟨rfl, rfl, by rw [hm.2.1, e2], ?_⟩
    have : (stN (St.new rate burst) X (j + 1)).ev = tick (X.at_ j) + waitOf (stN (St.new rate burst) X j) (X.at_ j) (X.nm j) := by
      rw [e1]; unfold stepSt; rw [if_neg (by decide), if_pos rfl, if_pos hc]; rfl
    rw [← this]
    exact hm.1
  · left
    rw [if_neg hc, hm.2.1, e2]
end

/-! ### the script -/
/-- A question, a cancelling and a question behind a script. -/
def Scr.fair (X : Scr) (N : Nat) (b j : Int) : Scr := ((X.snoc N 2 b 0).snoc (N + 1) 5 b j).snoc (N + 2) 2 b 0

theorem fair_cells (X : Scr) (N : Nat) (b j : Int) : scrL (X.fair N b j) (N + 3) = scrL X N ++ [.int .i64 2, .int .i64 b, .int .i64 0, .int .i64 5, .int .i64 b, .int .i64 j, .int .i64 2, .int .i64 b, .int .i64 0] := by
  unfold Scr.fair
  rw [show N + 3 = N + 2 + 1 by omega, snoc_cells, show N + 2 = N + 1 + 1 by omega, snoc_cells, snoc_cells, List.append_assoc, List.append_assoc]
  rfl

theorem fair_lo (X : Scr) (N : Nat) (b j : Int) (k : Nat) (h : k < N) : (X.fair N b j).kd k = X.kd k ∧ (X.fair N b j).at_ k = X.at_ k ∧ (X.fair N b j).nm k = X.nm k := by
  unfold Scr.fair
  obtain ⟨a1, a2, a3⟩ := snoc_lo ((X.snoc N 2 b 0).snoc (N + 1) 5 b j) (N + 2) 2 b 0 k (by omega)
  obtain ⟨b1, b2, b3⟩ := snoc_lo (X.snoc N 2 b 0) (N + 1) 5 b j k (by omega)
  obtain ⟨c1, c2, c3⟩ := snoc_lo X N 2 b 0 k h
  rw [a1, a2, a3, b1, b2, b3, c1, c2, c3]
  exact ⟨rfl, rfl, rfl⟩

theorem fair_0 (X : Scr) (N : Nat) (b j : Int) : (X.fair N b j).kd N = 2 ∧ (X.fair N b j).at_ N = b ∧ (X.fair N b j).nm N = 0 := by
  unfold Scr.fair
  obtain ⟨a1, a2, a3⟩ := snoc_lo ((X.snoc N 2 b 0).snoc (N + 1) 5 b j) (N + 2) 2 b 0 N (by omega)
  obtain ⟨b1, b2, b3⟩ := snoc_lo (X.snoc N 2 b 0) (N + 1) 5 b j N (by omega)
  rw [a1, a2, a3, b1, b2, b3]
  exact snoc_hi X N 2 b 0

theorem fair_1 (X : Scr) (N : Nat) (b j : Int) : (X.fair N b j).kd (N + 1) = 5 ∧ (X.fair N b j).at_ (N + 1) = b ∧ (X.fair N b j).nm (N + 1) = j := by
  unfold Scr.fair
  obtain ⟨a1, a2, a3⟩ := snoc_lo ((X.snoc N 2 b 0).snoc (N + 1) 5 b j) (N + 2) 2 b 0 (N + 1) (by omega)
  rw [a1, a2, a3]
  exact snoc_hi (X.snoc N 2 b 0) (N + 1) 5 b j

theorem fair_2 (X : Scr) (N : Nat) (b j : Int) : (X.fair N b j).kd (N + 2) = 2 ∧ (X.fair N b j).at_ (N + 2) = b ∧ (X.fair N b j).nm (N + 2) = 0 := by
  unfold Scr.fair
  exact snoc_hi ((X.snoc N 2 b 0).snoc (N + 1) 5 b j) (N + 2) 2 b 0

/-- What the run is told, at its last questions. -/
def FairTold (T : Nat → Tl) (N : Nat) (burst n : Int) : Prop :=
  ∃ (A : Int) (t : Nat), (T N).tok = G (-9) A ∧ (T (N + 2)).tok = t ∧ -4000000 ≤ A ∧ A ≤ burst * 512 ∧ Between t A (burst * 512) (A + n * 512)

theorem Run_fair (sb so M cap j : Nat) (rate burst b : Int) (X : Scr) (w : World) (A : Option Addr) (h : ∀ k, k < M + 1 → GoodStep X k) (hk : ∀ k, k < M + 1 → X.kd k ≤ 2) (hN : M + 1 ≤ 40) (r0 : 1 ≤ rate) (r1 : rate ≤ 1000) (b0 : 0 ≤ burst) (b1 : burst ≤ 64)
    (hj : j < M + 1) (hj1 : X.kd j = 1) (hb0 : X.at_ M ≤ b) (hb1 : b ≤ 16777216) (hA : A = some ⟨sb, so, none⟩ ∧ sb < w.heap.size) (hsteps : Lies w (X.fair (M + 1) b j) sb so (M + 1 + 3)) :
    ∃ T, FairTold T (M + 1) burst (X.nm j) ∧ Calls Try.prog 22 #[.int .i64 rate, .int .i64 burst, .slice A ((M + 1 + 3 : Nat) : Nat) cap] w (RunPost w (M + 1 + 3) T) := by
  have hst := low_steps h hk
  have hpl := hst.plain
  have hfit := low_fit h hk hN r0 r1 b0 b1
  have hM := hfit M (by omega)
  have hstep := fit_step hM (X.kd M) (X.nm M) (hpl.plain M (by omega)) (by omega)
  have hs : (stN (St.new rate burst) X (M + 1)).Fit b (M + 1) := ⟨hstep.ok.later hb0 hb1, hstep.b, hstep.t⟩
  have hbu : (stN (St.new rate burst) X (M + 1)).burst = burst := by
    have := (ev_mono h hk hN r0 r1 b0 b1 0 (M + 1) (by omega)).2.2
    rwa [Nat.zero_add] at this
  have hr := res_all h hk hN r0 r1 b0 b1 j hj hj1
  have hn1 := (h j hj).n1
  have hn0 : 1 ≤ X.nm j := by have := kind3 (h j hj) (hk j hj); omega
  obtain ⟨Cc, t, hfair⟩ := fair_any w.heap.size (stN (St.new rate burst) X (M + 1)) (resOf (stN (St.new rate burst) X j) (X.at_ j) (X.nm j)) b (X.nm j) hs.ok hr (by omega) hn1
  have hfb := hs.ok.fill_bounds
  have hbet := hfair.between
  rw [hbu] at hfb hbet
  refine ⟨fun k => if k < M + 1 then toldOf (stN (St.new rate burst) X k) (X.kd k) (X.at_ k) (X.nm k) else if k = M + 1 then ⟨false, 0, G (-9) ((stN (St.new rate burst) X (M + 1)).fill b)⟩ else if k = M + 2 then Tl.none else ⟨false, 0, t⟩,
    ⟨(stN (St.new rate burst) X (M + 1)).fill b, t, by dsimp only; rw [if_neg (by omega), if_pos rfl], by dsimp only; rw [if_neg (by omega), if_neg (by omega), if_neg (by omega)], hfb.1, hfb.2.1, hbet⟩, ?_⟩
  obtain ⟨p0, p1, p2⟩ := fair_0 X (M + 1) b j
  obtain ⟨q0, q1, q2⟩ := fair_1 X (M + 1) b j
  obtain ⟨u0, u1, u2⟩ := fair_2 X (M + 1) b j
  have cases4 : ∀ k, k < M + 1 + 3 → k < M + 1 ∨ k = M + 1 ∨ k = M + 1 + 1 ∨ k = M + 1 + 2 := by intro k hk; omega
  have ha0 := hs.ok.k0
  refine Run_any sb so (M + 1 + 3) cap rate burst (X.fair (M + 1) b j) (fun k => if k ≤ M + 1 then (stN (St.new rate burst) X k).cells else if k = M + 2 then (stN (St.new rate burst) X (M + 1)).cells else Cc)
    (fun k => if (X.fair (M + 1) b j).kd k = 1 then some ((resOf (stN (St.new rate burst) X k) (X.at_ k) (X.nm k)).cells w.heap.size) else none) _ w A (by omega) (new_cells rate burst) (fun _ => hA) hsteps (fun k hk' => ?_) (fun k hk' => ?_)
  · rcases cases4 k hk' with h1 | rfl | rfl | rfl
    · rw [(fair_lo X (M + 1) b j k h1).2.1]
      exact ⟨hpl.lo k h1, by have := hpl.hi k h1; omega⟩
    · rw [p1]; omega
    · rw [q1]; omega
    · rw [u1]; omega
  · rcases cases4 k hk' with h1 | rfl | rfl | rfl
    · obtain ⟨f0, f1, f2⟩ := fair_lo X (M + 1) b j k h1
      refine item_plain _ (X.fair (M + 1) b j) _ _ _ k (stN (St.new rate burst) X k) ?_ ?_ ?_ ?_ ?_ ?_
      · rw [f1]; exact (hfit k h1).ok
      · rw [f0, f2]; exact hpl.plain k h1
      · rw [if_pos (by omega)]
      · rw [if_pos (by omega), f0, f1, f2]; rfl
      · rw [if_pos h1, f0, f1, f2]
      · rw [f0, f1, f2]
    · refine .inr (.inr (.inl ⟨p0, by rw [p0]; rfl, ?_, ?_, fun w' hL => ?_⟩))
      · rw [if_neg (by omega), if_pos rfl]; exact ⟨rfl, rfl⟩
      · rw [if_neg (by omega), if_pos (by omega), if_pos (by omega)]
      · rw [if_pos (by omega)] at hL
        rw [p1, if_neg (by omega), if_pos rfl]
        exact tokens_any _ _ b w' hL hs.ok
    · refine .inr (.inr (.inr (.inr (.inr (.inl ⟨j, (resOf (stN (St.new rate burst) X j) (X.at_ j) (X.nm j)).cells w.heap.size, q0, q2, by omega, by rw [q0]; rfl, ?_, ?_, fun w' R hRL hL hR => ?_⟩)))))
      · rw [(fair_lo X (M + 1) b j j hj).1, hj1, if_pos rfl]
      · rw [if_neg (by omega), if_neg (by omega), if_pos (by omega)]
      · rw [if_neg (by omega), if_pos (by omega)] at hL
        rw [q1, if_neg (by omega), if_neg (by omega)]
        exact hfair.cancel w' R hRL hL hR
    · refine .inr (.inr (.inl ⟨u0, by rw [u0]; rfl, ?_, ?_, fun w' hL => ?_⟩))
      · rw [if_neg (by omega), if_neg (by omega), if_neg (by omega)]; exact ⟨rfl, rfl⟩
      · rw [if_neg (by omega), if_neg (by omega), if_neg (by omega), if_neg (by omega)]
      · rw [if_neg (by omega), if_neg (by omega)] at hL
        rw [u1, if_neg (by omega), if_neg (by omega), if_neg (by omega)]
        exact hfair.tokens w' hL

/-! ### the appends, and the comparisons -/
theorem nine_new (w : World) (a b c d e f g h i : Value) (t : TypeId) : ∀ j u, [a, b, c, d, e, f, g, h, i][j]? = some u → (w.alloc (.cells #[a, b, c, d, e, f, g, h, i] t)).cell? ((⟨w.heap.size, 0, none⟩ : Addr).add j) = some u := by
  intro j u hu
  rw [Addr.add_lit, Nat.zero_add, cell_of_row _ _ j #[a, b, c, d, e, f, g, h, i] t (0, 0) (heap_alloc_new w _)]
  simpa using hu

/-- The appends that put the three steps behind a script. -/
def FairRuns (w1 : World) (N cap : Nat) (b j : Int) (X : Scr) (A : Option Addr) (v1 : Value) (w2 : World) (g c : Nat) (w3 : World) : Prop :=
  (Builtin.append_ #[27, 27] 27 #[.slice (some ⟨w1.heap.size, 0, none⟩) 0 0, .slice A N cap]).run Try.prog (w1.alloc (.cells #[] 26)) = .ok v1 w2 ∧
  (Builtin.append_ #[27, 27] 27 #[v1, .slice (some ⟨w2.heap.size, 0, none⟩) 3 3]).run Try.prog (w2.alloc (.cells #[.int .i64 2, .int .i64 b, .int .i64 0, .int .i64 5, .int .i64 b, .int .i64 j, .int .i64 2, .int .i64 b, .int .i64 0] 26)) = .ok (.slice (some ⟨g, 0, none⟩) (N + 3) c) w3 ∧
  g < w3.heap.size ∧ Lies w3 (X.fair N b j) g 0 (N + 3) ∧ Below w1.heap.size w1 w3

theorem fair_runs (w1 : World) (sb so N cap : Nat) (b j : Int) (X : Scr) (A : Option Addr) (hN : N ≤ 100) (hA : 0 < N → A = some ⟨sb, so, none⟩ ∧ sb < w1.heap.size) (hn : A = none → N = 0 ∧ cap = 0) (hX : Lies w1 X sb so N) :
    ∃ v1 w2 g c w3, FairRuns w1 N cap b j X A v1 w2 g c w3 := by
  obtain ⟨i0, hi, hz0, hz1, hz2⟩ := info_parts info26
  have hb0 : Below w1.heap.size w1 (w1.alloc (.cells #[] 26)) := (Below.refl _ _).alloc (Nat.le_refl _) _
  obtain ⟨v1, w2, h1, hown1, hgr1, hv1⟩ := app_steps w1.heap.size sb so N cap 0 X A (.slice (some ⟨w1.heap.size, 0, none⟩) 0 0) [] (w1.alloc (.cells #[] 26)) (fun h => ⟨(hA h).1, by have := (hA h).2; simp; omega⟩) hn
    (lies_later hX hb0 (fun h => (hA h).2)) (World.ownsRow_made w1 #[] 0 (Nat.le_refl _) (by unfold maxLen; omega) rfl) (by omega) (by simp) (by simp)
  rw [Nat.zero_add, List.nil_append] at hown1
  have hb2 : Below w1.heap.size w1 w2 := hb0.grown hgr1 (by simp) (fun j hj => by simp [Value.ownBlock] at hj; omega)
  have hs2 := hb2.size
  obtain ⟨v2, w3, h2, hown2, hgr2, hv2⟩ := run_append_own (P := Try.prog) (w2.alloc (.cells #[.int .i64 2, .int .i64 b, .int .i64 0, .int .i64 5, .int .i64 b, .int .i64 j, .int .i64 2, .int .i64 b, .int .i64 0] 26)) w1.heap.size 27 27 26 i0 (.agg #[.int .i64 0, .int .i64 0, .int .i64 0]) 3 24 Try.underlying27 hi hz0 hz1 hz2 rfl (by decide) v1 N (scrL X N) (hown1.alloc _)
    ⟨w2.heap.size, 0, none⟩ 3 3 [.int .i64 2, .int .i64 b, .int .i64 0, .int .i64 5, .int .i64 b, .int .i64 j, .int .i64 2, .int .i64 b, .int .i64 0] rfl (nine_new w2 _ _ _ _ _ _ _ _ _ 26) (by intro u hu; simp only [List.mem_cons, List.not_mem_nil, or_false] at hu; rcases hu with rfl | rfl | rfl | rfl | rfl | rfl | rfl | rfl | rfl <;> rfl) (by unfold maxLen; omega) (by omega) (by simp; omega)
  have hb3 : Below w1.heap.size w1 w3 := (hb2.alloc hs2 _).grown hgr2 (by simp; omega) (fun j hj => (hown1.lt j hj).1)
  have hnn2 : v2 ≠ .slice none 0 0 := fun hh => absurd (hv2.1 hh).2 (by decide)
  have hown3 : w3.ownsRow w1.heap.size 26 3 v2 (N + 3) (scrL (X.fair N b j) (N + 3)) := by rw [fair_cells]; exact hown2
  obtain ⟨g, c, rfl⟩ : ∃ g c, v2 = .slice (some ⟨g, 0, none⟩) (N + 3) c := by
    rcases hown3.2 with ⟨h, _⟩ | ⟨g, c, _, h, _⟩
    · exact absurd h hnn2
    · exact ⟨g, c, h⟩
  exact ⟨v1, w2, g, c, w3, h1, h2, (hown3.lt g rfl).2, lies_own hown3, hb3⟩

theorem or_low {o : Option Ordering} (h : ∃ x, o = some x) (hg : (o == some Ordering.gt) = false) : (o == some Ordering.lt || o == some Ordering.eq) = true := by
  obtain ⟨x, rfl⟩ := h
  cases x
  · rfl
  · rfl
  · exact absurd hg (by decide)

theorem or_high {o : Option Ordering} (h : ∃ x, o = some x) (hg : (o == some Ordering.lt) = false) : (o == some Ordering.gt || o == some Ordering.eq) = true := by
  obtain ⟨x, rfl⟩ := h
  cases x
  · exact absurd hg (by decide)
  · rfl
  · rfl

/-- All that the law compares. -/
theorem fair_cmp {t : Nat} {A burst n : Int} (h : Between t A (burst * 512) (A + n * 512)) (a0 : -4000000 ≤ A) (a1 : A ≤ burst * 512) (b1 : burst ≤ 64) (b0 : 0 ≤ burst) (n0 : 0 ≤ n) (n1 : n ≤ 100) :
    (FloatKind.f64.format.order (G (-9) A) (floatOfInt .f64 burst) == some Ordering.lt || FloatKind.f64.format.order (G (-9) A) (floatOfInt .f64 burst) == some Ordering.eq) = true ∧
    (FloatKind.f64.format.order t (G (-9) A) == some Ordering.gt || FloatKind.f64.format.order t (G (-9) A) == some Ordering.eq) = true ∧
    (FloatKind.f64.format.order t (floatOfInt .f64 burst) == some Ordering.lt || FloatKind.f64.format.order t (floatOfInt .f64 burst) == some Ordering.eq) = true ∧
    (FloatKind.f64.format.order t (G (-9) (A + n * 512)) == some Ordering.lt || FloatKind.f64.format.order t (G (-9) (A + n * 512)) == some Ordering.eq) = true ∧
    ∀ ty w, (binOp .add ty (.float .f64 (G (-9) A)) (.float .f64 (floatOfInt .f64 n))).run Try.prog w = .ok (.float .f64 (G (-9) (A + n * 512))) w := by
  obtain ⟨c1, c2, c3, o1, o2, o3⟩ := between_cmp h (by omega) (by omega) (by omega)
  refine ⟨?_, or_high o1 c1, ?_, or_low o3 c3, fun ty w => run_float_arith w .add ty .f64 _ _ _ ?_⟩
  · rw [floatOfInt_G, G_512]
    have := order_G (-9) A (burst * 512) (by omega) (by omega) (by decide) (by decide)
    refine or_low ⟨_, this⟩ ?_
    rw [show FloatKind.f64.format.order (G (-9) A) (G (-9) (burst * 512)) = _ from this]
    have : compare A (burst * 512) ≠ Ordering.gt := by rw [Ne, Int.compare_eq_gt]; omega
    simpa using this
  · rw [floatOfInt_G, G_512]
    exact or_low o2 c2
  · rw [floatOfInt_G, G_512]
    exact add_G (-9) A (n * 512) (by omega) (by omega) (by decide) (by decide)

end Go.Proofs.Ytndkiphlpddbaaa
