/- CancelAt over the limiter in whole numbers: a reservation that is cancelled at its own tick, next to it; impl.Run over such scripts. -/
import Derived.Test.YtndkiphlpddbaaaTr
import Derived.Test.YtndkiphlpddbaaaRtG
import Derived.Test.YtndkiphlpddbaaaCnF
namespace Go.Proofs.Ytndkiphlpddbaaa
open Go.RowKit Go.Deep Flt

/-- What cancelling gives back: n tokens, and nothing beyond the burst. -/
def cancelSt (s : St) (a n : Int) : St :=
  ⟨s.rate, s.burst, min (s.fill a + n * 512) (s.burst * 512), some a, if s.ev - W s.rate (n * 512) < tick a then s.ev else s.ev - W s.rate (n * 512)⟩

theorem tfd_ticks (r m : Int) (w : World) (r0 : 0 < r) (r1 : r ≤ 1000) (m0 : 0 ≤ m) (m1 : m ≤ 16777216) :
    Calls Try.prog 54 #[.float .f64 (G 0 r), .int .i64 (m * 1953125)] w fun e w' => e = .returned (.float .f64 (G (-9) (m * r))) ∧ w = w' :=
  tfd_of (G 0 r) (m * 1953125) _ _ _ w (by omega) (by omega) (rate_pos r r0 r1) (ticks_div m) (ticks_add m (by omega) (by omega)) (ticks_mul m r (by omega) (by omega) r0 r1)

theorem tfd_zero (r : Int) (w : World) (r0 : 0 < r) (r1 : r ≤ 1000) :
    Calls Try.prog 54 #[.float .f64 (G 0 r), .int .i64 0] w fun e w' => e = .returned (.float .f64 (G (-9) 0)) ∧ w = w' := by
  have := tfd_ticks r 0 w r0 r1 (Int.le_refl _) (by omega)
  rwa [Int.zero_mul, Int.zero_mul] at this

theorem dft_neg (r n : Int) (w : World) (r0 : 0 < r) (r1 : r ≤ 1000) (n0 : 0 < n) (n1 : n ≤ 1000) :
    Calls Try.prog 56 #[.float .f64 (G 0 r), .float .f64 (floatOfInt .f64 (-n))] w fun e w' => e = .returned (.int .i64 (-(W r (n * 512)))) ∧ w = w' := by
  obtain ⟨rn, rfl⟩ := Int.eq_ofNat_of_zero_le (Int.le_of_lt r0)
  obtain ⟨nn, rfl⟩ := Int.eq_ofNat_of_zero_le (Int.le_of_lt n0)
  obtain ⟨q, y, e1, e2, e3, e4⟩ := W_neg rn nn (by omega) (by omega) (by omega) (by omega)
  exact dft_of _ _ q y _ w (rate_pos rn r0 r1) e1 e2 e3 e4

theorem gives_some (n : Int) (n0 : 0 < n) (n1 : n ≤ 1000) : (FloatKind.f64.format.order (G (-9) (n * 512)) 0 == some .lt || FloatKind.f64.format.order (G (-9) (n * 512)) 0 == some .eq) = false := by
  have h := order_G (-9) (n * 512) 0 (by omega) (by decide) (by decide) (by decide)
  rw [G_zero] at h
  rw [show FloatKind.f64.format.order (G (-9) (n * 512)) 0 = _ from h, show compare (n * 512) 0 = .gt from Int.compare_eq_gt.2 (by omega)]
  rfl

theorem cancel_now (L R : Nat) (s : St) (a n : Int) (h : s.Ok a) (h' : (takes s a n).Ok a) (n0 : 1 ≤ n) (n1 : n ≤ s.burst) (w : World) (hL : Blk w L 76 (takes s a n).cells) (hR : Blk w R 82 ((resOf s a n).cells L)) (hne : R ≠ L) :
    Calls Try.prog 44 #[.pointer (some ⟨R, 0, none⟩), tv (tick a)] w fun e w' => e = .returned (.tuple #[]) ∧ Blk w' L 76 (cancelSt (takes s a n) a n).cells ∧ w.grownBy w' (some L) := by
  have hb1 := h.b1
  have hr0 := h.r0
  have hr1 := h.r1
  have hk0 := h.k0
  have hk1 := h.k1
  have hw := wait_bounds (n := n) h (by omega)
  have hf := h'.fill_bounds
  have hW := W_bounds s.rate (n * 512) hr0 hr1 (by omega) (by omega)
  have hA := fun w hL => advance_st L (takes s a n) a w hL h'
  unfold resOf Rs.cells at hR
  simp only [if_pos n1] at hR
  generalize hT : tick a + waitOf s a n = T at *
  have hT0 : tick a ≤ T := by omega
  have hT1 : 0 ≤ T ∧ T ≤ 63000000000000000000 := by unfold tick M0 at *; omega
  have hL' : Blk w L 76 (lcells (G 0 s.rate) s.burst (G (-9) (s.fill a - n * 512)) (tick a) T) := by
    unfold takes at hL; rw [hT] at hL; exact hL
  have hA' : ∀ w, Blk w L 76 (lcells (G 0 s.rate) s.burst (G (-9) (s.fill a - n * 512)) (tick a) T) → Calls Try.prog 52 #[.pointer (some ⟨L, 0, none⟩), tv (tick a)] w fun e w' => e = .returned (.float .f64 (G (-9) ((takes s a n).fill a))) ∧ Below w.heap.size w w' :=
    fun w hL2 => hA w (by unfold takes; rw [hT]; exact hL2)
  have hbu : (takes s a n).burst = s.burst := rfl
  rw [hbu] at hf
  have hev : (takes s a n).ev = T := hT
  have hrt : (takes s a n).rate = s.rate := rfl
  unfold cancelSt
  rw [hev, hbu, hrt]
  generalize (takes s a n).fill a = y at *
  have := cancel_own L R (G 0 s.rate) s.burst (G (-9) (s.fill a - n * 512)) (tick a) T n T (G 0 s.rate) (tick a) w hL' hR hne (rate_inf s.rate hr0 hr1) (by omega) hT0 0 (G (-9) 0) (G (-9) (n * 512)) (G (-9) y) (G (-9) (y + n * 512)) (decide (s.burst * 512 < y + n * 512))
    (fun w => by have := sub_any T T w hT1.1 (by omega) (by omega) (by omega); rwa [Int.sub_self] at this)
    (fun w => tfd_zero s.rate w hr0 hr1) hA'
    (by rw [floatOfInt_G, G_512]; have := sub_G (-9) (n * 512) 0 (by omega) (by decide) (by decide) (by decide); rwa [Int.sub_zero] at this)
    (gives_some n (by omega) (by omega))
    (add_G (-9) y (n * 512) (by omega) (by omega) (by decide) (by decide))
    (by rw [floatOfInt_G, G_512]; exact ord_gt _ _ (by omega) (by omega)) rfl (-(W s.rate (n * 512))) (by omega) (by omega)
    (fun w => dft_neg s.rate n w hr0 hr1 (by omega) (by omega))
    (fun w => add_any T _ w (by omega) (by omega) (by omega) (by omega)) (decide (T + -(W s.rate (n * 512)) < tick a)) rfl
  have e1 : cond (decide (s.burst * 512 < y + n * 512)) (floatOfInt .f64 s.burst) (G (-9) (y + n * 512)) = G (-9) (min (y + n * 512) (s.burst * 512)) := by
    by_cases hlt : s.burst * 512 < y + n * 512
    · simp only [hlt, decide_true, cond_true]
      rw [floatOfInt_G, G_512]; congr 1; omega
    · simp only [hlt, decide_false, cond_false]
      congr 1; omega
  have e2 : cond (decide (T + -(W s.rate (n * 512)) < tick a)) T (T + -(W s.rate (n * 512))) = (if T - W s.rate (n * 512) < tick a then T else T - W s.rate (n * 512)) := by
    rw [← Int.sub_eq_add_neg]
    by_cases hlt : T - W s.rate (n * 512) < tick a
    · rw [if_pos hlt, decide_eq_true hlt]; rfl
    · rw [if_neg hlt, decide_eq_false hlt]; rfl
  rw [e1, e2] at this
  exact this

theorem St.Fit.cancel {s : St} {a : Int} {k : Nat} (h : s.Fit a k) (n : Int) (n0 : 0 < n) (n1 : n ≤ 1000) : (cancelSt s a n).Fit a (k + 1) := by
  have hb := h.ok.fill_bounds
  have hl := h.fill_lo
  have hB := h.b
  have hW := W_bounds s.rate (n * 512) h.ok.r0 h.ok.r1 (by omega) (by omega)
  obtain ⟨r0, r1, b0, b1, t0, t1, hf, ht, k0, k1, e0, e1⟩ := h.ok
  refine ⟨⟨r0, r1, b0, b1, ?_, ?_, (fun hh => by cases hh), fun i hi => ?_, k0, k1, ?_, ?_⟩, hB, ?_⟩
  · show -4000000 ≤ min (s.fill a + n * 512) (s.burst * 512); omega
  · show min (s.fill a + n * 512) (s.burst * 512) ≤ 51200; omega
  · cases hi; exact ⟨k0, Int.le_refl _⟩
  · show 0 ≤ (if s.ev - W s.rate (n * 512) < tick a then s.ev else s.ev - W s.rate (n * 512))
    split
    · exact e0
    · have : 0 ≤ tick a := by unfold tick M0; omega
      omega
  · show (if s.ev - W s.rate (n * 512) < tick a then s.ev else s.ev - W s.rate (n * 512)) ≤ 63000000000000000000
    split <;> omega
  · show -32768 * ((k + 1 : Nat) : Int) ≤ min (s.fill a + n * 512) (s.burst * 512); omega

/-- The state behind k steps, with reservations cancelled at once. -/
def stC (s0 : St) (X : Scr) : Nat → St
  | 0 => s0
  | k + 1 => if X.kd k = 5 then (if X.nm (k - 1) ≤ (stC s0 X k).burst then cancelSt (stC s0 X k) (X.at_ k) (X.nm (k - 1)) else stC s0 X k) else stepSt (stC s0 X k) (X.kd k) (X.at_ k) (X.nm k)

/-- The step at k cancels the reservation of the step ahead, at its own tick. -/
def Now (X : Scr) (k : Nat) : Prop := X.kd k = 5 ∧ ∃ j : Nat, k = j + 1 ∧ X.nm k = (j : Int) ∧ X.kd j = 1 ∧ X.at_ j = X.at_ k ∧ 1 ≤ X.nm j ∧ X.nm j ≤ 1000

/-- A script of plain steps and of such cancellings. -/
structure NowScr (X : Scr) (N : Nat) : Prop where
  step : ∀ k, k < N → Plain (X.kd k) (X.nm k) ∨ Now X k
  lo : ∀ k, k < N → 0 ≤ X.at_ k
  hi : ∀ k, k < N → X.at_ k ≤ 16777216
  up : ∀ k, k + 1 < N → X.at_ k ≤ X.at_ (k + 1)

theorem plain_no5 {kd n : Int} (h : Plain kd n) : kd ≠ 5 := by
  rcases h with ⟨e, _⟩ | ⟨e, _⟩ | e | ⟨e, _⟩ | ⟨e, _⟩ | e <;> omega

theorem stC_plain {s0 : St} {X : Scr} {k : Nat} (h : X.kd k ≠ 5) : stC s0 X (k + 1) = stepSt (stC s0 X k) (X.kd k) (X.at_ k) (X.nm k) := by
  show (if X.kd k = 5 then _ else _) = _
  rw [if_neg h]

/-- A reservation and its cancelling: the state between them, and behind both. -/
theorem stC_now {s0 : St} {X : Scr} {j : Nat} (h5 : X.kd (j + 1) = 5) (h1 : X.kd j = 1) :
    stC s0 X (j + 1) = stepSt (stC s0 X j) 1 (X.at_ j) (X.nm j) ∧ stC s0 X (j + 1 + 1) = if X.nm j ≤ (stC s0 X j).burst then cancelSt (takes (stC s0 X j) (X.at_ j) (X.nm j)) (X.at_ (j + 1)) (X.nm j) else stC s0 X j := by
  have e1 : stC s0 X (j + 1) = stepSt (stC s0 X j) 1 (X.at_ j) (X.nm j) := by
    rw [stC_plain (by omega), h1]
  refine ⟨e1, ?_⟩
  show (if X.kd (j + 1) = 5 then (if X.nm (j + 1 - 1) ≤ (stC s0 X (j + 1)).burst then cancelSt (stC s0 X (j + 1)) (X.at_ (j + 1)) (X.nm (j + 1 - 1)) else stC s0 X (j + 1)) else _) = _
  rw [if_pos h5, Nat.add_sub_cancel, e1]
  unfold stepSt
  simp only [show ¬ (1 : Int) = 0 from by decide, if_false, if_true]
  by_cases hc : X.nm j ≤ (stC s0 X j).burst
  · rw [if_pos hc, if_pos (show X.nm j ≤ (takes (stC s0 X j) (X.at_ j) (X.nm j)).burst from hc), if_pos hc]
  · rw [if_neg hc, if_neg hc, if_neg hc]

theorem fit_stC {s0 : St} {X : Scr} {N : Nat} (hX : NowScr X N) (hN : N ≤ 121) (h0 : 0 < N → s0.Fit (X.at_ 0) 0) : ∀ k, k < N → (stC s0 X k).Fit (X.at_ k) k := by
  intro k
  induction k with
  | zero => intro hk; exact h0 hk
  | succ k ih =>
    intro hk
    have hf := ih (by omega)
    have h1 : (stC s0 X (k + 1)).Fit (X.at_ k) (k + 1) := by
      rcases hX.step k (by omega) with h | h
      · rw [stC_plain (plain_no5 h)]
        exact fit_step hf (X.kd k) (X.nm k) h (by omega)
      · obtain ⟨h5, j, rfl, hnm, hk1, hat, n0, n1⟩ := h
        show (if X.kd (j + 1) = 5 then (if X.nm (j + 1 - 1) ≤ (stC s0 X (j + 1)).burst then cancelSt (stC s0 X (j + 1)) (X.at_ (j + 1)) (X.nm (j + 1 - 1)) else stC s0 X (j + 1)) else _).Fit _ _
        rw [if_pos h5, Nat.add_sub_cancel]
        split
        · exact hf.cancel _ (by omega) n1
        · exact ⟨hf.ok, hf.b, by have := hf.t; omega⟩
    exact ⟨h1.ok.later (hX.up k hk) (hX.hi _ hk), h1.b, h1.t⟩

theorem Run_now (sb so N cap : Nat) (rate burst : Int) (X : Scr) (w : World) (A : Option Addr) (hX : NowScr X N) (hN : N ≤ 121)
    (r0 : 0 < rate) (r1 : rate ≤ 1000) (b0 : 0 ≤ burst) (b1 : burst ≤ 64) (hA : 0 < N → A = some ⟨sb, so, none⟩ ∧ sb < w.heap.size)
    (hsteps : ∀ k, k < N → w.cell? ⟨sb, so + k * 3, none⟩ = some (.int .i64 (X.kd k)) ∧ w.cell? ⟨sb, so + k * 3 + 1, none⟩ = some (.int .i64 (X.at_ k)) ∧ w.cell? ⟨sb, so + k * 3 + 2, none⟩ = some (.int .i64 (X.nm k))) :
    Calls Try.prog 22 #[.int .i64 rate, .int .i64 burst, .slice A N cap] w (RunPost w N (fun k => toldOf (stC (St.new rate burst) X k) (X.kd k) (X.at_ k) (X.nm k))) := by
  have hfit := fit_stC (s0 := St.new rate burst) hX hN (fun h0 => new_fit rate burst _ r0 r1 b0 b1 (hX.lo 0 h0) (hX.hi 0 h0))
  refine Run_any sb so N cap rate burst X (fun k => (stC (St.new rate burst) X k).cells) (fun k => if X.kd k = 1 then some ((resOf (stC (St.new rate burst) X k) (X.at_ k) (X.nm k)).cells w.heap.size) else none) _ w A (by omega) (new_cells rate burst) hA hsteps
    (fun k hk => ⟨hX.lo k hk, by have := hX.hi k hk; omega⟩) (fun k hk => ?_)
  rcases hX.step k hk with h | h
  · exact item_plain _ X _ _ _ k (stC (St.new rate burst) X k) (hfit k hk).ok h rfl (by rw [stC_plain (plain_no5 h)]) rfl rfl
  · obtain ⟨h5, j, rfl, hnm, hk1, hat, n0, n1⟩ := h
    have hj := hfit j (by omega)
    have hk' := hfit (j + 1) hk
    obtain ⟨e1, e2⟩ := stC_now (s0 := St.new rate burst) h5 hk1
    refine .inr (.inr (.inr (.inr (.inr (.inl ⟨j, _, h5, hnm, by omega, by simp [h5], by simp only [hk1, if_true]; rfl, by rw [h5]; simp [toldOf], ?_⟩)))))
    intro w' R hRL hL hR
    rw [e2]
    rw [e1] at hL hk'
    rw [← hat]
    unfold stepSt at hL hk'
    simp only [show ¬ (1 : Int) = 0 from by decide, if_false, if_true] at hL hk'
    by_cases hc : X.nm j ≤ (stC (St.new rate burst) X j).burst
    · rw [if_pos hc] at hL hk' ⊢
      rw [← hat] at hk'
      exact cancel_now _ R (stC (St.new rate burst) X j) (X.at_ j) (X.nm j) hj.ok hk'.ok n0 hc w' hL hR hRL
    · rw [if_neg hc] at hL ⊢
      unfold resOf Rs.cells at hR
      simp only [if_neg hc] at hR
      exact (cancel_no _ R 0 0 (G 0 (stC (St.new rate burst) X j).rate) _ w' hR).mono fun e w2 ⟨he, hb⟩ => ⟨he, hL.below hb hL.lt, turn_below (turn_refl w' _) hb⟩

end Go.Proofs.Ytndkiphlpddbaaa
