/- The law FnLater: its plain part: the delay of an elder reservation. -/
import Derived.Test.YtndkiphlpddbaaaLwM
namespace Go.Proofs.Ytndkiphlpddbaaa
open Go.RowKit Go.Deep Flt

/-- What is told of a reservation at a later time. -/
def laterOf (s : St) (a n b : Int) : Tl := if n ≤ s.burst then ⟨true, max 0 (tick a + waitOf s a n - tick b), 0⟩ else ⟨false, 9223372036854775807, 0⟩

theorem later_item (L : Nat) (X : Scr) (C : Nat → Array Value) (H : Nat → Option (Array Value)) (T : Nat → Tl) (k j : Nat) (s : St) (h : s.Ok (X.at_ j)) (n1 : X.nm j ≤ 1000) (e6 : X.kd k = 6) (hn : X.nm k = (j : Int)) (hj : j < k)
    (hC : C (k + 1) = C k) (hT : T k = laterOf s (X.at_ j) (X.nm j) (X.at_ k)) (hk : H k = none) (hH : H j = some ((resOf s (X.at_ j) (X.nm j)).cells L)) (b0 : 0 ≤ X.at_ k) (b1 : X.at_ k ≤ 16777216) : Item L X C H T k := by
  have hw := wait_bounds h n1
  have a0 := h.k0
  have a1 := h.k1
  refine .inr (.inr (.inr (.inr (.inr (.inr (.inl ⟨j, _, e6, hn, hj, hk, hH, ?_, hC, fun w R hR => ?_, fun w R hR => ?_⟩))))))
  · rw [hT]; unfold laterOf; split <;> rfl
  · have := ok_any L R (resOf s (X.at_ j) (X.nm j)).ok (resOf s (X.at_ j) (X.nm j)).n (resOf s (X.at_ j) (X.nm j)).T (G 0 (resOf s (X.at_ j) (X.nm j)).rate) w hR
    rw [show (T k).ok = (resOf s (X.at_ j) (X.nm j)).ok from by rw [hT]; unfold laterOf resOf; split <;> rfl]
    exact this
  · rw [hT]
    unfold laterOf
    unfold resOf Rs.cells at hR
    by_cases hc : X.nm j ≤ s.burst
    · simp only [if_pos hc] at hR ⊢
      have hs := fun w => sub_any (tick (X.at_ j) + waitOf s (X.at_ j) (X.nm j)) (tick (X.at_ k)) w (by unfold tick M0; omega) (by unfold tick M0; omega) (by unfold tick; omega) (by unfold tick; omega)
      exact delay_yes L R (X.nm j) (tick (X.at_ j) + waitOf s (X.at_ j) (X.nm j)) (G 0 s.rate) (tick (X.at_ k)) w hR _ hs
    · simp only [if_neg hc] at hR ⊢
      exact delay_no L R 0 0 (G 0 s.rate) (tick (X.at_ k)) w hR

theorem Run_later (sb so N cap j : Nat) (rate burst : Int) (Y : Scr) (w : World) (A : Option Addr) (hj : j < N) (hp : ∀ k, k < N → Plain (Y.kd k) (Y.nm k)) (hkj : Y.kd j = 1) (n1 : Y.nm j ≤ 1000) (h6 : Y.kd N = 6) (hn : Y.nm N = (j : Int))
    (lo : ∀ k, k < N + 1 → 0 ≤ Y.at_ k) (hi : ∀ k, k < N + 1 → Y.at_ k ≤ 16777216) (up : ∀ k, k < N → Y.at_ k ≤ Y.at_ (k + 1)) (hN : N + 1 ≤ 121)
    (r0 : 0 < rate) (r1 : rate ≤ 1000) (b0 : 0 ≤ burst) (b1 : burst ≤ 64) (hA : 0 < N + 1 → A = some ⟨sb, so, none⟩ ∧ sb < w.heap.size) (hsteps : Lies w Y sb so (N + 1)) :
    Calls Try.prog 22 #[.int .i64 rate, .int .i64 burst, .slice A ((N + 1 : Nat) : Nat) cap] w (RunPost w (N + 1) (fun k => if k < N then toldOf (stN (St.new rate burst) Y k) (Y.kd k) (Y.at_ k) (Y.nm k) else laterOf (stN (St.new rate burst) Y j) (Y.at_ j) (Y.nm j) (Y.at_ N))) := by
  have hfit : ∀ k, k < N + 1 → (stN (St.new rate burst) Y k).Fit (Y.at_ k) k := by
    intro k
    induction k with
    | zero => intro hk; exact new_fit rate burst _ r0 r1 b0 b1 (lo 0 hk) (hi 0 hk)
    | succ k ih =>
      intro hk
      have h1 := fit_step (ih (by omega)) (Y.kd k) (Y.nm k) (hp k (by omega)) (by omega)
      exact ⟨h1.ok.later (up k (by omega)) (hi _ hk), h1.b, h1.t⟩
  refine Run_any sb so (N + 1) cap rate burst Y (fun k => (stN (St.new rate burst) Y k).cells) (fun k => if Y.kd k = 1 then some ((resOf (stN (St.new rate burst) Y k) (Y.at_ k) (Y.nm k)).cells w.heap.size) else none) _ w A (by omega) (new_cells rate burst) hA hsteps
    (fun k hk => ⟨lo k hk, by have := hi k hk; omega⟩) (fun k hk => ?_)
  by_cases hkN : k < N
  · exact item_plain _ Y _ _ _ k (stN (St.new rate burst) Y k) (hfit k hk).ok (hp k hkN) rfl rfl (by simp only [hkN, if_true]) rfl
  · have : k = N := by omega
    subst this
    refine later_item _ Y _ _ _ k j (stN (St.new rate burst) Y j) (hfit j (by omega)).ok n1 h6 hn hj ?_ (by simp) (by simp [h6]) (by simp only [hkj, if_true]) (lo k hk) (hi k hk)
    show (stepSt (stN (St.new rate burst) Y k) (Y.kd k) (Y.at_ k) (Y.nm k)).cells = _
    rw [h6]; simp [stepSt]

/-- The appends that put one step more behind a script. -/
def SnocRuns (w1 : World) (N cap : Nat) (kd a n : Int) (X : Scr) (A : Option Addr) (v1 : Value) (w2 : World) (g c : Nat) (w3 : World) : Prop :=
  (Builtin.append_ #[27, 27] 27 #[.slice (some ⟨w1.heap.size, 0, none⟩) 0 0, .slice A N cap]).run Try.prog (w1.alloc (.cells #[] 26)) = .ok v1 w2 ∧
  (Builtin.append_ #[27, 27] 27 #[v1, .slice (some ⟨w2.heap.size, 0, none⟩) 1 1]).run Try.prog (w2.alloc (.cells #[.int .i64 kd, .int .i64 a, .int .i64 n] 26)) = .ok (.slice (some ⟨g, 0, none⟩) (N + 1) c) w3 ∧
  g < w3.heap.size ∧ Lies w3 (X.snoc N kd a n) g 0 (N + 1) ∧ Below w1.heap.size w1 w3

theorem snoc_runs (w1 : World) (sb so N cap : Nat) (kd a n : Int) (X : Scr) (A : Option Addr) (hN : N ≤ 100) (hA : 0 < N → A = some ⟨sb, so, none⟩ ∧ sb < w1.heap.size) (hn : A = none → N = 0 ∧ cap = 0) (hX : Lies w1 X sb so N) :
    ∃ v1 w2 g c w3, SnocRuns w1 N cap kd a n X A v1 w2 g c w3 := by
  obtain ⟨i0, hi, hz0, hz1, hz2⟩ := info_parts info26
  have hb0 : Below w1.heap.size w1 (w1.alloc (.cells #[] 26)) := (Below.refl _ _).alloc (Nat.le_refl _) _
  obtain ⟨v1, w2, h1, hown1, hgr1, hv1⟩ := app_steps w1.heap.size sb so N cap 0 X A (.slice (some ⟨w1.heap.size, 0, none⟩) 0 0) [] (w1.alloc (.cells #[] 26)) (fun h => ⟨(hA h).1, by have := (hA h).2; simp; omega⟩) hn
    (lies_later hX hb0 (fun h => (hA h).2)) (World.ownsRow_made w1 #[] 0 (Nat.le_refl _) (by unfold maxLen; omega) rfl) (by omega) (by simp) (by simp)
  rw [Nat.zero_add, List.nil_append] at hown1
  have hb2 : Below w1.heap.size w1 w2 := hb0.grown hgr1 (by simp) (fun j hj => by simp [Value.ownBlock] at hj; omega)
  have hs2 := hb2.size
  obtain ⟨v2, w3, h2, hown2, hgr2, hv2⟩ := run_append_own (P := Try.prog) (w2.alloc (.cells #[.int .i64 kd, .int .i64 a, .int .i64 n] 26)) w1.heap.size 27 27 26 i0 (.agg #[.int .i64 0, .int .i64 0, .int .i64 0]) 3 24 Try.underlying27 hi hz0 hz1 hz2 rfl (by decide) v1 N (scrL X N) (hown1.alloc _)
    ⟨w2.heap.size, 0, none⟩ 1 1 [.int .i64 kd, .int .i64 a, .int .i64 n] rfl (cell_three_new w2 _ _ _ 26) (by intro u hu; simp only [List.mem_cons, List.not_mem_nil, or_false] at hu; rcases hu with rfl | rfl | rfl <;> rfl) (by unfold maxLen; omega) (by omega) (by simp; omega)
  have hb3 : Below w1.heap.size w1 w3 := (hb2.alloc hs2 _).grown hgr2 (by simp; omega) (fun j hj => (hown1.lt j hj).1)
  have hnn2 : v2 ≠ .slice none 0 0 := fun hh => absurd (hv2.1 hh).2 (by decide)
  have hown3 : w3.ownsRow w1.heap.size 26 3 v2 (N + 1) (scrL (X.snoc N kd a n) (N + 1)) := by rw [snoc_cells]; exact hown2
  obtain ⟨g, c, rfl⟩ : ∃ g c, v2 = .slice (some ⟨g, 0, none⟩) (N + 1) c := by
    rcases hown3.2 with ⟨h, _⟩ | ⟨g, c, _, h, _⟩
    · exact absurd h hnn2
    · exact ⟨g, c, h⟩
  exact ⟨v1, w2, g, c, w3, h1, h2, (hown3.lt g rfl).2, lies_own hown3, hb3⟩

theorem snoc_lo (X : Scr) (N : Nat) (kd a n : Int) (k : Nat) (h : k < N) : (X.snoc N kd a n).kd k = X.kd k ∧ (X.snoc N kd a n).at_ k = X.at_ k ∧ (X.snoc N kd a n).nm k = X.nm k := by
  unfold Scr.snoc; simp [h]

theorem snoc_hi (X : Scr) (N : Nat) (kd a n : Int) : (X.snoc N kd a n).kd N = kd ∧ (X.snoc N kd a n).at_ N = a ∧ (X.snoc N kd a n).nm N = n := by
  unfold Scr.snoc; simp

theorem snoc_st (s0 : St) (X : Scr) (N : Nat) (kd a n : Int) (k : Nat) (hk : k ≤ N) : stN s0 (X.snoc N kd a n) k = stN s0 X k := by
  induction k with
  | zero => rfl
  | succ k ih =>
    obtain ⟨p, q, r⟩ := snoc_lo X N kd a n k (by omega)
    show stepSt (stN s0 (X.snoc N kd a n) k) _ _ _ = stepSt (stN s0 X k) _ _ _
    rw [ih (by omega), p, q, r]

/-- What FnLater's run is told, at the two places. -/
structure Later2 (T : Nat → Tl) (j N : Nat) (d : Int) : Prop where
  two : (∃ x : Int, 0 ≤ x ∧ x ≤ 16384000000000 ∧ T j = ⟨true, x, 0⟩ ∧ T N = ⟨true, max 0 (x - d * 1953125), 0⟩) ∨ (T j = ⟨false, 9223372036854775807, 0⟩ ∧ T N = ⟨false, 9223372036854775807, 0⟩)

theorem later_two {rate burst : Int} {X : Scr} {N : Nat} (h : Steps X N) (ho : OnlyP X N 1 1) (r0 : 0 < rate) (r1 : rate ≤ 1000) (b0 : 0 ≤ burst) (b1 : burst ≤ 64) (hN : N ≤ 40) (j : Nat) (hj : j < N) (b : Int) :
    Later2 (fun k => if k < N then toldOf (stN (St.new rate burst) (X.snoc N 6 b j) k) ((X.snoc N 6 b j).kd k) ((X.snoc N 6 b j).at_ k) ((X.snoc N 6 b j).nm k) else laterOf (stN (St.new rate burst) (X.snoc N 6 b j) j) ((X.snoc N 6 b j).at_ j) ((X.snoc N 6 b j).nm j) ((X.snoc N 6 b j).at_ N)) j N (b - X.at_ j) := by
  have hfit := fit_stN (s0 := St.new rate burst) h.plain (by omega) (fun h0 => new_fit rate burst _ r0 r1 b0 b1 (h.plain.lo 0 h0) (h.plain.hi 0 h0)) j hj
  have hw := wait_bounds (n := X.nm j) hfit.ok (by have := (h.step j hj).n1; omega)
  have hk1 : X.kd j = 1 := by have := ho j hj; omega
  obtain ⟨p, q, r⟩ := snoc_lo X N 6 b j j hj
  obtain ⟨_, q', _⟩ := snoc_hi X N 6 b j
  refine ⟨?_⟩
  rw [if_pos hj, if_neg (Nat.lt_irrefl N), snoc_st _ X N 6 b j j (by omega), p, q, r, q', hk1]
  generalize stN (St.new rate burst) X j = s at *
  unfold toldOf laterOf
  rw [if_neg (by decide), if_pos rfl]
  by_cases hc : X.nm j ≤ s.burst
  · left
    rw [if_pos hc, if_pos hc]
    refine ⟨waitOf s (X.at_ j) (X.nm j), hw.1, hw.2, rfl, ?_⟩
    congr 2
    unfold tick
    omega
  · right
    rw [if_neg hc, if_neg hc]
    exact ⟨rfl, rfl⟩

end Go.Proofs.Ytndkiphlpddbaaa
