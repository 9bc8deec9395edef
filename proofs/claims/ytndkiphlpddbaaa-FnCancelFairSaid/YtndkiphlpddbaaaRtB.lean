/- The limiter in whole numbers: its state, and the walk of advance and durationFromTokens over it. -/
import Derived.Test.YtndkiphlpddbaaaRtA
import Derived.Test.YtndkiphlpddbaaaRtP
namespace Go.Proofs.Ytndkiphlpddbaaa
open Go.RowKit Flt

/-- The time of a tick. -/
def tick (k : Int) : Int := M0 + k * 1953125
def lastNs : Option Int → Int | none => 0 | some j => tick j

/-- A limiter in whole numbers: tokens in 512ths; the tick up to which it is filled, none ahead of the first; the time of the last event. -/
structure St where
  rate : Int
  burst : Int
  tok : Int
  last : Option Int
  ev : Int

def St.cells (s : St) : Array Value := lcells (G 0 s.rate) s.burst (G (-9) s.tok) (lastNs s.last) s.ev

/-- What a limiter holds at a tick. -/
def St.fill (s : St) (k : Int) : Int := match s.last with | none => s.burst * 512 | some j => min (s.tok + (k - j) * s.rate) (s.burst * 512)

structure St.Ok (s : St) (k : Int) : Prop where
  r0 : 0 < s.rate
  r1 : s.rate ≤ 1000
  b0 : 0 ≤ s.burst
  b1 : s.burst ≤ 100
  t0 : -4000000 ≤ s.tok
  t1 : s.tok ≤ 51200
  first : s.last = none → s.tok = s.burst * 512
  then_ : ∀ j, s.last = some j → 0 ≤ j ∧ j ≤ k
  k0 : 0 ≤ k
  k1 : k ≤ 16777216
  e0 : 0 ≤ s.ev
  e1 : s.ev ≤ 63000000000000000000

theorem St.Ok.fill_bounds {s : St} {k : Int} (h : s.Ok k) : -4000000 ≤ s.fill k ∧ s.fill k ≤ s.burst * 512 ∧ s.fill k ≤ 51200 := by
  obtain ⟨r0, r1, b0, b1, t0, t1, hf, ht, k0, k1, _, _⟩ := h
  unfold St.fill
  split
  · omega
  · rename_i j hj
    obtain ⟨h1, h2⟩ := ht j hj
    have : 0 ≤ (k - j) * s.rate := Int.mul_nonneg (by omega) (by omega)
    omega

theorem floatOfInt_G (n : Int) : floatOfInt .f64 n = G 0 n := rfl

theorem advance_st (L : Nat) (s : St) (k : Int) (w : World) (hL : Blk w L 76 s.cells) (h : s.Ok k) :
    Calls Try.prog 52 #[.pointer (some ⟨L, 0, none⟩), tv (tick k)] w fun e w' => e = .returned (.float .f64 (G (-9) (s.fill k))) ∧ Below w.heap.size w w' := by
  obtain ⟨r0, r1, b0, b1, t0, t1, hf, ht, k0, k1, _, _⟩ := h
  obtain ⟨rate, burst, tok, last, ev⟩ := s
  dsimp only at *
  cases last with
  | none =>
    have htok := hf rfl
    subst htok
    obtain ⟨q, z, p, t, e1, e2, e3, e4, e5⟩ := first_fill rate burst r0 r1 b0 b1
    have := advance_of L (G 0 rate) (G (-9) (burst * 512)) burst 0 ev (tick k) 9223372036854775807 p t true w hL (by unfold tick M0; omega)
      (fun w => sub_zero (tick k) w (by unfold tick M0; omega) (by unfold tick M0; omega))
      (fun w => tfd_of (G 0 rate) 9223372036854775807 q z p w (by decide) (by decide) (rate_pos rate r0 r1) e1 e2 e3) e4 e5
    rw [show (cond true (floatOfInt .f64 burst) t) = G (-9) (burst * 512) from G_512 burst] at this
    exact this
  | some j =>
    obtain ⟨j0, j1⟩ := ht j rfl
    have hm0 : 0 ≤ (k - j) * rate := Int.mul_nonneg (by omega) (by omega)
    have hm1 : (k - j) * rate ≤ 16777216 * 1000 := Int.mul_le_mul (by omega) r1 (by omega) (by decide)
    have hsub := fun w => sub_any (tick k) (tick j) w (by unfold tick M0; omega) (by unfold tick M0; omega) (by unfold tick; omega) (by unfold tick; omega)
    rw [show tick k - tick j = (k - j) * 1953125 from by unfold tick; omega] at hsub
    have := advance_of L (G 0 rate) (G (-9) tok) burst (tick j) ev (tick k) ((k - j) * 1953125) (G (-9) ((k - j) * rate)) (G (-9) (tok + (k - j) * rate)) (decide (burst * 512 < tok + (k - j) * rate)) w hL (by unfold tick; omega)
      hsub
      (fun w => tfd_of (G 0 rate) ((k - j) * 1953125) _ _ _ w (by omega) (by omega) (rate_pos rate r0 r1) (ticks_div (k - j)) (ticks_add (k - j) (by omega) (by omega)) (ticks_mul (k - j) rate (by omega) (by omega) r0 r1))
      (add_G (-9) tok _ (by omega) (by omega) (by decide) (by decide)) (by rw [floatOfInt_G, G_512]; exact ord_gt _ _ (by omega) (by omega))
    have e : cond (decide (burst * 512 < tok + (k - j) * rate)) (floatOfInt .f64 burst) (G (-9) (tok + (k - j) * rate)) = G (-9) (min (tok + (k - j) * rate) (burst * 512)) := by
      by_cases hlt : burst * 512 < tok + (k - j) * rate
      · simp only [hlt, decide_true, cond_true]
        rw [floatOfInt_G, G_512]; congr 1; omega
      · simp only [hlt, decide_false, cond_false]
        congr 1; omega
    rw [e] at this
    exact this

/-- The time till d 512ths have come. -/
theorem dft_st (r d : Int) (w : World) (r0 : 0 < r) (r1 : r ≤ 1000) (d0 : 0 < d) (d1 : d ≤ 8388608) :
    Calls Try.prog 56 #[.float .f64 (G 0 r), .float .f64 (G (-9) d)] w fun e w' => e = .returned (.int .i64 (W r d)) ∧ w = w' := by
  obtain ⟨rn, rfl⟩ := Int.eq_ofNat_of_zero_le (Int.le_of_lt r0)
  obtain ⟨dn, rfl⟩ := Int.eq_ofNat_of_zero_le (Int.le_of_lt d0)
  obtain ⟨q, y, e1, e2, e3, e4, _⟩ := W_ok rn dn (by omega) (by omega) (by omega) (by omega)
  exact dft_of _ _ q y _ w (rate_pos rn r0 r1) e1 e2 e3 e4

/-- Its bounds: of the whole nanoseconds that it takes it is at most one less. -/
theorem W_bounds (r d : Int) (r0 : 0 < r) (r1 : r ≤ 1000) (d0 : 0 < d) (d1 : d ≤ 8388608) : W r d * r ≤ d * 1953125 ∧ d * 1953125 ≤ (W r d + 1) * r ∧ 0 < W r d ∧ W r d ≤ 16384000000000 := by
  obtain ⟨rn, rfl⟩ := Int.eq_ofNat_of_zero_le (Int.le_of_lt r0)
  obtain ⟨dn, rfl⟩ := Int.eq_ofNat_of_zero_le (Int.le_of_lt d0)
  obtain ⟨q, y, e1, e2, e3, e4, n, hn, h1, h2⟩ := W_ok rn dn (by omega) (by omega) (by omega) (by omega)
  rw [hn]
  have h3 : n * 1 ≤ n * rn := Nat.mul_le_mul_left _ (by omega)
  have h4 : (n + 1) * rn ≤ (n + 1) * 1000 := Nat.mul_le_mul_left _ (by omega)
  refine ⟨by rw [← Int.natCast_mul]; omega, ?_, by omega, by omega⟩
  rw [show ((n : Int) + 1) * rn = (((n + 1) * rn : Nat) : Int) from by simp]
  omega

end Go.Proofs.Ytndkiphlpddbaaa
