/- Delays at whatever rate: at most a nanosecond apart. -/
import Derived.Test.YtndkiphlpddbaaaLwG
import Derived.Test.YtndkiphlpddbaaaSpW
namespace Go.Proofs.Ytndkiphlpddbaaa
open Go.RowKit Go.Deep Flt

theorem wait_near (r d : Int) (r0 : 1 ≤ r) (r1 : r ≤ 1000) (hd : d ≤ 8388608) :
    -1 ≤ (if 0 < d then W r d else 0) - max 0 ((d * 1953125).tdiv r) ∧ (if 0 < d then W r d else 0) - max 0 ((d * 1953125).tdiv r) ≤ 1 := by
  by_cases h : 0 < d
  · rw [if_pos h, Int.tdiv_eq_ediv_of_nonneg (by omega)]
    have hw := W_bounds r d (by omega) r1 h (by omega)
    have q0 := Int.ediv_nonneg (a := d * 1953125) (b := r) (by omega) (by omega)
    have q1 : d * 1953125 / r * r ≤ d * 1953125 := Int.ediv_mul_le _ (by omega)
    have q2 : d * 1953125 < (d * 1953125 / r + 1) * r := Int.lt_ediv_add_one_mul_self _ (by omega)
    generalize d * 1953125 / r = q at *
    have e1 : W r d < q + 1 := Int.lt_of_mul_lt_mul_right (Int.lt_of_le_of_lt hw.1 q2) (by omega)
    have e2 : q ≤ W r d + 1 := Int.le_of_mul_le_mul_right (Int.le_trans q1 hw.2.1) (by omega)
    omega
  · rw [if_neg h]
    have h1 : (d * 1953125).tdiv r = -((-(d * 1953125)).tdiv r) := by rw [Int.neg_tdiv, Int.neg_neg]
    have h2 : 0 ≤ (-(d * 1953125)).tdiv r := Int.tdiv_nonneg (by omega) (by omega)
    omega

/-- Told alike, but for a nanosecond. -/
structure Near (t u : Tl) : Prop where
  ok : t.ok = u.ok
  tok : t.tok = u.tok
  lo : -1 ≤ t.delay - u.delay
  hi : t.delay - u.delay ≤ 1

theorem near_refl (t : Tl) : Near t t := ⟨rfl, rfl, by omega, by omega⟩

theorem near_all {rate burst : Int} {X : Scr} {N : Nat} (h : Steps X N) (hN : N ≤ 121) (r0 : 1 ≤ rate) (r1 : rate ≤ 1000) (b0 : 0 ≤ burst) (b1 : burst ≤ 64) (k : Nat) (hk : k < N) :
    Near (toldOf (stN (St.new rate burst) X k) (X.kd k) (X.at_ k) (X.nm k)) (bkTold (bkNew rate burst X N) X k) := by
  have hsim := sim_all h r0 r1 b0 b1 k hk
  have hs := h.step k hk
  unfold bkTold
  by_cases e1 : X.kd k = 1 ∧ X.nm k ≤ (stN (St.new rate burst) X k).burst
  · obtain ⟨e1, e2⟩ := e1
    have hbd := hsim.bounds
    have hn1 := hs.n1
    have hr := hsim.r0
    have hw := wait_near (bkN (bkNew rate burst X N) X k).rate (X.nm k * 512 - (bkN (bkNew rate burst X N) X k).fillTok (X.at_ k)) hr.1 hr.2 (by omega)
    have hbb := hsim.b
    have hT : toldOf (stN (St.new rate burst) X k) (X.kd k) (X.at_ k) (X.nm k) = ⟨true, waitOf (stN (St.new rate burst) X k) (X.at_ k) (X.nm k), 0⟩ := by
      rw [e1]; unfold toldOf; rw [if_neg (by decide), if_pos rfl, if_pos e2]
    have hU : (bkN (bkNew rate burst X N) X k).told (X.kd k) (X.at_ k) (X.nm k) = ⟨true, max 0 ((-((bkN (bkNew rate burst X N) X k).fillTok (X.at_ k) - X.nm k * 512) * 1953125).tdiv (bkN (bkNew rate burst X N) X k).rate), 0⟩ := by
      rw [e1]; unfold Bk.told; dsimp only; rw [if_neg (by decide), if_pos rfl, if_neg (by omega)]
    rw [hT, hU]
    have hwe : waitOf (stN (St.new rate burst) X k) (X.at_ k) (X.nm k) = (if 0 < X.nm k * 512 - (bkN (bkNew rate burst X N) X k).fillTok (X.at_ k) then W (bkN (bkNew rate burst X N) X k).rate (X.nm k * 512 - (bkN (bkNew rate burst X N) X k).fillTok (X.at_ k)) else 0) := by
      unfold waitOf
      rw [hsim.fill _ (Int.le_refl _), hsim.r]
      by_cases hlt : (bkN (bkNew rate burst X N) X k).fillTok (X.at_ k) < X.nm k * 512
      · rw [if_pos hlt, if_pos (by omega)]
      · rw [if_neg hlt, if_neg (by omega)]
    rw [hwe, show -((bkN (bkNew rate burst X N) X k).fillTok (X.at_ k) - X.nm k * 512) = X.nm k * 512 - (bkN (bkNew rate burst X N) X k).fillTok (X.at_ k) from by omega]
    exact ⟨rfl, rfl, hw.1, hw.2⟩
  · have : toldOf (stN (St.new rate burst) X k) (X.kd k) (X.at_ k) (X.nm k) = (bkN (bkNew rate burst X N) X k).told (X.kd k) (X.at_ k) (X.nm k) := by
      refine hsim.told ?_ fun h1 h2 => absurd ⟨h1, h2⟩ e1
      have h5 := h.no5 k hk
      rcases hs.kind with ⟨e, h1⟩ | ⟨e, h1⟩ | e | ⟨e, h1⟩ | ⟨e, h1⟩ | ⟨e, h1⟩ | e <;> omega
    rw [this]
    exact near_refl _

end Go.Proofs.Ytndkiphlpddbaaa
