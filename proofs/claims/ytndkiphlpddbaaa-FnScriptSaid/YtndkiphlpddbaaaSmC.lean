/- A good script, with reservations cancelled at once: what the limiter is told is what the bucket tells. Plain. -/
import Derived.Test.YtndkiphlpddbaaaLwG
import Derived.Test.YtndkiphlpddbaaaCnW
namespace Go.Proofs.Ytndkiphlpddbaaa
open Go.RowKit Go.Deep Flt

theorem now_good {X : Scr} {k : Nat} (h : GoodStep X k) (hp : GoodStep X (k - 1)) (h5 : X.kd k = 5) : Now X k := by
  rcases h.kind with ⟨e, h1⟩ | ⟨e, h1⟩ | e | ⟨e, h1⟩ | ⟨e, h1⟩ | ⟨e, h0, hn, h1, ha⟩ | e
  · omega
  · omega
  · omega
  · omega
  · omega
  · obtain ⟨j, rfl⟩ : ∃ j, k = j + 1 := ⟨k - 1, by omega⟩
    rw [Nat.add_sub_cancel] at h1 ha hp
    have hn1 : 1 ≤ X.nm j := by
      rcases hp.kind with ⟨e', h2⟩ | ⟨e', h2⟩ | e' | ⟨e', h2⟩ | ⟨e', h2⟩ | ⟨e', h2⟩ | e' <;> omega
    exact ⟨h5, j, rfl, by omega, h1, ha, hn1, by have := hp.n1; omega⟩
  · omega

theorem now_of_good {X : Scr} {N : Nat} (h : ∀ k, k < N → GoodStep X k) : NowScr X N := by
  refine ⟨fun k hk => ?_, fun k hk => (h k hk).lo, fun k hk => by have := (h k hk).hi; omega, fun k hk => by have := (h (k + 1) hk).up (by omega); simpa using this⟩
  by_cases h5 : X.kd k = 5
  · exact .inr (now_good (h k hk) (h (k - 1) (by omega)) h5)
  · exact .inl ((h k hk).plain h5)

theorem simC_all {rate burst : Int} {X : Scr} {N : Nat} (h : ∀ k, k < N → GoodStep X k) (r0 : 1 ≤ rate) (r1 : rate ≤ 1000) (b0 : 0 ≤ burst) (b1 : burst ≤ 64) :
    ∀ k, k < N → Sim (stC (St.new rate burst) X k) (bkN (bkNew rate burst X N) X k) (X.at_ k) k := by
  intro k
  induction k using Nat.strongRecOn with
  | ind k ih =>
    cases k with
    | zero => intro hk; exact sim_new rate burst X N r0 r1 b0 b1 hk (h 0 hk)
    | succ k =>
      intro hk
      have hs := h k (by omega)
      have hup : X.at_ k ≤ X.at_ (k + 1) := by have := (h (k + 1) hk).up (by omega); simpa using this
      have hk' := ih k (by omega) (by omega)
      refine Sim.later ?_ hup
      by_cases h5 : X.kd k = 5
      · obtain ⟨_, j, rfl, hnm, h1, hat, n0, n1⟩ := now_good hs (h (k - 1) (by omega)) h5
        have hj := ih j (by omega) (by omega)
        obtain ⟨e1, e2⟩ := stC_now (s0 := St.new rate burst) h5 h1
        have hb := hj.b
        have hn1 := (h j (by omega)).n1
        have hB1 : bkN (bkNew rate burst X N) X (j + 1) = (bkN (bkNew rate burst X N) X j).step 1 (X.at_ j) (X.nm j) := by
          show (bkN (bkNew rate burst X N) X j).step (X.kd j) (X.at_ j) (X.nm j) = _; rw [h1]
        have hB2 : bkN (bkNew rate burst X N) X (j + 1 + 1) = (bkN (bkNew rate burst X N) X (j + 1)).step 5 (X.at_ (j + 1)) (X.nm (j + 1)) := by
          show (bkN (bkNew rate burst X N) X (j + 1)).step (X.kd (j + 1)) (X.at_ (j + 1)) (X.nm (j + 1)) = _; rw [h5]
        have htk : (bkN (bkNew rate burst X N) X (j + 1)).taken = if X.nm j ≤ (stC (St.new rate burst) X j).burst then X.nm j else 0 := by
          rw [hB1]
          unfold Bk.step
          dsimp only
          rw [if_neg (by decide), if_pos rfl]
          by_cases hc : X.nm j ≤ (stC (St.new rate burst) X j).burst
          · rw [if_neg (by omega), if_pos hc]
          · rw [if_pos (by omega), if_neg hc]
        have he := at_eq hk'.at1
        have hf := hk'.fill (X.at_ (j + 1)) (Int.le_refl _)
        have hbd := hk'.bounds
        have hB := hk'.b0
        rw [hB2, e2]
        have hst5 : (bkN (bkNew rate burst X N) X (j + 1)).step 5 (X.at_ (j + 1)) (X.nm (j + 1)) = ⟨(bkN (bkNew rate burst X N) X (j + 1)).rate, (bkN (bkNew rate burst X N) X (j + 1)).burst,
            min ((bkN (bkNew rate burst X N) X (j + 1)).fillTok (X.at_ (j + 1)) + (bkN (bkNew rate burst X N) X (j + 1)).taken * 512) ((bkN (bkNew rate burst X N) X (j + 1)).burst * 512), X.at_ (j + 1), 0⟩ := by
          simp [Bk.step, he]
        rw [hst5, htk]
        by_cases hc : X.nm j ≤ (stC (St.new rate burst) X j).burst
        · rw [if_pos hc, if_pos hc]
          have hst : stC (St.new rate burst) X (j + 1) = takes (stC (St.new rate burst) X j) (X.at_ j) (X.nm j) := by
            rw [e1]; unfold stepSt; rw [if_neg (by decide), if_pos rfl, if_pos hc]
          rw [hst] at hk' hf
          generalize takes (stC (St.new rate burst) X j) (X.at_ j) (X.nm j) = s at *
          generalize bkN (bkNew rate burst X N) X (j + 1) = B at *
          refine ⟨hk'.r, hk'.b, hk'.r0, hk'.b0, ⟨hs.lo, hs.hi⟩, Int.le_refl _, ?_, ?_, by show (0 : Int) ≤ 0 ∧ (0 : Int) ≤ 1000; omega, fun c hcc => ?_⟩
          · show -32768 * ((j + 1 + 1 : Nat) : Int) ≤ min (B.fillTok (X.at_ (j + 1)) + X.nm j * 512) (B.burst * 512); omega
          · show min (B.fillTok (X.at_ (j + 1)) + X.nm j * 512) (B.burst * 512) ≤ 32768; omega
          · rw [fill_at _ _ _ _ _ c hcc]
            show min (min (s.fill (X.at_ (j + 1)) + X.nm j * 512) (s.burst * 512) + (c - X.at_ (j + 1)) * s.rate) (s.burst * 512) = _
            rw [hf, hk'.r, hk'.b]
        · rw [if_neg hc, if_neg hc]
          have hst : stC (St.new rate burst) X (j + 1) = stC (St.new rate burst) X j := by
            rw [e1]; unfold stepSt; rw [if_neg (by decide), if_pos rfl, if_neg hc]
          rw [hst] at hk'
          rw [Int.zero_mul, Int.add_zero, show min ((bkN (bkNew rate burst X N) X (j + 1)).fillTok (X.at_ (j + 1))) ((bkN (bkNew rate burst X N) X (j + 1)).burst * 512) = (bkN (bkNew rate burst X N) X (j + 1)).fillTok (X.at_ (j + 1)) from by omega]
          exact hk'.rest hs.lo hs.hi
      · rw [stC_plain h5]
        refine hk'.step hs.lo hs.hi hs.n0 (n := X.nm k) (kd := X.kd k) ?_
        rcases hs.kind with ⟨e, h1⟩ | ⟨e, h1⟩ | e | ⟨e, h1⟩ | ⟨e, h1⟩ | ⟨e, h1⟩ | e
        · exact .inl e
        · exact .inr (.inl e)
        · exact .inr (.inr (.inl e))
        · have := powB_bounds h1
          exact .inr (.inr (.inr (.inl ⟨e, by omega, by omega⟩)))
        · exact .inr (.inr (.inr (.inr (.inl ⟨e, h1⟩))))
        · exact absurd e h5
        · exact .inr (.inr (.inr (.inr (.inr e))))

theorem powC_all {rate burst : Int} {X : Scr} {N : Nat} (h : ∀ k, k < N → GoodStep X k) (hp : powB rate = true) : ∀ k, k < N → powB (stC (St.new rate burst) X k).rate = true := by
  intro k
  induction k with
  | zero => intro _; exact hp
  | succ k ih =>
    intro hk
    have hs := h k (by omega)
    have ih := ih (by omega)
    by_cases h5 : X.kd k = 5
    · show powB (if X.kd k = 5 then (if X.nm (k - 1) ≤ (stC (St.new rate burst) X k).burst then cancelSt (stC (St.new rate burst) X k) (X.at_ k) (X.nm (k - 1)) else stC (St.new rate burst) X k) else _).rate = true
      rw [if_pos h5]
      split <;> exact ih
    · rw [stC_plain h5]
      generalize stC (St.new rate burst) X k = s at *
      rcases hs.kind with ⟨e, h1⟩ | ⟨e, h1⟩ | e | ⟨e, h1⟩ | ⟨e, h1⟩ | ⟨e, h1⟩ | e
      · rw [e]; unfold stepSt takes; simp only [if_true]; split <;> exact ih
      · rw [e]; unfold stepSt takes; simp only [show ¬ (1 : Int) = 0 from by decide, if_false, if_true]; split <;> exact ih
      · rw [e]; exact ih
      · rw [e]; exact h1
      · rw [e]; exact ih
      · exact absurd e h5
      · rw [e]; exact ih

theorem toldC_all {rate burst : Int} {X : Scr} {N : Nat} (h : ∀ k, k < N → GoodStep X k) (hN : N ≤ 121) (hp : powB rate = true) (b0 : 0 ≤ burst) (b1 : burst ≤ 64) (k : Nat) (hk : k < N) :
    toldOf (stC (St.new rate burst) X k) (X.kd k) (X.at_ k) (X.nm k) = bkTold (bkNew rate burst X N) X k := by
  have hb := powB_bounds hp
  have hsim := simC_all h (by omega : 1 ≤ rate) (by omega) b0 b1 k hk
  have hpow := powC_all (burst := burst) h hp k hk
  have hs := h k hk
  unfold bkTold
  by_cases h5 : X.kd k = 5
  · rw [h5]; simp [toldOf, Bk.told]
  · refine hsim.told ?_ fun e1 hn => ?_
    · rcases hs.kind with ⟨e, h1⟩ | ⟨e, h1⟩ | e | ⟨e, h1⟩ | ⟨e, h1⟩ | ⟨e, h1⟩ | e <;> omega
    · have hbd := hsim.bounds
      have hn1 := hs.n1
      unfold waitOf
      rw [hsim.fill _ (Int.le_refl _)]
      have := wait_pow (stC (St.new rate burst) X k).rate (X.nm k * 512 - (bkN (bkNew rate burst X N) X k).fillTok (X.at_ k)) hpow (by omega)
      rw [hsim.r] at this ⊢
      rw [show -((bkN (bkNew rate burst X N) X k).fillTok (X.at_ k) - X.nm k * 512) = X.nm k * 512 - (bkN (bkNew rate burst X N) X k).fillTok (X.at_ k) from by omega, ← this]
      by_cases hlt : (bkN (bkNew rate burst X N) X k).fillTok (X.at_ k) < X.nm k * 512
      · rw [if_pos hlt, if_pos (by omega)]
      · rw [if_neg hlt, if_neg (by omega)]

theorem selfC_all {rate burst : Int} {X : Scr} {N : Nat} (h : ∀ k, k < N → GoodStep X k) (hN : N ≤ 121) (r0 : 1 ≤ rate) (r1 : rate ≤ 1000) (b0 : 0 ≤ burst) (b1 : burst ≤ 64) (k : Nat) (hk : k < N) :
    selfEq (bkTold (bkNew rate burst X N) X k).tok := by
  have hsim := simC_all h r0 r1 b0 b1 k hk
  have hbd := hsim.bounds
  have hB := hsim.b0
  have hR := hsim.r0
  have z : selfEq 0 := by unfold selfEq; decide +kernel
  unfold bkTold Bk.told
  generalize bkN (bkNew rate burst X N) X k = B at *
  dsimp only
  split
  · split <;> exact z
  · split
    · split <;> exact z
    · split
      · exact selfEq_G _ _ (by omega) (by decide) (by decide)
      · split
        · exact selfEq_G _ _ (by omega) (by decide) (by decide)
        · exact z

theorem inC_all {rate burst : Int} {X : Scr} {N : Nat} (h : ∀ k, k < N → GoodStep X k) (hN : N ≤ 121) (r0 : 1 ≤ rate) (r1 : rate ≤ 1000) (b0 : 0 ≤ burst) (b1 : burst ≤ 64) (k : Nat) (hk : k < N) :
    (bkN (bkNew rate burst X N) X k).In (X.at_ k) (X.nm k) ∧ (X.kd k = 0 ∨ X.kd k = 1 ∨ X.kd k = 2 ∨ X.kd k = 3 ∨ X.kd k = 4 ∨ X.kd k = 5 ∨ X.kd k = 7) := by
  have hs := h k hk
  refine ⟨(simC_all h r0 r1 b0 b1 k hk).ask (by omega) hs.lo hs.hi hs.n0 (by have := hs.n1; omega), ?_⟩
  rcases hs.kind with ⟨e, h1⟩ | ⟨e, h1⟩ | e | ⟨e, h1⟩ | ⟨e, h1⟩ | ⟨e, h1⟩ | e <;> omega

end Go.Proofs.Ytndkiphlpddbaaa
