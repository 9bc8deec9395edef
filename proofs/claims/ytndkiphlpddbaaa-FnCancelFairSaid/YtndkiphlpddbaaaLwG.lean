/- What a good script without cancelling is told; the walk of laws.good. -/
import Derived.Test.YtndkiphlpddbaaaSm
namespace Go.Proofs.Ytndkiphlpddbaaa
open Go.RowKit Go.Deep Flt

theorem GoodStep.plain {X : Scr} {k : Nat} (h : GoodStep X k) (h5 : X.kd k ≠ 5) : Plain (X.kd k) (X.nm k) := by
  have n0 := h.n0
  have n1 := h.n1
  rcases h.kind with ⟨e, h1⟩ | ⟨e, h1⟩ | e | ⟨e, h1⟩ | ⟨e, h1⟩ | ⟨e, h1⟩ | e
  · exact .inl ⟨e, n0, by omega⟩
  · exact .inr (.inl ⟨e, n0, by omega⟩)
  · exact .inr (.inr (.inl e))
  · have := powB_bounds h1
    exact .inr (.inr (.inr (.inl ⟨e, by omega, by omega⟩)))
  · exact .inr (.inr (.inr (.inr (.inl ⟨e, n0, h1⟩))))
  · exact absurd e h5
  · exact .inr (.inr (.inr (.inr (.inr e))))

theorem GoodP.plain {rate burst : Int} {X : Scr} {N : Nat} (h : GoodP rate burst X N) (h5 : ∀ k, k < N → X.kd k ≠ 5) : PlainScr X N :=
  ⟨fun k hk => (h.step k hk).plain (h5 k hk), fun k hk => (h.step k hk).lo, fun k hk => by have := (h.step k hk).hi; omega, fun k hk => by have := (h.step (k + 1) hk).up (by omega); simpa using this⟩

/-- What the walks ask of a script, whatever the rate. -/
structure Steps (X : Scr) (N : Nat) : Prop where
  step : ∀ k, k < N → GoodStep X k
  no5 : ∀ k, k < N → X.kd k ≠ 5

theorem sim_new (rate burst : Int) (X : Scr) (N : Nat) (r0 : 1 ≤ rate) (r1 : rate ≤ 1000) (b0 : 0 ≤ burst) (b1 : burst ≤ 64) (hN : 0 < N) (hs : GoodStep X 0) : Sim (St.new rate burst) (bkNew rate burst X N) (X.at_ 0) 0 := by
  unfold bkNew
  rw [if_pos hN]
  refine ⟨rfl, rfl, ⟨r0, r1⟩, ⟨b0, b1⟩, ⟨hs.lo, hs.hi⟩, Int.le_refl _, ?_, ?_, by show (0 : Int) ≤ 0 ∧ (0 : Int) ≤ 1000; omega, fun a ha => ?_⟩
  · show -32768 * ((0 : Nat) : Int) ≤ burst * 512; omega
  · show burst * 512 ≤ 32768; omega
  · rw [fill_at _ _ _ _ _ a ha]
    have m : 0 ≤ (a - X.at_ 0) * rate := Int.mul_nonneg (by omega) (by omega)
    show burst * 512 = _
    omega

theorem sim_all {rate burst : Int} {X : Scr} {N : Nat} (h : Steps X N) (r0 : 1 ≤ rate) (r1 : rate ≤ 1000) (b0 : 0 ≤ burst) (b1 : burst ≤ 64) :
    ∀ k, k < N → Sim (stN (St.new rate burst) X k) (bkN (bkNew rate burst X N) X k) (X.at_ k) k := by
  intro k
  induction k with
  | zero => intro hk; exact sim_new rate burst X N r0 r1 b0 b1 hk (h.step 0 hk)
  | succ k ih =>
    intro hk
    have hs := h.step k (by omega)
    have h5 := h.no5 k (by omega)
    refine Sim.later ((ih (by omega)).step hs.lo hs.hi hs.n0 (n := X.nm k) (kd := X.kd k) ?_) (by have := (h.step (k + 1) hk).up (by omega); simpa using this)
    rcases hs.kind with ⟨e, h1⟩ | ⟨e, h1⟩ | e | ⟨e, h1⟩ | ⟨e, h1⟩ | ⟨e, h1⟩ | e
    · exact .inl e
    · exact .inr (.inl e)
    · exact .inr (.inr (.inl e))
    · have := powB_bounds h1
      exact .inr (.inr (.inr (.inl ⟨e, by omega, by omega⟩)))
    · exact .inr (.inr (.inr (.inr (.inl ⟨e, h1⟩))))
    · exact absurd e h5
    · exact .inr (.inr (.inr (.inr (.inr e))))

/-- The rate stays a power of two. -/
theorem pow_all {rate burst : Int} {X : Scr} {N : Nat} (h : Steps X N) (hp : powB rate = true) : ∀ k, k < N → powB (stN (St.new rate burst) X k).rate = true := by
  intro k
  induction k with
  | zero => intro _; exact hp
  | succ k ih =>
    intro hk
    have hs := h.step k (by omega)
    have ih := ih (by omega)
    show powB (stepSt (stN (St.new rate burst) X k) (X.kd k) (X.at_ k) (X.nm k)).rate = true
    generalize stN (St.new rate burst) X k = s at *
    rcases hs.kind with ⟨e, h1⟩ | ⟨e, h1⟩ | e | ⟨e, h1⟩ | ⟨e, h1⟩ | ⟨e, h1⟩ | e
    · rw [e]; unfold stepSt takes; simp only [if_true]; split <;> exact ih
    · rw [e]; unfold stepSt takes; simp only [show ¬ (1 : Int) = 0 from by decide, if_false, if_true]; split <;> exact ih
    · rw [e]; exact ih
    · rw [e]; exact h1
    · rw [e]; exact ih
    · rw [e]; exact ih
    · rw [e]; exact ih

theorem wait_pow (r d : Int) (hr : powB r = true) (hd : d ≤ 8388608) : (if 0 < d then W r d else 0) = max 0 ((d * 1953125).tdiv r) := by
  obtain ⟨j, hj, rfl⟩ := powB_cases hr
  have hr0 : (0 : Int) < 2 ^ j := pow_pos j
  by_cases h : 0 < d
  · rw [if_pos h, W_pow j d hj (by omega) hd, Int.tdiv_eq_ediv_of_nonneg (by omega)]
    have := Int.ediv_nonneg (a := d * 1953125) (b := 2 ^ j) (by omega) (by omega)
    omega
  · rw [if_neg h]
    have h1 : (d * 1953125).tdiv (2 ^ j) = -((-(d * 1953125)).tdiv (2 ^ j)) := by rw [Int.neg_tdiv, Int.neg_neg]
    have h2 : 0 ≤ (-(d * 1953125)).tdiv (2 ^ j) := Int.tdiv_nonneg (by omega) (by omega)
    omega

theorem told_all {rate burst : Int} {X : Scr} {N : Nat} (h : Steps X N) (hN : N ≤ 121) (hp : powB rate = true) (b0 : 0 ≤ burst) (b1 : burst ≤ 64) (k : Nat) (hk : k < N) :
    toldOf (stN (St.new rate burst) X k) (X.kd k) (X.at_ k) (X.nm k) = bkTold (bkNew rate burst X N) X k := by
  have hb := powB_bounds hp
  have hsim := sim_all h (by omega : 1 ≤ rate) (by omega) b0 b1 k hk
  have hpow := pow_all (burst := burst) h hp k hk
  have hs := h.step k hk
  unfold bkTold
  refine hsim.told ?_ fun e1 hn => ?_
  · have h5 := h.no5 k hk
    rcases hs.kind with ⟨e, h1⟩ | ⟨e, h1⟩ | e | ⟨e, h1⟩ | ⟨e, h1⟩ | ⟨e, h1⟩ | e <;> omega
  · have hbd := hsim.bounds
    have hn1 := hs.n1
    unfold waitOf
    rw [hsim.fill _ (Int.le_refl _)]
    have := wait_pow (stN (St.new rate burst) X k).rate (X.nm k * 512 - (bkN (bkNew rate burst X N) X k).fillTok (X.at_ k)) hpow (by omega)
    rw [hsim.r] at this ⊢
    rw [show -((bkN (bkNew rate burst X N) X k).fillTok (X.at_ k) - X.nm k * 512) = X.nm k * 512 - (bkN (bkNew rate burst X N) X k).fillTok (X.at_ k) from by omega, ← this]
    by_cases hlt : (bkN (bkNew rate burst X N) X k).fillTok (X.at_ k) < X.nm k * 512
    · rw [if_pos hlt, if_pos (by omega)]
    · rw [if_neg hlt, if_neg (by omega)]

theorem selfEq_G (p a : Int) (ha : a.natAbs < 9007199254740992) (hp1 : -1000 ≤ p) (hp2 : p ≤ 900) : selfEq (G p a) := by
  unfold selfEq
  have := order_G p a a ha ha hp1 hp2
  rw [show FloatKind.f64.format.order (G p a) (G p a) = _ from this]
  simp

theorem self_all {rate burst : Int} {X : Scr} {N : Nat} (h : Steps X N) (hN : N ≤ 121) (r0 : 1 ≤ rate) (r1 : rate ≤ 1000) (b0 : 0 ≤ burst) (b1 : burst ≤ 64) (k : Nat) (hk : k < N) :
    selfEq (bkTold (bkNew rate burst X N) X k).tok := by
  have hsim := sim_all h r0 r1 b0 b1 k hk
  have hbd := hsim.bounds
  have hB := hsim.b0
  have hR := hsim.r0
  have z : selfEq 0 := by unfold selfEq; decide +kernel
  unfold bkTold Bk.told
  generalize bkN (bkNew rate burst X N) X k = B at *
  dsimp only
  split
  · split <;> exact z
  · split
    · split <;> exact z
    · split
      · exact selfEq_G _ _ (by omega) (by decide) (by decide)
      · split
        · exact selfEq_G _ _ (by omega) (by decide) (by decide)
        · exact z

theorem in_all {rate burst : Int} {X : Scr} {N : Nat} (h : Steps X N) (hN : N ≤ 121) (r0 : 1 ≤ rate) (r1 : rate ≤ 1000) (b0 : 0 ≤ burst) (b1 : burst ≤ 64) (k : Nat) (hk : k < N) :
    (bkN (bkNew rate burst X N) X k).In (X.at_ k) (X.nm k) ∧ (X.kd k = 0 ∨ X.kd k = 1 ∨ X.kd k = 2 ∨ X.kd k = 3 ∨ X.kd k = 4 ∨ X.kd k = 5 ∨ X.kd k = 7) := by
  have hs := h.step k hk
  refine ⟨(sim_all h r0 r1 b0 b1 k hk).ask (by omega) hs.lo hs.hi hs.n0 (by have := hs.n1; omega), ?_⟩
  rcases hs.kind with ⟨e, h1⟩ | ⟨e, h1⟩ | e | ⟨e, h1⟩ | ⟨e, h1⟩ | ⟨e, h1⟩ | e <;> omega

theorem lies_later {w w' : World} {X : Scr} {g o N B : Nat} (h : Lies w X g o N) (hb : Below B w w') (hg : 0 < N → g < B) : Lies w' X g o N := by
  by_cases h0 : 0 < N
  · exact h.below hb (hg h0)
  · intro k hk; omega

set_option maxHeartbeats 1000000 in
theorem goodLaw_any (sb so N cap : Nat) (rate burst a b : Int) (X : Scr) (A : Option Addr) (w : World) (hN : N ≤ 2147483647) (hA : 0 < N → A = some ⟨sb, so, none⟩ ∧ sb < w.heap.size) (hX : Lies w X sb so N) :
    Calls Try.prog 29 #[.int .i64 rate, .int .i64 burst, .slice A N cap, .int .i64 a, .int .i64 b] w (SaysPost w (GoodP rate burst X N ∧ OnlyP X N a b)) := by
  have HP := Lib.hid (plain_any sb so N cap X A w hN hA hX)
  have HN := Lib.hid hN
  clear hA hX hN
  go_enter Try.func29, Try.ntmps29
  go_wp2_with fail
  refine HP.out.mono ?_; rintro e w1 ⟨g, c1, rfl, hg0, hg1, hL, hb⟩
  have HB := Lib.hid hb
  have HL := Lib.hid hL
  have HG := Lib.hid (good_any g N c1 rate burst X w1 hg1 hL)
  clear hb hL hg0
  go_wp2_with fail
  refine HG.out.mono ?_; rintro e w2 ⟨r, rfl, hr, hb2⟩
  have HB2 := Lib.hid (HB.out.trans (hb2.mono HB.out.size))
  have HO := Lib.hid (only_any g N c1 X a b w2 HN.out (Nat.lt_of_lt_of_le hg1 hb2.size) (HL.out.below hb2 hg1))
  have HR := Lib.hid hr
  clear hb2 hr HG HP HB
  cases r
  · go_wp2_with fail
    go_ret
    exact ⟨false, rfl, fun h => (by cases h), HB2.out⟩
  · have HGD := Lib.hid (HR.out rfl)
    clear HR
    go_wp2_with fail
    refine HO.out.mono ?_; rintro e w3 ⟨r, rfl, hr2, hb3⟩
    have HB3 := Lib.hid (HB2.out.trans (hb3.mono HB2.out.size))
    have HR2 := Lib.hid hr2
    clear hb3 hr2 HO
    go_wp2_with fail
    go_ret
    exact ⟨r, rfl, fun h => ⟨HGD.out, HR2.out h⟩, HB3.out⟩

end Go.Proofs.Ytndkiphlpddbaaa
