/- impl.Run over scripts in which cancelling comes too late. -/
import Derived.Test.YtndkiphlpddbaaaTr
import Derived.Test.YtndkiphlpddbaaaRtF
namespace Go.Proofs.Ytndkiphlpddbaaa
open Go.RowKit Go.Deep Flt

/-- The step at k cancels a reservation whose time is over (or that is not ok). -/
def Late (s0 : St) (X : Scr) (k : Nat) : Prop :=
  X.kd k = 5 ∧ ∃ j : Nat, j < k ∧ X.nm k = (j : Int) ∧ X.kd j = 1 ∧ 0 < X.nm j ∧ (resOf (stN s0 X j) (X.at_ j) (X.nm j)).T < tick (X.at_ k)

theorem late_step {s0 : St} {X : Scr} {k : Nat} (h : Late s0 X k) (s : St) : stepSt s (X.kd k) (X.at_ k) (X.nm k) = s := by
  rw [h.1]; unfold stepSt; simp

theorem late_told {s0 : St} {X : Scr} {k : Nat} (h : Late s0 X k) (s : St) : toldOf s (X.kd k) (X.at_ k) (X.nm k) = Tl.none := by
  rw [h.1]; unfold toldOf; simp

theorem fit_late {s0 : St} {X : Scr} {N : Nat} (hp : ∀ k, k < N → Plain (X.kd k) (X.nm k) ∨ Late s0 X k) (hi : ∀ k, k < N → X.at_ k ≤ 16777216) (up : ∀ k, k + 1 < N → X.at_ k ≤ X.at_ (k + 1))
    (hN : N ≤ 121) (h0 : 0 < N → s0.Fit (X.at_ 0) 0) : ∀ k, k < N → (stN s0 X k).Fit (X.at_ k) k := by
  intro k
  induction k with
  | zero => intro hk; exact h0 hk
  | succ k ih =>
    intro hk
    have hf := ih (by omega)
    rcases hp k (by omega) with h | h
    · have h1 := fit_step hf (X.kd k) (X.nm k) h (by omega)
      exact ⟨h1.ok.later (up k hk) (hi _ hk), h1.b, h1.t⟩
    · show (stepSt (stN s0 X k) (X.kd k) (X.at_ k) (X.nm k)).Fit _ _
      rw [late_step h]
      exact ⟨hf.ok.later (up k hk) (hi _ hk), hf.b, by have := hf.t; omega⟩

theorem Run_late (sb so N cap : Nat) (rate burst : Int) (X : Scr) (w : World) (A : Option Addr) (hp : ∀ k, k < N → Plain (X.kd k) (X.nm k) ∨ Late (St.new rate burst) X k)
    (lo : ∀ k, k < N → 0 ≤ X.at_ k) (hi : ∀ k, k < N → X.at_ k ≤ 16777216) (up : ∀ k, k + 1 < N → X.at_ k ≤ X.at_ (k + 1)) (hN : N ≤ 121)
    (r0 : 0 < rate) (r1 : rate ≤ 1000) (b0 : 0 ≤ burst) (b1 : burst ≤ 64) (hA : 0 < N → A = some ⟨sb, so, none⟩ ∧ sb < w.heap.size)
    (hsteps : ∀ k, k < N → w.cell? ⟨sb, so + k * 3, none⟩ = some (.int .i64 (X.kd k)) ∧ w.cell? ⟨sb, so + k * 3 + 1, none⟩ = some (.int .i64 (X.at_ k)) ∧ w.cell? ⟨sb, so + k * 3 + 2, none⟩ = some (.int .i64 (X.nm k))) :
    Calls Try.prog 22 #[.int .i64 rate, .int .i64 burst, .slice A N cap] w (RunPost w N (fun k => toldOf (stN (St.new rate burst) X k) (X.kd k) (X.at_ k) (X.nm k))) := by
  have hfit := fit_late (s0 := St.new rate burst) hp hi up hN (fun h0 => new_fit rate burst _ r0 r1 b0 b1 (lo 0 h0) (hi 0 h0))
  refine Run_any sb so N cap rate burst X (fun k => (stN (St.new rate burst) X k).cells) (fun k => if X.kd k = 1 then some ((resOf (stN (St.new rate burst) X k) (X.at_ k) (X.nm k)).cells w.heap.size) else none) _ w A (by omega) (new_cells rate burst) hA hsteps
    (fun k hk => ⟨lo k hk, by have := hi k hk; omega⟩) (fun k hk => ?_)
  rcases hp k hk with h | h
  · exact item_plain _ X _ _ _ k (stN (St.new rate burst) X k) (hfit k hk).ok h rfl rfl rfl rfl
  · have hok := (hfit k hk).ok
    have ht := late_told h (stN (St.new rate burst) X k)
    have hs : stN (St.new rate burst) X (k + 1) = stN (St.new rate burst) X k := late_step h (stN (St.new rate burst) X k)
    obtain ⟨e5, j, hj, hnm, hkj, hnj, hT⟩ := h
    refine .inr (.inr (.inr (.inr (.inr (.inl ⟨j, _, e5, hnm, hj, by simp [e5], by simp only [hkj, if_true]; rfl, ht, ?_⟩)))))
    intro w' R hRL hL hR
    rw [hs]
    have fin : ∀ (e : Ending) (w2 : World), e = .returned (.tuple #[]) ∧ Below w'.heap.size w' w2 → e = .returned (.tuple #[]) ∧ Blk w2 w.heap.size 76 (stN (St.new rate burst) X k).cells ∧ w'.grownBy w2 (some w.heap.size) :=
      fun e w2 ⟨he, hb⟩ => ⟨he, hL.below hb hL.lt, turn_below (turn_refl w' _) hb⟩
    generalize hr : resOf (stN (St.new rate burst) X j) (X.at_ j) (X.nm j) = r at *
    obtain ⟨ok, n, T, rt⟩ := r
    cases ok with
    | false => exact (cancel_no _ R n T (G 0 rt) _ w' hR).mono fin
    | true =>
      have hn : n ≠ 0 := by
        unfold resOf at hr
        split at hr
        · injection hr with _ h2; omega
        · injection hr with h1; cases h1
      exact (cancel_late _ R (G 0 (stN (St.new rate burst) X k).rate) _ _ _ _ n T (G 0 rt) _ w' hL hR (rate_inf _ hok.r0 hok.r1) hn hT).mono fin

end Go.Proofs.Ytndkiphlpddbaaa
