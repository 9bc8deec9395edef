/- spec.Run: a script over the reference's bucket. -/
import Derived.Test.YtndkiphlpddbaaaSpS
namespace Go.Proofs.Ytndkiphlpddbaaa
open Go.RowKit Go.Deep Flt
attribute [local go_sem] store_float

theorem info43' : (Try.prog.info? 43).map (fun i => (i.zero, i.size, i.bytes)) = some (some (.agg #[.bool false, .int .i64 0, .float .f64 0]), 3, 24) := by kernel_rfl

def toldL (T : Nat → Tl) : Nat → List Value
  | 0 => []
  | k + 1 => toldL T k ++ [.bool (T k).ok, .int .i64 (T k).delay, .float .f64 (T k).tok]

theorem toldL_len (T : Nat → Tl) (k : Nat) : (toldL T k).length = k * 3 := by
  induction k with
  | zero => rfl
  | succ k ih => rw [toldL, List.length_append, ih]; simp only [List.length_cons, List.length_nil]; omega

theorem toldL_get (T : Nat → Tl) (N k : Nat) (hk : k < N) : (toldL T N)[k * 3]? = some (.bool (T k).ok) ∧ (toldL T N)[k * 3 + 1]? = some (.int .i64 (T k).delay) ∧ (toldL T N)[k * 3 + 2]? = some (.float .f64 (T k).tok) := by
  induction N with
  | zero => omega
  | succ N ih =>
    have hl := toldL_len T N
    by_cases h : k < N
    · obtain ⟨a, b, c⟩ := ih h
      rw [toldL, List.getElem?_append_left (by omega), List.getElem?_append_left (by omega), List.getElem?_append_left (by omega)]
      exact ⟨a, b, c⟩
    · have : k = N := by omega
      subst this
      rw [toldL, List.getElem?_append_right (by omega), List.getElem?_append_right (by omega), List.getElem?_append_right (by omega), hl,
        show k * 3 - k * 3 = 0 by omega, show k * 3 + 1 - k * 3 = 1 by omega, show k * 3 + 2 - k * 3 = 2 by omega]
      exact ⟨rfl, rfl, rfl⟩

/-- What is told lies in memory. -/
def Says (w : World) (T : Nat → Tl) (g N : Nat) : Prop :=
  ∀ k, k < N → w.cell? ⟨g, k * 3, none⟩ = some (.bool (T k).ok) ∧ w.cell? ⟨g, k * 3 + 1, none⟩ = some (.int .i64 (T k).delay) ∧ w.cell? ⟨g, k * 3 + 2, none⟩ = some (.float .f64 (T k).tok)

theorem Says.below {w w' : World} {T : Nat → Tl} {g N B : Nat} (h : Says w T g N) (hb : Below B w w') (hg : g < B) : Says w' T g N := by
  intro k hk
  obtain ⟨a, b, c⟩ := h k hk
  exact ⟨(World.cell?_of_block (w := w) (a := ⟨g, k * 3, none⟩) (hb.block g hg)).trans a, (World.cell?_of_block (w := w) (a := ⟨g, k * 3 + 1, none⟩) (hb.block g hg)).trans b, (World.cell?_of_block (w := w) (a := ⟨g, k * 3 + 2, none⟩) (hb.block g hg)).trans c⟩

theorem says_own {w : World} {base : Nat} {e : TypeId} {g N cap : Nat} {T : Nat → Tl} (h : w.ownsRow base e 3 (.slice (some ⟨g, 0, none⟩) N cap) N (toldL T N)) : Says w T g N := by
  intro k hk
  obtain ⟨a, b, c⟩ := toldL_get T N k hk
  exact ⟨(h.cellAt _ (by omega)).trans a, (h.cellAt _ (by omega)).trans b, (h.cellAt _ (by omega)).trans c⟩

theorem says_row {w : World} {g N : Nat} {T : Nat → Tl} (h : w.rowIs g 30 (3 * N) (outF T N)) : Says w T g N := by
  intro k hk
  refine ⟨(h.cell (by omega)).trans ?_, (h.cell (by omega)).trans ?_, (h.cell (by omega)).trans ?_⟩
  · unfold outF; rw [if_pos (by omega), show k * 3 / 3 = k by omega, show k * 3 % 3 = 0 by omega]; rfl
  · unfold outF; rw [if_pos (by omega), show (k * 3 + 1) / 3 = k by omega, show (k * 3 + 1) % 3 = 1 by omega]; rfl
  · unfold outF; rw [if_pos (by omega), show (k * 3 + 2) / 3 = k by omega, show (k * 3 + 2) % 3 = 2 by omega]; rfl

/-- A slice of what is told, in new memory. -/
def SpecPost (w : World) (N : Nat) (T : Nat → Tl) (e : Ending) (w' : World) : Prop :=
  ∃ g cap, e = .returned (.slice (some ⟨g, 0, none⟩) N cap) ∧ w.heap.size ≤ g ∧ g < w'.heap.size ∧ Says w' T g N ∧ Below w.heap.size w w'

/-- The bucket behind k steps. -/
def bkN (B0 : Bk) (X : Scr) : Nat → Bk
  | 0 => B0
  | k + 1 => (bkN B0 X k).step (X.kd k) (X.at_ k) (X.nm k)
def bkTold (B0 : Bk) (X : Scr) (k : Nat) : Tl := (bkN B0 X k).told (X.kd k) (X.at_ k) (X.nm k)
def bkNew (rate burst : Int) (X : Scr) (N : Nat) : Bk := ⟨rate, burst, burst * 512, if 0 < N then X.at_ 0 else 0, 0⟩

structure SpInv (w wr : World) (N : Nat) (B0 : Bk) (X : Scr) (k : Nat) (v : Value) : Prop where
  own : wr.ownsRow (w.heap.size + 1) 43 3 v k (toldL (bkTold B0 X) k)
  nn : v ≠ .slice none 0 0
  buck : Blk wr w.heap.size 56 (bkN B0 X k).cells
  bel : Below w.heap.size w wr

theorem own_turned {w w' : World} {L : Nat} {e : TypeId} {n k : Nat} {v : Value} {xs : List Value} (h : w.ownsRow (L + 1) e n v k xs) (hg : w.grownBy w' (some L)) : w'.ownsRow (L + 1) e n v k xs := by
  refine h.kept hg (.inr fun he => ?_)
  have := (h.lt L he).1
  omega

set_option maxRecDepth 100000 in
set_option maxHeartbeats 1000000 in
theorem specRun_any (g N cap : Nat) (rate burst : Int) (X : Scr) (w : World) (hN : N ≤ 1000) (hg : g < w.heap.size) (hX : Lies w X g 0 N) (hb0 : 0 ≤ burst) (hb1 : burst ≤ 64)
    (hin : ∀ k, k < N → (bkN (bkNew rate burst X N) X k).In (X.at_ k) (X.nm k) ∧ (X.kd k = 0 ∨ X.kd k = 1 ∨ X.kd k = 2 ∨ X.kd k = 3 ∨ X.kd k = 4 ∨ X.kd k = 5 ∨ X.kd k = 7)) :
    Calls Try.prog 26 #[.int .i64 rate, .int .i64 burst, .slice (some ⟨g, 0, none⟩) N cap] w (SpecPost w N (bkTold (bkNew rate burst X N) X)) := by
  obtain ⟨i0, hi, hz0, hz1, hz2⟩ := info_parts info43'
  have HX := Lib.hid hX
  have HI := Lib.hid hin
  clear hX hin
  have hN' : N ≤ 9223372036854775807 := by omega
  by_cases h0 : 0 < N
  · have c0 := (HX.out 0 h0).2.1
    rw [Nat.zero_mul, Nat.zero_add] at c0
    have c1 := fun o => (World.cell?_alloc_lt w o ⟨g, 1, none⟩ (by exact hg)).trans c0
    have hne : ¬ w.heap.size = g := by omega
    have hne' : ¬ g = w.heap.size := by omega
    have hB0 : bkNew rate burst X N = ⟨rate, burst, burst * 512, X.at_ 0, 0⟩ := by unfold bkNew; rw [if_pos h0]
    rw [hB0] at HI ⊢
    clear hB0
    go_enter Try.func26, Try.ntmps26
    go_wp2_with fail
    clear c0 c1
    go_loopw [8, 27] (fun v i wr => ∃ k : Nat, k ≤ N ∧ i = .int .i64 k ∧ SpInv w wr N ⟨rate, burst, burst * 512, X.at_ 0, 0⟩ X k v) (fun _ i _ => N - (intOf i).toNat)
    case atStart =>
      refine ⟨0, Nat.zero_le _, rfl, ?_, by simp, (Blk.new w 56 _).alloc _, ((Below.refl _ _).alloc (Nat.le_refl _) _).alloc (by simp) _⟩
      have := World.ownsRow_made (base := w.heap.size + 1) (e := 43) (size := 3) (w.alloc (.cells #[.int .i64 rate, .int .i64 burst, .int .i64 (burst * 512), .int .i64 (X.at_ 0), .int .i64 0] 56)) #[] 0 (by simp) (by unfold maxLen; omega) rfl
      rwa [World.size_alloc] at this
    case round =>
      obtain ⟨k, hk, rfl, inv⟩ := hrel
      by_cases hlt : k < N
      · obtain ⟨s0, s1, s2⟩ := HX.out k hlt
        obtain ⟨hin, hkd⟩ := HI.out k hlt
        rw [Nat.zero_add] at s0 s1 s2
        have t0 := (World.cell?_of_block (w := w) (a := ⟨g, k * 3, none⟩) (inv.bel.block g hg)).trans s0
        have t1 := (World.cell?_of_block (w := w) (a := ⟨g, k * 3 + 1, none⟩) (inv.bel.block g hg)).trans s1
        have t2 := (World.cell?_of_block (w := w) (a := ⟨g, k * 3 + 2, none⟩) (inv.bel.block g hg)).trans s2
        have hsz := inv.bel.size
        have hbl := inv.buck.lt
        have HS : Hid (Calls Try.prog 35 #[.pointer (some ⟨w.heap.size, 0, none⟩), .agg #[.int .i64 (X.kd k), .int .i64 (X.at_ k), .int .i64 (X.nm k)]] (wr.alloc (.cells #[.int .i64 (X.kd k), .int .i64 (X.at_ k), .int .i64 (X.nm k)] 34)) (StepPost (wr.alloc (.cells #[.int .i64 (X.kd k), .int .i64 (X.at_ k), .int .i64 (X.nm k)] 34)) w.heap.size (bkN ⟨rate, burst, burst * 512, X.at_ 0, 0⟩ X (k + 1)) (bkTold ⟨rate, burst, burst * 512, X.at_ 0, 0⟩ X k))) := Lib.hid (step_any w.heap.size (bkN ⟨rate, burst, burst * 512, X.at_ 0, 0⟩ X k) (X.kd k) (X.at_ k) (X.nm k) (wr.alloc (.cells #[.int .i64 (X.kd k), .int .i64 (X.at_ k), .int .i64 (X.nm k)] 34)) (inv.buck.alloc _) hin hkd)
        have INV := Lib.hid inv
        clear inv s0 s1 s2 hin hkd
        go_wp2_with fail
        refine HS.out.mono ?_; rintro e w3 ⟨rfl, hb3, hg3⟩
        have hg3' : wr.grownBy w3 (some w.heap.size) := turn_trans (turn_alloc (turn_refl wr _) _) hg3
        have hown := own_turned INV.out.own hg3'
        have hz3 := hg3'.size
        have c1 := cell_three_new w3 (.bool (bkTold ⟨rate, burst, burst * 512, X.at_ 0, 0⟩ X k).ok) (.int .i64 (bkTold ⟨rate, burst, burst * 512, X.at_ 0, 0⟩ X k).delay) (.float .f64 (bkTold ⟨rate, burst, burst * 512, X.at_ 0, 0⟩ X k).tok) 43
        have C1 := Lib.hid c1
        have HB3 := Lib.hid hb3
        have HG3 := Lib.hid hg3'
        clear c1 t0 t1 t2 hb3 hg3 hg3' HS
        unfold Tl.val
        go_wp2_with (at_builtin; refine wpList_append_own _ rfl (.tmp 31) (.tmp 34) 37 rfl (w.heap.size + 1) 43 i0 (.agg #[.bool false, .int .i64 0, .float .f64 0]) 3 24 Try.underlying37 hi hz0 hz1 hz2 rfl (by decide) _ _ _ rfl (hown.alloc _) ⟨w3.heap.size, 0, none⟩ 1 1 [.bool (bkTold ⟨rate, burst, burst * 512, X.at_ 0, 0⟩ X k).ok, .int .i64 (bkTold ⟨rate, burst, burst * 512, X.at_ 0, 0⟩ X k).delay, .float .f64 (bkTold ⟨rate, burst, burst * 512, X.at_ 0, 0⟩ X k).tok] rfl rfl C1.out (by intro u hu; simp at hu; rcases hu with rfl | rfl | rfl <;> rfl) (by unfold maxLen; omega) (by omega) (by simp; omega) ?_; intro v1 w4 hown1 hgrow1 hnil1)
        go_roundw
        case rel =>
          have hvb := fun j hj => (hown.lt j hj).1
          refine ⟨k + 1, by omega, by go_num, hown1, fun hh => absurd (hnil1.1 hh).2 (by decide), ?_, ?_⟩
          · exact (HB3.out.alloc _).turned hgrow1 (fun he => by have := hvb _ he.symm; omega)
          · refine Below.grown (Below.alloc (INV.out.bel.trans ⟨HG3.out.os, HG3.out.tape, HG3.out.output, HG3.out.size, fun i hi => HG3.out.block i (by omega) (fun he => by injection he with he; omega)⟩) (by omega) _) hgrow1 (by simp; omega) (fun j hj => by have := hvb j hj; omega)
        case measure => simp [intOf]; omega
      · have hkN : k = N := by omega
        subst hkN
        go_wp2_with fail
        go_ret
        rcases inv.own.2 with ⟨h, _⟩ | ⟨g', cap', cur, rfl, hbg, hg', _⟩
        · exact absurd h inv.nn
        · exact ⟨g', cap', rfl, by omega, (inv.own.lt g' rfl).2, says_own inv.own, inv.bel⟩
  · have hN0 : N = 0 := by omega
    subst hN0
    have hB0 : bkNew rate burst X 0 = ⟨rate, burst, burst * 512, 0, 0⟩ := rfl
    rw [hB0] at HI ⊢
    clear hB0
    go_enter Try.func26, Try.ntmps26
    go_wp2_with fail
    go_loopw [8, 27] (fun v i wr => i = .int .i64 0 ∧ SpInv w wr 0 ⟨rate, burst, burst * 512, 0, 0⟩ X 0 v) (fun _ i _ => 0 - (intOf i).toNat)
    case atStart =>
      refine ⟨rfl, ?_, by simp, (Blk.new w 56 _).alloc _, ((Below.refl _ _).alloc (Nat.le_refl _) _).alloc (by simp) _⟩
      have := World.ownsRow_made (base := w.heap.size + 1) (e := 43) (size := 3) (w.alloc (.cells #[.int .i64 rate, .int .i64 burst, .int .i64 (burst * 512), .int .i64 0, .int .i64 0] 56)) #[] 0 (by simp) (by unfold maxLen; omega) rfl
      rwa [World.size_alloc] at this
    case round =>
      obtain ⟨rfl, inv⟩ := hrel
      go_wp2_with fail
      go_ret
      rcases inv.own.2 with ⟨h, _⟩ | ⟨g', cap', cur, rfl, hbg, hg', _⟩
      · exact absurd h inv.nn
      · exact ⟨g', cap', rfl, by omega, (inv.own.lt g' rfl).2, says_own inv.own, inv.bel⟩

end Go.Proofs.Ytndkiphlpddbaaa
