/- The walk of the law FnCancelLate. No condition. -/
import Derived.Test.YtndkiphlpddbaaaTr2
import Derived.Test.YtndkiphlpddbaaaPw
import Derived.BigQuiet
import Derived.Deep.QuietTactic
namespace Go.Proofs.Ytndkiphlpddbaaa
open Go.RowKit Go.Deep Flt

namespace Late
/-- The three scripts. -/
def X1 (burst n : Int) : Scr := ⟨fun _ => 1, fun _ => 0, fun k => if k = 0 then burst else n⟩
def X2 (c : Int) (m : Int) (burst n late lm : Int) : Scr :=
  ⟨fun k => if k < 2 then 1 else if k = 3 then c else 2, fun k => if k < 2 then 0 else if k < 4 then late else lm, fun k => if k = 0 then burst else if k = 1 then n else if k = 3 then m else 0⟩

def s2 (rate burst n : Int) : St := takes (takes (St.new rate burst) 0 burst) 0 n
def dl (rate burst n : Int) : Int := waitOf (takes (St.new rate burst) 0 burst) 0 n

theorem st_x1 (rate burst n : Int) : stN (St.new rate burst) (X1 burst n) 1 = takes (St.new rate burst) 0 burst := by
  show stepSt (St.new rate burst) 1 0 burst = _
  unfold stepSt
  simp only [show ¬ (1 : Int) = 0 from by decide, if_false, if_true]
  rw [if_pos (show burst ≤ (St.new rate burst).burst from Int.le_refl _)]

theorem st_x2 (c m rate burst n late lm : Int) (hn : n ≤ burst) : stN (St.new rate burst) (X2 c m burst n late lm) 2 = s2 rate burst n := by
  show stepSt (stepSt (St.new rate burst) 1 0 burst) 1 0 n = _
  unfold stepSt s2
  simp only [show ¬ (1 : Int) = 0 from by decide, if_false, if_true]
  rw [if_pos (show burst ≤ (St.new rate burst).burst from Int.le_refl _), if_pos (show n ≤ (takes (St.new rate burst) 0 burst).burst from hn)]

theorem st_x2' (c m rate burst n late lm : Int) (hn : n ≤ burst) (hc : c = 2 ∨ c = 5) : stN (St.new rate burst) (X2 c m burst n late lm) 4 = s2 rate burst n := by
  show stepSt (stepSt (stN (St.new rate burst) (X2 c m burst n late lm) 2) 2 late 0) c late m = _
  rw [st_x2 c m rate burst n late lm hn]
  rcases hc with rfl | rfl <;> simp [stepSt]

theorem fit1 (rate burst : Int) (r0 : 0 < rate) (r1 : rate ≤ 1000) (b0 : 1 ≤ burst) (b1 : burst ≤ 64) : (takes (St.new rate burst) 0 burst).Fit 0 1 :=
  fit_takes (new_fit rate burst 0 r0 r1 (by omega) b1 (by decide) (by decide)) burst (by omega) (Int.le_refl _) (by omega)

theorem dl_bounds (rate burst n : Int) (r0 : 0 < rate) (r1 : rate ≤ 1000) (b0 : 1 ≤ burst) (b1 : burst ≤ 64) (n1 : n ≤ burst) : 0 ≤ dl rate burst n ∧ dl rate burst n ≤ 16384000000000 :=
  wait_bounds (fit1 rate burst r0 r1 b0 b1).ok (by omega)

theorem self_eq (rate burst n : Int) (r0 : 0 < rate) (r1 : rate ≤ 1000) (b0 : 1 ≤ burst) (b1 : burst ≤ 64) (n0 : 1 ≤ n) (n1 : n ≤ burst) (t : Int) (t0 : 0 ≤ t) (t1 : t ≤ 16777216) :
    (FloatKind.f64.format.order (G (-9) ((s2 rate burst n).fill t)) (G (-9) ((s2 rate burst n).fill t)) == some Ordering.eq) = true := by
  have hf := (fit_takes (fit1 rate burst r0 r1 b0 b1) n (by omega) n1 (by omega)).ok.later t0 t1
  have hb := hf.fill_bounds
  have := order_G (-9) ((s2 rate burst n).fill t) ((s2 rate burst n).fill t) (by unfold s2; omega) (by unfold s2; omega) (by decide) (by decide)
  rw [show FloatKind.f64.format.order (G (-9) ((s2 rate burst n).fill t)) (G (-9) ((s2 rate burst n).fill t)) = _ from this]
  simp

section
variable (rate burst n : Int) (r0 : 0 < rate) (r1 : rate ≤ 1000) (b0 : 1 ≤ burst) (b1 : burst ≤ 64) (n0 : 1 ≤ n) (n1 : n ≤ burst)
include r0 r1 b0 b1 n0 n1

def FirstPost (w : World) (d : Int) (e : Ending) (w' : World) : Prop :=
  ∃ OB, e = .returned (.slice (some ⟨OB, 0, none⟩) 2 2) ∧ w.heap.size ≤ OB ∧ OB < w'.heap.size ∧ w'.cell? ⟨OB, 3, none⟩ = some (.bool true) ∧ w'.cell? ⟨OB, 4, none⟩ = some (.int .i64 d) ∧ Below w.heap.size w w'

theorem first_run (w : World) (g : Nat) (hg : Blk w g 26 #[.int .i64 1, .int .i64 0, .int .i64 burst, .int .i64 1, .int .i64 0, .int .i64 n]) :
    Calls Try.prog 22 #[.int .i64 rate, .int .i64 burst, .slice (some ⟨g, 0, none⟩) 2 2] w (FirstPost w (dl rate burst n)) := by
  have hX : PlainScr (X1 burst n) 2 := by
    refine ⟨fun k hk => ?_, fun _ _ => by show (0 : Int) ≤ 0; omega, fun _ _ => by show (0 : Int) ≤ _; omega, fun _ _ => by show (0 : Int) ≤ 0; omega⟩
    refine .inr (.inl ⟨rfl, ?_⟩)
    show 0 ≤ (if k = 0 then burst else n) ∧ (if k = 0 then burst else n) ≤ 1000
    split <;> omega
  refine (Run_plain g 0 2 2 rate burst (X1 burst n) w _ hX (by omega) r0 r1 (by omega) b1 (fun _ => ⟨rfl, hg.lt⟩) ?_).mono ?_
  · intro k hk
    have : k = 0 ∨ k = 1 := by omega
    rcases this with rfl | rfl
    · exact ⟨hg.cell 0, hg.cell 1, hg.cell 2⟩
    · exact ⟨hg.cell 3, hg.cell 4, hg.cell 5⟩
  · intro e w' ⟨OB, he, h1, h2, h3⟩
    have ht : toldOf (stN (St.new rate burst) (X1 burst n) 1) 1 0 n = ⟨true, dl rate burst n, 0⟩ := by
      rw [st_x1]
      unfold toldOf dl
      simp only [show ¬ (1 : Int) = 0 from by decide, if_false, if_true]
      rw [if_pos (show n ≤ (takes (St.new rate burst) 0 burst).burst from n1)]
    refine ⟨OB, he, h1, h2.lt, ?_, ?_, h3⟩
    · rw [h2.cell (by omega)]
      show some (Tl.cell (toldOf (stN (St.new rate burst) (X1 burst n) 1) 1 0 n) 0) = _
      rw [ht]; rfl
    · rw [h2.cell (by omega)]
      show some (Tl.cell (toldOf (stN (St.new rate burst) (X1 burst n) 1) 1 0 n) 1) = _
      rw [ht]; rfl

def ToldPost (w : World) (x y : Nat) (e : Ending) (w' : World) : Prop :=
  ∃ OB, e = .returned (.slice (some ⟨OB, 0, none⟩) 5 5) ∧ w.heap.size ≤ OB ∧ OB < w'.heap.size ∧ w'.cell? ⟨OB, 8, none⟩ = some (.float .f64 x) ∧ w'.cell? ⟨OB, 14, none⟩ = some (.float .f64 y) ∧ Below w.heap.size w w'

theorem told_run (c m late lm : Int) (hc : c = 2 ∨ (c = 5 ∧ m = 1 ∧ dl rate burst n < late * 1953125)) (l0 : 0 ≤ late) (l1 : late ≤ lm) (l2 : lm ≤ 16777216) (w : World) (g : Nat)
    (hg : Blk w g 26 #[.int .i64 1, .int .i64 0, .int .i64 burst, .int .i64 1, .int .i64 0, .int .i64 n, .int .i64 2, .int .i64 late, .int .i64 0, .int .i64 c, .int .i64 late, .int .i64 m, .int .i64 2, .int .i64 lm, .int .i64 0]) :
    Calls Try.prog 22 #[.int .i64 rate, .int .i64 burst, .slice (some ⟨g, 0, none⟩) 5 5] w (ToldPost w (G (-9) ((s2 rate burst n).fill late)) (G (-9) ((s2 rate burst n).fill lm))) := by
  have e4 := st_x2' c m rate burst n late lm n1 (by rcases hc with h | h; exact .inl h; exact .inr h.1)
  have e2 := st_x2 c m rate burst n late lm n1
  refine (Run_late g 0 5 5 rate burst (X2 c m burst n late lm) w _ ?_ ?_ ?_ ?_ (by omega) r0 r1 (by omega) b1 (fun _ => ⟨rfl, hg.lt⟩) ?_).mono ?_
  · intro k hk
    have : k = 0 ∨ k = 1 ∨ k = 2 ∨ k = 3 ∨ k = 4 := by omega
    rcases this with rfl | rfl | rfl | rfl | rfl
    · exact .inl (.inr (.inl ⟨rfl, by show 0 ≤ burst; omega, by show burst ≤ 1000; omega⟩))
    · exact .inl (.inr (.inl ⟨rfl, by show 0 ≤ n; omega, by show n ≤ 1000; omega⟩))
    · exact .inl (.inr (.inr (.inl rfl)))
    · rcases hc with h | ⟨h, hm, hd⟩
      · exact .inl (.inr (.inr (.inl h)))
      · refine .inr ⟨h, 1, by omega, hm, rfl, by show 0 < n; omega, ?_⟩
        show (resOf (stN (St.new rate burst) (X1 burst n) 1) 0 n).T < tick late
        rw [st_x1]
        unfold resOf
        rw [if_pos (show n ≤ (takes (St.new rate burst) 0 burst).burst from n1)]
        show tick 0 + dl rate burst n < tick late
        unfold tick; omega
    · exact .inl (.inr (.inr (.inl rfl)))
  · intro k hk
    show 0 ≤ (if k < 2 then (0 : Int) else if k < 4 then late else lm)
    split
    · omega
    · split <;> omega
  · intro k hk
    show (if k < 2 then (0 : Int) else if k < 4 then late else lm) ≤ _
    split
    · omega
    · split <;> omega
  · intro k hk
    show (if k < 2 then (0 : Int) else if k < 4 then late else lm) ≤ (if k + 1 < 2 then (0 : Int) else if k + 1 < 4 then late else lm)
    have : k = 0 ∨ k = 1 ∨ k = 2 ∨ k = 3 := by omega
    rcases this with rfl | rfl | rfl | rfl <;> simp <;> omega
  · intro k hk
    have : k = 0 ∨ k = 1 ∨ k = 2 ∨ k = 3 ∨ k = 4 := by omega
    rcases this with rfl | rfl | rfl | rfl | rfl
    · exact ⟨hg.cell 0, hg.cell 1, hg.cell 2⟩
    · exact ⟨hg.cell 3, hg.cell 4, hg.cell 5⟩
    · exact ⟨hg.cell 6, hg.cell 7, hg.cell 8⟩
    · exact ⟨hg.cell 9, hg.cell 10, hg.cell 11⟩
    · exact ⟨hg.cell 12, hg.cell 13, hg.cell 14⟩
  · intro e w' ⟨OB, he, h1, h2, h3⟩
    refine ⟨OB, he, h1, h2.lt, ?_, ?_, h3⟩
    · rw [h2.cell (by omega)]
      show some (Tl.cell (toldOf (stN (St.new rate burst) (X2 c m burst n late lm) 2) 2 late 0) 2) = _
      rw [e2]; rfl
    · rw [h2.cell (by omega)]
      show some (Tl.cell (toldOf (stN (St.new rate burst) (X2 c m burst n late lm) 4) 2 lm 0) 2) = _
      rw [e4]; rfl
end
end Late

set_option maxRecDepth 100000 in
set_option maxHeartbeats 2000000 in
theorem cancelLate_in (rate burst n wait more : Int) (w : World) (hp : powB rate = true) (b0 : 1 ≤ burst) (b1 : burst ≤ 64) (n0 : 1 ≤ n) (n1 : n ≤ burst) (w0 : 0 ≤ wait) (w1 : wait ≤ 65536) (m0 : 0 ≤ more) (m1 : more ≤ 65536) :
    Calls Try.prog 3 #[.int .i64 rate, .int .i64 burst, .int .i64 n, .int .i64 wait, .int .i64 more] w fun e w' => e = .returned (.bool true) ∧ Below w.heap.size w w' := by
  have hb := powB_bounds hp
  have hP := fun w => power_any rate w
  rw [hp] at hP
  have HP := Lib.hid hP
  have H1 := Lib.hid (Late.first_run rate burst n hb.1 (by omega) b0 b1 n0 n1)
  have hdl := Late.dl_bounds rate burst n hb.1 (by omega) b0 b1 n1
  have H2 := Lib.hid (Late.told_run rate burst n hb.1 (by omega) b0 b1 n0 n1)
  generalize Late.dl rate burst n = d at *
  obtain ⟨d0, d1⟩ := hdl
  have R0 : 0 < rate := hb.1
  have R1 : rate ≤ 1000 := by omega
  clear hP hp hb
  go_enter Try.func3, Try.ntmps3
  go_wp2_with (go_at_call 21; refine (HP.out _).mono ?_; rintro e w' ⟨rfl, rfl⟩)
  refine (H1.out _ w.heap.size (Blk.new _ _ _)).mono ?_
  rintro e v1 ⟨O1, rfl, hO0, hO1, c3, c4, hb⟩
  have B1 := Lib.hid (((Below.refl w.heap.size w).alloc (Nat.le_refl _) _).trans (hb.mono (by simp)))
  have z1 : w.heap.size < v1.heap.size := by have := hb.size; simp at this; omega
  clear hb hO0 hO1
  go_wp2_with fail
  refine (H2.out 5 1 (d / 1953125 + 1 + wait) (d / 1953125 + 1 + wait + more) (.inr ⟨rfl, rfl, by omega⟩) (by omega) (by omega) (by omega) _ v1.heap.size (Blk.new _ _ _)).mono ?_
  rintro e v2 ⟨O2, rfl, p0, p1, e8, e14, hb⟩
  have B2 := Lib.hid ((B1.out.alloc (Nat.le_of_lt z1) _).trans (hb.mono (by simp; omega)))
  have S2 := (Blk.new v1 26 _).below hb (by simp)
  have z2 : v1.heap.size < v2.heap.size := S2.lt
  have HS2 := Lib.hid S2
  have k9 := S2.cell 9
  have f9 := S2.free 9
  simp only [List.getElem?_toArray, List.getElem?_cons_zero, List.getElem?_cons_succ] at k9
  have hne : O2 ≠ v1.heap.size := by simp at p0; omega
  have g8 : (v2.setCell ⟨v1.heap.size, 9, none⟩ (.int .i64 2)).cell? ⟨O2, 8, none⟩ = some (.float .f64 (G (-9) ((Late.s2 rate burst n).fill (d / 1953125 + 1 + wait)))) := by
    rw [World.cell?_setCell_other _ _ _ _ (by intro he; injection he with he; exact hne he.symm)]; exact e8
  have g14 : (v2.setCell ⟨v1.heap.size, 9, none⟩ (.int .i64 2)).cell? ⟨O2, 14, none⟩ = some (.float .f64 (G (-9) ((Late.s2 rate burst n).fill (d / 1953125 + 1 + wait + more)))) := by
    rw [World.cell?_setCell_other _ _ _ _ (by intro he; injection he with he; exact hne he.symm)]; exact e14
  have G8 := Lib.hid g8
  have G14 := Lib.hid g14
  clear hb S2 e8 e14 g8 g14 p0
  go_wp2_with fail
  refine (H2.out 2 1 (d / 1953125 + 1 + wait) (d / 1953125 + 1 + wait + more) (.inl rfl) (by omega) (by omega) (by omega) _ v1.heap.size (HS2.out.put 9 (.int .i64 2))).mono ?_
  rintro e v3 ⟨O3, rfl, q0, q1, i8, i14, hb⟩
  have B3 := Lib.hid ((B2.out.setCell (p := ⟨v1.heap.size, 9, none⟩) (Nat.le_of_lt z1) _).trans (hb.mono (by simp [World.setCell]; omega)))
  have j8 := (hb.cell (p := ⟨O2, 8, none⟩) (by simp [World.setCell]; omega)).trans G8.out
  have j14 := (hb.cell (p := ⟨O2, 14, none⟩) (by simp [World.setCell]; omega)).trans G14.out
  clear hb q0 k9 f9 c3 c4
  have o8 := Late.self_eq rate burst n R0 R1 b0 b1 n0 n1 (d / 1953125 + 1 + wait) (by omega) (by omega)
  have o14 := Late.self_eq rate burst n R0 R1 b0 b1 n0 n1 (d / 1953125 + 1 + wait + more) (by omega) (by omega)
  go_wp2_with fail
  go_quiet (fail)
  go_wp2_with fail
  go_ret
  exact ⟨rfl, below_drewN B3.out _⟩

set_option maxHeartbeats 4000000 in
theorem cancelLate_out (rate burst n wait more : Int) (w : World) (h : ¬ (powB rate = true ∧ 1 ≤ burst ∧ burst ≤ 64 ∧ 1 ≤ n ∧ n ≤ burst ∧ 0 ≤ wait ∧ wait ≤ 65536 ∧ 0 ≤ more ∧ more ≤ 65536)) :
    Calls Try.prog 3 #[.int .i64 rate, .int .i64 burst, .int .i64 n, .int .i64 wait, .int .i64 more] w fun e w' => e = .returned (.bool true) ∧ w = w' := by
  have hP := fun w => power_any rate w
  have H := Lib.hid h
  clear h
  cases hp : powB rate
  · rw [hp] at hP
    have HP := Lib.hid hP
    clear hP hp H
    go_enter Try.func3, Try.ntmps3
    go_wp2_with (go_at_call 21; refine (HP.out _).mono ?_; rintro e w' ⟨rfl, rfl⟩)
    go_ret
    exact ⟨rfl, rfl⟩
  · rw [hp] at hP
    have HP := Lib.hid hP
    have h := H.out
    rw [hp] at h
    have H := Lib.hid h
    clear hP hp h
    by_cases b0 : burst < 1
    · go_enter Try.func3, Try.ntmps3
      go_wp2_with (go_at_call 21; refine (HP.out _).mono ?_; rintro e w' ⟨rfl, rfl⟩)
      go_ret
      exact ⟨rfl, rfl⟩
    have b0' : 1 ≤ burst := by omega
    clear b0
    by_cases b1 : 64 < burst
    · go_enter Try.func3, Try.ntmps3
      go_wp2_with (go_at_call 21; refine (HP.out _).mono ?_; rintro e w' ⟨rfl, rfl⟩)
      go_ret
      exact ⟨rfl, rfl⟩
    have b1' : burst ≤ 64 := by omega
    clear b1
    by_cases n0 : n < 1
    · go_enter Try.func3, Try.ntmps3
      go_wp2_with (go_at_call 21; refine (HP.out _).mono ?_; rintro e w' ⟨rfl, rfl⟩)
      go_ret
      exact ⟨rfl, rfl⟩
    have n0' : 1 ≤ n := by omega
    clear n0
    by_cases n1 : burst < n
    · go_enter Try.func3, Try.ntmps3
      go_wp2_with (go_at_call 21; refine (HP.out _).mono ?_; rintro e w' ⟨rfl, rfl⟩)
      go_ret
      exact ⟨rfl, rfl⟩
    have n1' : n ≤ burst := by omega
    clear n1
    by_cases w0 : wait < 0
    · go_enter Try.func3, Try.ntmps3
      go_wp2_with (go_at_call 21; refine (HP.out _).mono ?_; rintro e w' ⟨rfl, rfl⟩)
      go_ret
      exact ⟨rfl, rfl⟩
    have w0' : 0 ≤ wait := by omega
    clear w0
    by_cases w1 : 65536 < wait
    · go_enter Try.func3, Try.ntmps3
      go_wp2_with (go_at_call 21; refine (HP.out _).mono ?_; rintro e w' ⟨rfl, rfl⟩)
      go_ret
      exact ⟨rfl, rfl⟩
    have w1' : wait ≤ 65536 := by omega
    clear w1
    by_cases m0 : more < 0
    · go_enter Try.func3, Try.ntmps3
      go_wp2_with (go_at_call 21; refine (HP.out _).mono ?_; rintro e w' ⟨rfl, rfl⟩)
      go_ret
      exact ⟨rfl, rfl⟩
    have m0' : 0 ≤ more := by omega
    clear m0
    by_cases m1 : 65536 < more
    · go_enter Try.func3, Try.ntmps3
      go_wp2_with (go_at_call 21; refine (HP.out _).mono ?_; rintro e w' ⟨rfl, rfl⟩)
      go_ret
      exact ⟨rfl, rfl⟩
    exact absurd ⟨rfl, b0', b1', n0', n1', w0', w1', m0', by omega⟩ H.out

theorem cancelLate_any (rate burst n wait more : Int) (w : World) :
    Calls Try.prog 3 #[.int .i64 rate, .int .i64 burst, .int .i64 n, .int .i64 wait, .int .i64 more] w fun e w' => e = .returned (.bool true) ∧ Below w.heap.size w w' := by
  by_cases h : powB rate = true ∧ 1 ≤ burst ∧ burst ≤ 64 ∧ 1 ≤ n ∧ n ≤ burst ∧ 0 ≤ wait ∧ wait ≤ 65536 ∧ 0 ≤ more ∧ more ≤ 65536
  · obtain ⟨h1, h2, h3, h4, h5, h6, h7, h8, h9⟩ := h
    exact cancelLate_in rate burst n wait more w h1 h2 h3 h4 h5 h6 h7 h8 h9
  · exact (cancelLate_out rate burst n wait more w h).mono fun e w' ⟨he, hw⟩ => ⟨he, hw ▸ Below.refl _ _⟩

end Go.Proofs.Ytndkiphlpddbaaa
