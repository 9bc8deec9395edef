/- spec.Good: what it says where it says yes. (Printed by wip/tools/gengood.py.) -/
import Derived.Test.YtndkiphlpddbaaaSpO
import Derived.Test.YtndkiphlpddbaaaPw
namespace Go.Proofs.Ytndkiphlpddbaaa
open Go.RowKit Go.Deep Flt

/-- What Good asks of a step. -/
structure GoodStep (X : Scr) (k : Nat) : Prop where
  lo : 0 ≤ X.at_ k
  hi : X.at_ k ≤ 65536
  up : 0 < k → X.at_ (k - 1) ≤ X.at_ k
  n0 : 0 ≤ X.nm k
  n1 : X.nm k ≤ 100
  kind : (X.kd k = 0 ∧ 1 ≤ X.nm k) ∨ (X.kd k = 1 ∧ 1 ≤ X.nm k) ∨ X.kd k = 2 ∨ (X.kd k = 3 ∧ powB (X.nm k) = true) ∨ (X.kd k = 4 ∧ X.nm k ≤ 64) ∨
    (X.kd k = 5 ∧ 0 < k ∧ X.nm k = (k : Int) - 1 ∧ X.kd (k - 1) = 1 ∧ X.at_ (k - 1) = X.at_ k) ∨ X.kd k = 7

structure GoodP (rate burst : Int) (X : Scr) (N : Nat) : Prop where
  pow : powB rate = true
  b0 : 0 ≤ burst
  b1 : burst ≤ 64
  n : N ≤ 40
  step : ∀ k, k < N → GoodStep X k

set_option maxRecDepth 100000 in
set_option maxHeartbeats 4000000 in
theorem good_out (g N cap : Nat) (rate burst : Int) (X : Scr) (w : World) (h : ¬ (powB rate = true ∧ 0 ≤ burst ∧ burst ≤ 64 ∧ N ≤ 40)) :
    Calls Try.prog 24 #[.int .i64 rate, .int .i64 burst, .slice (some ⟨g, 0, none⟩) N cap] w (SaysPost w (GoodP rate burst X N)) := by
  have hP := fun w => power_any rate w
  have H := Lib.hid h
  clear h
  cases hp : powB rate
  · rw [hp] at hP
    have HP := Lib.hid hP
    clear hP hp H
    go_enter Try.func24, Try.ntmps24
    go_wp2_with (go_at_call 21; refine (HP.out _).mono ?_; rintro e w' ⟨rfl, rfl⟩)
    go_ret
    exact ⟨false, rfl, fun h => (by cases h), Below.refl _ _⟩
  · rw [hp] at hP
    have HP := Lib.hid hP
    have h := H.out
    rw [hp] at h
    have H := Lib.hid h
    clear hP hp h
    by_cases b0 : burst < 0
    · go_enter Try.func24, Try.ntmps24
      go_wp2_with (go_at_call 21; refine (HP.out _).mono ?_; rintro e w' ⟨rfl, rfl⟩)
      go_ret
      exact ⟨false, rfl, fun h => (by cases h), Below.refl _ _⟩
    have b0' : 0 ≤ burst := by omega
    clear b0
    by_cases b1 : 64 < burst
    · go_enter Try.func24, Try.ntmps24
      go_wp2_with (go_at_call 21; refine (HP.out _).mono ?_; rintro e w' ⟨rfl, rfl⟩)
      go_ret
      exact ⟨false, rfl, fun h => (by cases h), Below.refl _ _⟩
    have b1' : burst ≤ 64 := by omega
    clear b1
    by_cases n0 : 40 < N
    · have n0' : (40 : Int) < N := by omega
      go_enter Try.func24, Try.ntmps24
      go_wp2_with (go_at_call 21; refine (HP.out _).mono ?_; rintro e w' ⟨rfl, rfl⟩)
      go_ret
      exact ⟨false, rfl, fun h => (by cases h), Below.refl _ _⟩
    exact absurd ⟨rfl, b0', b1', by omega⟩ H.out

set_option maxRecDepth 100000 in
set_option maxHeartbeats 8000000 in
theorem good_in (g N cap : Nat) (rate burst : Int) (X : Scr) (w : World) (hp : powB rate = true) (b0 : 0 ≤ burst) (b1 : burst ≤ 64) (hN : N ≤ 40) (hg : g < w.heap.size) (hX : Lies w X g 0 N) :
    Calls Try.prog 24 #[.int .i64 rate, .int .i64 burst, .slice (some ⟨g, 0, none⟩) N cap] w (SaysPost w (GoodP rate burst X N)) := by
  have hP := fun w => power_any rate w
  rw [hp] at hP
  have HP := Lib.hid hP
  have HX := Lib.hid hX
  have HPW := Lib.hid hp
  have hN' : (N : Int) ≤ 40 := by omega
  clear hX hP hp
  go_enter Try.func24, Try.ntmps24
  go_wp2_with (go_at_call 21; refine (HP.out _).mono ?_; rintro e w' ⟨rfl, rfl⟩)
  go_loopw [27] (fun i wr => ∃ k : Nat, k ≤ N ∧ i = .int .i64 k ∧ Hid (∀ j, j < k → GoodStep X j) ∧ Below w.heap.size w wr) (fun i _ => N - (intOf i).toNat)
  case atStart => exact ⟨0, Nat.zero_le _, rfl, Lib.hid (fun j hj => absurd hj (Nat.not_lt_zero _)), Below.refl _ _⟩
  case round =>
    obtain ⟨k, hk, rfl, HG, hnx⟩ := hrel
    have hsize := hnx.size
    by_cases hlt : k < N
    · obtain ⟨s0, s1, s2⟩ := HX.out k hlt
      rw [Nat.zero_add] at s0 s1 s2
      have t0 := (World.cell?_of_block (w := w) (a := ⟨g, k * 3, none⟩) (hnx.block g hg)).trans s0
      have t1 := (World.cell?_of_block (w := w) (a := ⟨g, k * 3 + 1, none⟩) (hnx.block g hg)).trans s1
      have t2 := (World.cell?_of_block (w := w) (a := ⟨g, k * 3 + 2, none⟩) (hnx.block g hg)).trans s2
      clear s0 s1 s2
      have NX := Lib.hid hnx
      have e1 : ¬ wr.heap.size = g := by omega
      have e2 : ¬ g = wr.heap.size := by omega
      have hbl := hnx.block
      clear hnx
      cases k with
      | zero =>
        clear hbl
        by_cases c : X.at_ 0 < 0
        · have d1 : decide (X.at_ 0 < 0) = true := decide_eq_true c
          go_wp2_with fail
          go_quiet (fail)
          go_wp2_with fail
          go_ret
          exact ⟨false, rfl, fun h => (by cases h), below_drewN (NX.out.alloc (by omega) _) _⟩
        have a0 : 0 ≤ X.at_ 0 := by omega
        have d1 : decide (X.at_ 0 < 0) = false := decide_eq_false c
        clear c
        by_cases c : 65536 < X.at_ 0
        · have d2 : decide (65536 < X.at_ 0) = true := decide_eq_true c
          go_wp2_with fail
          go_quiet (fail)
          go_wp2_with fail
          go_ret
          exact ⟨false, rfl, fun h => (by cases h), below_drewN (NX.out.alloc (by omega) _) _⟩
        have a1 : X.at_ 0 ≤ 65536 := by omega
        have d2 : decide (65536 < X.at_ 0) = false := decide_eq_false c
        clear c
        by_cases c : X.nm 0 < 0
        · have d4 : decide (X.nm 0 < 0) = true := decide_eq_true c
          go_wp2_with fail
          go_quiet (fail)
          go_wp2_with fail
          go_ret
          exact ⟨false, rfl, fun h => (by cases h), below_drewN (NX.out.alloc (by omega) _) _⟩
        have m0 : 0 ≤ X.nm 0 := by omega
        have d4 : decide (X.nm 0 < 0) = false := decide_eq_false c
        clear c
        by_cases c : 100 < X.nm 0
        · have d5 : decide (100 < X.nm 0) = true := decide_eq_true c
          go_wp2_with fail
          go_quiet (fail)
          go_wp2_with fail
          go_ret
          exact ⟨false, rfl, fun h => (by cases h), below_drewN (NX.out.alloc (by omega) _) _⟩
        have m1 : X.nm 0 ≤ 100 := by omega
        have d5 : decide (100 < X.nm 0) = false := decide_eq_false c
        clear c
        by_cases q0 : X.kd 0 = 0
        · rw [q0] at t0
          by_cases c : X.nm 0 < 1
          · have d6 : decide (X.nm 0 < 1) = true := decide_eq_true c
            go_wp2_with fail
            go_quiet (fail)
            go_wp2_with fail
            go_ret
            exact ⟨false, rfl, fun h => (by cases h), below_drewN (NX.out.alloc (by omega) _) _⟩
          · have d6 : decide (X.nm 0 < 1) = false := decide_eq_false c
            go_wp2_with fail
            go_quiet (fail)
            go_wp2_with fail
            go_roundw
            case rel =>
              refine ⟨1, by omega, by go_num, Lib.hid fun i hi => ?_, below_drewN (NX.out.alloc (by omega) _) _⟩
              by_cases hi' : i < 0
              · exact HG.out i hi'
              · have : i = 0 := by omega
                subst this
                exact ⟨a0, a1, fun h => absurd h (by omega), m0, m1, .inl ⟨q0, by omega⟩⟩
            case measure => simp [intOf]; omega
        by_cases q1 : X.kd 0 = 1
        · rw [q1] at t0
          by_cases c : X.nm 0 < 1
          · have d6 : decide (X.nm 0 < 1) = true := decide_eq_true c
            go_wp2_with fail
            go_quiet (fail)
            go_wp2_with fail
            go_ret
            exact ⟨false, rfl, fun h => (by cases h), below_drewN (NX.out.alloc (by omega) _) _⟩
          · have d6 : decide (X.nm 0 < 1) = false := decide_eq_false c
            go_wp2_with fail
            go_quiet (fail)
            go_wp2_with fail
            go_roundw
            case rel =>
              refine ⟨1, by omega, by go_num, Lib.hid fun i hi => ?_, below_drewN (NX.out.alloc (by omega) _) _⟩
              by_cases hi' : i < 0
              · exact HG.out i hi'
              · have : i = 0 := by omega
                subst this
                exact ⟨a0, a1, fun h => absurd h (by omega), m0, m1, .inr (.inl ⟨q1, by omega⟩)⟩
            case measure => simp [intOf]; omega
        by_cases q2 : X.kd 0 = 2
        · rw [q2] at t0
          go_wp2_with fail
          go_quiet (fail)
          go_wp2_with fail
          go_roundw
          case rel =>
            refine ⟨1, by omega, by go_num, Lib.hid fun i hi => ?_, below_drewN (NX.out.alloc (by omega) _) _⟩
            by_cases hi' : i < 0
            · exact HG.out i hi'
            · have : i = 0 := by omega
              subst this
              exact ⟨a0, a1, fun h => absurd h (by omega), m0, m1, .inr (.inr (.inl q2))⟩
          case measure => simp [intOf]; omega
        by_cases q3 : X.kd 0 = 3
        · rw [q3] at t0
          have hP3 := fun w => power_any (X.nm 0) w
          cases c : powB (X.nm 0)
          · rw [c] at hP3
            have HP3 := Lib.hid hP3
            clear hP3
            go_wp2_with fail
            go_quiet (fail)
            go_wp2_with (go_at_call 21; refine (HP3.out _).mono ?_; rintro e w' ⟨rfl, rfl⟩)
            go_ret
            exact ⟨false, rfl, fun h => (by cases h), below_drewN (NX.out.alloc (by omega) _) _⟩
          · rw [c] at hP3
            have HP3 := Lib.hid hP3
            clear hP3
            go_wp2_with fail
            go_quiet (fail)
            go_wp2_with (go_at_call 21; refine (HP3.out _).mono ?_; rintro e w' ⟨rfl, rfl⟩)
            go_roundw
            case rel =>
              refine ⟨1, by omega, by go_num, Lib.hid fun i hi => ?_, below_drewN (NX.out.alloc (by omega) _) _⟩
              by_cases hi' : i < 0
              · exact HG.out i hi'
              · have : i = 0 := by omega
                subst this
                exact ⟨a0, a1, fun h => absurd h (by omega), m0, m1, .inr (.inr (.inr (.inl ⟨q3, c⟩)))⟩
            case measure => simp [intOf]; omega
        by_cases q4 : X.kd 0 = 4
        · rw [q4] at t0
          by_cases c : 64 < X.nm 0
          · have d6 : decide (64 < X.nm 0) = true := decide_eq_true c
            go_wp2_with fail
            go_quiet (fail)
            go_wp2_with fail
            go_ret
            exact ⟨false, rfl, fun h => (by cases h), below_drewN (NX.out.alloc (by omega) _) _⟩
          · have d6 : decide (64 < X.nm 0) = false := decide_eq_false c
            go_wp2_with fail
            go_quiet (fail)
            go_wp2_with fail
            go_roundw
            case rel =>
              refine ⟨1, by omega, by go_num, Lib.hid fun i hi => ?_, below_drewN (NX.out.alloc (by omega) _) _⟩
              by_cases hi' : i < 0
              · exact HG.out i hi'
              · have : i = 0 := by omega
                subst this
                exact ⟨a0, a1, fun h => absurd h (by omega), m0, m1, .inr (.inr (.inr (.inr (.inl ⟨q4, by omega⟩))))⟩
            case measure => simp [intOf]; omega
        by_cases q5 : X.kd 0 = 5
        · rw [q5] at t0
          go_wp2_with fail
          go_quiet (fail)
          go_wp2_with fail
          go_quiet (fail)
          go_wp2_with fail
          go_ret
          exact ⟨false, rfl, fun h => (by cases h), below_drewN (below_drewN (NX.out.alloc (by omega) _) _) _⟩
        by_cases q7 : X.kd 0 = 7
        · rw [q7] at t0
          go_wp2_with fail
          go_quiet (fail)
          go_wp2_with fail
          go_roundw
          case rel =>
            refine ⟨1, by omega, by go_num, Lib.hid fun i hi => ?_, below_drewN (NX.out.alloc (by omega) _) _⟩
            by_cases hi' : i < 0
            · exact HG.out i hi'
            · have : i = 0 := by omega
              subst this
              exact ⟨a0, a1, fun h => absurd h (by omega), m0, m1, .inr (.inr (.inr (.inr (.inr (.inr q7)))))⟩
          case measure => simp [intOf]; omega
        go_wp2_with fail
        go_quiet (fail)
        go_wp2_with fail
        go_ret
        exact ⟨false, rfl, fun h => (by cases h), below_drewN (NX.out.alloc (by omega) _) _⟩
      | succ j =>
        obtain ⟨p0, p1, _⟩ := HX.out j (by omega)
        rw [Nat.zero_add] at p0 p1
        have r0 := (World.cell?_of_block (w := w) (a := ⟨g, j * 3, none⟩) (hbl g hg)).trans p0
        have r1 := (World.cell?_of_block (w := w) (a := ⟨g, j * 3 + 1, none⟩) (hbl g hg)).trans p1
        have y0 := fun o => (World.cell?_alloc_lt wr o ⟨g, j * 3, none⟩ (by show g < _; omega)).trans r0
        have y1 := fun o => (World.cell?_alloc_lt wr o ⟨g, j * 3 + 1, none⟩ (by show g < _; omega)).trans r1
        have hj0 : (0 : Int) < (j : Int) + 1 := by omega
        clear p0 p1 r0 r1 hbl
        by_cases c : X.at_ (j + 1) < 0
        · have d1 : decide (X.at_ (j + 1) < 0) = true := decide_eq_true c
          go_wp2_with fail
          go_quiet (fail)
          go_wp2_with fail
          go_ret
          exact ⟨false, rfl, fun h => (by cases h), below_drewN (NX.out.alloc (by omega) _) _⟩
        have a0 : 0 ≤ X.at_ (j + 1) := by omega
        have d1 : decide (X.at_ (j + 1) < 0) = false := decide_eq_false c
        clear c
        by_cases c : 65536 < X.at_ (j + 1)
        · have d2 : decide (65536 < X.at_ (j + 1)) = true := decide_eq_true c
          go_wp2_with fail
          go_quiet (fail)
          go_wp2_with fail
          go_ret
          exact ⟨false, rfl, fun h => (by cases h), below_drewN (NX.out.alloc (by omega) _) _⟩
        have a1 : X.at_ (j + 1) ≤ 65536 := by omega
        have d2 : decide (65536 < X.at_ (j + 1)) = false := decide_eq_false c
        clear c
        by_cases c : X.at_ (j + 1) < X.at_ j
        · have d3 : decide (X.at_ (j + 1) < X.at_ j) = true := decide_eq_true c
          go_wp2_with fail
          go_quiet (fail)
          go_wp2_with fail
          go_ret
          exact ⟨false, rfl, fun h => (by cases h), below_drewN (NX.out.alloc (by omega) _) _⟩
        have a2 : X.at_ j ≤ X.at_ (j + 1) := by omega
        have d3 : decide (X.at_ (j + 1) < X.at_ j) = false := decide_eq_false c
        clear c
        by_cases c : X.nm (j + 1) < 0
        · have d4 : decide (X.nm (j + 1) < 0) = true := decide_eq_true c
          go_wp2_with fail
          go_quiet (fail)
          go_wp2_with fail
          go_ret
          exact ⟨false, rfl, fun h => (by cases h), below_drewN (NX.out.alloc (by omega) _) _⟩
        have m0 : 0 ≤ X.nm (j + 1) := by omega
        have d4 : decide (X.nm (j + 1) < 0) = false := decide_eq_false c
        clear c
        by_cases c : 100 < X.nm (j + 1)
        · have d5 : decide (100 < X.nm (j + 1)) = true := decide_eq_true c
          go_wp2_with fail
          go_quiet (fail)
          go_wp2_with fail
          go_ret
          exact ⟨false, rfl, fun h => (by cases h), below_drewN (NX.out.alloc (by omega) _) _⟩
        have m1 : X.nm (j + 1) ≤ 100 := by omega
        have d5 : decide (100 < X.nm (j + 1)) = false := decide_eq_false c
        clear c
        by_cases q0 : X.kd (j + 1) = 0
        · rw [q0] at t0
          by_cases c : X.nm (j + 1) < 1
          · have d6 : decide (X.nm (j + 1) < 1) = true := decide_eq_true c
            go_wp2_with fail
            go_quiet (fail)
            go_wp2_with fail
            go_ret
            exact ⟨false, rfl, fun h => (by cases h), below_drewN (NX.out.alloc (by omega) _) _⟩
          · have d6 : decide (X.nm (j + 1) < 1) = false := decide_eq_false c
            go_wp2_with fail
            go_quiet (fail)
            go_wp2_with fail
            go_roundw
            case rel =>
              refine ⟨j + 1 + 1, by omega, by go_num, Lib.hid fun i hi => ?_, below_drewN (NX.out.alloc (by omega) _) _⟩
              by_cases hi' : i < (j + 1)
              · exact HG.out i hi'
              · have : i = (j + 1) := by omega
                subst this
                exact ⟨a0, a1, fun _ => a2, m0, m1, .inl ⟨q0, by omega⟩⟩
            case measure => simp [intOf]; omega
        by_cases q1 : X.kd (j + 1) = 1
        · rw [q1] at t0
          by_cases c : X.nm (j + 1) < 1
          · have d6 : decide (X.nm (j + 1) < 1) = true := decide_eq_true c
            go_wp2_with fail
            go_quiet (fail)
            go_wp2_with fail
            go_ret
            exact ⟨false, rfl, fun h => (by cases h), below_drewN (NX.out.alloc (by omega) _) _⟩
          · have d6 : decide (X.nm (j + 1) < 1) = false := decide_eq_false c
            go_wp2_with fail
            go_quiet (fail)
            go_wp2_with fail
            go_roundw
            case rel =>
              refine ⟨j + 1 + 1, by omega, by go_num, Lib.hid fun i hi => ?_, below_drewN (NX.out.alloc (by omega) _) _⟩
              by_cases hi' : i < (j + 1)
              · exact HG.out i hi'
              · have : i = (j + 1) := by omega
                subst this
                exact ⟨a0, a1, fun _ => a2, m0, m1, .inr (.inl ⟨q1, by omega⟩)⟩
            case measure => simp [intOf]; omega
        by_cases q2 : X.kd (j + 1) = 2
        · rw [q2] at t0
          go_wp2_with fail
          go_quiet (fail)
          go_wp2_with fail
          go_roundw
          case rel =>
            refine ⟨j + 1 + 1, by omega, by go_num, Lib.hid fun i hi => ?_, below_drewN (NX.out.alloc (by omega) _) _⟩
            by_cases hi' : i < (j + 1)
            · exact HG.out i hi'
            · have : i = (j + 1) := by omega
              subst this
              exact ⟨a0, a1, fun _ => a2, m0, m1, .inr (.inr (.inl q2))⟩
          case measure => simp [intOf]; omega
        by_cases q3 : X.kd (j + 1) = 3
        · rw [q3] at t0
          have hP3 := fun w => power_any (X.nm (j + 1)) w
          cases c : powB (X.nm (j + 1))
          · rw [c] at hP3
            have HP3 := Lib.hid hP3
            clear hP3
            go_wp2_with fail
            go_quiet (fail)
            go_wp2_with (go_at_call 21; refine (HP3.out _).mono ?_; rintro e w' ⟨rfl, rfl⟩)
            go_ret
            exact ⟨false, rfl, fun h => (by cases h), below_drewN (NX.out.alloc (by omega) _) _⟩
          · rw [c] at hP3
            have HP3 := Lib.hid hP3
            clear hP3
            go_wp2_with fail
            go_quiet (fail)
            go_wp2_with (go_at_call 21; refine (HP3.out _).mono ?_; rintro e w' ⟨rfl, rfl⟩)
            go_roundw
            case rel =>
              refine ⟨j + 1 + 1, by omega, by go_num, Lib.hid fun i hi => ?_, below_drewN (NX.out.alloc (by omega) _) _⟩
              by_cases hi' : i < (j + 1)
              · exact HG.out i hi'
              · have : i = (j + 1) := by omega
                subst this
                exact ⟨a0, a1, fun _ => a2, m0, m1, .inr (.inr (.inr (.inl ⟨q3, c⟩)))⟩
            case measure => simp [intOf]; omega
        by_cases q4 : X.kd (j + 1) = 4
        · rw [q4] at t0
          by_cases c : 64 < X.nm (j + 1)
          · have d6 : decide (64 < X.nm (j + 1)) = true := decide_eq_true c
            go_wp2_with fail
            go_quiet (fail)
            go_wp2_with fail
            go_ret
            exact ⟨false, rfl, fun h => (by cases h), below_drewN (NX.out.alloc (by omega) _) _⟩
          · have d6 : decide (64 < X.nm (j + 1)) = false := decide_eq_false c
            go_wp2_with fail
            go_quiet (fail)
            go_wp2_with fail
            go_roundw
            case rel =>
              refine ⟨j + 1 + 1, by omega, by go_num, Lib.hid fun i hi => ?_, below_drewN (NX.out.alloc (by omega) _) _⟩
              by_cases hi' : i < (j + 1)
              · exact HG.out i hi'
              · have : i = (j + 1) := by omega
                subst this
                exact ⟨a0, a1, fun _ => a2, m0, m1, .inr (.inr (.inr (.inr (.inl ⟨q4, by omega⟩))))⟩
            case measure => simp [intOf]; omega
        by_cases q5 : X.kd (j + 1) = 5
        · rw [q5] at t0
          have hz : ((j : Int) + 1 == 0) = false := beq_eq_false_iff_ne.mpr (by omega)
          by_cases c1 : X.nm (j + 1) = (j : Int)
          · have d6 : (X.nm (j + 1) != (j : Int)) = false := (by simp [c1]); have C1 := Lib.hid c1; clear c1
            by_cases c2 : X.kd j = 1
            · have d7 : (X.kd j != 1) = false := (by simp [c2]); have C2 := Lib.hid c2; clear c2
              by_cases c3 : X.at_ j = X.at_ (j + 1)
              · have d8 : (X.at_ j != X.at_ (j + 1)) = false := (by simp [c3]); have C3 := Lib.hid c3; clear c3
                go_wp2_with fail
                go_quiet (fail)
                go_wp2_with fail
                go_quiet (fail)
                go_wp2_with fail
                go_roundw
                case rel =>
                  refine ⟨j + 1 + 1, by omega, by go_num, Lib.hid fun i hi => ?_, by first | exact below_drewN (NX.out.alloc (by omega) _) _ | exact below_drewN (below_drewN (NX.out.alloc (by omega) _) _) _⟩
                  by_cases hi' : i < (j + 1)
                  · exact HG.out i hi'
                  · have : i = (j + 1) := by omega
                    subst this
                    exact ⟨a0, a1, fun _ => a2, m0, m1, .inr (.inr (.inr (.inr (.inr (.inl ⟨q5, by omega, by have := C1.out; omega, C2.out, C3.out⟩)))))⟩
                case measure => simp [intOf]; omega
              · have d8 : (X.at_ j != X.at_ (j + 1)) = true := (by simp [c3]); have C3 := Lib.hid c3; clear c3
                go_wp2_with fail
                go_quiet (fail)
                go_wp2_with fail
                go_quiet (fail)
                go_wp2_with fail
                go_ret
                exact ⟨false, rfl, fun h => (by cases h), below_drewN (below_drewN (NX.out.alloc (by omega) _) _) _⟩
            · have d7 : (X.kd j != 1) = true := (by simp [c2]); have C2 := Lib.hid c2; clear c2
              go_wp2_with fail
              go_quiet (fail)
              go_wp2_with fail
              go_quiet (fail)
              go_wp2_with fail
              go_ret
              exact ⟨false, rfl, fun h => (by cases h), below_drewN (below_drewN (NX.out.alloc (by omega) _) _) _⟩
          · have d6 : (X.nm (j + 1) != (j : Int)) = true := (by simp [c1]); have C1 := Lib.hid c1; clear c1
            go_wp2_with fail
            go_quiet (fail)
            go_wp2_with fail
            go_quiet (fail)
            go_wp2_with fail
            go_ret
            exact ⟨false, rfl, fun h => (by cases h), below_drewN (below_drewN (NX.out.alloc (by omega) _) _) _⟩
        by_cases q7 : X.kd (j + 1) = 7
        · rw [q7] at t0
          go_wp2_with fail
          go_quiet (fail)
          go_wp2_with fail
          go_roundw
          case rel =>
            refine ⟨j + 1 + 1, by omega, by go_num, Lib.hid fun i hi => ?_, below_drewN (NX.out.alloc (by omega) _) _⟩
            by_cases hi' : i < (j + 1)
            · exact HG.out i hi'
            · have : i = (j + 1) := by omega
              subst this
              exact ⟨a0, a1, fun _ => a2, m0, m1, .inr (.inr (.inr (.inr (.inr (.inr q7)))))⟩
          case measure => simp [intOf]; omega
        go_wp2_with fail
        go_quiet (fail)
        go_wp2_with fail
        go_ret
        exact ⟨false, rfl, fun h => (by cases h), below_drewN (NX.out.alloc (by omega) _) _⟩
    · have hkN : k = N := by omega
      subst hkN
      go_wp2_with fail
      go_ret
      exact ⟨true, rfl, fun _ => ⟨HPW.out, b0, b1, hN, HG.out⟩, hnx⟩

theorem good_any (g N cap : Nat) (rate burst : Int) (X : Scr) (w : World) (hg : g < w.heap.size) (hX : Lies w X g 0 N) :
    Calls Try.prog 24 #[.int .i64 rate, .int .i64 burst, .slice (some ⟨g, 0, none⟩) N cap] w (SaysPost w (GoodP rate burst X N)) := by
  by_cases h : powB rate = true ∧ 0 ≤ burst ∧ burst ≤ 64 ∧ N ≤ 40
  · exact good_in g N cap rate burst X w h.1 h.2.1 h.2.2.1 h.2.2.2 hg hX
  · exact good_out g N cap rate burst X w h

end Go.Proofs.Ytndkiphlpddbaaa

