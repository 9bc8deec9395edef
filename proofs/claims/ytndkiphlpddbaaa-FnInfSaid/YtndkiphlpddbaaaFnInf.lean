/- The law FnInf holds for every input. No condition. (The frame is after the seat's proof-skeleton; printed by wip/tools/genfninf.py.) -/
import Derived.Test.YtndkiphlpddbaaaLwG
import Derived.Test.YtndkiphlpddbaaaLwI
import Derived.BigQuiet
import Derived.Deep.QuietTactic
import Derived.Test.YtndkiphlpddbaaaRowS
import Derived.WalkKit
import Derived.ProofKit
import Derived.OpenShut
namespace Go.Proofs.Ytndkiphlpddbaaa.fnInf
open Go.ChangeShapes Go.WideShapes Go.ChangeAt Go.RowKit Go.Deep Flt
set_option linter.unusedVariables false
attribute [local go_sem] store_float

def InfStep (X : Scr) (k : Nat) : Prop := 0 ≤ X.at_ k ∧ X.at_ k ≤ 65536

set_option maxRecDepth 100000 in
set_option maxHeartbeats 8000000 in
theorem walk_in (sb so N cap : Nat) (burst : Int) (X : Scr) (A : Option Addr) (w : World) (b0 : 0 ≤ burst) (b1 : burst ≤ 64) (hN : N ≤ 40) (hA : 0 < N → A = some ⟨sb, so, none⟩ ∧ sb < w.heap.size) (hX : Lies w X sb so N) :
    Calls Try.prog 11 #[.int .i64 burst, .slice A N cap] w fun e w' => e = .returned (.bool true) ∧ Below w.heap.size w w' := by
  have hN' : (N : Int) ≤ 40 := by omega
  have HPl := Lib.hid (plain_any sb so N cap X A w (by omega) hA hX)
  have HA := Lib.hid hA
  have HX := Lib.hid hX
  have HNv := Lib.hid never_any
  clear hA hX
  go_enter Try.func11, Try.ntmps11
  go_wp2_with fail
  refine HPl.out.mono ?_; rintro e w0 ⟨g, c1, rfl, hg0, hg1, hl1, hb0⟩
  have HB0 := Lib.hid hb0
  have HOn := Lib.hid (only_any g N c1 X 0 1 w0 (by omega) hg1 hl1)
  clear hb0 hl1 hg0 HPl
  go_wp2_with fail
  refine HOn.out.mono ?_; rintro e w1 ⟨r, rfl, hr, hb1⟩
  have HB1 := Lib.hid (HB0.out.trans (hb1.mono HB0.out.size))
  have HR := Lib.hid hr
  clear hb1 hr HOn
  cases r
  · go_wp2_with fail
    go_ret
    exact ⟨rfl, HB1.out⟩
  · have HOP := Lib.hid (HR.out rfl)
    clear HR
    go_wp2_with fail
    go_loopw [32] (fun i wr => ∃ k : Nat, k ≤ N ∧ i = .int .i64 k ∧ Hid (∀ j, j < k → InfStep X j) ∧ Below w1.heap.size w1 wr) (fun i _ => N - (intOf i).toNat)
    case atStart => exact ⟨0, Nat.zero_le _, rfl, Lib.hid (fun j hj => absurd hj (Nat.not_lt_zero _)), Below.refl _ _⟩
    case round =>
      obtain ⟨k, hk, rfl, HG, hnx⟩ := hrel
      have hsize := hnx.size
      by_cases hlt : k < N
      · obtain ⟨hAe, hsb⟩ := HA.out (by omega)
        subst hAe
        have hsbr : sb < wr.heap.size := Nat.lt_of_lt_of_le hsb (Nat.le_trans HB1.out.size hsize)
        have HXr := Lib.hid (HX.out.below (HB1.out.trans (hnx.mono HB1.out.size)) hsb)
        obtain ⟨t0, t1, t2⟩ := HXr.out k hlt
        have NX := Lib.hid hnx
        have e1 : ¬ wr.heap.size = sb := by omega
        have e2 : ¬ sb = wr.heap.size := by omega
        clear hnx
        cases k with
        | zero =>
              simp only [Nat.zero_mul, Nat.add_zero] at t0 t1 t2
              by_cases c : X.at_ 0 < 0
              · have da0 : decide (X.at_ 0 < 0) = true := decide_eq_true c
                go_wp2_with fail
                go_quiet (fail)
                go_wp2_with fail
                go_ret
                exact ⟨rfl, HB1.out.trans ((below_drewN (NX.out.alloc (by omega) _) _).mono HB1.out.size)⟩
              have da0 : decide (X.at_ 0 < 0) = false := decide_eq_false c
              have ha0 := Lib.hid c
              clear c
              by_cases c : 65536 < X.at_ 0
              · have da1 : decide (65536 < X.at_ 0) = true := decide_eq_true c
                go_wp2_with fail
                go_quiet (fail)
                go_wp2_with fail
                go_ret
                exact ⟨rfl, HB1.out.trans ((below_drewN (NX.out.alloc (by omega) _) _).mono HB1.out.size)⟩
              have da1 : decide (65536 < X.at_ 0) = false := decide_eq_false c
              have ha1 := Lib.hid c
              clear c
              by_cases c : X.nm 0 < 1
              · have dm0 : decide (X.nm 0 < 1) = true := decide_eq_true c
                go_wp2_with fail
                go_quiet (fail)
                go_wp2_with fail
                go_ret
                exact ⟨rfl, HB1.out.trans ((below_drewN (NX.out.alloc (by omega) _) _).mono HB1.out.size)⟩
              have dm0 : decide (X.nm 0 < 1) = false := decide_eq_false c
              have hm0 := Lib.hid c
              clear c
              by_cases c : 1048576 < X.nm 0
              · have dm1 : decide (1048576 < X.nm 0) = true := decide_eq_true c
                go_wp2_with fail
                go_quiet (fail)
                go_wp2_with fail
                go_ret
                exact ⟨rfl, HB1.out.trans ((below_drewN (NX.out.alloc (by omega) _) _).mono HB1.out.size)⟩
              have dm1 : decide (1048576 < X.nm 0) = false := decide_eq_false c
              have hm1 := Lib.hid c
              clear c
              go_wp2_with fail
              go_quiet (fail)
              go_wp2_with fail
              go_roundw
              case rel =>
                refine ⟨1, by omega, by go_num, Lib.hid fun i hi => ?_, below_drewN (NX.out.alloc (by omega) _) _⟩
                by_cases hi' : i < 0
                · exact HG.out i hi'
                · have : i = 0 := by omega
                  subst this
                  exact ⟨by have := ha0.out; omega, by have := ha1.out; omega⟩
              case measure => simp [intOf]; omega
        | succ j =>
              obtain ⟨p0, p1, _⟩ := HXr.out j (by omega)
              have y1 := fun o => (World.cell?_alloc_lt wr o ⟨sb, so + j * 3 + 1, none⟩ (by show sb < _; omega)).trans p1
              have hj0 : (0 : Int) < (j : Int) + 1 := by omega
              clear p0 p1
              by_cases c : X.at_ (j + 1) < 0
              · have da0 : decide (X.at_ (j + 1) < 0) = true := decide_eq_true c
                go_wp2_with fail
                go_quiet (fail)
                go_wp2_with fail
                go_ret
                exact ⟨rfl, HB1.out.trans ((below_drewN (NX.out.alloc (by omega) _) _).mono HB1.out.size)⟩
              have da0 : decide (X.at_ (j + 1) < 0) = false := decide_eq_false c
              have ha0 := Lib.hid c
              clear c
              by_cases c : 65536 < X.at_ (j + 1)
              · have da1 : decide (65536 < X.at_ (j + 1)) = true := decide_eq_true c
                go_wp2_with fail
                go_quiet (fail)
                go_wp2_with fail
                go_ret
                exact ⟨rfl, HB1.out.trans ((below_drewN (NX.out.alloc (by omega) _) _).mono HB1.out.size)⟩
              have da1 : decide (65536 < X.at_ (j + 1)) = false := decide_eq_false c
              have ha1 := Lib.hid c
              clear c
              by_cases c : X.at_ (j + 1) < X.at_ j
              · have da2 : decide (X.at_ (j + 1) < X.at_ j) = true := decide_eq_true c
                go_wp2_with fail
                go_quiet (fail)
                go_wp2_with fail
                go_ret
                exact ⟨rfl, HB1.out.trans ((below_drewN (NX.out.alloc (by omega) _) _).mono HB1.out.size)⟩
              have da2 : decide (X.at_ (j + 1) < X.at_ j) = false := decide_eq_false c
              have ha2 := Lib.hid c
              clear c
              by_cases c : X.nm (j + 1) < 1
              · have dm0 : decide (X.nm (j + 1) < 1) = true := decide_eq_true c
                go_wp2_with fail
                go_quiet (fail)
                go_wp2_with fail
                go_ret
                exact ⟨rfl, HB1.out.trans ((below_drewN (NX.out.alloc (by omega) _) _).mono HB1.out.size)⟩
              have dm0 : decide (X.nm (j + 1) < 1) = false := decide_eq_false c
              have hm0 := Lib.hid c
              clear c
              by_cases c : 1048576 < X.nm (j + 1)
              · have dm1 : decide (1048576 < X.nm (j + 1)) = true := decide_eq_true c
                go_wp2_with fail
                go_quiet (fail)
                go_wp2_with fail
                go_ret
                exact ⟨rfl, HB1.out.trans ((below_drewN (NX.out.alloc (by omega) _) _).mono HB1.out.size)⟩
              have dm1 : decide (1048576 < X.nm (j + 1)) = false := decide_eq_false c
              have hm1 := Lib.hid c
              clear c
              go_wp2_with fail
              go_quiet (fail)
              go_wp2_with fail
              go_roundw
              case rel =>
                refine ⟨j + 1 + 1, by omega, by go_num, Lib.hid fun i hi => ?_, below_drewN (NX.out.alloc (by omega) _) _⟩
                by_cases hi' : i < (j + 1)
                · exact HG.out i hi'
                · have : i = (j + 1) := by omega
                  subst this
                  exact ⟨by have := ha0.out; omega, by have := ha1.out; omega⟩
              case measure => simp [intOf]; omega

      · have hkN : k = N := by omega
        subst hkN
        have HB2 := Lib.hid (HB1.out.trans (hnx.mono HB1.out.size))
        have HRun := Lib.hid (RunInf_any sb so k cap burst X (fun _ => infCells burst) (fun j => if X.kd j = 1 then some (rcells true wr.heap.size (X.nm j) (tick (X.at_ j)) 0) else none) (fun _ => ⟨true, 0, 0⟩) wr A (by omega) rfl (fun h => ⟨(HA.out h).1, Nat.lt_of_lt_of_le (HA.out h).2 HB2.out.size⟩) (lies_later HX.out HB2.out (fun h => (HA.out h).2))
          (fun j hj => ⟨(HG.out j hj).1, by have := (HG.out j hj).2; omega⟩) (fun j hj => inf_item _ burst X j (HOP.out j hj) (HG.out j hj).1 (HG.out j hj).2))
        clear hnx
        go_wp2_with fail
        refine HRun.out.mono ?_; rintro e w3 ⟨OB, rfl, ho0, hrow, hb3⟩
        have HB3 := Lib.hid (HB2.out.trans (hb3.mono HB2.out.size))
        have SO := Lib.hid (says_row hrow)
        have hO := hrow.lt
        clear hrow hb3 ho0 HRun
        go_wp2_with fail
        go_loopw [76] (fun i wr => ∃ j : Nat, j ≤ k ∧ i = .int .i64 j ∧ Below w3.heap.size w3 wr) (fun i _ => k - (intOf i).toNat)
        case atStart => exact ⟨0, Nat.zero_le _, rfl, Below.refl _ _⟩
        case round =>
          obtain ⟨j, hj, rfl, hnx⟩ := hrel
          have hsize := hnx.size
          by_cases hlt : j < k
          · obtain ⟨s0, s1, s2⟩ := SO.out.below hnx hO j hlt
            have NX := Lib.hid hnx
            clear hnx
            go_wp2_with fail
            go_roundw
            case rel => exact ⟨j + 1, by omega, by go_num, NX.out.alloc (by omega) _⟩
            case measure => simp [intOf]; omega
          · have hjk : j = k := by omega
            subst hjk
            have NX := Lib.hid hnx
            clear hnx
            go_wp2_with fail
            refine (HNv.out _).mono ?_; rintro e w6 ⟨rfl, rfl⟩
            go_wp2_with fail
            go_ret
            exact ⟨rfl, HB3.out.trans (NX.out.mono HB3.out.size)⟩

theorem walk (sb so N cap : Nat) (burst : Int) (X : Scr) (A : Option Addr) (w : World) (hA : 0 < N → A = some ⟨sb, so, none⟩ ∧ sb < w.heap.size) (hX : Lies w X sb so N) :
    Calls Try.prog 11 #[.int .i64 burst, .slice A N cap] w fun e w' => e = .returned (.bool true) ∧ Below w.heap.size w w' := by
  by_cases hbig : 2147483647 < N
  · have hbig' : (2147483647 : Int) < N := by omega
    go_enter Try.func11, Try.ntmps11
    go_wp2_with fail
    go_ret
    exact ⟨rfl, Below.refl _ _⟩
  · have hN' : ¬ (2147483647 : Int) < N := by omega
    by_cases b0 : burst < 0
    · go_enter Try.func11, Try.ntmps11
      go_wp2_with fail
      go_ret
      exact ⟨rfl, Below.refl _ _⟩
    have b0' : 0 ≤ burst := by omega
    by_cases b1 : 64 < burst
    · clear b0
      go_enter Try.func11, Try.ntmps11
      go_wp2_with fail
      go_ret
      exact ⟨rfl, Below.refl _ _⟩
    have b1' : burst ≤ 64 := by omega
    by_cases n0 : 40 < N
    · have n0' : (40 : Int) < N := by omega
      clear b0 b1
      go_enter Try.func11, Try.ntmps11
      go_wp2_with fail
      go_ret
      exact ⟨rfl, Below.refl _ _⟩
    exact walk_in sb so N cap burst X A w b0' b1' (by omega) hA hX

theorem reads : ∀ t ∈ Try.f11.params.toList, Try.prog.readableRec t = true ∧ t < Try.prog.types.size := by
  rw [Try.params11]
  intro t ht
  simp at ht
  rcases ht with rfl | rfl
  · exact ⟨by kernel_rfl, of_decide_eq_true (by kernel_rfl)⟩
  · exact ⟨by kernel_rfl, of_decide_eq_true (by kernel_rfl)⟩

set_option maxRecDepth 100000 in
theorem lifted (os : Os) (started : os.Started) (H : Type) (enc : TypeId × Value → H) :
    ReturnsInHanded {} Try.checked os 11 .any (Rows.fnInfSpec.pre6 enc Try.prog Try.f11 Rows.fnInfRow.domain false) (Rows.fnInfSpec.post enc Try.prog Try.f11 false true false false) := by
  refine returnsInHanded_of_change (C := Try.checked) knobs started (by kernel_rfl) Try.func11
    (ChangeSpec.witness6 (enc := enc) (C := Try.checked) false ⟨#[], #[.int .i64 0, .slice none 0 0], []⟩ 8 (by kernel_rfl) (by kernel_rfl) (by kernel_rfl) (by kernel_rfl)) ?_
  intro W base args ds gs before hval0 hW hcnd _
  have hval : ∀ (j : Nat) t v, Try.f11.params[j]? = some t → args[j]? = some v → Value.okWide Try.prog W .any base t v := hval0
  have hW' := hW
  obtain ⟨p, q, hA0, hV, rfl, hfz, hnd⟩ := hW
  have hA : DataW.TrodAll enc Try.prog W 0 (fun _ => true) true Try.f11.params.toList args.toList ds p := hA0
  rw [Try.params11] at hA hval
  obtain ⟨v0, vs0, d0, ds0, p0, q0, hargs, rfl, rfl, h0, r0⟩ := trodAll_cons hA
  obtain ⟨v1, vs1, d1, ds1, p1, q1, rfl, rfl, rfl, h1, r1⟩ := trodAll_cons r0
  obtain ⟨rfl, rfl, rfl⟩ := trodAll_nil r1
  obtain rfl : args = #[v0, v1] := by cases args; simp_all
  obtain ⟨rfl, rfl⟩ := trodVars_none hV
  obtain ⟨a0, rfl, rfl, rfl, w0⟩ := open_int Try.underlying3 (hval 0 3 v0 rfl rfl) h0
  obtain ⟨A, N, cap, sb, so, X, rfl, hAA, hX, -⟩ := open_steps (hval 1 27 v1 rfl rfl) h1
  clear hA0 hval0
  refine (walk sb so N cap a0 X A W hAA hX).mono fun e W' ⟨he, hg⟩ => ?_
  subst he
  exact ⟨_, rfl, law_post hW' rfl rfl rfl rfl (by kernel_rfl) reads hg⟩

theorem named : Try.pinned.checked.prog.funcNamed Rows.fnInfRow.func = some 11 := by kernel_rfl

theorem closed : joinedFacts Try.pinned.checked.prog 11 Try.f11 Rows.fnInfSpec Rows.fnInfRow = true := by
  unfold joinedFacts
  rw [enters, lifts, makes]
  repeat' (with_reducible refine band ?_ ?_)
  all_goals as_aux_lemma => kernel_rfl

theorem instanced : Func.isInstance Try.pinned.checked.prog Try.f11 Rows.fnInfRow.origin Rows.fnInfRow.targs := of_decide_eq_true (by kernel_rfl)

theorem wrapped : Func.isWrapper Try.pinned.checked.prog Try.f11 Rows.fnInfRow.wrapper Rows.fnInfRow.mainSum := by
  unfold Func.isWrapper; first | (rw [if_pos (by decide +kernel)]; kernel_rfl) | (rw [if_neg (by decide +kernel)]; exact ⟨rfl, rfl⟩)

theorem over : Rows.fnInfRow.holds Try.pinned (OpenSpec.ofChange Rows.fnInfSpec) :=
  OpenClaim.holds_of_wide 11 Try.f11 rfl rfl rfl rfl rfl rfl rfl ⟨rfl, rfl, rfl, rfl, rfl⟩ rfl rfl rfl rfl rfl named Try.func11 closed instanced wrapped
    (fun os started H enc _ => lifted os started H enc)

/-- ████ THE STATEMENT ████ -/
theorem proved : Rows.FnInfSaid :=
  over
#print axioms proved
end Go.Proofs.Ytndkiphlpddbaaa.fnInf

