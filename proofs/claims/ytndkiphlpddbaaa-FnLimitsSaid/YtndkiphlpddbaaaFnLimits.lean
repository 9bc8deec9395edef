/- The law FnLimits holds for every input. No condition. (The frame is after the seat's proof-skeleton.) -/
import Derived.Test.YtndkiphlpddbaaaSpA
import Derived.BigQuiet
import Derived.Deep.QuietTactic
import Derived.Test.YtndkiphlpddbaaaRowS
import Derived.WalkKit
import Derived.ProofKit
import Derived.OpenShut
namespace Go.Proofs.Ytndkiphlpddbaaa.fnLimits
open Go.ChangeShapes Go.WideShapes Go.ChangeAt Go.RowKit Go.Deep Flt
set_option linter.unusedVariables false

set_option maxRecDepth 100000 in
set_option maxHeartbeats 4000000 in
theorem walk (sb so N cap : Nat) (rate burst : Int) (X : Scr) (A : Option Addr) (w : World) (hA : 0 < N → A = some ⟨sb, so, none⟩ ∧ sb < w.heap.size) (hn : A = none → N = 0 ∧ cap = 0) (hX : Lies w X sb so N) :
    Calls Try.prog 4 #[.int .i64 rate, .int .i64 burst, .slice A N cap] w fun e w' => e = .returned (.bool true) ∧ Below w.heap.size w w' := by
  by_cases hbig : 2147483647 < N
  · have hbig' : (2147483647 : Int) < N := by omega
    go_enter Try.func4, Try.ntmps4
    go_wp2_with fail
    go_ret
    exact ⟨rfl, Below.refl _ _⟩
  · have hN : N ≤ 2147483647 := by omega
    have hN' : ¬ (2147483647 : Int) < N := by omega
    have hNn : N ≤ 9223372036854775807 := by omega
    have HPl := Lib.hid (plain_any sb so N cap X A w hN hA hX)
    have HA := Lib.hid hA
    have HX := Lib.hid hX
    have HNo := Lib.hid hn
    clear hA hX hbig hn
    go_enter Try.func4, Try.ntmps4
    go_wp2_with fail
    refine HPl.out.mono ?_; rintro e w1 ⟨g, c1, rfl, hg0, hg1, hl1, hb1⟩
    have HB1 := Lib.hid hb1
    have HL1 := Lib.hid hl1
    clear hb1 hl1 hg0 HPl
    go_wp2_with fail
    go_loopw [18] (fun i wr => ∃ k : Nat, k ≤ N ∧ i = .int .i64 k ∧ Hid (∀ j, j < k → X.kd j ≠ 1 ∧ X.kd j ≠ 5) ∧ Below w1.heap.size w1 wr) (fun i _ => N - (intOf i).toNat)
    case atStart => exact ⟨0, Nat.zero_le _, rfl, Lib.hid (fun j hj => absurd hj (Nat.not_lt_zero _)), Below.refl _ _⟩
    case round =>
      obtain ⟨k, hk, rfl, HO, hnx⟩ := hrel
      have hsize := hnx.size
      by_cases hlt : k < N
      · obtain ⟨s0, s1, s2⟩ := HL1.out.below hnx hg1 k hlt
        rw [Nat.zero_add] at s0 s1 s2
        have NX := Lib.hid hnx
        clear hnx
        by_cases h1 : X.kd k = 1
        · rw [h1] at s0
          go_wp2_with fail
          go_ret
          exact ⟨rfl, HB1.out.trans ((NX.out.alloc (by omega) _).mono HB1.out.size)⟩
        · by_cases h5 : X.kd k = 5
          · rw [h5] at s0
            go_wp2_with fail
            go_ret
            exact ⟨rfl, HB1.out.trans ((NX.out.alloc (by omega) _).mono HB1.out.size)⟩
          · have d1 : (X.kd k == 1) = false := beq_eq_false_iff_ne.mpr h1
            have d5 : (X.kd k == 5) = false := beq_eq_false_iff_ne.mpr h5
            go_wp2_with fail
            go_roundw
            case rel =>
              refine ⟨k + 1, by omega, by go_num, Lib.hid fun j hj => ?_, NX.out.alloc (by omega) _⟩
              by_cases hj' : j < k
              · exact HO.out j hj'
              · have : j = k := by omega
                subst this; exact ⟨h1, h5⟩
            case measure => simp [intOf]; omega
      · have hkN : k = N := by omega
        subst hkN
        have HB2 := Lib.hid (HB1.out.trans (hnx.mono HB1.out.size))
        have HG := Lib.hid (good_any g k c1 rate burst X wr (Nat.lt_of_lt_of_le hg1 hsize) (HL1.out.below hnx hg1))
        clear hnx
        go_wp2_with fail
        refine HG.out.mono ?_; rintro e w3 ⟨r, rfl, hr, hb3⟩
        have HB3 := Lib.hid (HB2.out.trans (hb3.mono HB2.out.size))
        have HR := Lib.hid hr
        clear hr hb3 HG
        cases r
        · go_wp2_with fail
          go_ret
          exact ⟨rfl, HB3.out⟩
        · have hgood := HR.out rfl
          have hst0 : Steps X k := ⟨hgood.step, fun j hj => (HO.out j hj).2⟩
          have hst := snoc_steps hst0
          have hpb := powB_bounds hgood.pow
          have hn40 := hgood.n
          have hpow := hgood.pow
          have B0 := hgood.b0
          have B1 := hgood.b1
          have hs3 := HB3.out.size
          obtain ⟨v1, w4, hrun1, hown1, hgr1, hv1⟩ := app_steps w3.heap.size sb so k cap 0 X A (.slice (some ⟨w3.heap.size, 0, none⟩) 0 0) [] (w3.alloc (.cells #[] 26)) (fun h => ⟨(HA.out h).1, by have := (HA.out h).2; have := HB3.out.size; simp; omega⟩) HNo.out
            (lies_later HX.out (HB3.out.alloc HB3.out.size _) (fun h => (HA.out h).2)) (World.ownsRow_made w3 #[] 0 (Nat.le_refl _) (by unfold maxLen; omega) rfl) (by omega) (by simp) (by simp)
          rw [Nat.zero_add, List.nil_append] at hown1
          have hz4 : w3.heap.size < w4.heap.size := by have := hgr1.size; simp at this; omega
          have hb4 : Below w.heap.size w w4 := (HB3.out.alloc HB3.out.size _).grown hgr1 (by have := HB3.out.size; simp; omega) (fun j hj => by simp [Value.ownBlock] at hj; have := HB3.out.size; omega)
          obtain ⟨i0, hi, hz0, hz1, hz2⟩ := info_parts info26
          have c3 := cell_three_new w4 (.int .i64 7) (.int .i64 65536) (.int .i64 1) 26
          obtain ⟨v2, w5, hrun2, hown2, hgr2, hv2⟩ := run_append_own (P := Try.prog) (w4.alloc (.cells #[.int .i64 7, .int .i64 65536, .int .i64 1] 26)) w3.heap.size 27 27 26 i0 (.agg #[.int .i64 0, .int .i64 0, .int .i64 0]) 3 24 Try.underlying27 hi hz0 hz1 hz2 rfl (by decide) v1 k (scrL X k) (hown1.alloc _) ⟨w4.heap.size, 0, none⟩ 1 1 [.int .i64 7, .int .i64 65536, .int .i64 1] rfl c3 (by intro u hu; simp at hu; rcases hu with rfl | rfl | rfl <;> rfl) (by unfold maxLen; omega) (by omega) (by simp; omega)
          have hown2' : w5.ownsRow w3.heap.size 26 3 v2 (k + 1) (scrL (X.snoc k 7 65536 1) (k + 1)) := by rw [snoc_cells]; exact hown2
          have HB5 := Lib.hid ((hb4.alloc (by omega) _).grown hgr2 (by simp; omega) (fun j hj => by have := (hown1.lt j hj).1; have := HB3.out.size; omega))
          have hnn : v2 ≠ .slice none 0 0 := fun hh => absurd (hv2.1 hh).2 (by decide)
          obtain ⟨g7, c7, hv2e⟩ : ∃ g7 c7, v2 = .slice (some ⟨g7, 0, none⟩) (k + 1) c7 := by
            rcases hown2'.2 with ⟨h, _⟩ | ⟨g7, c7, _, h, _⟩
            · exact absurd h hnn
            · exact ⟨g7, c7, h⟩
          subst hv2e
          have HL5 := Lib.hid (lies_own hown2')
          have hg7 := (hown2'.lt g7 rfl).2
          have HRun := Lib.hid (Run_plain g7 0 (k + 1) c7 rate burst (X.snoc k 7 65536 1) w5 (some ⟨g7, 0, none⟩) hst.plain (by omega) hpb.1 (by omega) B0 B1 (fun _ => ⟨rfl, hg7⟩) HL5.out)
          have HT := Lib.hid (told_all (burst := burst) hst (by omega) hpow B0 B1)
          have HSelf := Lib.hid (self_all (rate := rate) (burst := burst) hst (by omega) (by omega) (by omega) B0 B1)
          have HIn := Lib.hid (in_all (rate := rate) (burst := burst) hst (by omega) (by omega) (by omega) B0 B1)
          have hk1 : ((k : Int) + 1) = ((k + 1 : Nat) : Int) := by omega
          clear hgood hst hst0 hpb HR hown1 hgr1 hv1 hown2 hown2' hgr2 hv2 hnn c3 hb4 HO hpow
          have R1 := Lib.hid hrun1
          have R2 := Lib.hid hrun2
          clear hrun1 hrun2
          go_wp2_with (first | (at_builtin; refine wpList_app rfl (.tmp 36) (.tmp 37) 27 rfl rfl rfl rfl R1.out ?_) | (at_builtin; refine wpList_app rfl (.tmp 38) (.tmp 40) 27 rfl rfl rfl rfl R2.out ?_))
          refine HRun.out.mono ?_; rintro e w6 ⟨OB, rfl, ho0, hrow, hb6⟩
          have SO := Lib.hid ((says_row hrow).congr HT.out)
          have hO := hrow.lt
          have HB6 := Lib.hid (HB5.out.trans (hb6.mono HB5.out.size))
          have hg76 := Nat.lt_of_lt_of_le hg7 hb6.size
          have HPl := Lib.hid (plain_any g7 0 (k + 1) c7 (X.snoc k 7 65536 1) (some ⟨g7, 0, none⟩) w6 (by omega) (fun _ => ⟨rfl, hg76⟩) (HL5.out.below hb6 hg7))
          clear hrow hb6 ho0 HRun HT R1 R2
          go_wp2_with fail
          refine HPl.out.mono ?_; rintro e w7 ⟨g8, c8, rfl, hg80, hg8, hl8, hb7⟩
          have HB7 := Lib.hid (HB6.out.trans (hb7.mono HB6.out.size))
          have SO7 := Lib.hid (SO.out.below hb7 hO)
          have hO7 := Nat.lt_of_lt_of_le hO hb7.size
          have HSp := Lib.hid (specRun_any g8 (k + 1) c8 rate burst (X.snoc k 7 65536 1) w7 (by omega) hg8 hl8 B0 B1 HIn.out)
          clear hl8 hb7 hg80 HPl SO
          go_wp2_with fail
          refine HSp.out.mono ?_; rintro e w8 ⟨g9, c9, rfl, hg90, hg9, hs9, hb8⟩
          have HB8 := Lib.hid (HB7.out.trans (hb8.mono HB7.out.size))
          have HSame := Lib.hid (same_any OB g9 (k + 1) (k + 1) c9 _ w8 (by omega) (Nat.lt_of_lt_of_le hO7 hb8.size) hg9 (SO7.out.below hb8 hO7) hs9 HSelf.out)
          clear hs9 hb8 hg90 HSp SO7
          go_wp2_with fail
          refine HSame.out.mono ?_; rintro e w9 ⟨rfl, hb9⟩
          have HB9 := Lib.hid (HB8.out.trans (hb9.mono HB8.out.size))
          clear hb9 HSame
          go_wp2_with fail
          go_ret
          exact ⟨rfl, HB9.out⟩

theorem reads : ∀ t ∈ Try.f4.params.toList, Try.prog.readableRec t = true ∧ t < Try.prog.types.size := by
  rw [Try.params4]
  intro t ht
  simp at ht
  rcases ht with rfl | rfl
  · exact ⟨by kernel_rfl, of_decide_eq_true (by kernel_rfl)⟩
  · exact ⟨by kernel_rfl, of_decide_eq_true (by kernel_rfl)⟩

set_option maxRecDepth 100000 in
theorem lifted (os : Os) (started : os.Started) (H : Type) (enc : TypeId × Value → H) :
    ReturnsInHanded {} Try.checked os 4 .any (Rows.fnLimitsSpec.pre6 enc Try.prog Try.f4 Rows.fnLimitsRow.domain false) (Rows.fnLimitsSpec.post enc Try.prog Try.f4 false true false false) := by
  refine returnsInHanded_of_change (C := Try.checked) knobs started (by kernel_rfl) Try.func4
    (ChangeSpec.witness6 (enc := enc) (C := Try.checked) false ⟨#[], #[.int .i64 0, .int .i64 0, .slice none 0 0], []⟩ 8 (by kernel_rfl) (by kernel_rfl) (by kernel_rfl) (by kernel_rfl)) ?_
  intro W base args ds gs before hval0 hW hcnd _
  have hval : ∀ (j : Nat) t v, Try.f4.params[j]? = some t → args[j]? = some v → Value.okWide Try.prog W .any base t v := hval0
  have hW' := hW
  obtain ⟨p, q, hA0, hV, rfl, hfz, hnd⟩ := hW
  have hA : DataW.TrodAll enc Try.prog W 0 (fun _ => true) true Try.f4.params.toList args.toList ds p := hA0
  rw [Try.params4] at hA hval
  obtain ⟨v0, vs0, d0, ds0, p0, q0, hargs, rfl, rfl, h0, r0⟩ := trodAll_cons hA
  obtain ⟨v1, vs1, d1, ds1, p1, q1, rfl, rfl, rfl, h1, r1⟩ := trodAll_cons r0
  obtain ⟨v2, vs2, d2, ds2, p2, q2, rfl, rfl, rfl, h2, r2⟩ := trodAll_cons r1
  obtain ⟨rfl, rfl, rfl⟩ := trodAll_nil r2
  obtain rfl : args = #[v0, v1, v2] := by cases args; simp_all
  obtain ⟨rfl, rfl⟩ := trodVars_none hV
  obtain ⟨a0, rfl, rfl, rfl, w0⟩ := open_int Try.underlying3 (hval 0 3 v0 rfl rfl) h0
  obtain ⟨a1, rfl, rfl, rfl, w1⟩ := open_int Try.underlying3 (hval 1 3 v1 rfl rfl) h1
  obtain ⟨A, N, cap, sb, so, X, rfl, hAA, hX, -⟩ := open_steps (hval 2 27 v2 rfl rfl) h2
  clear hA0 hval0
  refine (walk sb so N cap a0 a1 X A W hAA (steps_none h2) hX).mono fun e W' ⟨he, hg⟩ => ?_
  subst he
  exact ⟨_, rfl, law_post hW' rfl rfl rfl rfl (by kernel_rfl) reads hg⟩

theorem named : Try.pinned.checked.prog.funcNamed Rows.fnLimitsRow.func = some 4 := by kernel_rfl

theorem closed : joinedFacts Try.pinned.checked.prog 4 Try.f4 Rows.fnLimitsSpec Rows.fnLimitsRow = true := by
  unfold joinedFacts
  rw [enters, lifts, makes]
  repeat' (with_reducible refine band ?_ ?_)
  all_goals as_aux_lemma => kernel_rfl

theorem instanced : Func.isInstance Try.pinned.checked.prog Try.f4 Rows.fnLimitsRow.origin Rows.fnLimitsRow.targs := of_decide_eq_true (by kernel_rfl)

theorem wrapped : Func.isWrapper Try.pinned.checked.prog Try.f4 Rows.fnLimitsRow.wrapper Rows.fnLimitsRow.mainSum := by
  unfold Func.isWrapper; first | (rw [if_pos (by decide +kernel)]; kernel_rfl) | (rw [if_neg (by decide +kernel)]; exact ⟨rfl, rfl⟩)

theorem over : Rows.fnLimitsRow.holds Try.pinned (OpenSpec.ofChange Rows.fnLimitsSpec) :=
  OpenClaim.holds_of_wide 4 Try.f4 rfl rfl rfl rfl rfl rfl rfl ⟨rfl, rfl, rfl, rfl, rfl⟩ rfl rfl rfl rfl rfl named Try.func4 closed instanced wrapped
    (fun os started H enc _ => lifted os started H enc)

/-- ████ THE STATEMENT ████ -/
theorem proved : Rows.FnLimitsSaid :=
  over
#print axioms proved
end Go.Proofs.Ytndkiphlpddbaaa.fnLimits
