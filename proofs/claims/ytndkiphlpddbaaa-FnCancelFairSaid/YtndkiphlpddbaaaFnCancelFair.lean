/- The law FnCancelFair holds for every input. No condition. (The frame is after the seat's proof-skeleton; the row's part printed by wip/tools/genrow.py.) -/
import Derived.Test.YtndkiphlpddbaaaLwF
import Derived.Test.YtndkiphlpddbaaaSpW
import Derived.BigQuiet
import Derived.Deep.QuietTactic
import Derived.Test.YtndkiphlpddbaaaRowS
import Derived.WalkKit
import Derived.ProofKit
import Derived.OpenShut
namespace Go.Proofs.Ytndkiphlpddbaaa.fnCancelFair
open Go.ChangeShapes Go.WideShapes Go.ChangeAt Go.RowKit Go.Deep Flt
set_option linter.unusedVariables false
attribute [local go_sem] store_float

set_option maxRecDepth 100000 in
set_option maxHeartbeats 4000000 in
theorem walk (sb so N cap : Nat) (rate burst : Int) (X : Scr) (wh wt : Int) (A : Option Addr) (w : World) (hA : 0 < N → A = some ⟨sb, so, none⟩ ∧ sb < w.heap.size) (hn : A = none → N = 0 ∧ cap = 0) (hcap : N ≤ cap) (hX : Lies w X sb so N) :
    Calls Try.prog 9 #[.int .i64 rate, .int .i64 burst, .slice A N cap, .int .i64 wh, .int .i64 wt] w fun e w' => e = .returned (.bool true) ∧ Below w.heap.size w w' := by
  by_cases hbig : 2147483647 < N
  · have hbig' : (2147483647 : Int) < N := by omega
    go_enter Try.func9, Try.ntmps9
    go_wp2_with fail
    go_ret
    exact ⟨rfl, Below.refl _ _⟩
  · have hN : N ≤ 2147483647 := by omega
    have hN' : ¬ (2147483647 : Int) < N := by omega
    have hNn : N ≤ 9223372036854775807 := by omega
    have HPl := Lib.hid (plain_any sb so N cap X A w hN hA hX)
    have HA := Lib.hid hA
    have HX := Lib.hid hX
    clear hA hX hbig hn
    go_enter Try.func9, Try.ntmps9
    go_wp2_with fail
    refine HPl.out.mono ?_; rintro e w1 ⟨g, c1, rfl, hg0, hg1, hl1, hb1⟩
    have HB1 := Lib.hid hb1
    have HL1 := Lib.hid hl1
    have HWh := Lib.hid (whole_any g N c1 rate burst X w1 hN hg1 hl1)
    clear hb1 hl1 hg0 HPl
    go_wp2_with fail
    refine HWh.out.mono ?_; rintro e w2 ⟨r, rfl, hr, hb2⟩
    have HB2 := Lib.hid (HB1.out.trans (hb2.mono HB1.out.size))
    have HR := Lib.hid hr
    clear hb2 hr HWh HL1 HB1
    cases r
    · go_wp2_with fail
      go_ret
      exact ⟨rfl, HB2.out⟩
    · have HWP := Lib.hid (HR.out rfl)
      clear HR
      by_cases g1 : wh < 0
      · go_wp2_with fail
        go_ret
        exact ⟨rfl, HB2.out⟩
      by_cases g2 : (N : Int) ≤ wh
      · go_wp2_with fail
        go_ret
        exact ⟨rfl, HB2.out⟩
      obtain ⟨j, rfl⟩ := Int.eq_ofNat_of_zero_le (show 0 ≤ wh by omega)
      have hj : j < N := by omega
      obtain ⟨M, rfl⟩ : ∃ M, N = M + 1 := ⟨N - 1, by omega⟩
      obtain ⟨hAe, hsb⟩ := HA.out (by omega)
      subst hAe
      have hl3 := HX.out.below HB2.out hsb
      obtain ⟨z0, -, -⟩ := hl3 j hj
      have hji : (j : Int) < ((M + 1 : Nat) : Int) := by omega
      clear hN hN' hNn
      by_cases c1 : X.kd j = 1
      · rw [c1] at z0
        by_cases g3 : wt < 0
        · go_wp2_with fail
          go_ret
          exact ⟨rfl, HB2.out⟩
        by_cases g4 : 65536 < wt
        · go_wp2_with fail
          go_ret
          exact ⟨rfl, HB2.out⟩
        obtain ⟨-, t1, -⟩ := hl3 M (by omega)
        have hwh := HWP.out
        have hgood := hwh.good
        have R0 := hwh.r0
        have R1 := hwh.r1
        have hn40 := hgood.n
        have B0 := hgood.b0
        have B1 := hgood.b1
        have hs3 := HB2.out.size
        have haM0 := (hgood.step M (by omega)).lo
        have haM1 := (hgood.step M (by omega)).hi
        have nm0 := (hgood.step j hj).n0
        have nm1 := (hgood.step j hj).n1
        obtain ⟨v1, w4, g7, c7, w5, hr1, hr2, hg7, hl7, hb35⟩ := fair_runs w2 sb so (M + 1) cap (X.at_ M + wt) j X (some ⟨sb, so, none⟩) (by omega) (fun _ => ⟨rfl, by omega⟩) (fun h => by cases h) hl3
        obtain ⟨T, hT, hRun⟩ := Run_fair g7 0 M c7 j rate burst (X.at_ M + wt) X w5 (some ⟨g7, 0, none⟩) hgood.step hwh.kd hn40 R0 R1 B0 B1 hj c1 (by omega) (by omega) ⟨rfl, hg7⟩ hl7
        obtain ⟨a, t, hTa, hTb, ha0, ha1, hbet⟩ := hT
        obtain ⟨f1, f2, f3, f4, fadd⟩ := fair_cmp hbet ha0 ha1 B1 B0 nm0 nm1
        have F1 := Lib.hid f1
        have F2 := Lib.hid f2
        have F3 := Lib.hid f3
        have F4 := Lib.hid f4
        have FA := Lib.hid fadd
        have HTa := Lib.hid hTa
        have HTb := Lib.hid hTb
        have HRun := Lib.hid hRun
        have HB5 := Lib.hid (HB2.out.trans (hb35.mono hs3))
        have L1 := Lib.hid hr1
        have L2 := Lib.hid hr2
        have HNv := Lib.hid never_any
        have HLj := Lib.hid (fun (w' : World) (hb : Below w.heap.size w w') => (HX.out.below hb hsb j hj).2.2)
        clear hRun hTa hTb hgood hwh HWP hr1 hr2 hl7 hb35 hl3 hbet f1 f2 f3 f4 fadd hcap
        go_wp2_with (first | (at_builtin; refine wpList_app rfl (.tmp 62) (.tmp 63) 27 rfl rfl rfl rfl L1.out ?_) | (at_builtin; refine wpList_app rfl (.tmp 64) (.tmp 72) 27 rfl rfl rfl rfl L2.out ?_))
        refine HRun.out.mono ?_; rintro e w6 ⟨OB, rfl, ho0, hrow, hb6⟩
        have SO := Lib.hid (says_row hrow)
        have hO := hrow.lt
        have HB6 := Lib.hid (HB5.out.trans (hb6.mono HB5.out.size))
        have z2 := HLj.out w6 HB6.out
        clear hrow hb6 ho0 HRun L1 L2 t1 z0
        obtain ⟨-, -, y2⟩ := SO.out (M + 1) (by omega)
        obtain ⟨-, -, x2⟩ := SO.out (M + 1 + 2) (by omega)
        rw [HTa.out] at y2
        rw [HTb.out] at x2
        go_wp2_with fail
        go_quiet (fail)
        have f1 := F1.out
        have f2 := F2.out
        have f3 := F3.out
        have f4 := F4.out
        have fadd := FA.out
        go_wp2_with fail
        refine (HNv.out _).mono ?_; rintro e w7 ⟨rfl, rfl⟩
        go_wp2_with fail
        go_ret
        exact ⟨rfl, below_drewN HB6.out _⟩
      · have c2 : (X.kd j != 1) = true := by simp [c1]
        go_wp2_with fail
        go_ret
        exact ⟨rfl, HB2.out⟩

theorem reads : ∀ t ∈ Try.f9.params.toList, Try.prog.readableRec t = true ∧ t < Try.prog.types.size := by
  rw [Try.params9]
  intro t ht
  simp at ht
  rcases ht with rfl | rfl | rfl
  all_goals exact ⟨by kernel_rfl, of_decide_eq_true (by kernel_rfl)⟩

set_option maxRecDepth 100000 in
theorem lifted (os : Os) (started : os.Started) (H : Type) (enc : TypeId × Value → H) :
    ReturnsInHanded {} Try.checked os 9 .any (Rows.fnCancelFairSpec.pre6 enc Try.prog Try.f9 Rows.fnCancelFairRow.domain false) (Rows.fnCancelFairSpec.post enc Try.prog Try.f9 false true false false) := by
  refine returnsInHanded_of_change (C := Try.checked) knobs started (by kernel_rfl) Try.func9
    (ChangeSpec.witness6 (enc := enc) (C := Try.checked) false ⟨#[], #[.int .i64 0, .int .i64 0, .slice none 0 0, .int .i64 0, .int .i64 0], []⟩ 8 (by kernel_rfl) (by kernel_rfl) (by kernel_rfl) (by kernel_rfl)) ?_
  intro W base args ds gs before hval0 hW hcnd _
  have hval : ∀ (j : Nat) t v, Try.f9.params[j]? = some t → args[j]? = some v → Value.okWide Try.prog W .any base t v := hval0
  have hW' := hW
  obtain ⟨p, q, hA0, hV, rfl, hfz, hnd⟩ := hW
  have hA : DataW.TrodAll enc Try.prog W 0 (fun _ => true) true Try.f9.params.toList args.toList ds p := hA0
  rw [Try.params9] at hA hval
  obtain ⟨v0, vs0, d0, ds0, p0, q0, hargs, rfl, rfl, h0, r0⟩ := trodAll_cons hA
  obtain ⟨v1, vs1, d1, ds1, p1, q1, rfl, rfl, rfl, h1, r1⟩ := trodAll_cons r0
  obtain ⟨v2, vs2, d2, ds2, p2, q2, rfl, rfl, rfl, h2, r2⟩ := trodAll_cons r1
  obtain ⟨v3, vs3, d3, ds3, p3, q3, rfl, rfl, rfl, h3, r3⟩ := trodAll_cons r2
  obtain ⟨v4, vs4, d4, ds4, p4, q4, rfl, rfl, rfl, h4, r4⟩ := trodAll_cons r3
  obtain ⟨rfl, rfl, rfl⟩ := trodAll_nil r4
  obtain rfl : args = #[v0, v1, v2, v3, v4] := by cases args; simp_all
  obtain ⟨rfl, rfl⟩ := trodVars_none hV
  obtain ⟨a0, rfl, rfl, rfl, w0⟩ := open_int Try.underlying3 (hval 0 3 v0 rfl rfl) h0
  obtain ⟨a1, rfl, rfl, rfl, w1⟩ := open_int Try.underlying3 (hval 1 3 v1 rfl rfl) h1
  obtain ⟨A, N, cap, sb, so, X, rfl, hAA, hX, -⟩ := open_steps (hval 2 27 v2 rfl rfl) h2
  obtain ⟨a3, rfl, rfl, rfl, w3⟩ := open_int Try.underlying3 (hval 3 3 v3 rfl rfl) h3
  obtain ⟨a4, rfl, rfl, rfl, w4⟩ := open_int Try.underlying3 (hval 4 3 v4 rfl rfl) h4
  clear hA0 hval0
  refine (walk sb so N cap a0 a1 X a3 a4 A W hAA (steps_none h2) (steps_cap h2) hX).mono fun e W' ⟨he, hg⟩ => ?_
  subst he
  exact ⟨_, rfl, law_post hW' rfl rfl rfl rfl (by kernel_rfl) reads hg⟩

theorem named : Try.pinned.checked.prog.funcNamed Rows.fnCancelFairRow.func = some 9 := by kernel_rfl

theorem closed : joinedFacts Try.pinned.checked.prog 9 Try.f9 Rows.fnCancelFairSpec Rows.fnCancelFairRow = true := by
  unfold joinedFacts
  rw [enters, lifts, makes]
  repeat' (with_reducible refine band ?_ ?_)
  all_goals as_aux_lemma => kernel_rfl

theorem instanced : Func.isInstance Try.pinned.checked.prog Try.f9 Rows.fnCancelFairRow.origin Rows.fnCancelFairRow.targs := of_decide_eq_true (by kernel_rfl)

theorem wrapped : Func.isWrapper Try.pinned.checked.prog Try.f9 Rows.fnCancelFairRow.wrapper Rows.fnCancelFairRow.mainSum := by
  unfold Func.isWrapper; first | (rw [if_pos (by decide +kernel)]; kernel_rfl) | (rw [if_neg (by decide +kernel)]; exact ⟨rfl, rfl⟩)

theorem over : Rows.fnCancelFairRow.holds Try.pinned (OpenSpec.ofChange Rows.fnCancelFairSpec) :=
  OpenClaim.holds_of_wide 9 Try.f9 rfl rfl rfl rfl rfl rfl rfl ⟨rfl, rfl, rfl, rfl, rfl⟩ rfl rfl rfl rfl rfl named Try.func9 closed instanced wrapped
    (fun os started H enc _ => lifted os started H enc)

/-- ████ THE STATEMENT ████ -/
theorem proved : Rows.FnCancelFairSaid :=
  over
#print axioms proved
end Go.Proofs.Ytndkiphlpddbaaa.fnCancelFair
