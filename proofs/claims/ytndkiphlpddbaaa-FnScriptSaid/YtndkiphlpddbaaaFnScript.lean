/- The law FnScript holds for every input. No condition. (The frame is after the seat's proof-skeleton; its walk is turned from FnAllow.) -/
import Derived.Test.YtndkiphlpddbaaaSmC
import Derived.Test.YtndkiphlpddbaaaRowS
import Derived.WalkKit
import Derived.ProofKit
import Derived.OpenShut
namespace Go.Proofs.Ytndkiphlpddbaaa.fnScript
open Go.ChangeShapes Go.WideShapes Go.ChangeAt Go.RowKit Go.Deep Flt
set_option linter.unusedVariables false

set_option maxHeartbeats 2000000 in
theorem walk (sb so N cap : Nat) (rate burst : Int) (X : Scr) (A : Option Addr) (w : World) (hA : 0 < N → A = some ⟨sb, so, none⟩ ∧ sb < w.heap.size) (hX : Lies w X sb so N) :
    Calls Try.prog 18 #[.int .i64 rate, .int .i64 burst, .slice A N cap] w fun e w' => e = .returned (.bool true) ∧ Below w.heap.size w w' := by
  by_cases hbig : 2147483647 < N
  · have hbig' : (2147483647 : Int) < N := by omega
    go_enter Try.func18, Try.ntmps18
    go_wp2_with fail
    go_ret
    exact ⟨rfl, Below.refl _ _⟩
  · have hN : N ≤ 2147483647 := by omega
    have hN' : ¬ (2147483647 : Int) < N := by omega
    have HP1 := Lib.hid (plain_any sb so N cap X A w hN hA hX)
    have HA := Lib.hid hA
    have HX := Lib.hid hX
    clear hA hX hbig
    go_enter Try.func18, Try.ntmps18
    go_wp2_with fail
    refine HP1.out.mono ?_; rintro e w0 ⟨g0, c0, rfl, hg00, hg01, hl0, hb0⟩
    have HB0 := Lib.hid hb0
    have HG := Lib.hid (good_any g0 N c0 rate burst X w0 hg01 hl0)
    clear hb0 hl0 hg00 HP1
    go_wp2_with fail
    refine HG.out.mono ?_; rintro e w1 ⟨r, rfl, hr, hb1⟩
    have HB1 := Lib.hid (HB0.out.trans (hb1.mono HB0.out.size))
    have HR := Lib.hid hr
    clear hb1 hr HG
    cases r
    · go_wp2_with fail
      go_ret
      exact ⟨rfl, HB1.out⟩
    · have hgood := HR.out rfl
      have hst := hgood.step
      have hpb := powB_bounds hgood.pow
      have hn40 := hgood.n
      have HRun := Lib.hid (Run_now sb so N cap rate burst X w1 A (now_of_good hst) (by omega) hpb.1 (by omega) hgood.b0 hgood.b1 (fun h => ⟨(HA.out h).1, Nat.lt_of_lt_of_le (HA.out h).2 HB1.out.size⟩) (lies_later HX.out HB1.out (fun h => (HA.out h).2)))
      have HT := Lib.hid (toldC_all (burst := burst) hst (by omega) hgood.pow hgood.b0 hgood.b1)
      have HSelf := Lib.hid (selfC_all (rate := rate) (burst := burst) hst (by omega) (by omega) (by omega) hgood.b0 hgood.b1)
      have HIn := Lib.hid (inC_all (rate := rate) (burst := burst) hst (by omega) (by omega) (by omega) hgood.b0 hgood.b1)
      have B0 := hgood.b0
      have B1 := hgood.b1
      clear hgood hst hpb HR
      go_wp2_with fail
      refine HRun.out.mono ?_; rintro e w2 ⟨OB, rfl, ho0, hrow, hb2⟩
      have SO := Lib.hid ((says_row hrow).congr HT.out)
      have hO := hrow.lt
      have HB2 := Lib.hid (HB1.out.trans (hb2.mono HB1.out.size))
      have HPl := Lib.hid (plain_any sb so N cap X A w2 hN (fun h => ⟨(HA.out h).1, Nat.lt_of_lt_of_le (HA.out h).2 HB2.out.size⟩) (lies_later HX.out HB2.out (fun h => (HA.out h).2)))
      clear hrow hb2 ho0 HRun HT
      go_wp2_with fail
      refine HPl.out.mono ?_; rintro e w3 ⟨g, c3, rfl, hg0, hg1, hl3, hb3⟩
      have HB3 := Lib.hid (HB2.out.trans (hb3.mono HB2.out.size))
      have SO3 := Lib.hid (SO.out.below hb3 hO)
      have hO3 := Nat.lt_of_lt_of_le hO hb3.size
      have HSp := Lib.hid (specRun_any g N c3 rate burst X w3 (by omega) hg1 hl3 B0 B1 HIn.out)
      clear hl3 hb3 hg0 HPl SO
      go_wp2_with fail
      refine HSp.out.mono ?_; rintro e w4 ⟨g4, c4, rfl, hg40, hg41, hs4, hb4⟩
      have HB4 := Lib.hid (HB3.out.trans (hb4.mono HB3.out.size))
      have HSame := Lib.hid (same_any OB g4 N N c4 _ w4 (by omega) (Nat.lt_of_lt_of_le hO3 hb4.size) hg41 (SO3.out.below hb4 hO3) hs4 HSelf.out)
      clear hs4 hb4 hg40 HSp SO3
      go_wp2_with fail
      refine HSame.out.mono ?_; rintro e w5 ⟨rfl, hb5⟩
      have HB5 := Lib.hid (HB4.out.trans (hb5.mono HB4.out.size))
      clear hb5 HSame
      have HNv := Lib.hid never_any
      go_wp2_with fail
      refine (HNv.out _).mono ?_; rintro e w6 ⟨rfl, rfl⟩
      go_wp2_with fail
      go_ret
      exact ⟨rfl, HB5.out⟩

theorem reads : ∀ t ∈ Try.f18.params.toList, Try.prog.readableRec t = true ∧ t < Try.prog.types.size := by
  rw [Try.params18]
  intro t ht
  simp at ht
  rcases ht with rfl | rfl
  all_goals exact ⟨by kernel_rfl, of_decide_eq_true (by kernel_rfl)⟩

set_option maxRecDepth 100000 in
theorem lifted (os : Os) (started : os.Started) (H : Type) (enc : TypeId × Value → H) :
    ReturnsInHanded {} Try.checked os 18 .any (Rows.fnScriptSpec.pre6 enc Try.prog Try.f18 Rows.fnScriptRow.domain false) (Rows.fnScriptSpec.post enc Try.prog Try.f18 false true false false) := by
  refine returnsInHanded_of_change (C := Try.checked) knobs started (by kernel_rfl) Try.func18
    (ChangeSpec.witness6 (enc := enc) (C := Try.checked) false ⟨#[], #[.int .i64 0, .int .i64 0, .slice none 0 0], []⟩ 8 (by kernel_rfl) (by kernel_rfl) (by kernel_rfl) (by kernel_rfl)) ?_
  intro W base args ds gs before hval0 hW hcnd _
  have hval : ∀ (j : Nat) t v, Try.f18.params[j]? = some t → args[j]? = some v → Value.okWide Try.prog W .any base t v := hval0
  have hW' := hW
  obtain ⟨p, q, hA0, hV, rfl, hfz, hnd⟩ := hW
  have hA : DataW.TrodAll enc Try.prog W 0 (fun _ => true) true Try.f18.params.toList args.toList ds p := hA0
  rw [Try.params18] at hA hval
  obtain ⟨v0, vs0, d0, ds0, p0, q0, hargs, rfl, rfl, h0, r0⟩ := trodAll_cons hA
  obtain ⟨v1, vs1, d1, ds1, p1, q1, rfl, rfl, rfl, h1, r1⟩ := trodAll_cons r0
  obtain ⟨v2, vs2, d2, ds2, p2, q2, rfl, rfl, rfl, h2, r2⟩ := trodAll_cons r1
  obtain ⟨rfl, rfl, rfl⟩ := trodAll_nil r2
  obtain rfl : args = #[v0, v1, v2] := by cases args; simp_all
  obtain ⟨rfl, rfl⟩ := trodVars_none hV
  obtain ⟨a0, rfl, rfl, rfl, w0⟩ := open_int Try.underlying3 (hval 0 3 v0 rfl rfl) h0
  obtain ⟨a1, rfl, rfl, rfl, w1⟩ := open_int Try.underlying3 (hval 1 3 v1 rfl rfl) h1
  obtain ⟨A, N, cap, sb, so, X, rfl, hAA, hX, -⟩ := open_steps (hval 2 27 v2 rfl rfl) h2
  clear hA0 hval0
  refine (walk sb so N cap a0 a1 X A W hAA hX).mono fun e W' ⟨he, hg⟩ => ?_
  subst he
  exact ⟨_, rfl, law_post hW' rfl rfl rfl rfl (by kernel_rfl) reads hg⟩

theorem named : Try.pinned.checked.prog.funcNamed Rows.fnScriptRow.func = some 18 := by kernel_rfl

theorem closed : joinedFacts Try.pinned.checked.prog 18 Try.f18 Rows.fnScriptSpec Rows.fnScriptRow = true := by
  unfold joinedFacts
  rw [enters, lifts, makes]
  repeat' (with_reducible refine band ?_ ?_)
  all_goals as_aux_lemma => kernel_rfl

theorem instanced : Func.isInstance Try.pinned.checked.prog Try.f18 Rows.fnScriptRow.origin Rows.fnScriptRow.targs := of_decide_eq_true (by kernel_rfl)

theorem wrapped : Func.isWrapper Try.pinned.checked.prog Try.f18 Rows.fnScriptRow.wrapper Rows.fnScriptRow.mainSum := by
  unfold Func.isWrapper; first | (rw [if_pos (by decide +kernel)]; kernel_rfl) | (rw [if_neg (by decide +kernel)]; exact ⟨rfl, rfl⟩)

theorem over : Rows.fnScriptRow.holds Try.pinned (OpenSpec.ofChange Rows.fnScriptSpec) :=
  OpenClaim.holds_of_wide 18 Try.f18 rfl rfl rfl rfl rfl rfl rfl ⟨rfl, rfl, rfl, rfl, rfl⟩ rfl rfl rfl rfl rfl named Try.func18 closed instanced wrapped
    (fun os started H enc _ => lifted os started H enc)

/-- ████ THE STATEMENT ████ -/
theorem proved : Rows.FnScriptSaid :=
  over
#print axioms proved
end Go.Proofs.Ytndkiphlpddbaaa.fnScript
