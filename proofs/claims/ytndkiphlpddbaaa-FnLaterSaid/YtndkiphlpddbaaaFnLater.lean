/- The law FnLater holds for every input. No condition. (The frame is after the seat's proof-skeleton; the row's part printed by wip/tools/genrow.py.) -/
import Derived.Test.YtndkiphlpddbaaaLwL
import Derived.Test.YtndkiphlpddbaaaSpW
import Derived.BigQuiet
import Derived.Deep.QuietTactic
import Derived.Test.YtndkiphlpddbaaaRowS
import Derived.WalkKit
import Derived.ProofKit
import Derived.OpenShut
namespace Go.Proofs.Ytndkiphlpddbaaa.fnLater
open Go.ChangeShapes Go.WideShapes Go.ChangeAt Go.RowKit Go.Deep Flt
set_option linter.unusedVariables false
attribute [local go_sem] store_float

set_option maxRecDepth 100000 in
set_option maxHeartbeats 4000000 in
theorem walk (sb so N cap : Nat) (rate burst : Int) (X : Scr) (wh wt : Int) (A : Option Addr) (w : World) (hA : 0 < N → A = some ⟨sb, so, none⟩ ∧ sb < w.heap.size) (hn : A = none → N = 0 ∧ cap = 0) (hcap : N ≤ cap) (hX : Lies w X sb so N) :
    Calls Try.prog 12 #[.int .i64 rate, .int .i64 burst, .slice A N cap, .int .i64 wh, .int .i64 wt] w fun e w' => e = .returned (.bool true) ∧ Below w.heap.size w w' := by
  by_cases hbig : 2147483647 < N
  · have hbig' : (2147483647 : Int) < N := by omega
    go_enter Try.func12, Try.ntmps12
    go_wp2_with fail
    go_ret
    exact ⟨rfl, Below.refl _ _⟩
  · have hN : N ≤ 2147483647 := by omega
    have hN' : ¬ (2147483647 : Int) < N := by omega
    have hNn : N ≤ 9223372036854775807 := by omega
    have HPl := Lib.hid (plain_any sb so N cap X A w hN hA hX)
    have HA := Lib.hid hA
    have HX := Lib.hid hX
    clear hA hX hbig hn
    go_enter Try.func12, Try.ntmps12
    go_wp2_with fail
    refine HPl.out.mono ?_; rintro e w1 ⟨g, c1, rfl, hg0, hg1, hl1, hb1⟩
    have HB1 := Lib.hid hb1
    have HL1 := Lib.hid hl1
    have HWh := Lib.hid (whole_any g N c1 rate burst X w1 hN hg1 hl1)
    clear hb1 hl1 hg0 HPl
    go_wp2_with fail
    refine HWh.out.mono ?_; rintro e w2 ⟨r, rfl, hr, hb2⟩
    have HB2 := Lib.hid (HB1.out.trans (hb2.mono HB1.out.size))
    have HOn := Lib.hid (only_any g N c1 X 1 1 w2 hN (Nat.lt_of_lt_of_le hg1 hb2.size) (HL1.out.below hb2 hg1))
    have HR := Lib.hid hr
    clear hb2 hr HWh HL1 HB1
    cases r
    · go_wp2_with fail
      go_ret
      exact ⟨rfl, HB2.out⟩
    · have HWP := Lib.hid (HR.out rfl)
      clear HR
      go_wp2_with fail
      refine HOn.out.mono ?_; rintro e w3 ⟨r, rfl, hr, hb3⟩
      have HB3 := Lib.hid (HB2.out.trans (hb3.mono HB2.out.size))
      have HR := Lib.hid hr
      clear hb3 hr HOn
      cases r
      · go_wp2_with fail
        go_ret
        exact ⟨rfl, HB3.out⟩
      by_cases g1 : wh < 0
      · go_wp2_with fail
        go_ret
        exact ⟨rfl, HB3.out⟩
      by_cases g2 : (N : Int) ≤ wh
      · go_wp2_with fail
        go_ret
        exact ⟨rfl, HB3.out⟩
      by_cases g3 : wt < 0
      · go_wp2_with fail
        go_ret
        exact ⟨rfl, HB3.out⟩
      by_cases g4 : 65536 < wt
      · go_wp2_with fail
        go_ret
        exact ⟨rfl, HB3.out⟩
      obtain ⟨j, rfl⟩ := Int.eq_ofNat_of_zero_le (show 0 ≤ wh by omega)
      have hj : j < N := by omega
      obtain ⟨M, rfl⟩ : ∃ M, N = M + 1 := ⟨N - 1, by omega⟩
      obtain ⟨hAe, hsb⟩ := HA.out (by omega)
      subst hAe
      have hl3 := HX.out.below HB3.out hsb
      obtain ⟨-, t1, -⟩ := hl3 M (by omega)
      have honly := HR.out rfl
      have hwh := HWP.out
      have hgood := hwh.good
      have hst : Steps X (M + 1) := ⟨hgood.step, fun k hk => by have := honly k hk; omega⟩
      have R0 := hwh.r0
      have R1 := hwh.r1
      have hn40 := hgood.n
      have B0 := hgood.b0
      have B1 := hgood.b1
      have hs3 := HB3.out.size
      have haM0 := (hgood.step M (by omega)).lo
      have haM1 := (hgood.step M (by omega)).hi
      have haj0 := (hgood.step j hj).lo
      have haj1 := (hgood.step j hj).hi
      have hpl := hst.plain
      have hT2 := later_two (rate := rate) (burst := burst) hst honly (by omega) R1 B0 B1 hn40 j hj (X.at_ M + wt)
      obtain ⟨v1, w4, g7, c7, w5, hr1, hr2, hg7, hl7, hb35⟩ := snoc_runs w3 sb so (M + 1) cap 6 (X.at_ M + wt) j X (some ⟨sb, so, none⟩) (by omega) (fun _ => ⟨rfl, by omega⟩) (fun h => by cases h) hl3
      have hRun : Calls Try.prog 22 #[.int .i64 rate, .int .i64 burst, .slice (some ⟨g7, 0, none⟩) (M + 1 + 1) c7] w5 _ := Run_later g7 0 (M + 1) c7 j rate burst (X.snoc (M + 1) 6 (X.at_ M + wt) j) w5 (some ⟨g7, 0, none⟩) hj
        (fun k hk => by obtain ⟨p, q, r⟩ := snoc_lo X (M + 1) 6 (X.at_ M + wt) j k hk; rw [p, r]; exact hpl.plain k hk)
        (by rw [(snoc_lo X (M + 1) 6 (X.at_ M + wt) j j hj).1]; have := honly j hj; omega)
        (by rw [(snoc_lo X (M + 1) 6 (X.at_ M + wt) j j hj).2.2]; have := (hgood.step j hj).n1; omega)
        (snoc_hi X (M + 1) 6 (X.at_ M + wt) j).1 (snoc_hi X (M + 1) 6 (X.at_ M + wt) j).2.2
        (fun k hk => by
          by_cases hk' : k < M + 1
          · rw [(snoc_lo X (M + 1) 6 (X.at_ M + wt) j k hk').2.1]; exact hpl.lo k hk'
          · rw [show k = M + 1 by omega, (snoc_hi X (M + 1) 6 (X.at_ M + wt) j).2.1]; omega)
        (fun k hk => by
          by_cases hk' : k < M + 1
          · rw [(snoc_lo X (M + 1) 6 (X.at_ M + wt) j k hk').2.1]; exact hpl.hi k hk'
          · rw [show k = M + 1 by omega, (snoc_hi X (M + 1) 6 (X.at_ M + wt) j).2.1]; omega)
        (fun k hk => by
          rw [(snoc_lo X (M + 1) 6 (X.at_ M + wt) j k hk).2.1]
          by_cases hk' : k + 1 < M + 1
          · rw [(snoc_lo X (M + 1) 6 (X.at_ M + wt) j (k + 1) hk').2.1]; exact hpl.up k hk'
          · rw [show k = M by omega, (snoc_hi X (M + 1) 6 (X.at_ M + wt) j).2.1]; omega)
        (by omega) (by omega) R1 B0 B1 (fun _ => ⟨rfl, hg7⟩) hl7
      generalize (fun k => if k < M + 1 then toldOf (stN (St.new rate burst) (X.snoc (M + 1) 6 (X.at_ M + wt) j) k) ((X.snoc (M + 1) 6 (X.at_ M + wt) j).kd k) ((X.snoc (M + 1) 6 (X.at_ M + wt) j).at_ k) ((X.snoc (M + 1) 6 (X.at_ M + wt) j).nm k) else laterOf (stN (St.new rate burst) (X.snoc (M + 1) 6 (X.at_ M + wt) j) j) ((X.snoc (M + 1) 6 (X.at_ M + wt) j).at_ j) ((X.snoc (M + 1) 6 (X.at_ M + wt) j).nm j) ((X.snoc (M + 1) 6 (X.at_ M + wt) j).at_ (M + 1))) = T at *
      have HRun := Lib.hid hRun
      have HT := Lib.hid hT2
      have HB5 := Lib.hid (HB3.out.trans (hb35.mono hs3))
      have L1 := Lib.hid hr1
      have L2 := Lib.hid hr2
      have HNv := Lib.hid never_any
      have HLj := Lib.hid (fun (w' : World) (hb : Below w.heap.size w w') => (HX.out.below hb hsb j hj).2.1)
      clear hRun hT2 hgood hst hwh honly HR HWP hr1 hr2 hl7 hb35 hpl hl3 hN hN' hNn hcap
      go_wp2_with (first | (at_builtin; refine wpList_app rfl (.tmp 58) (.tmp 59) 27 rfl rfl rfl rfl L1.out ?_) | (at_builtin; refine wpList_app rfl (.tmp 60) (.tmp 64) 27 rfl rfl rfl rfl L2.out ?_))
      refine HRun.out.mono ?_; rintro e w6 ⟨OB, rfl, ho0, hrow, hb6⟩
      have SO := Lib.hid (says_row hrow)
      have hO := hrow.lt
      have HB6 := Lib.hid (HB5.out.trans (hb6.mono HB5.out.size))
      have z1 := HLj.out w6 HB6.out
      clear hrow hb6 ho0 HRun L1 L2 t1
      obtain ⟨x0, x1, -⟩ := SO.out j (by omega)
      obtain ⟨y0, y1, -⟩ := SO.out (M + 1) (by omega)
      rcases HT.out.two with ⟨x, p0, p1, e1, e2⟩ | ⟨e1, e2⟩
      · rw [e1] at x0 x1
        rw [e2] at y0 y1
        dsimp only at x0 x1 y0 y1
        have n1 : ((M : Int) + 1 + 1 != (M : Int) + 1 + 1) = false := by simp
        have n2 : (j : Int) < (M : Int) + 1 + 1 := by omega
        by_cases hd : 0 < x - (X.at_ M + wt - X.at_ j) * 1953125
        · rw [show max 0 (x - (X.at_ M + wt - X.at_ j) * 1953125) = x - (X.at_ M + wt - X.at_ j) * 1953125 from by omega] at y1
          go_wp2_with fail
          go_quiet (fail)
          go_wp2_with fail
          go_quiet (fail)
          go_wp2_with fail
          go_ret
          exact ⟨rfl, by first | exact below_drewN HB6.out _ | exact below_drewN (below_drewN HB6.out _) _⟩
        · rw [show max 0 (x - (X.at_ M + wt - X.at_ j) * 1953125) = 0 from by omega] at y1
          go_wp2_with fail
          go_quiet (fail)
          go_wp2_with fail
          go_quiet (fail)
          go_wp2_with fail
          go_ret
          exact ⟨rfl, by first | exact below_drewN HB6.out _ | exact below_drewN (below_drewN HB6.out _) _⟩
      · rw [e1] at x0 x1
        rw [e2] at y0 y1
        dsimp only at x0 x1 y0 y1
        go_wp2_with fail
        go_quiet (fail)
        go_wp2_with fail
        go_quiet ((go_at_call 30; refine (HNv.out _).mono fun e w' h => ⟨h.1, _, h.2.symm⟩))
        go_wp2_with fail
        go_ret
        exact ⟨rfl, by first | exact below_drewN HB6.out _ | exact below_drewN (below_drewN HB6.out _) _⟩

theorem reads : ∀ t ∈ Try.f12.params.toList, Try.prog.readableRec t = true ∧ t < Try.prog.types.size := by
  rw [Try.params12]
  intro t ht
  simp at ht
  rcases ht with rfl | rfl | rfl
  all_goals exact ⟨by kernel_rfl, of_decide_eq_true (by kernel_rfl)⟩

set_option maxRecDepth 100000 in
theorem lifted (os : Os) (started : os.Started) (H : Type) (enc : TypeId × Value → H) :
    ReturnsInHanded {} Try.checked os 12 .any (Rows.fnLaterSpec.pre6 enc Try.prog Try.f12 Rows.fnLaterRow.domain false) (Rows.fnLaterSpec.post enc Try.prog Try.f12 false true false false) := by
  refine returnsInHanded_of_change (C := Try.checked) knobs started (by kernel_rfl) Try.func12
    (ChangeSpec.witness6 (enc := enc) (C := Try.checked) false ⟨#[], #[.int .i64 0, .int .i64 0, .slice none 0 0, .int .i64 0, .int .i64 0], []⟩ 8 (by kernel_rfl) (by kernel_rfl) (by kernel_rfl) (by kernel_rfl)) ?_
  intro W base args ds gs before hval0 hW hcnd _
  have hval : ∀ (j : Nat) t v, Try.f12.params[j]? = some t → args[j]? = some v → Value.okWide Try.prog W .any base t v := hval0
  have hW' := hW
  obtain ⟨p, q, hA0, hV, rfl, hfz, hnd⟩ := hW
  have hA : DataW.TrodAll enc Try.prog W 0 (fun _ => true) true Try.f12.params.toList args.toList ds p := hA0
  rw [Try.params12] at hA hval
  obtain ⟨v0, vs0, d0, ds0, p0, q0, hargs, rfl, rfl, h0, r0⟩ := trodAll_cons hA
  obtain ⟨v1, vs1, d1, ds1, p1, q1, rfl, rfl, rfl, h1, r1⟩ := trodAll_cons r0
  obtain ⟨v2, vs2, d2, ds2, p2, q2, rfl, rfl, rfl, h2, r2⟩ := trodAll_cons r1
  obtain ⟨v3, vs3, d3, ds3, p3, q3, rfl, rfl, rfl, h3, r3⟩ := trodAll_cons r2
  obtain ⟨v4, vs4, d4, ds4, p4, q4, rfl, rfl, rfl, h4, r4⟩ := trodAll_cons r3
  obtain ⟨rfl, rfl, rfl⟩ := trodAll_nil r4
  obtain rfl : args = #[v0, v1, v2, v3, v4] := by cases args; simp_all
  obtain ⟨rfl, rfl⟩ := trodVars_none hV
  obtain ⟨a0, rfl, rfl, rfl, w0⟩ := open_int Try.underlying3 (hval 0 3 v0 rfl rfl) h0
  obtain ⟨a1, rfl, rfl, rfl, w1⟩ := open_int Try.underlying3 (hval 1 3 v1 rfl rfl) h1
  obtain ⟨A, N, cap, sb, so, X, rfl, hAA, hX, -⟩ := open_steps (hval 2 27 v2 rfl rfl) h2
  obtain ⟨a3, rfl, rfl, rfl, w3⟩ := open_int Try.underlying3 (hval 3 3 v3 rfl rfl) h3
  obtain ⟨a4, rfl, rfl, rfl, w4⟩ := open_int Try.underlying3 (hval 4 3 v4 rfl rfl) h4
  clear hA0 hval0
  refine (walk sb so N cap a0 a1 X a3 a4 A W hAA (steps_none h2) (steps_cap h2) hX).mono fun e W' ⟨he, hg⟩ => ?_
  subst he
  exact ⟨_, rfl, law_post hW' rfl rfl rfl rfl (by kernel_rfl) reads hg⟩

theorem named : Try.pinned.checked.prog.funcNamed Rows.fnLaterRow.func = some 12 := by kernel_rfl

theorem closed : joinedFacts Try.pinned.checked.prog 12 Try.f12 Rows.fnLaterSpec Rows.fnLaterRow = true := by
  unfold joinedFacts
  rw [enters, lifts, makes]
  repeat' (with_reducible refine band ?_ ?_)
  all_goals as_aux_lemma => kernel_rfl

theorem instanced : Func.isInstance Try.pinned.checked.prog Try.f12 Rows.fnLaterRow.origin Rows.fnLaterRow.targs := of_decide_eq_true (by kernel_rfl)

theorem wrapped : Func.isWrapper Try.pinned.checked.prog Try.f12 Rows.fnLaterRow.wrapper Rows.fnLaterRow.mainSum := by
  unfold Func.isWrapper; first | (rw [if_pos (by decide +kernel)]; kernel_rfl) | (rw [if_neg (by decide +kernel)]; exact ⟨rfl, rfl⟩)

theorem over : Rows.fnLaterRow.holds Try.pinned (OpenSpec.ofChange Rows.fnLaterSpec) :=
  OpenClaim.holds_of_wide 12 Try.f12 rfl rfl rfl rfl rfl rfl rfl ⟨rfl, rfl, rfl, rfl, rfl⟩ rfl rfl rfl rfl rfl named Try.func12 closed instanced wrapped
    (fun os started H enc _ => lifted os started H enc)

/-- ████ THE STATEMENT ████ -/
theorem proved : Rows.FnLaterSaid :=
  over
#print axioms proved
end Go.Proofs.Ytndkiphlpddbaaa.fnLater
