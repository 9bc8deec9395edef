/- The law FnAnyRate holds for every input. No condition. (The frame is after the seat's proof-skeleton.) -/
import Derived.Test.YtndkiphlpddbaaaLwN
import Derived.BigQuiet
import Derived.Deep.QuietTactic
import Derived.Test.YtndkiphlpddbaaaRowS
import Derived.WalkKit
import Derived.ProofKit
import Derived.OpenShut
namespace Go.Proofs.Ytndkiphlpddbaaa.fnAnyRate
open Go.ChangeShapes Go.WideShapes Go.ChangeAt Go.RowKit Go.Deep Flt
set_option linter.unusedVariables false
attribute [local go_sem] store_float

set_option maxRecDepth 100000 in
set_option maxHeartbeats 4000000 in
theorem walk (sb so N cap : Nat) (rate burst : Int) (X : Scr) (A : Option Addr) (w : World) (hA : 0 < N → A = some ⟨sb, so, none⟩ ∧ sb < w.heap.size) (hX : Lies w X sb so N) :
    Calls Try.prog 7 #[.int .i64 rate, .int .i64 burst, .slice A N cap] w fun e w' => e = .returned (.bool true) ∧ Below w.heap.size w w' := by
  by_cases hbig : 2147483647 < N
  · have hbig' : (2147483647 : Int) < N := by omega
    go_enter Try.func7, Try.ntmps7
    go_wp2_with fail
    go_ret
    exact ⟨rfl, Below.refl _ _⟩
  · have hN : N ≤ 2147483647 := by omega
    have hN' : ¬ (2147483647 : Int) < N := by omega
    have HPl := Lib.hid (plain_any sb so N cap X A w hN hA hX)
    have HA := Lib.hid hA
    have HX := Lib.hid hX
    clear hA hX hbig
    go_enter Try.func7, Try.ntmps7
    go_wp2_with fail
    refine HPl.out.mono ?_; rintro e w1 ⟨g, c1, rfl, hg0, hg1, hl1, hb1⟩
    have HB1 := Lib.hid hb1
    have HL1 := Lib.hid hl1
    have HWh := Lib.hid (whole_any g N c1 rate burst X w1 hN hg1 hl1)
    clear hb1 hl1 hg0 HPl
    go_wp2_with fail
    refine HWh.out.mono ?_; rintro e w2 ⟨r, rfl, hr, hb2⟩
    have HB2 := Lib.hid (HB1.out.trans (hb2.mono HB1.out.size))
    have HL2 := Lib.hid (HL1.out.below hb2 hg1)
    have hg2 := Nat.lt_of_lt_of_le hg1 hb2.size
    have HR := Lib.hid hr
    clear hb2 hr HWh HL1 HB1
    cases r
    · go_wp2_with fail
      go_ret
      exact ⟨rfl, HB2.out⟩
    · have hwh := HR.out rfl
      have hgood := hwh.good
      have hst : Steps X N := ⟨hgood.step, fun k hk => by have := hwh.kd k hk; omega⟩
      have R0 := hwh.r0
      have R1 := hwh.r1
      have hn40 := hgood.n
      have HRun := Lib.hid (Run_plain sb so N cap rate burst X w2 A (hgood.plain hst.no5) (by omega) (by omega) R1 hgood.b0 hgood.b1 (fun h => ⟨(HA.out h).1, Nat.lt_of_lt_of_le (HA.out h).2 HB2.out.size⟩) (lies_later HX.out HB2.out (fun h => (HA.out h).2)))
      have HNear := Lib.hid (near_all (rate := rate) (burst := burst) hst (by omega) R0 R1 hgood.b0 hgood.b1)
      have HSelf := Lib.hid (self_all (rate := rate) (burst := burst) hst (by omega) R0 R1 hgood.b0 hgood.b1)
      have HIn := Lib.hid (in_all (rate := rate) (burst := burst) hst (by omega) R0 R1 hgood.b0 hgood.b1)
      have B0 := hgood.b0
      have B1 := hgood.b1
      clear hgood hwh hst HR
      go_wp2_with fail
      refine HRun.out.mono ?_; rintro e w3 ⟨OB, rfl, ho0, hrow, hb3⟩
      have HSO := Lib.hid (says_row hrow)
      have hO := hrow.lt
      have HB3 := Lib.hid (HB2.out.trans (hb3.mono HB2.out.size))
      have hg3 := Nat.lt_of_lt_of_le hg2 hb3.size
      have HSp := Lib.hid (specRun_any g N c1 rate burst X w3 (by omega) hg3 (HL2.out.below hb3 hg2) B0 B1 HIn.out)
      clear hrow hb3 ho0 HRun HL2
      go_wp2_with fail
      refine HSp.out.mono ?_; rintro e w4 ⟨g4, c4, rfl, hg40, hg41, hs4, hb4⟩
      have HB4 := Lib.hid (HB3.out.trans (hb4.mono HB3.out.size))
      have HS4 := Lib.hid hs4
      have HSO4 := Lib.hid (HSO.out.below hb4 hO)
      have hO4 := Nat.lt_of_lt_of_le hO hb4.size
      have HNv := Lib.hid never_any
      have hNn : N ≤ 9223372036854775807 := by omega
      generalize hT : (fun k => toldOf (stN (St.new rate burst) X k) (X.kd k) (X.at_ k) (X.nm k)) = T at *
      generalize hU : bkTold (bkNew rate burst X N) X = U at *
      have HNr : Hid (∀ k, k < N → Near (T k) (U k)) := Lib.hid (fun k hk => by rw [← hT]; exact HNear.out k hk)
      clear hs4 hb4 hg40 HSp HSO HNear hT hU HIn
      go_wp2_with fail
      go_loopw [38] (fun i wr => ∃ k : Nat, k ≤ N ∧ i = .int .i64 k ∧ Below w4.heap.size w4 wr) (fun i _ => N - (intOf i).toNat)
      case atStart => exact ⟨0, Nat.zero_le _, rfl, Below.refl _ _⟩
      case round =>
        obtain ⟨k, hk, rfl, hnx⟩ := hrel
        have hsize := hnx.size
        by_cases hlt : k < N
        · obtain ⟨s0, s1, s2⟩ := HSO4.out.below hnx hO4 k hlt
          obtain ⟨q0, q1, q2⟩ := HS4.out.below hnx hg41 k hlt
          obtain ⟨n0, n1, n2, n3⟩ := HNr.out k hlt
          have o := HSelf.out k hlt
          rw [← n0] at q0
          rw [← n1] at q2 o
          have o2 : (FloatKind.f64.format.order (T k).tok (T k).tok != some Ordering.eq) = false := by unfold selfEq at o; rw [bne, o]; rfl
          have NX := Lib.hid hnx
          clear hnx o n0 n1
          have e1 : ¬ wr.heap.size = OB := by omega
          have e2 : ¬ wr.heap.size = g4 := by omega
          have e3 : ¬ OB = wr.heap.size := by omega
          have e4 : ¬ g4 = wr.heap.size := by omega
          have k0 := fun o => (World.cell?_alloc_lt wr o ⟨g4, k * 3, none⟩ (by show g4 < _; omega)).trans q0
          have k1 := fun o => (World.cell?_alloc_lt wr o ⟨g4, k * 3 + 1, none⟩ (by show g4 < _; omega)).trans q1
          have k2 := fun o => (World.cell?_alloc_lt wr o ⟨g4, k * 3 + 2, none⟩ (by show g4 < _; omega)).trans q2
          clear q0 q1 q2
          have d1 : ((T k).ok != (T k).ok) = false := by simp
          have d2 : decide (1 < (T k).delay - (U k).delay) = false := decide_eq_false (by omega)
          have d3 : decide ((T k).delay - (U k).delay < -1) = false := decide_eq_false (by omega)
          generalize hdd : (T k).delay - (U k).delay = dd at *
          go_wp2_with fail
          go_quiet (fail)
          go_wp2_with fail
          go_quiet (fail)
          go_wp2_with fail
          go_roundw
          case rel => exact ⟨k + 1, by omega, by go_num, below_drewN (NX.out.alloc (by omega) _) _⟩
          case measure => simp [intOf]; omega
        · have hkN : k = N := by omega
          subst hkN
          have NX := Lib.hid hnx
          clear hnx
          go_wp2_with fail
          refine (HNv.out _).mono ?_; rintro e w6 ⟨rfl, rfl⟩
          go_wp2_with fail
          go_ret
          exact ⟨rfl, HB4.out.trans (NX.out.mono HB4.out.size)⟩

theorem reads : ∀ t ∈ Try.f7.params.toList, Try.prog.readableRec t = true ∧ t < Try.prog.types.size := by
  rw [Try.params7]
  intro t ht
  simp at ht
  rcases ht with rfl | rfl
  · exact ⟨by kernel_rfl, of_decide_eq_true (by kernel_rfl)⟩
  · exact ⟨by kernel_rfl, of_decide_eq_true (by kernel_rfl)⟩

set_option maxRecDepth 100000 in
theorem lifted (os : Os) (started : os.Started) (H : Type) (enc : TypeId × Value → H) :
    ReturnsInHanded {} Try.checked os 7 .any (Rows.fnAnyRateSpec.pre6 enc Try.prog Try.f7 Rows.fnAnyRateRow.domain false) (Rows.fnAnyRateSpec.post enc Try.prog Try.f7 false true false false) := by
  refine returnsInHanded_of_change (C := Try.checked) knobs started (by kernel_rfl) Try.func7
    (ChangeSpec.witness6 (enc := enc) (C := Try.checked) false ⟨#[], #[.int .i64 0, .int .i64 0, .slice none 0 0], []⟩ 8 (by kernel_rfl) (by kernel_rfl) (by kernel_rfl) (by kernel_rfl)) ?_
  intro W base args ds gs before hval0 hW hcnd _
  have hval : ∀ (j : Nat) t v, Try.f7.params[j]? = some t → args[j]? = some v → Value.okWide Try.prog W .any base t v := hval0
  have hW' := hW
  obtain ⟨p, q, hA0, hV, rfl, hfz, hnd⟩ := hW
  have hA : DataW.TrodAll enc Try.prog W 0 (fun _ => true) true Try.f7.params.toList args.toList ds p := hA0
  rw [Try.params7] at hA hval
  obtain ⟨v0, vs0, d0, ds0, p0, q0, hargs, rfl, rfl, h0, r0⟩ := trodAll_cons hA
  obtain ⟨v1, vs1, d1, ds1, p1, q1, rfl, rfl, rfl, h1, r1⟩ := trodAll_cons r0
  obtain ⟨v2, vs2, d2, ds2, p2, q2, rfl, rfl, rfl, h2, r2⟩ := trodAll_cons r1
  obtain ⟨rfl, rfl, rfl⟩ := trodAll_nil r2
  obtain rfl : args = #[v0, v1, v2] := by cases args; simp_all
  obtain ⟨rfl, rfl⟩ := trodVars_none hV
  obtain ⟨a0, rfl, rfl, rfl, w0⟩ := open_int Try.underlying3 (hval 0 3 v0 rfl rfl) h0
  obtain ⟨a1, rfl, rfl, rfl, w1⟩ := open_int Try.underlying3 (hval 1 3 v1 rfl rfl) h1
  obtain ⟨A, N, cap, sb, so, X, rfl, hAA, hX, -⟩ := open_steps (hval 2 27 v2 rfl rfl) h2
  clear hA0 hval0
  refine (walk sb so N cap a0 a1 X A W hAA hX).mono fun e W' ⟨he, hg⟩ => ?_
  subst he
  exact ⟨_, rfl, law_post hW' rfl rfl rfl rfl (by kernel_rfl) reads hg⟩

theorem named : Try.pinned.checked.prog.funcNamed Rows.fnAnyRateRow.func = some 7 := by kernel_rfl

theorem closed : joinedFacts Try.pinned.checked.prog 7 Try.f7 Rows.fnAnyRateSpec Rows.fnAnyRateRow = true := by
  unfold joinedFacts
  rw [enters, lifts, makes]
  repeat' (with_reducible refine band ?_ ?_)
  all_goals as_aux_lemma => kernel_rfl

theorem instanced : Func.isInstance Try.pinned.checked.prog Try.f7 Rows.fnAnyRateRow.origin Rows.fnAnyRateRow.targs := of_decide_eq_true (by kernel_rfl)

theorem wrapped : Func.isWrapper Try.pinned.checked.prog Try.f7 Rows.fnAnyRateRow.wrapper Rows.fnAnyRateRow.mainSum := by
  unfold Func.isWrapper; first | (rw [if_pos (by decide +kernel)]; kernel_rfl) | (rw [if_neg (by decide +kernel)]; exact ⟨rfl, rfl⟩)

theorem over : Rows.fnAnyRateRow.holds Try.pinned (OpenSpec.ofChange Rows.fnAnyRateSpec) :=
  OpenClaim.holds_of_wide 7 Try.f7 rfl rfl rfl rfl rfl rfl rfl ⟨rfl, rfl, rfl, rfl, rfl⟩ rfl rfl rfl rfl rfl named Try.func7 closed instanced wrapped
    (fun os started H enc _ => lifted os started H enc)

/-- ████ THE STATEMENT ████ -/
theorem proved : Rows.FnAnyRateSaid :=
  over
#print axioms proved
end Go.Proofs.Ytndkiphlpddbaaa.fnAnyRate
