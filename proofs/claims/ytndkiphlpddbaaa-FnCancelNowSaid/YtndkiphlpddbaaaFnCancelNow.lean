/- The law FnCancelNow holds for every input. No condition. (The frame is after the seat's proof-skeleton; the row's part printed by wip/tools/genrow.py.) -/
import Derived.Test.YtndkiphlpddbaaaLwC
import Derived.Test.YtndkiphlpddbaaaLwE
import Derived.BigQuiet
import Derived.Deep.QuietTactic
import Derived.Test.YtndkiphlpddbaaaRowS
import Derived.WalkKit
import Derived.ProofKit
import Derived.OpenShut
namespace Go.Proofs.Ytndkiphlpddbaaa.fnCancelNow
open Go.ChangeShapes Go.WideShapes Go.ChangeAt Go.RowKit Go.Deep Flt
set_option linter.unusedVariables false
attribute [local go_sem] store_float

/-- What the two runs are told. -/
structure Told2 (TA TB : Nat → Tl) (p N : Nat) : Prop where
  lo : ∀ k, k < p → TB k = TA k
  hi : ∀ k, p ≤ k → k < N → TB (k + 2) = TA k
  self : ∀ k, k < N → selfEq (TA k).tok

set_option maxRecDepth 100000 in
set_option maxHeartbeats 4000000 in
theorem walk (sb so N cap : Nat) (rate burst : Int) (X : Scr) (n wh : Int) (A : Option Addr) (w : World) (hA : 0 < N → A = some ⟨sb, so, none⟩ ∧ sb < w.heap.size) (hn : A = none → N = 0 ∧ cap = 0) (hcap : N ≤ cap) (hX : Lies w X sb so N) :
    Calls Try.prog 10 #[.int .i64 rate, .int .i64 burst, .slice A N cap, .int .i64 n, .int .i64 wh] w fun e w' => e = .returned (.bool true) ∧ Below w.heap.size w w' := by
  by_cases hbig : 2147483647 < N
  · have hbig' : (2147483647 : Int) < N := by omega
    go_enter Try.func10, Try.ntmps10
    go_wp2_with fail
    go_ret
    exact ⟨rfl, Below.refl _ _⟩
  · have hN : N ≤ 2147483647 := by omega
    have hN' : ¬ (2147483647 : Int) < N := by omega
    have hNn : N ≤ 9223372036854775807 := by omega
    have HGd := Lib.hid (goodLaw_any sb so N cap rate burst 0 1 X A w hN hA hX)
    have HA := Lib.hid hA
    have HX := Lib.hid hX
    clear hA hX hbig hn
    go_enter Try.func10, Try.ntmps10
    go_wp2_with fail
    refine HGd.out.mono ?_; rintro e w1 ⟨r, rfl, hr, hb1⟩
    have HB1 := Lib.hid hb1
    have HR := Lib.hid hr
    clear hb1 hr HGd
    cases r
    · go_wp2_with fail
      go_ret
      exact ⟨rfl, HB1.out⟩
    · have HGP := Lib.hid (HR.out rfl)
      clear HR
      by_cases g1 : n < 1
      · go_wp2_with fail
        go_ret
        exact ⟨rfl, HB1.out⟩
      by_cases g2 : 64 < n
      · go_wp2_with fail
        go_ret
        exact ⟨rfl, HB1.out⟩
      by_cases g3 : wh < 0
      · go_wp2_with fail
        go_ret
        exact ⟨rfl, HB1.out⟩
      by_cases g4 : (N : Int) ≤ wh
      · go_wp2_with fail
        go_ret
        exact ⟨rfl, HB1.out⟩
      obtain ⟨p, rfl⟩ := Int.eq_ofNat_of_zero_le (show 0 ≤ wh by omega)
      have hp : p < N := by omega
      have hpi : (p : Int) < (N : Int) := by omega
      obtain ⟨hAe, hsb⟩ := HA.out (by omega)
      subst hAe
      obtain ⟨t0, t1, t2⟩ := (HX.out.below HB1.out hsb) p hp
      obtain ⟨hgood, honly⟩ := HGP.out
      have hst : Steps X N := ⟨hgood.step, fun k hk => by have := honly k hk; omega⟩
      have hpb := powB_bounds hgood.pow
      have hn40 := hgood.n
      have B0 := hgood.b0
      have B1 := hgood.b1
      have R0 : 0 < rate := hpb.1
      have R1 : rate ≤ 1000 := by omega
      have hs1 := HB1.out.size
      have hmt := now_told hst hp honly hn40 R0 R1 B0 B1 (show 1 ≤ n by omega) (show n ≤ 64 by omega)
      have hTT : Told2 (fun k => toldOf (stN (St.new rate burst) X k) (X.kd k) (X.at_ k) (X.nm k)) (fun k => toldOf (stC (St.new rate burst) (X.ins p 1 (X.at_ p) n 5 (X.at_ p) p) k) ((X.ins p 1 (X.at_ p) n 5 (X.at_ p) p).kd k) ((X.ins p 1 (X.at_ p) n 5 (X.at_ p) p).at_ k) ((X.ins p 1 (X.at_ p) n 5 (X.at_ p) p).nm k)) p N :=
        ⟨hmt.1, hmt.2, fun i hi => by have h1 := told_all (burst := burst) hst (by omega) hgood.pow B0 B1 i hi; have h2 := self_all (rate := rate) (burst := burst) hst (by omega) (by omega) (by omega) B0 B1 i hi; rw [← h1] at h2; exact h2⟩
      have HTT := Lib.hid hTT
      have HRunA := Lib.hid (fun (w' : World) (hb : Below w.heap.size w w') => Run_plain sb so N cap rate burst X w' (some ⟨sb, so, none⟩) hst.plain (by omega) R0 R1 B0 B1 (fun h => ⟨rfl, Nat.lt_of_lt_of_le hsb hb.size⟩) (HX.out.below hb hsb))
      obtain ⟨v1, w2, v2, w3, g7, c7, w4, hr1, hr2, hr3, hg7, hl7, hb14⟩ := ins_runs w1 sb so N cap p 1 (X.at_ p) n 5 (X.at_ p) p X hp (by omega) (by omega) (HX.out.below HB1.out hsb)
      have HRunB := Lib.hid (fun (w' : World) (hb : Below w4.heap.size w4 w') => Run_now g7 0 (N + 2) c7 rate burst (X.ins p 1 (X.at_ p) n 5 (X.at_ p) p) w' (some ⟨g7, 0, none⟩) (now_scr hst hp (by omega) (by omega)) (by omega) R0 R1 B0 B1 (fun _ => ⟨rfl, Nat.lt_of_lt_of_le hg7 hb.size⟩) (hl7.below hb hg7))
      have HB4 := Lib.hid (HB1.out.trans (hb14.mono hs1))
      have L1 := Lib.hid hr1
      have L2 := Lib.hid hr2
      have L3 := Lib.hid hr3
      have HNv := Lib.hid never_any
      have m1 : ¬ cap = p := by omega
      have m2 : ¬ cap = 0 := by omega
      have m3 : (p : Int) ≤ (cap : Int) := by omega
      have m4 : (N : Int) ≤ (cap : Int) := by omega
      have m5 : (p : Int) ≤ (N : Int) := by omega
      generalize (fun k => toldOf (stN (St.new rate burst) X k) (X.kd k) (X.at_ k) (X.nm k)) = TA at *
      generalize (fun k => toldOf (stC (St.new rate burst) (X.ins p 1 (X.at_ p) n 5 (X.at_ p) p) k) ((X.ins p 1 (X.at_ p) n 5 (X.at_ p) p).kd k) ((X.ins p 1 (X.at_ p) n 5 (X.at_ p) p).at_ k) ((X.ins p 1 (X.at_ p) n 5 (X.at_ p) p).nm k)) = TB at *
      clear hmt hTT hgood honly hst hpb HGP hr1 hr2 hr3 hl7 hb14
      go_wp2_with (first | (at_builtin; refine wpList_app rfl (.tmp 48) (.tmp 51) 27 rfl rfl rfl rfl L1.out ?_) | (at_builtin; refine wpList_app rfl (.tmp 52) (.tmp 59) 27 rfl rfl rfl rfl L2.out ?_) | (at_builtin; refine wpList_app rfl (.tmp 61) (.tmp 64) 27 rfl rfl rfl rfl L3.out ?_))
      refine (HRunA.out _ HB4.out).mono ?_; rintro e w5 ⟨OA, rfl, ha0, hrowA, hb5⟩
      have SA := Lib.hid (says_row hrowA)
      have hOA := hrowA.lt
      have HB5 := Lib.hid (HB4.out.trans (hb5.mono HB4.out.size))
      have HRB := Lib.hid (HRunB.out w5 hb5)
      clear hrowA hb5 ha0 HRunA HRunB L1 L2 L3
      go_wp2_with fail
      refine HRB.out.mono ?_; rintro e w6 ⟨OB, rfl, ho0, hrowB, hb6⟩
      have SB := Lib.hid (says_row hrowB)
      have hOB := hrowB.lt
      have HB6 := Lib.hid (HB5.out.trans (hb6.mono HB5.out.size))
      have SA6 := Lib.hid (SA.out.below hb6 hOA)
      have hOA6 := Nat.lt_of_lt_of_le hOA hb6.size
      clear hrowB hb6 ho0 HRB SA
      have n1 : ((N : Int) != (N : Int)) = false := by simp
      have n2 : ((N : Int) + 2 != (N : Int) + 2) = false := by simp
      go_wp2_with fail
      go_loopw [89] (fun i wr => ∃ m : Nat, m ≤ N ∧ i = .int .i64 m ∧ Below w6.heap.size w6 wr) (fun i _ => N - (intOf i).toNat)
      case atStart => exact ⟨0, Nat.zero_le _, rfl, Below.refl _ _⟩
      case round =>
        obtain ⟨m, hm, rfl, hnx⟩ := hrel
        have hsize := hnx.size
        by_cases hlt : m < N
        · obtain ⟨s0, s1, s2⟩ := SA6.out.below hnx hOA6 m hlt
          have o1 := float_same (TA m).tok (HTT.out.self m hlt)
          have NX := Lib.hid hnx
          by_cases hmp : m < p
          · obtain ⟨q0, q1, q2⟩ := SB.out.below hnx hOB m (by omega)
            rw [HTT.out.lo m hmp] at q0 q1 q2
            generalize TA m = tl at *
            clear hnx
            have d1 : decide ((m : Int) < (p : Int)) = true := decide_eq_true (by omega)
            have d2 : decide ((p : Int) ≤ (m : Int)) = false := decide_eq_false (by omega)
            have d3 : (m : Int) < (p : Int) := by omega
            have d4 : decide (m < p) = true := decide_eq_true hmp
            have d5 : decide (p ≤ m) = false := decide_eq_false (by omega)
            have i4 : (m : Int) < (N : Int) + 2 := by omega
            have k0 := fun o => (World.cell?_alloc_lt wr o ⟨OB, m * 3, none⟩ (by show OB < _; omega)).trans q0
            have k1 := fun o => (World.cell?_alloc_lt wr o ⟨OB, m * 3 + 1, none⟩ (by show OB < _; omega)).trans q1
            have k2 := fun o => (World.cell?_alloc_lt wr o ⟨OB, m * 3 + 2, none⟩ (by show OB < _; omega)).trans q2
            clear q0 q1 q2
            go_wp2_with fail
            go_quiet (fail)
            go_wp2_with fail
            go_roundw
            case rel => exact ⟨m + 1, by omega, by go_num, below_drewN (NX.out.alloc (by omega) _) _⟩
            case measure => simp [intOf]; omega
          · obtain ⟨q0, q1, q2⟩ := SB.out.below hnx hOB (m + 2) (by omega)
            rw [HTT.out.hi m (by omega) hlt] at q0 q1 q2
            generalize TA m = tl at *
            clear hnx
            have d1 : decide ((m : Int) < (p : Int)) = false := decide_eq_false (by omega)
            have d2 : decide ((p : Int) ≤ (m : Int)) = true := decide_eq_true (by omega)
            have d3 : (p : Int) ≤ (m : Int) := by omega
            have d4 : decide (m < p) = false := decide_eq_false hmp
            have d5 : decide (p ≤ m) = true := decide_eq_true (by omega)
            have i4 : (m : Int) + 2 < (N : Int) + 2 := by omega
            have i5 : ((m : Int) + 2).toNat = m + 2 := by omega
            have k0 := fun o => (World.cell?_alloc_lt wr o ⟨OB, (m + 2) * 3, none⟩ (by show OB < _; omega)).trans q0
            have k1 := fun o => (World.cell?_alloc_lt wr o ⟨OB, (m + 2) * 3 + 1, none⟩ (by show OB < _; omega)).trans q1
            have k2 := fun o => (World.cell?_alloc_lt wr o ⟨OB, (m + 2) * 3 + 2, none⟩ (by show OB < _; omega)).trans q2
            clear q0 q1 q2
            go_wp2_with fail
            go_quiet (fail)
            go_wp2_with fail
            go_roundw
            case rel => exact ⟨m + 1, by omega, by go_num, below_drewN (NX.out.alloc (by omega) _) _⟩
            case measure => simp [intOf]; omega
        · have hmN : m = N := by omega
          subst hmN
          have NX := Lib.hid hnx
          clear hnx
          go_wp2_with fail
          refine (HNv.out _).mono ?_; rintro e w7 ⟨rfl, rfl⟩
          go_wp2_with fail
          go_ret
          exact ⟨rfl, HB6.out.trans (NX.out.mono HB6.out.size)⟩

theorem reads : ∀ t ∈ Try.f10.params.toList, Try.prog.readableRec t = true ∧ t < Try.prog.types.size := by
  rw [Try.params10]
  intro t ht
  simp at ht
  rcases ht with rfl | rfl | rfl
  all_goals exact ⟨by kernel_rfl, of_decide_eq_true (by kernel_rfl)⟩

set_option maxRecDepth 100000 in
theorem lifted (os : Os) (started : os.Started) (H : Type) (enc : TypeId × Value → H) :
    ReturnsInHanded {} Try.checked os 10 .any (Rows.fnCancelNowSpec.pre6 enc Try.prog Try.f10 Rows.fnCancelNowRow.domain false) (Rows.fnCancelNowSpec.post enc Try.prog Try.f10 false true false false) := by
  refine returnsInHanded_of_change (C := Try.checked) knobs started (by kernel_rfl) Try.func10
    (ChangeSpec.witness6 (enc := enc) (C := Try.checked) false ⟨#[], #[.int .i64 0, .int .i64 0, .slice none 0 0, .int .i64 0, .int .i64 0], []⟩ 8 (by kernel_rfl) (by kernel_rfl) (by kernel_rfl) (by kernel_rfl)) ?_
  intro W base args ds gs before hval0 hW hcnd _
  have hval : ∀ (j : Nat) t v, Try.f10.params[j]? = some t → args[j]? = some v → Value.okWide Try.prog W .any base t v := hval0
  have hW' := hW
  obtain ⟨p, q, hA0, hV, rfl, hfz, hnd⟩ := hW
  have hA : DataW.TrodAll enc Try.prog W 0 (fun _ => true) true Try.f10.params.toList args.toList ds p := hA0
  rw [Try.params10] at hA hval
  obtain ⟨v0, vs0, d0, ds0, p0, q0, hargs, rfl, rfl, h0, r0⟩ := trodAll_cons hA
  obtain ⟨v1, vs1, d1, ds1, p1, q1, rfl, rfl, rfl, h1, r1⟩ := trodAll_cons r0
  obtain ⟨v2, vs2, d2, ds2, p2, q2, rfl, rfl, rfl, h2, r2⟩ := trodAll_cons r1
  obtain ⟨v3, vs3, d3, ds3, p3, q3, rfl, rfl, rfl, h3, r3⟩ := trodAll_cons r2
  obtain ⟨v4, vs4, d4, ds4, p4, q4, rfl, rfl, rfl, h4, r4⟩ := trodAll_cons r3
  obtain ⟨rfl, rfl, rfl⟩ := trodAll_nil r4
  obtain rfl : args = #[v0, v1, v2, v3, v4] := by cases args; simp_all
  obtain ⟨rfl, rfl⟩ := trodVars_none hV
  obtain ⟨a0, rfl, rfl, rfl, w0⟩ := open_int Try.underlying3 (hval 0 3 v0 rfl rfl) h0
  obtain ⟨a1, rfl, rfl, rfl, w1⟩ := open_int Try.underlying3 (hval 1 3 v1 rfl rfl) h1
  obtain ⟨A, N, cap, sb, so, X, rfl, hAA, hX, -⟩ := open_steps (hval 2 27 v2 rfl rfl) h2
  obtain ⟨a3, rfl, rfl, rfl, w3⟩ := open_int Try.underlying3 (hval 3 3 v3 rfl rfl) h3
  obtain ⟨a4, rfl, rfl, rfl, w4⟩ := open_int Try.underlying3 (hval 4 3 v4 rfl rfl) h4
  clear hA0 hval0
  refine (walk sb so N cap a0 a1 X a3 a4 A W hAA (steps_none h2) (steps_cap h2) hX).mono fun e W' ⟨he, hg⟩ => ?_
  subst he
  exact ⟨_, rfl, law_post hW' rfl rfl rfl rfl (by kernel_rfl) reads hg⟩

theorem named : Try.pinned.checked.prog.funcNamed Rows.fnCancelNowRow.func = some 10 := by kernel_rfl

theorem closed : joinedFacts Try.pinned.checked.prog 10 Try.f10 Rows.fnCancelNowSpec Rows.fnCancelNowRow = true := by
  unfold joinedFacts
  rw [enters, lifts, makes]
  repeat' (with_reducible refine band ?_ ?_)
  all_goals as_aux_lemma => kernel_rfl

theorem instanced : Func.isInstance Try.pinned.checked.prog Try.f10 Rows.fnCancelNowRow.origin Rows.fnCancelNowRow.targs := of_decide_eq_true (by kernel_rfl)

theorem wrapped : Func.isWrapper Try.pinned.checked.prog Try.f10 Rows.fnCancelNowRow.wrapper Rows.fnCancelNowRow.mainSum := by
  unfold Func.isWrapper; first | (rw [if_pos (by decide +kernel)]; kernel_rfl) | (rw [if_neg (by decide +kernel)]; exact ⟨rfl, rfl⟩)

theorem over : Rows.fnCancelNowRow.holds Try.pinned (OpenSpec.ofChange Rows.fnCancelNowSpec) :=
  OpenClaim.holds_of_wide 10 Try.f10 rfl rfl rfl rfl rfl rfl rfl ⟨rfl, rfl, rfl, rfl, rfl⟩ rfl rfl rfl rfl rfl named Try.func10 closed instanced wrapped
    (fun os started H enc _ => lifted os started H enc)

/-- ████ THE STATEMENT ████ -/
theorem proved : Rows.FnCancelNowSaid :=
  over
#print axioms proved
end Go.Proofs.Ytndkiphlpddbaaa.fnCancelNow
