/- The law FnManySmall holds for every input. No condition. (The frame is after the seat's proof-skeleton; the row's part printed by wip/tools/genrow.py.) -/
import Derived.Test.YtndkiphlpddbaaaLwX
import Derived.BigQuiet
import Derived.Deep.QuietTactic
import Derived.Test.YtndkiphlpddbaaaRowS
import Derived.WalkKit
import Derived.ProofKit
import Derived.OpenShut
namespace Go.Proofs.Ytndkiphlpddbaaa.fnManySmall
open Go.ChangeShapes Go.WideShapes Go.ChangeAt Go.RowKit Go.Deep Flt
set_option linter.unusedVariables false
attribute [local go_sem] store_float

theorem cmp_le (m i : Int) (i0 : 0 ≤ i) (i1 : i ≤ 1000) (h0 : 0 ≤ m) (h1 : m ≤ 51200) :
    (FloatKind.f64.format.order (floatOfInt .f64 i) (G (-9) m)) = some (compare (i * 512) m) := by
  rw [floatOfInt_G, G_512]
  exact order_G (-9) (i * 512) m (by omega) (by omega) (by decide) (by decide)

theorem small_cells (first wait : Int) (k : Nat) : scrL (smallScr first wait) (2 + k + 1) = scrL (smallScr first wait) (2 + k) ++ [.int .i64 0, .int .i64 wait, .int .i64 1] := by
  rw [scrL]
  unfold smallScr
  simp only [show ¬ 2 + k = 1 from by omega, show ¬ 2 + k = 0 from by omega, if_false]

theorem six_new (w : World) (a b c d e f : Value) (t : TypeId) : ∀ j u, [a, b, c, d, e, f][j]? = some u → (w.alloc (.cells #[a, b, c, d, e, f] t)).cell? ((⟨w.heap.size, 0, none⟩ : Addr).add j) = some u := by
  intro j u hu
  rw [Addr.add_lit, Nat.zero_add, cell_of_row _ _ j #[a, b, c, d, e, f] t (0, 0) (heap_alloc_new w _)]
  simpa using hu

set_option maxRecDepth 100000 in
set_option maxHeartbeats 4000000 in
theorem walk_in (rate burst first wait : Int) (w : World) (r0 : 1 ≤ rate) (r1 : rate ≤ 1000) (b0 : 0 ≤ burst) (b1 : burst ≤ 64) (f0 : 1 ≤ first) (f1 : first ≤ 64) (w0 : 0 ≤ wait) (w1 : wait ≤ 65536) :
    Calls Try.prog 13 #[.int .i64 rate, .int .i64 burst, .int .i64 first, .int .i64 wait] w fun e w' => e = .returned (.bool true) ∧ Below w.heap.size w w' := by
  obtain ⟨bn, rfl⟩ := Int.eq_ofNat_of_zero_le b0
  have HT := Lib.hid (small_told (rate := rate) (burst := (bn : Int)) (first := first) (wait := wait) r0 b0 w0)
  have HRun := Lib.hid (fun (g c : Nat) (w' : World) (hg : g < w'.heap.size) (hl : Lies w' (smallScr first wait) g 0 (2 + (bn + 1))) =>
    Run_plain g 0 (2 + (bn + 1)) c rate (bn : Int) (smallScr first wait) w' (some ⟨g, 0, none⟩) (small_plain _ f0 f1 w0 w1) (by omega) (by omega) r1 b0 b1 (fun _ => ⟨rfl, hg⟩) hl)
  obtain ⟨i0, hi, hz0, hz1, hz2⟩ := info_parts info26
  have HNv := Lib.hid never_any
  go_enter Try.func13, Try.ntmps13
  go_wp2_with fail
  go_loopw [9, 50] (fun v i wr => ∃ k : Nat, k ≤ bn + 1 ∧ i = .int .i64 k ∧ wr.ownsRow w.heap.size 26 3 v (2 + k) (scrL (smallScr first wait) (2 + k)) ∧ v ≠ .slice none 0 0 ∧ Below w.heap.size w wr) (fun _ i _ => bn + 1 - (intOf i).toNat)
  case atStart => exact ⟨0, Nat.zero_le _, rfl, World.ownsRow_lit w #[.int .i64 0, .int .i64 0, .int .i64 first, .int .i64 2, .int .i64 wait, .int .i64 0] 2 (Nat.le_refl _) (by unfold maxLen; omega) rfl, by simp, (Below.refl _ _).alloc (Nat.le_refl _) _⟩
  case round =>
    obtain ⟨k, hk, rfl, hown, hnn, hnx⟩ := hrel
    have hsize := hnx.size
    by_cases hlt : k < bn + 1
    · have hlt' : (k : Int) < (bn : Int) + 1 := by omega
      have c1 := cell_three_new wr (.int .i64 0) (.int .i64 wait) (.int .i64 1) 26
      have C1 := Lib.hid c1
      clear c1
      go_wp2_with (at_builtin; refine wpList_append_own _ rfl (.tmp 52) (.tmp 55) 27 rfl w.heap.size 26 i0 (.agg #[.int .i64 0, .int .i64 0, .int .i64 0]) 3 24 Try.underlying27 hi hz0 hz1 hz2 rfl (by decide) _ _ _ rfl (hown.alloc _) ⟨wr.heap.size, 0, none⟩ 1 1 [.int .i64 0, .int .i64 wait, .int .i64 1] rfl rfl C1.out (by intro u hu; simp at hu; rcases hu with rfl | rfl | rfl <;> rfl) (by unfold maxLen; omega) (by omega) (by simp; omega) ?_; intro v1 w4 hown1 hgrow1 hnil1)
      go_roundw
      case rel =>
        refine ⟨k + 1, by omega, by go_num, by rw [← Nat.add_assoc, small_cells]; exact hown1, fun hh => absurd (hnil1.1 hh).2 (by decide), ?_⟩
        exact (hnx.alloc (by omega) _).grown hgrow1 (by simp; omega) (fun j hj => (hown.lt j hj).1)
      case measure => simp [intOf]; omega
    · have hkN : k = bn + 1 := by omega
      subst hkN
      have hlt' : ¬ ((bn + 1 : Nat) : Int) < (bn : Int) + 1 := by omega
      obtain ⟨g7, c7, hv2e⟩ : ∃ g7 c7, _ = Value.slice (some ⟨g7, 0, none⟩) (2 + (bn + 1)) c7 := by
        rcases hown.2 with ⟨h, _⟩ | ⟨g7, c7, _, h, _⟩
        · exact absurd h hnn
        · exact ⟨g7, c7, h⟩
      subst hv2e
      have hg7 := (hown.lt g7 rfl).2
      have HRunA := Lib.hid (HRun.out g7 c7 wr hg7 (lies_own hown))
      have HB2 := Lib.hid hnx
      generalize hTT : (fun k => toldOf (stN (St.new rate (bn : Int)) (smallScr first wait) k) ((smallScr first wait).kd k) ((smallScr first wait).at_ k) ((smallScr first wait).nm k)) = T at *
      have HT' : Hid (∃ m : Int, 0 ≤ m ∧ m ≤ (bn : Int) * 512 ∧ (T 1).tok = G (-9) m ∧ ∀ i : Nat, (T (2 + i)).ok = decide (((i : Int) + 1) * 512 ≤ m)) := Lib.hid (by rw [← hTT]; exact HT.out)
      clear hown hnn hnx HRun HT hTT
      go_wp2_with fail
      refine HRunA.out.mono ?_; rintro e w3 ⟨OB, rfl, ho0, hrow, hb3⟩
      have SO := Lib.hid (says_row hrow)
      have hO := hrow.lt
      have HB3 := Lib.hid (HB2.out.trans (hb3.mono HB2.out.size))
      obtain ⟨m, m0, m1, hm1, hok⟩ := HT'.out
      have HOK := Lib.hid hok
      have HM := Lib.hid hm1
      have e2 : ¬ 2 + (bn + 1) = 2 := by omega
      have e3 : 2 + (bn + 1) - 2 = bn + 1 := by omega
      have e4 : (2 : Int) ≤ ((2 + (bn + 1) : Nat) : Int) := by omega
      clear hrow hb3 ho0 HRunA HT' hok hm1
      go_wp2_with fail
      go_loopw [70] (fun i wr => ∃ j : Nat, j ≤ bn + 1 ∧ i = .int .i64 j ∧ Below w3.heap.size w3 wr) (fun i _ => bn + 1 - (intOf i).toNat)
      case atStart => exact ⟨0, Nat.zero_le _, rfl, Below.refl _ _⟩
      case round =>
        obtain ⟨j, hj, rfl, hnx⟩ := hrel
        have hsize := hnx.size
        by_cases hlt2 : j < bn + 1
        · obtain ⟨s0, s1, s2⟩ := SO.out.below hnx hO (2 + j) (by omega)
          obtain ⟨-, -, u2⟩ := SO.out.below hnx hO 1 (by omega)
          rw [HOK.out j] at s0
          rw [HM.out] at u2
          have hcmp := cmp_le m ((j : Int) + 1) (by omega) (by omega) m0 (by omega)
          have NX := Lib.hid hnx
          clear hnx
          rw [show (2 + j) * 3 = 6 + j * 3 by omega] at s0
          rw [show (2 + j) * 3 + 1 = 6 + j * 3 + 1 by omega] at s1
          rw [show (2 + j) * 3 + 2 = 6 + j * 3 + 2 by omega] at s2
          have y2 := fun o => (World.cell?_alloc_lt wr o ⟨OB, 1 * 3 + 2, none⟩ (by show OB < _; omega)).trans u2
          have hlt3 : (j : Int) < (bn : Int) + 1 := by omega
          have i3 : (1 : Int) < ((2 + (bn + 1) : Nat) : Int) := by omega
          have l1 : (some Ordering.lt == some Ordering.eq) = false := rfl
          have l2 : (some Ordering.gt == some Ordering.lt) = false := rfl
          have l3 : (some Ordering.gt == some Ordering.eq) = false := rfl
          have l4 : (some Ordering.eq == some Ordering.lt) = false := rfl
          clear u2
          rcases Int.lt_trichotomy (((j : Int) + 1) * 512) m with hh | hh | hh
          · rw [show compare (((j : Int) + 1) * 512) m = Ordering.lt from Int.compare_eq_lt.2 hh] at hcmp
            rw [decide_eq_true (show ((j : Int) + 1) * 512 ≤ m by omega)] at s0
            have HH := Lib.hid hh
            clear hh
            go_wp2_with fail
            go_quiet (fail)
            go_wp2_with fail
            go_roundw
            case rel => exact ⟨j + 1, by omega, by go_num, below_drewN (NX.out.alloc (by omega) _) _⟩
            case measure => simp [intOf]; omega
          · rw [show compare (((j : Int) + 1) * 512) m = Ordering.eq from Int.compare_eq_eq.2 hh] at hcmp
            rw [decide_eq_true (show ((j : Int) + 1) * 512 ≤ m by omega)] at s0
            have HH := Lib.hid hh
            clear hh
            go_wp2_with fail
            go_quiet (fail)
            go_wp2_with fail
            go_roundw
            case rel => exact ⟨j + 1, by omega, by go_num, below_drewN (NX.out.alloc (by omega) _) _⟩
            case measure => simp [intOf]; omega
          · rw [show compare (((j : Int) + 1) * 512) m = Ordering.gt from Int.compare_eq_gt.2 hh] at hcmp
            rw [decide_eq_false (show ¬ ((j : Int) + 1) * 512 ≤ m by omega)] at s0
            have HH := Lib.hid hh
            clear hh
            go_wp2_with fail
            go_quiet (fail)
            go_wp2_with fail
            go_roundw
            case rel => exact ⟨j + 1, by omega, by go_num, below_drewN (NX.out.alloc (by omega) _) _⟩
            case measure => simp [intOf]; omega
        · have hjk : j = bn + 1 := by omega
          subst hjk
          have hlt4 : ¬ ((bn + 1 : Nat) : Int) < (bn : Int) + 1 := by omega
          have NX := Lib.hid hnx
          clear hnx
          go_wp2_with fail
          refine (HNv.out _).mono ?_; rintro e w6 ⟨rfl, rfl⟩
          go_wp2_with fail
          go_ret
          exact ⟨rfl, HB3.out.trans (NX.out.mono HB3.out.size)⟩

theorem walk (rate burst first wait : Int) (w : World) :
    Calls Try.prog 13 #[.int .i64 rate, .int .i64 burst, .int .i64 first, .int .i64 wait] w fun e w' => e = .returned (.bool true) ∧ Below w.heap.size w w' := by
  by_cases h : 1 ≤ rate ∧ rate ≤ 1000 ∧ 0 ≤ burst ∧ burst ≤ 64 ∧ 1 ≤ first ∧ first ≤ 64 ∧ 0 ≤ wait ∧ wait ≤ 65536
  · obtain ⟨a, b, c, d, e, f, g, i⟩ := h
    exact walk_in rate burst first wait w a b c d e f g i
  · by_cases g1 : rate < 1
    · go_enter Try.func13, Try.ntmps13
      go_wp2_with fail
      go_ret
      exact ⟨rfl, Below.refl _ _⟩
    by_cases g2 : 1000 < rate
    · go_enter Try.func13, Try.ntmps13
      go_wp2_with fail
      go_ret
      exact ⟨rfl, Below.refl _ _⟩
    by_cases g3 : burst < 0
    · go_enter Try.func13, Try.ntmps13
      go_wp2_with fail
      go_ret
      exact ⟨rfl, Below.refl _ _⟩
    by_cases g4 : 64 < burst
    · go_enter Try.func13, Try.ntmps13
      go_wp2_with fail
      go_ret
      exact ⟨rfl, Below.refl _ _⟩
    by_cases g5 : first < 1
    · go_enter Try.func13, Try.ntmps13
      go_wp2_with fail
      go_ret
      exact ⟨rfl, Below.refl _ _⟩
    by_cases g6 : 64 < first
    · go_enter Try.func13, Try.ntmps13
      go_wp2_with fail
      go_ret
      exact ⟨rfl, Below.refl _ _⟩
    by_cases g7 : wait < 0
    · go_enter Try.func13, Try.ntmps13
      go_wp2_with fail
      go_ret
      exact ⟨rfl, Below.refl _ _⟩
    by_cases g8 : 65536 < wait
    · clear h
      go_enter Try.func13, Try.ntmps13
      go_wp2_with fail
      go_ret
      exact ⟨rfl, Below.refl _ _⟩
    · exact absurd ⟨by omega, by omega, by omega, by omega, by omega, by omega, by omega, by omega⟩ h

theorem reads : ∀ t ∈ Try.f13.params.toList, Try.prog.readableRec t = true ∧ t < Try.prog.types.size := by
  rw [Try.params13]
  intro t ht
  simp at ht
  subst ht
  exact ⟨by kernel_rfl, of_decide_eq_true (by kernel_rfl)⟩

set_option maxRecDepth 100000 in
theorem lifted (os : Os) (started : os.Started) (H : Type) (enc : TypeId × Value → H) :
    ReturnsInHanded {} Try.checked os 13 .any (Rows.fnManySmallSpec.pre6 enc Try.prog Try.f13 Rows.fnManySmallRow.domain false) (Rows.fnManySmallSpec.post enc Try.prog Try.f13 false true false false) := by
  refine returnsInHanded_of_change (C := Try.checked) knobs started (by kernel_rfl) Try.func13
    (ChangeSpec.witness6 (enc := enc) (C := Try.checked) false ⟨#[], #[.int .i64 0, .int .i64 0, .int .i64 0, .int .i64 0], []⟩ 8 (by kernel_rfl) (by kernel_rfl) (by kernel_rfl) (by kernel_rfl)) ?_
  intro W base args ds gs before hval0 hW hcnd _
  have hval : ∀ (j : Nat) t v, Try.f13.params[j]? = some t → args[j]? = some v → Value.okWide Try.prog W .any base t v := hval0
  have hW' := hW
  obtain ⟨p, q, hA0, hV, rfl, hfz, hnd⟩ := hW
  have hA : DataW.TrodAll enc Try.prog W 0 (fun _ => true) true Try.f13.params.toList args.toList ds p := hA0
  rw [Try.params13] at hA hval
  obtain ⟨v0, vs0, d0, ds0, p0, q0, hargs, rfl, rfl, h0, r0⟩ := trodAll_cons hA
  obtain ⟨v1, vs1, d1, ds1, p1, q1, rfl, rfl, rfl, h1, r1⟩ := trodAll_cons r0
  obtain ⟨v2, vs2, d2, ds2, p2, q2, rfl, rfl, rfl, h2, r2⟩ := trodAll_cons r1
  obtain ⟨v3, vs3, d3, ds3, p3, q3, rfl, rfl, rfl, h3, r3⟩ := trodAll_cons r2
  obtain ⟨rfl, rfl, rfl⟩ := trodAll_nil r3
  obtain rfl : args = #[v0, v1, v2, v3] := by cases args; simp_all
  obtain ⟨rfl, rfl⟩ := trodVars_none hV
  obtain ⟨a0, rfl, rfl, rfl, w0⟩ := open_int Try.underlying3 (hval 0 3 v0 rfl rfl) h0
  obtain ⟨a1, rfl, rfl, rfl, w1⟩ := open_int Try.underlying3 (hval 1 3 v1 rfl rfl) h1
  obtain ⟨a2, rfl, rfl, rfl, w2⟩ := open_int Try.underlying3 (hval 2 3 v2 rfl rfl) h2
  obtain ⟨a3, rfl, rfl, rfl, w3⟩ := open_int Try.underlying3 (hval 3 3 v3 rfl rfl) h3
  clear hA0 hval0
  refine (walk a0 a1 a2 a3 W).mono fun e W' ⟨he, hg⟩ => ?_
  subst he
  exact ⟨_, rfl, law_post hW' rfl rfl rfl rfl (by kernel_rfl) reads hg⟩

theorem named : Try.pinned.checked.prog.funcNamed Rows.fnManySmallRow.func = some 13 := by kernel_rfl

theorem closed : joinedFacts Try.pinned.checked.prog 13 Try.f13 Rows.fnManySmallSpec Rows.fnManySmallRow = true := by
  unfold joinedFacts
  rw [enters, lifts, makes]
  repeat' (with_reducible refine band ?_ ?_)
  all_goals as_aux_lemma => kernel_rfl

theorem instanced : Func.isInstance Try.pinned.checked.prog Try.f13 Rows.fnManySmallRow.origin Rows.fnManySmallRow.targs := of_decide_eq_true (by kernel_rfl)

theorem wrapped : Func.isWrapper Try.pinned.checked.prog Try.f13 Rows.fnManySmallRow.wrapper Rows.fnManySmallRow.mainSum := by
  unfold Func.isWrapper; first | (rw [if_pos (by decide +kernel)]; kernel_rfl) | (rw [if_neg (by decide +kernel)]; exact ⟨rfl, rfl⟩)

theorem over : Rows.fnManySmallRow.holds Try.pinned (OpenSpec.ofChange Rows.fnManySmallSpec) :=
  OpenClaim.holds_of_wide 13 Try.f13 rfl rfl rfl rfl rfl rfl rfl ⟨rfl, rfl, rfl, rfl, rfl⟩ rfl rfl rfl rfl rfl named Try.func13 closed instanced wrapped
    (fun os started H enc _ => lifted os started H enc)

/-- ████ THE STATEMENT ████ -/
theorem proved : Rows.FnManySmallSaid :=
  over
#print axioms proved
end Go.Proofs.Ytndkiphlpddbaaa.fnManySmall
