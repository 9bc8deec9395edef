/- The law FnNoWaste holds for every input. No condition. (The frame is after the seat's proof-skeleton.) -/
import Derived.Test.YtndkiphlpddbaaaLwW
import Derived.BigQuiet
import Derived.Deep.QuietTactic
import Derived.Test.YtndkiphlpddbaaaRowS
import Derived.WalkKit
import Derived.ProofKit
import Derived.OpenShut
namespace Go.Proofs.Ytndkiphlpddbaaa.fnNoWaste
open Go.ChangeShapes Go.WideShapes Go.ChangeAt Go.RowKit Go.Deep Flt
set_option linter.unusedVariables false
attribute [local go_sem] store_float

theorem cells_new (w : World) (cs : Array Value) (t : TypeId) : ∀ j u, cs.toList[j]? = some u → (w.alloc (.cells cs t)).cell? ((⟨w.heap.size, 0, none⟩ : Addr).add j) = some u := by
  intro j u hu
  rw [Addr.add_lit, Nat.zero_add, cell_of_row _ _ j cs t (0, 0) (heap_alloc_new w _)]
  simpa using hu

set_option maxRecDepth 100000 in
set_option maxHeartbeats 4000000 in
theorem walk (sb so N cap : Nat) (rate burst : Int) (X : Scr) (A : Option Addr) (w : World) (hA : 0 < N → A = some ⟨sb, so, none⟩ ∧ sb < w.heap.size) (hn : A = none → N = 0 ∧ cap = 0) (hX : Lies w X sb so N) :
    Calls Try.prog 15 #[.int .i64 rate, .int .i64 burst, .slice A N cap] w fun e w' => e = .returned (.bool true) ∧ Below w.heap.size w w' := by
  by_cases hbig : 2147483647 < N
  · have hbig' : (2147483647 : Int) < N := by omega
    go_enter Try.func15, Try.ntmps15
    go_wp2_with fail
    go_ret
    exact ⟨rfl, Below.refl _ _⟩
  · have hN : N ≤ 2147483647 := by omega
    have hN' : ¬ (2147483647 : Int) < N := by omega
    have hNn : N ≤ 9223372036854775807 := by omega
    have HPl := Lib.hid (plain_any sb so N cap X A w hN hA hX)
    have HA := Lib.hid hA
    have HX := Lib.hid hX
    have HNo := Lib.hid hn
    clear hA hX hbig hn
    go_enter Try.func15, Try.ntmps15
    go_wp2_with fail
    refine HPl.out.mono ?_; rintro e w1 ⟨g, c1, rfl, hg0, hg1, hl1, hb1⟩
    have HB1 := Lib.hid hb1
    have HL1 := Lib.hid hl1
    have HWh := Lib.hid (whole_any g N c1 rate burst X w1 hN hg1 hl1)
    clear hb1 hl1 hg0 HPl
    go_wp2_with fail
    refine HWh.out.mono ?_; rintro e w2 ⟨r, rfl, hr, hb2⟩
    have HB2 := Lib.hid (HB1.out.trans (hb2.mono HB1.out.size))
    have HOn := Lib.hid (only_any g N c1 X 0 0 w2 hN (Nat.lt_of_lt_of_le hg1 hb2.size) (HL1.out.below hb2 hg1))
    have HR := Lib.hid hr
    clear hb2 hr HWh HL1 HB1
    cases r
    · go_wp2_with fail
      go_ret
      exact ⟨rfl, HB2.out⟩
    · have HWP := Lib.hid (HR.out rfl)
      clear HR
      go_wp2_with fail
      refine HOn.out.mono ?_; rintro e w3 ⟨r, rfl, hr, hb3⟩
      have HB3 := Lib.hid (HB2.out.trans (hb3.mono HB2.out.size))
      have HR := Lib.hid hr
      clear hb3 hr HOn
      cases r
      · go_wp2_with fail
        go_ret
        exact ⟨rfl, HB3.out⟩
      · have honly := HR.out rfl
        have hwh := HWP.out
        have hgood := hwh.good
        have hst := dbl_steps hgood.step honly
        have R0 := hwh.r0
        have R1 := hwh.r1
        have hn40 := hgood.n
        have B0 := hgood.b0
        have B1 := hgood.b1
        have hs3 := HB3.out.size
        have HT := Lib.hid (waste_told (rate := rate) (burst := burst) hst honly R0 B0)
        have HSt := Lib.hid hst
        have HNm := Lib.hid (fun k hk => (⟨(hgood.step k hk).n0, (hgood.step k hk).n1⟩ : 0 ≤ X.nm k ∧ X.nm k ≤ 100))
        obtain ⟨i0, hi, hz0, hz1, hz2⟩ := info_parts info26
        have HNv := Lib.hid never_any
        clear hgood hst hwh honly HR HWP
        go_wp2_with fail
        go_loopw [8, 32] (fun v i wr => ∃ k : Nat, k ≤ N ∧ i = .int .i64 k ∧ wr.ownsRow w3.heap.size 26 3 v (2 * k) (scrL X.dbl (2 * k)) ∧ v ≠ .slice none 0 0 ∧ Below w3.heap.size w3 wr) (fun _ i _ => N - (intOf i).toNat)
        case atStart => exact ⟨0, Nat.zero_le _, rfl, World.ownsRow_made w3 #[] 0 (Nat.le_refl _) (by unfold maxLen; omega) rfl, by simp, (Below.refl _ _).alloc (Nat.le_refl _) _⟩
        case round =>
          obtain ⟨k, hk, rfl, hown, hnn, hnx⟩ := hrel
          have hsize := hnx.size
          by_cases hlt : k < N
          · obtain ⟨hAe, hsb⟩ := HA.out (by omega)
            subst hAe
            obtain ⟨t0, t1, t2⟩ := (HX.out.below (HB3.out.trans (hnx.mono hs3)) hsb) k hlt
            have c1 := cells_new (wr.alloc (.cells #[.int .i64 (X.kd k), .int .i64 (X.at_ k), .int .i64 (X.nm k)] 26)) #[.int .i64 2, .int .i64 (X.at_ k), .int .i64 0, .int .i64 (X.kd k), .int .i64 (X.at_ k), .int .i64 (X.nm k)] 26
            rw [World.size_alloc] at c1
            have C1 := Lib.hid c1
            clear c1
            go_wp2_with (at_builtin; refine wpList_append_own _ rfl (.tmp 36) (.tmp 41) 27 rfl w3.heap.size 26 i0 (.agg #[.int .i64 0, .int .i64 0, .int .i64 0]) 3 24 Try.underlying27 hi hz0 hz1 hz2 rfl (by decide) _ _ _ rfl ((hown.alloc _).alloc _) ⟨wr.heap.size + 1, 0, none⟩ 2 2 [.int .i64 2, .int .i64 (X.at_ k), .int .i64 0, .int .i64 (X.kd k), .int .i64 (X.at_ k), .int .i64 (X.nm k)] rfl rfl C1.out (by intro u hu; simp only [List.mem_cons, List.not_mem_nil, or_false] at hu; rcases hu with rfl | rfl | rfl | rfl | rfl | rfl <;> rfl) (by unfold maxLen; omega) (by omega) (by simp; omega) ?_; intro v1 w4 hown1 hgrow1 hnil1)
            go_roundw
            case rel =>
              refine ⟨k + 1, by omega, by go_num, by rw [dbl_cells]; exact hown1, fun hh => absurd (hnil1.1 hh).2 (by decide), ?_⟩
              exact ((hnx.alloc (by omega) _).alloc (by simp; omega) _).grown hgrow1 (by simp; omega) (fun j hj => (hown.lt j hj).1)
            case measure => simp [intOf]; omega
          · have hkN : k = N := by omega
            subst hkN
            obtain ⟨g7, c7, hv2e⟩ : ∃ g7 c7, _ = Value.slice (some ⟨g7, 0, none⟩) (2 * k) c7 := by
              rcases hown.2 with ⟨h, _⟩ | ⟨g7, c7, _, h, _⟩
              · exact absurd h hnn
              · exact ⟨g7, c7, h⟩
            subst hv2e
            have HL5 := Lib.hid (lies_own hown)
            have hg7 := (hown.lt g7 rfl).2
            have HB4 := Lib.hid (HB3.out.trans (hnx.mono hs3))
            have HRun := Lib.hid (Run_plain g7 0 (2 * k) c7 rate burst X.dbl wr (some ⟨g7, 0, none⟩) HSt.out.plain (by omega) (by omega) R1 B0 B1 (fun _ => ⟨rfl, hg7⟩) HL5.out)
            generalize hTT : (fun k => toldOf (stN (St.new rate burst) X.dbl k) (X.dbl.kd k) (X.dbl.at_ k) (X.dbl.nm k)) = T at *
            have HT' : Hid (∀ i, i < k → ∃ m : Int, (T (2 * i)).tok = G (-9) m ∧ 0 ≤ m ∧ m ≤ burst * 512 ∧ (T (2 * i + 1)).ok = decide (X.nm i ≤ burst ∧ X.nm i * 512 ≤ m)) := Lib.hid (fun i hi => by rw [← hTT]; exact HT.out i hi)
            clear HT hTT hown hnn hnx HL5 HSt
            go_wp2_with fail
            refine HRun.out.mono ?_; rintro e w5 ⟨OB, rfl, ho0, hrow, hb5⟩
            have SO := Lib.hid (says_row hrow)
            have hO := hrow.lt
            have HB5 := Lib.hid (HB4.out.trans (hb5.mono HB4.out.size))
            have HX5 := Lib.hid (lies_later HX.out HB5.out (fun h => (HA.out h).2))
            clear hrow hb5 ho0 HRun
            go_wp2_with fail
            go_loopw [55] (fun i wr => ∃ j : Nat, j ≤ k ∧ i = .int .i64 j ∧ Below w5.heap.size w5 wr) (fun i _ => k - (intOf i).toNat)
            case atStart => exact ⟨0, Nat.zero_le _, rfl, Below.refl _ _⟩
            case round =>
              obtain ⟨j, hj, rfl, hnx⟩ := hrel
              have hsize := hnx.size
              by_cases hlt2 : j < k
              · obtain ⟨hAe, hsb⟩ := HA.out (by omega)
                subst hAe
                obtain ⟨t0, t1, t2⟩ := (HX5.out.below hnx (Nat.lt_of_lt_of_le hsb HB5.out.size)) j hlt2
                obtain ⟨m, hm, m0, m1, hok⟩ := HT'.out j hlt2
                obtain ⟨nn0, nn1⟩ := HNm.out j hlt2
                obtain ⟨-, -, u2⟩ := SO.out.below hnx hO (2 * j) (by omega)
                obtain ⟨u0, -, -⟩ := SO.out.below hnx hO (2 * j + 1) (by omega)
                rw [hm] at u2
                rw [hok] at u0
                have hcmp := cmp_ge m (X.nm j) m0 (by omega) nn0 (by omega)
                have NX := Lib.hid hnx
                clear hnx hm hok
                have i1 : (2 * (j : Int) + 1).toNat = 2 * j + 1 := by omega
                have i2 : (2 * (j : Int)).toNat = 2 * j := by omega
                have y0 := fun o => (World.cell?_alloc_lt wr o ⟨OB, (2 * j + 1) * 3, none⟩ (by show OB < _; omega)).trans u0
                have y2 := fun o => (World.cell?_alloc_lt wr o ⟨OB, 2 * j * 3 + 2, none⟩ (by show OB < _; omega)).trans u2
                clear u0 u2
                go_wp2_with fail
                have l1 : (some Ordering.lt == some Ordering.gt) = false := rfl
                have l2 : (some Ordering.lt == some Ordering.eq) = false := rfl
                have l3 : (some Ordering.eq == some Ordering.gt) = false := rfl
                rcases Int.lt_trichotomy m (X.nm j * 512) with hh | hh | hh
                · rw [show compare m (X.nm j * 512) = Ordering.lt from Int.compare_eq_lt.2 hh] at hcmp
                  by_cases hb : X.nm j ≤ burst
                  · have hdec : decide (X.nm j ≤ burst ∧ X.nm j * 512 ≤ m) = false := by simp only [decide_eq_false_iff_not]; omega
                    simp only [hdec] at y0
                    have hd : decide (X.nm j ≤ burst) = true := decide_eq_true hb
                    have HH := Lib.hid hh
                    have HB := Lib.hid hb
                    clear hh hb
                    clear hdec
                    go_quiet (fail)
                    go_wp2_with fail
                    go_roundw
                    case rel => exact ⟨j + 1, by omega, by go_num, below_drewN (NX.out.alloc (by omega) _) _⟩
                    case measure => simp [intOf]; omega
                  · have hdec : decide (X.nm j ≤ burst ∧ X.nm j * 512 ≤ m) = false := by simp only [decide_eq_false_iff_not]; omega
                    simp only [hdec] at y0
                    have hd : decide (X.nm j ≤ burst) = false := decide_eq_false hb
                    have HH := Lib.hid hh
                    have HB := Lib.hid hb
                    clear hh hb
                    clear hdec
                    go_quiet (fail)
                    go_wp2_with fail
                    go_roundw
                    case rel => exact ⟨j + 1, by omega, by go_num, below_drewN (NX.out.alloc (by omega) _) _⟩
                    case measure => simp [intOf]; omega
                · rw [show compare m (X.nm j * 512) = Ordering.eq from Int.compare_eq_eq.2 hh] at hcmp
                  by_cases hb : X.nm j ≤ burst
                  · have hdec : decide (X.nm j ≤ burst ∧ X.nm j * 512 ≤ m) = true := by simp only [decide_eq_true_eq]; omega
                    simp only [hdec] at y0
                    have hd : decide (X.nm j ≤ burst) = true := decide_eq_true hb
                    have HH := Lib.hid hh
                    have HB := Lib.hid hb
                    clear hh hb
                    clear hdec
                    go_quiet (fail)
                    go_wp2_with fail
                    go_roundw
                    case rel => exact ⟨j + 1, by omega, by go_num, below_drewN (NX.out.alloc (by omega) _) _⟩
                    case measure => simp [intOf]; omega
                  · have hdec : decide (X.nm j ≤ burst ∧ X.nm j * 512 ≤ m) = false := by simp only [decide_eq_false_iff_not]; omega
                    simp only [hdec] at y0
                    have hd : decide (X.nm j ≤ burst) = false := decide_eq_false hb
                    have HH := Lib.hid hh
                    have HB := Lib.hid hb
                    clear hh hb
                    clear hdec
                    go_quiet (fail)
                    go_wp2_with fail
                    go_roundw
                    case rel => exact ⟨j + 1, by omega, by go_num, below_drewN (NX.out.alloc (by omega) _) _⟩
                    case measure => simp [intOf]; omega
                · rw [show compare m (X.nm j * 512) = Ordering.gt from Int.compare_eq_gt.2 hh] at hcmp
                  by_cases hb : X.nm j ≤ burst
                  · have hdec : decide (X.nm j ≤ burst ∧ X.nm j * 512 ≤ m) = true := by simp only [decide_eq_true_eq]; omega
                    simp only [hdec] at y0
                    have hd : decide (X.nm j ≤ burst) = true := decide_eq_true hb
                    have HH := Lib.hid hh
                    have HB := Lib.hid hb
                    clear hh hb
                    clear hdec
                    go_quiet (fail)
                    go_wp2_with fail
                    go_roundw
                    case rel => exact ⟨j + 1, by omega, by go_num, below_drewN (NX.out.alloc (by omega) _) _⟩
                    case measure => simp [intOf]; omega
                  · have hdec : decide (X.nm j ≤ burst ∧ X.nm j * 512 ≤ m) = false := by simp only [decide_eq_false_iff_not]; omega
                    simp only [hdec] at y0
                    have hd : decide (X.nm j ≤ burst) = false := decide_eq_false hb
                    have HH := Lib.hid hh
                    have HB := Lib.hid hb
                    clear hh hb
                    clear hdec
                    go_quiet (fail)
                    go_wp2_with fail
                    go_roundw
                    case rel => exact ⟨j + 1, by omega, by go_num, below_drewN (NX.out.alloc (by omega) _) _⟩
                    case measure => simp [intOf]; omega
              · have hjk : j = k := by omega
                subst hjk
                have NX := Lib.hid hnx
                clear hnx
                go_wp2_with fail
                refine (HNv.out _).mono ?_; rintro e w6 ⟨rfl, rfl⟩
                go_wp2_with fail
                go_ret
                exact ⟨rfl, HB5.out.trans (NX.out.mono HB5.out.size)⟩

theorem reads : ∀ t ∈ Try.f15.params.toList, Try.prog.readableRec t = true ∧ t < Try.prog.types.size := by
  rw [Try.params15]
  intro t ht
  simp at ht
  rcases ht with rfl | rfl
  · exact ⟨by kernel_rfl, of_decide_eq_true (by kernel_rfl)⟩
  · exact ⟨by kernel_rfl, of_decide_eq_true (by kernel_rfl)⟩

set_option maxRecDepth 100000 in
theorem lifted (os : Os) (started : os.Started) (H : Type) (enc : TypeId × Value → H) :
    ReturnsInHanded {} Try.checked os 15 .any (Rows.fnNoWasteSpec.pre6 enc Try.prog Try.f15 Rows.fnNoWasteRow.domain false) (Rows.fnNoWasteSpec.post enc Try.prog Try.f15 false true false false) := by
  refine returnsInHanded_of_change (C := Try.checked) knobs started (by kernel_rfl) Try.func15
    (ChangeSpec.witness6 (enc := enc) (C := Try.checked) false ⟨#[], #[.int .i64 0, .int .i64 0, .slice none 0 0], []⟩ 8 (by kernel_rfl) (by kernel_rfl) (by kernel_rfl) (by kernel_rfl)) ?_
  intro W base args ds gs before hval0 hW hcnd _
  have hval : ∀ (j : Nat) t v, Try.f15.params[j]? = some t → args[j]? = some v → Value.okWide Try.prog W .any base t v := hval0
  have hW' := hW
  obtain ⟨p, q, hA0, hV, rfl, hfz, hnd⟩ := hW
  have hA : DataW.TrodAll enc Try.prog W 0 (fun _ => true) true Try.f15.params.toList args.toList ds p := hA0
  rw [Try.params15] at hA hval
  obtain ⟨v0, vs0, d0, ds0, p0, q0, hargs, rfl, rfl, h0, r0⟩ := trodAll_cons hA
  obtain ⟨v1, vs1, d1, ds1, p1, q1, rfl, rfl, rfl, h1, r1⟩ := trodAll_cons r0
  obtain ⟨v2, vs2, d2, ds2, p2, q2, rfl, rfl, rfl, h2, r2⟩ := trodAll_cons r1
  obtain ⟨rfl, rfl, rfl⟩ := trodAll_nil r2
  obtain rfl : args = #[v0, v1, v2] := by cases args; simp_all
  obtain ⟨rfl, rfl⟩ := trodVars_none hV
  obtain ⟨a0, rfl, rfl, rfl, w0⟩ := open_int Try.underlying3 (hval 0 3 v0 rfl rfl) h0
  obtain ⟨a1, rfl, rfl, rfl, w1⟩ := open_int Try.underlying3 (hval 1 3 v1 rfl rfl) h1
  obtain ⟨A, N, cap, sb, so, X, rfl, hAA, hX, -⟩ := open_steps (hval 2 27 v2 rfl rfl) h2
  clear hA0 hval0
  refine (walk sb so N cap a0 a1 X A W hAA (steps_none h2) hX).mono fun e W' ⟨he, hg⟩ => ?_
  subst he
  exact ⟨_, rfl, law_post hW' rfl rfl rfl rfl (by kernel_rfl) reads hg⟩

theorem named : Try.pinned.checked.prog.funcNamed Rows.fnNoWasteRow.func = some 15 := by kernel_rfl

theorem closed : joinedFacts Try.pinned.checked.prog 15 Try.f15 Rows.fnNoWasteSpec Rows.fnNoWasteRow = true := by
  unfold joinedFacts
  rw [enters, lifts, makes]
  repeat' (with_reducible refine band ?_ ?_)
  all_goals as_aux_lemma => kernel_rfl

theorem instanced : Func.isInstance Try.pinned.checked.prog Try.f15 Rows.fnNoWasteRow.origin Rows.fnNoWasteRow.targs := of_decide_eq_true (by kernel_rfl)

theorem wrapped : Func.isWrapper Try.pinned.checked.prog Try.f15 Rows.fnNoWasteRow.wrapper Rows.fnNoWasteRow.mainSum := by
  unfold Func.isWrapper; first | (rw [if_pos (by decide +kernel)]; kernel_rfl) | (rw [if_neg (by decide +kernel)]; exact ⟨rfl, rfl⟩)

theorem over : Rows.fnNoWasteRow.holds Try.pinned (OpenSpec.ofChange Rows.fnNoWasteSpec) :=
  OpenClaim.holds_of_wide 15 Try.f15 rfl rfl rfl rfl rfl rfl rfl ⟨rfl, rfl, rfl, rfl, rfl⟩ rfl rfl rfl rfl rfl named Try.func15 closed instanced wrapped
    (fun os started H enc _ => lifted os started H enc)

/-- ████ THE STATEMENT ████ -/
theorem proved : Rows.FnNoWasteSaid :=
  over
#print axioms proved
end Go.Proofs.Ytndkiphlpddbaaa.fnNoWaste
