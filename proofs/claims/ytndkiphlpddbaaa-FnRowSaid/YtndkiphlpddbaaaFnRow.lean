/- The law FnRow holds for every input. No condition. (The frame is after the seat's proof-skeleton; the row's part printed by wip/tools/genrow.py.) -/
import Derived.Test.YtndkiphlpddbaaaLwX
import Derived.Test.YtndkiphlpddbaaaRowN
import Derived.BigQuiet
import Derived.Deep.QuietTactic
import Derived.WalkKit
import Derived.ProofKit
import Derived.OpenShut
namespace Go.Proofs.Ytndkiphlpddbaaa.fnRow
open Go.ChangeShapes Go.WideShapes Go.ChangeAt Go.RowKit Go.Deep Flt
set_option linter.unusedVariables false
attribute [local go_sem] store_float

theorem row_cells (l : Nat → Int) (k : Nat) : scrL (rowScr l) (k + 1) = scrL (rowScr l) k ++ [.int .i64 1, .int .i64 0, .int .i64 (l k)] := rfl

theorem num_below {w w' : World} {l : Nat → Int} {sb so N B : Nat} (h : ∀ k, k < N → w.cell? ⟨sb, so + k, none⟩ = some (.int .i64 (l k))) (hb : Below B w w') (hg : sb < B) : ∀ k, k < N → w'.cell? ⟨sb, so + k, none⟩ = some (.int .i64 (l k)) :=
  fun k hk => (World.cell?_of_block (w := w) (a := ⟨sb, so + k, none⟩) (hb.block sb hg)).trans (h k hk)

theorem up_bound {l : Nat → Int} {N : Nat} {burst : Int} (hb : burst ≤ 64) (hl : ∀ k, k < N → 1 ≤ l k ∧ l k ≤ burst) : ∀ k, k ≤ N → 0 ≤ sumL l k ∧ sumL l k ≤ 64 * (k : Int) := by
  intro k
  induction k with
  | zero => intro _; exact ⟨Int.le_refl _, Int.le_refl _⟩
  | succ k ih => intro hk; have := ih (by omega); have := hl k (by omega); show 0 ≤ sumL l k + l k ∧ sumL l k + l k ≤ 64 * ((k + 1 : Nat) : Int); omega

set_option maxRecDepth 100000 in
set_option maxHeartbeats 4000000 in
theorem walk (sb so N cap : Nat) (rate burst : Int) (l : Nat → Int) (A : Option Addr) (w : World) (hA : 0 < N → A = some ⟨sb, so, none⟩ ∧ sb < w.heap.size) (hX : ∀ k, k < N → w.cell? ⟨sb, so + k, none⟩ = some (.int .i64 (l k)))
    (_hwf : ∀ k, k < N → (Lit.int .i64 (l k)).wf = true) :
    Calls Try.prog 17 #[.int .i64 rate, .int .i64 burst, .slice A N cap] w fun e w' => e = .returned (.bool true) ∧ Below w.heap.size w w' := by
  clear _hwf
  by_cases hbig : 2147483647 < N
  · have hbig' : (2147483647 : Int) < N := by omega
    go_enter Try.func17, Try.ntmps17
    go_wp2_with fail
    go_ret
    exact ⟨rfl, Below.refl _ _⟩
  · have hN' : ¬ (2147483647 : Int) < N := by omega
    have hNn : N ≤ 9223372036854775807 := by omega
    have hP := power_any rate w
    cases hp : powB rate
    · rw [hp] at hP
      have HP := Lib.hid hP
      clear hP hX hA
      go_enter Try.func17, Try.ntmps17
      go_wp2_with (go_at_call 21; refine HP.out.mono ?_; rintro e w' ⟨rfl, rfl⟩)
      go_ret
      exact ⟨rfl, Below.refl _ _⟩
    rw [hp] at hP
    have HP := Lib.hid hP
    have HPow := Lib.hid hp
    clear hP
    by_cases g1 : burst < 1
    · clear hX hA
      go_enter Try.func17, Try.ntmps17
      go_wp2_with (go_at_call 21; refine HP.out.mono ?_; rintro e w' ⟨rfl, rfl⟩)
      go_ret
      exact ⟨rfl, Below.refl _ _⟩
    by_cases g2 : 64 < burst
    · clear hX hA
      go_enter Try.func17, Try.ntmps17
      go_wp2_with (go_at_call 21; refine HP.out.mono ?_; rintro e w' ⟨rfl, rfl⟩)
      go_ret
      exact ⟨rfl, Below.refl _ _⟩
    by_cases g3 : 30 < N
    · have g3' : (30 : Int) < N := by omega
      clear hX hA
      go_enter Try.func17, Try.ntmps17
      go_wp2_with (go_at_call 21; refine HP.out.mono ?_; rintro e w' ⟨rfl, rfl⟩)
      go_ret
      exact ⟨rfl, Below.refl _ _⟩
    have g3' : ¬ (30 : Int) < N := by omega
    have hpb := powB_bounds hp
    have hr0 : ¬ rate = 0 := by omega
    have HA := Lib.hid hA
    have HX := Lib.hid hX
    obtain ⟨i0, hi, hz0, hz1, hz2⟩ := info_parts info26
    have HNv := Lib.hid never_any
    clear hA hX hp hbig
    go_enter Try.func17, Try.ntmps17
    go_wp2_with (go_at_call 21; refine HP.out.mono ?_; rintro e w' ⟨rfl, rfl⟩)
    go_loopw [7, 36] (fun v i wr => ∃ k : Nat, k ≤ N ∧ i = .int .i64 k ∧ wr.ownsRow w.heap.size 26 3 v k (scrL (rowScr l) k) ∧ v ≠ .slice none 0 0 ∧ Hid (∀ j, j < k → 1 ≤ l j ∧ l j ≤ burst) ∧ Below w.heap.size w wr) (fun _ i _ => N - (intOf i).toNat)
    case atStart => exact ⟨0, Nat.zero_le _, rfl, World.ownsRow_made w #[] 0 (Nat.le_refl _) (by unfold maxLen; omega) rfl, by simp, Lib.hid (fun j hj => absurd hj (Nat.not_lt_zero _)), (Below.refl _ _).alloc (Nat.le_refl _) _⟩
    case round =>
      obtain ⟨k, hk, rfl, hown, hnn, HL, hnx⟩ := hrel
      have hsize := hnx.size
      by_cases hlt : k < N
      · obtain ⟨hAe, hsb⟩ := HA.out (by omega)
        subst hAe
        have t0 := num_below HX.out hnx hsb k hlt
        by_cases c1 : l k < 1
        · have HNX := Lib.hid hnx
          clear hnx
          go_wp2_with fail
          go_ret
          exact ⟨rfl, HNX.out⟩
        by_cases c2 : burst < l k
        · have HNX := Lib.hid hnx
          clear hnx
          go_wp2_with fail
          go_ret
          exact ⟨rfl, HNX.out⟩
        have cc := cell_three_new wr (.int .i64 1) (.int .i64 0) (.int .i64 (l k)) 26
        have C1 := Lib.hid cc
        clear cc
        go_wp2_with (at_builtin; refine wpList_append_own _ rfl (.tmp 47) (.tmp 50) 27 rfl w.heap.size 26 i0 (.agg #[.int .i64 0, .int .i64 0, .int .i64 0]) 3 24 Try.underlying27 hi hz0 hz1 hz2 rfl (by decide) _ _ _ rfl (hown.alloc _) ⟨wr.heap.size, 0, none⟩ 1 1 [.int .i64 1, .int .i64 0, .int .i64 (l k)] rfl rfl C1.out (by intro u hu; simp at hu; rcases hu with rfl | rfl | rfl <;> rfl) (by unfold maxLen; omega) (by omega) (by simp; omega) ?_; intro v1 w4 hown1 hgrow1 hnil1)
        go_roundw
        case rel =>
          refine ⟨k + 1, by omega, by go_num, hown1, fun hh => absurd (hnil1.1 hh).2 (by decide), Lib.hid fun j hj => ?_, ?_⟩
          · by_cases hj' : j < k
            · exact HL.out j hj'
            · have : j = k := by omega
              subst this; omega
          · exact (hnx.alloc (by omega) _).grown hgrow1 (by simp; omega) (fun j hj => (hown.lt j hj).1)
        case measure => simp [intOf]; omega
      · have hkN : k = N := by omega
        subst hkN
        obtain ⟨g7, c7, hv2e⟩ : ∃ g7 c7, _ = Value.slice (some ⟨g7, 0, none⟩) k c7 := by
          rcases hown.2 with ⟨h, _⟩ | ⟨g7, c7, _, h, _⟩
          · exact absurd h hnn
          · exact ⟨g7, c7, h⟩
        subst hv2e
        have hg7 := (hown.lt g7 rfl).2
        have HRun := Lib.hid (Run_plain g7 0 k c7 rate burst (rowScr l) wr (some ⟨g7, 0, none⟩) (row_plain (by omega) HL.out) (by omega) (by omega) (by omega) (by omega) (by omega) (fun _ => ⟨rfl, hg7⟩) (lies_own hown))
        have HB2 := Lib.hid hnx
        have HT := Lib.hid (fun i hi => row_told (rate := rate) (burst := burst) HPow.out (by omega) (by omega) HL.out i hi)
        generalize hTT : (fun j => toldOf (stN (St.new rate burst) (rowScr l) j) ((rowScr l).kd j) ((rowScr l).at_ j) ((rowScr l).nm j)) = T at *
        have HT' : Hid (∀ j, j < k → T j = ⟨true, max 0 (((sumL l j + l j - burst) * 1000000000).tdiv rate), 0⟩) := Lib.hid (fun j hj => by rw [← hTT]; exact HT.out j hj)
        have HU := Lib.hid (up_bound (by omega) HL.out)
        clear hown hnn hnx HT hTT
        go_wp2_with fail
        refine HRun.out.mono ?_; rintro e w3 ⟨OB, rfl, ho0, hrow, hb3⟩
        have SO := Lib.hid (says_row hrow)
        have hO := hrow.lt
        have HB3 := Lib.hid (HB2.out.trans (hb3.mono HB2.out.size))
        clear hrow hb3 ho0 HRun
        go_wp2_with fail
        go_loopw [11, 59] (fun s i wr => ∃ j : Nat, j ≤ k ∧ s = .int .i64 (sumL l j) ∧ i = .int .i64 j ∧ Below w3.heap.size w3 wr) (fun _ i _ => k - (intOf i).toNat)
        case atStart => exact ⟨0, Nat.zero_le _, rfl, rfl, Below.refl _ _⟩
        case round =>
          obtain ⟨j, hj, rfl, rfl, hnx⟩ := hrel
          have hsize := hnx.size
          by_cases hlt2 : j < k
          · obtain ⟨hAe, hsb⟩ := HA.out (by omega)
            subst hAe
            obtain ⟨s0, s1, s2⟩ := SO.out.below hnx hO j hlt2
            rw [HT'.out j hlt2] at s0 s1 s2
            have t0 := num_below HX.out (HB3.out.trans (hnx.mono HB3.out.size)) hsb j hlt2
            have y0 := fun o => (World.cell?_alloc_lt wr o ⟨sb, so + j, none⟩ (by have := HB3.out.size; show sb < _; omega)).trans t0
            obtain ⟨u0, u1⟩ := HU.out j (by omega)
            obtain ⟨q0, q1⟩ := HL.out j hlt2
            have HS : Hid (sumL l (j + 1) = sumL l j + l j) := Lib.hid rfl
            have NX := Lib.hid hnx
            have e1 : ¬ wr.heap.size = sb := by have := HB3.out.size; omega
            have e2 : ¬ sb = wr.heap.size := by have := HB3.out.size; omega
            clear hnx t0
            generalize sumL l j = sj at *
            have dm := div_small ((sj + l j - burst) * 1000000000) rate (by omega) (by omega)
            dsimp only at s0 s1 s2
            by_cases hd : 0 < ((sj + l j - burst) * 1000000000).tdiv rate
            · rw [show max 0 (((sj + l j - burst) * 1000000000).tdiv rate) = ((sj + l j - burst) * 1000000000).tdiv rate from by omega] at s1
              go_wp2_with fail
              go_quiet (fail)
              go_wp2_with fail
              go_roundw
              case rel => exact ⟨j + 1, by omega, by rw [HS.out], by go_num, below_drewN (NX.out.alloc (by omega) _) _⟩
              case measure => simp [intOf]; omega
            · rw [show max 0 (((sj + l j - burst) * 1000000000).tdiv rate) = 0 from by omega] at s1
              go_wp2_with fail
              go_quiet (fail)
              go_wp2_with fail
              go_roundw
              case rel => exact ⟨j + 1, by omega, by rw [HS.out], by go_num, below_drewN (NX.out.alloc (by omega) _) _⟩
              case measure => simp [intOf]; omega
          · have hjk : j = k := by omega
            subst hjk
            have NX := Lib.hid hnx
            clear hnx
            go_wp2_with fail
            refine (HNv.out _).mono ?_; rintro e w6 ⟨rfl, rfl⟩
            go_wp2_with fail
            go_ret
            exact ⟨rfl, HB3.out.trans (NX.out.mono HB3.out.size)⟩

theorem reads : ∀ t ∈ Try.f17.params.toList, Try.prog.readableRec t = true ∧ t < Try.prog.types.size := by
  rw [Try.params17]
  intro t ht
  simp at ht
  rcases ht with rfl | rfl
  all_goals exact ⟨by kernel_rfl, of_decide_eq_true (by kernel_rfl)⟩

set_option maxRecDepth 100000 in
theorem lifted (os : Os) (started : os.Started) (H : Type) (enc : TypeId × Value → H) :
    ReturnsInHanded {} Try.checked os 17 .any (Rows.fnRowSpec.pre6 enc Try.prog Try.f17 Rows.fnRowRow.domain false) (Rows.fnRowSpec.post enc Try.prog Try.f17 false true false false) := by
  refine returnsInHanded_of_change (C := Try.checked) knobs started (by kernel_rfl) Try.func17
    (ChangeSpec.witness6 (enc := enc) (C := Try.checked) false ⟨#[], #[.int .i64 0, .int .i64 0, .slice none 0 0], []⟩ 8 (by kernel_rfl) (by kernel_rfl) (by kernel_rfl) (by kernel_rfl)) ?_
  intro W base args ds gs before hval0 hW hcnd _
  have hval : ∀ (j : Nat) t v, Try.f17.params[j]? = some t → args[j]? = some v → Value.okWide Try.prog W .any base t v := hval0
  have hW' := hW
  obtain ⟨p, q, hA0, hV, rfl, hfz, hnd⟩ := hW
  have hA : DataW.TrodAll enc Try.prog W 0 (fun _ => true) true Try.f17.params.toList args.toList ds p := hA0
  rw [Try.params17] at hA hval
  obtain ⟨v0, vs0, d0, ds0, p0, q0, hargs, rfl, rfl, h0, r0⟩ := trodAll_cons hA
  obtain ⟨v1, vs1, d1, ds1, p1, q1, rfl, rfl, rfl, h1, r1⟩ := trodAll_cons r0
  obtain ⟨v2, vs2, d2, ds2, p2, q2, rfl, rfl, rfl, h2, r2⟩ := trodAll_cons r1
  obtain ⟨rfl, rfl, rfl⟩ := trodAll_nil r2
  obtain rfl : args = #[v0, v1, v2] := by cases args; simp_all
  obtain ⟨rfl, rfl⟩ := trodVars_none hV
  obtain ⟨a0, rfl, rfl, rfl, w0⟩ := open_int Try.underlying3 (hval 0 3 v0 rfl rfl) h0
  obtain ⟨a1, rfl, rfl, rfl, w1⟩ := open_int Try.underlying3 (hval 1 3 v1 rfl rfl) h1
  obtain ⟨A, N, cap, sb, so, l, rfl, hAA, hX, hwf⟩ := open_nums (hval 2 47 v2 rfl rfl) h2
  clear hA0 hval0
  refine (walk sb so N cap a0 a1 l A W hAA hX hwf).mono fun e W' ⟨he, hg⟩ => ?_
  subst he
  exact ⟨_, rfl, law_post hW' rfl rfl rfl rfl (by kernel_rfl) reads hg⟩

theorem named : Try.pinned.checked.prog.funcNamed Rows.fnRowRow.func = some 17 := by kernel_rfl

theorem closed : joinedFacts Try.pinned.checked.prog 17 Try.f17 Rows.fnRowSpec Rows.fnRowRow = true := by
  unfold joinedFacts
  rw [enters, lifts, makes]
  repeat' (with_reducible refine band ?_ ?_)
  all_goals as_aux_lemma => kernel_rfl

theorem instanced : Func.isInstance Try.pinned.checked.prog Try.f17 Rows.fnRowRow.origin Rows.fnRowRow.targs := of_decide_eq_true (by kernel_rfl)

theorem wrapped : Func.isWrapper Try.pinned.checked.prog Try.f17 Rows.fnRowRow.wrapper Rows.fnRowRow.mainSum := by
  unfold Func.isWrapper; first | (rw [if_pos (by decide +kernel)]; kernel_rfl) | (rw [if_neg (by decide +kernel)]; exact ⟨rfl, rfl⟩)

theorem over : Rows.fnRowRow.holds Try.pinned (OpenSpec.ofChange Rows.fnRowSpec) :=
  OpenClaim.holds_of_wide 17 Try.f17 rfl rfl rfl rfl rfl rfl rfl ⟨rfl, rfl, rfl, rfl, rfl⟩ rfl rfl rfl rfl rfl named Try.func17 closed instanced wrapped
    (fun os started H enc _ => lifted os started H enc)

/-- ████ THE STATEMENT ████ -/
theorem proved : Rows.FnRowSaid :=
  over
#print axioms proved
end Go.Proofs.Ytndkiphlpddbaaa.fnRow
