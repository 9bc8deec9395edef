/- The law FnAsking holds for every input. No condition. (The frame is after the seat's proof-skeleton; the row's part printed by wip/tools/genrow.py.) -/
import Derived.Test.YtndkiphlpddbaaaLwK
import Derived.Test.YtndkiphlpddbaaaLwE
import Derived.BigQuiet
import Derived.Deep.QuietTactic
import Derived.Test.YtndkiphlpddbaaaRowS
import Derived.WalkKit
import Derived.ProofKit
import Derived.OpenShut
namespace Go.Proofs.Ytndkiphlpddbaaa.fnAsking
open Go.ChangeShapes Go.WideShapes Go.ChangeAt Go.RowKit Go.Deep Flt
set_option linter.unusedVariables false
attribute [local go_sem] store_float

theorem cells_new (w : World) (cs : Array Value) (t : TypeId) : ∀ j u, cs.toList[j]? = some u → (w.alloc (.cells cs t)).cell? ((⟨w.heap.size, 0, none⟩ : Addr).add j) = some u := by
  intro j u hu
  rw [Addr.add_lit, Nat.zero_add, cell_of_row _ _ j cs t (0, 0) (heap_alloc_new w _)]
  simpa using hu

set_option maxRecDepth 100000 in
set_option maxHeartbeats 4000000 in
theorem walk (sb so N cap : Nat) (rate burst : Int) (X : Scr) (A : Option Addr) (w : World) (hA : 0 < N → A = some ⟨sb, so, none⟩ ∧ sb < w.heap.size) (hn : A = none → N = 0 ∧ cap = 0) (hX : Lies w X sb so N) :
    Calls Try.prog 8 #[.int .i64 rate, .int .i64 burst, .slice A N cap] w fun e w' => e = .returned (.bool true) ∧ Below w.heap.size w w' := by
  by_cases hbig : 2147483647 < N
  · have hbig' : (2147483647 : Int) < N := by omega
    go_enter Try.func8, Try.ntmps8
    go_wp2_with fail
    go_ret
    exact ⟨rfl, Below.refl _ _⟩
  · have hN : N ≤ 2147483647 := by omega
    have hN' : ¬ (2147483647 : Int) < N := by omega
    have hNn : N ≤ 9223372036854775807 := by omega
    have HPl := Lib.hid (plain_any sb so N cap X A w hN hA hX)
    have HA := Lib.hid hA
    have HX := Lib.hid hX
    clear hA hX hbig hn
    go_enter Try.func8, Try.ntmps8
    go_wp2_with fail
    refine HPl.out.mono ?_; rintro e w1 ⟨g, c1, rfl, hg0, hg1, hl1, hb1⟩
    have HB1 := Lib.hid hb1
    have HGd := Lib.hid (good_any g N c1 rate burst X w1 hg1 hl1)
    clear hb1 hl1 hg0 HPl
    go_wp2_with fail
    refine HGd.out.mono ?_; rintro e w2 ⟨r, rfl, hr, hb2⟩
    have HB2 := Lib.hid (HB1.out.trans (hb2.mono HB1.out.size))
    have HR := Lib.hid hr
    clear hb2 hr HGd HB1
    cases r
    · go_wp2_with fail
      go_ret
      exact ⟨rfl, HB2.out⟩
    · have HGP := Lib.hid (HR.out rfl)
      clear HR
      go_wp2_with fail
      go_loopw [27] (fun i wr => ∃ k : Nat, k ≤ N ∧ i = .int .i64 k ∧ Hid (∀ j, j < k → X.kd j ≠ 5) ∧ Below w2.heap.size w2 wr) (fun i _ => N - (intOf i).toNat)
      case atStart => exact ⟨0, Nat.zero_le _, rfl, Lib.hid (fun j hj => absurd hj (Nat.not_lt_zero _)), Below.refl _ _⟩
      case round =>
        obtain ⟨k, hk, rfl, HF, hnx⟩ := hrel
        have hsize := hnx.size
        by_cases hlt : k < N
        · obtain ⟨hAe, hsb⟩ := HA.out (by omega)
          subst hAe
          obtain ⟨t0, t1, t2⟩ := (HX.out.below (HB2.out.trans (hnx.mono HB2.out.size)) hsb) k hlt
          have NX := Lib.hid hnx
          clear hnx
          by_cases c : X.kd k = 5
          · rw [c] at t0
            go_wp2_with fail
            go_ret
            exact ⟨rfl, HB2.out.trans ((NX.out.alloc (by omega) _).mono HB2.out.size)⟩
          · go_wp2_with fail
            go_roundw
            case rel =>
              refine ⟨k + 1, by omega, by go_num, Lib.hid fun j hj => ?_, NX.out.alloc (by omega) _⟩
              by_cases hj' : j < k
              · exact HF.out j hj'
              · have : j = k := by omega
                subst this; exact c
            case measure => simp [intOf]; omega
        · have hkN : k = N := by omega
          subst hkN
          have HB3 := Lib.hid (HB2.out.trans (hnx.mono HB2.out.size))
          have hs3 := HB3.out.size
          have hgood := HGP.out
          have hst := tri_steps hgood.step HF.out
          have hst1 : Steps X k := ⟨hgood.step, HF.out⟩
          have hpb := powB_bounds hgood.pow
          have hn40 := hgood.n
          have B0 := hgood.b0
          have B1 := hgood.b1
          have HTri := Lib.hid (fun i (_ : i < k) => tri_told (St.new rate burst) X i)
          have HSelf := Lib.hid (fun i hi => by have h1 := told_all (burst := burst) hst1 (by omega) hgood.pow B0 B1 i hi; have h2 := self_all (rate := rate) (burst := burst) hst1 (by omega) (by omega) (by omega) B0 B1 i hi; rw [← h1] at h2; exact h2)
          have HSt := Lib.hid hst
          have HSt1 := Lib.hid hst1
          obtain ⟨i0, hi, hz0, hz1, hz2⟩ := info_parts info26
          have HNv := Lib.hid never_any
          have R0 : 0 < rate := hpb.1
          have R1 : rate ≤ 1000 := by omega
          clear hgood hst hst1 hpb HGP HF hnx hsize HB2
          rename World => wA
          go_wp2_with fail
          go_loopw [9, 38] (fun v i wr' => ∃ j : Nat, j ≤ k ∧ i = .int .i64 j ∧ wr'.ownsRow wA.heap.size 26 3 v (3 * j) (scrL X.tri (3 * j)) ∧ v ≠ .slice none 0 0 ∧ Below wA.heap.size wA wr') (fun _ i _ => k - (intOf i).toNat)
          case atStart => exact ⟨0, Nat.zero_le _, rfl, World.ownsRow_made wA #[] 0 (Nat.le_refl _) (by unfold maxLen; omega) rfl, by simp, (Below.refl _ _).alloc (Nat.le_refl _) _⟩
          case round =>
            obtain ⟨j, hj, rfl, hown, hnn, hnx⟩ := hrel
            have hsize := hnx.size
            by_cases hlt2 : j < k
            · obtain ⟨hAe, hsb⟩ := HA.out (by omega)
              subst hAe
              obtain ⟨t0, t1, t2⟩ := (HX.out.below (HB3.out.trans (hnx.mono hs3)) hsb) j hlt2
              have c1 := cells_new (wr.alloc (.cells #[.int .i64 (X.kd j), .int .i64 (X.at_ j), .int .i64 (X.nm j)] 26)) #[.int .i64 2, .int .i64 (X.at_ j), .int .i64 0, .int .i64 (X.kd j), .int .i64 (X.at_ j), .int .i64 (X.nm j), .int .i64 2, .int .i64 (X.at_ j), .int .i64 0] 26
              rw [World.size_alloc] at c1
              have C1 := Lib.hid c1
              clear c1
              go_wp2_with (at_builtin; refine wpList_append_own _ rfl (.tmp 42) (.tmp 50) 27 rfl wA.heap.size 26 i0 (.agg #[.int .i64 0, .int .i64 0, .int .i64 0]) 3 24 Try.underlying27 hi hz0 hz1 hz2 rfl (by decide) _ _ _ rfl ((hown.alloc _).alloc _) ⟨wr.heap.size + 1, 0, none⟩ 3 3 [.int .i64 2, .int .i64 (X.at_ j), .int .i64 0, .int .i64 (X.kd j), .int .i64 (X.at_ j), .int .i64 (X.nm j), .int .i64 2, .int .i64 (X.at_ j), .int .i64 0] rfl rfl C1.out (by intro u hu; simp only [List.mem_cons, List.not_mem_nil, or_false] at hu; rcases hu with rfl | rfl | rfl | rfl | rfl | rfl | rfl | rfl | rfl <;> rfl) (by unfold maxLen; omega) (by omega) (by simp; omega) ?_; intro v1 w4 hown1 hgrow1 hnil1)
              go_roundw
              case rel =>
                refine ⟨j + 1, by omega, by go_num, by rw [tri_cells]; exact hown1, fun hh => absurd (hnil1.1 hh).2 (by decide), ?_⟩
                exact ((hnx.alloc (by omega) _).alloc (by simp; omega) _).grown hgrow1 (by simp; omega) (fun j hj => (hown.lt j hj).1)
              case measure => simp [intOf]; omega
            · have hjk : j = k := by omega
              subst hjk
              obtain ⟨g7, c7, hv2e⟩ : ∃ g7 c7, _ = Value.slice (some ⟨g7, 0, none⟩) (3 * j) c7 := by
                rcases hown.2 with ⟨h, _⟩ | ⟨g7, c7, _, h, _⟩
                · exact absurd h hnn
                · exact ⟨g7, c7, h⟩
              subst hv2e
              have HL5 := Lib.hid (lies_own hown)
              have hg7 := (hown.lt g7 rfl).2
              have HB4 := Lib.hid (HB3.out.trans (hnx.mono hs3))
              have HRun := Lib.hid (Run_plain sb so j cap rate burst X wr A HSt1.out.plain (by omega) R0 R1 B0 B1 (fun h => ⟨(HA.out h).1, Nat.lt_of_lt_of_le (HA.out h).2 HB4.out.size⟩) (lies_later HX.out HB4.out (fun h => (HA.out h).2)))
              clear hown hnn hnx
              go_wp2_with fail
              refine HRun.out.mono ?_; rintro e w5 ⟨OA, rfl, ha0, hrowA, hb5⟩
              have SA := Lib.hid (says_row hrowA)
              have hOA := hrowA.lt
              have HB5 := Lib.hid (HB4.out.trans (hb5.mono HB4.out.size))
              have HRun2 := Lib.hid (Run_plain g7 0 (3 * j) c7 rate burst X.tri w5 (some ⟨g7, 0, none⟩) HSt.out.plain (by omega) R0 R1 B0 B1 (fun _ => ⟨rfl, Nat.lt_of_lt_of_le hg7 hb5.size⟩) (HL5.out.below hb5 hg7))
              clear hrowA hb5 ha0 HRun HL5
              go_wp2_with fail
              refine HRun2.out.mono ?_; rintro e w6 ⟨OB, rfl, ho0, hrowB, hb6⟩
              have SB := Lib.hid (says_row hrowB)
              have hOB := hrowB.lt
              have HB6 := Lib.hid (HB5.out.trans (hb6.mono HB5.out.size))
              have SA6 := Lib.hid (SA.out.below hb6 hOA)
              have hOA6 := Nat.lt_of_lt_of_le hOA hb6.size
              clear hrowB hb6 ho0 HRun2 SA
              go_wp2_with fail
              go_loopw [76] (fun i wr => ∃ n : Nat, n ≤ j ∧ i = .int .i64 n ∧ Below w6.heap.size w6 wr) (fun i _ => j - (intOf i).toNat)
              case atStart => exact ⟨0, Nat.zero_le _, rfl, Below.refl _ _⟩
              case round =>
                obtain ⟨n, hn, rfl, hnx⟩ := hrel
                have hsize := hnx.size
                by_cases hlt3 : n < j
                · obtain ⟨s0, s1, s2⟩ := SA6.out.below hnx hOA6 n hlt3
                  obtain ⟨q0, q1, q2⟩ := SB.out.below hnx hOB (3 * n + 1) (by omega)
                  have htr := HTri.out n hlt3
                  dsimp only at s0 s1 s2 q0 q1 q2
                  rw [htr] at q0 q1 q2
                  have o := HSelf.out n hlt3
                  generalize toldOf (stN (St.new rate burst) X n) (X.kd n) (X.at_ n) (X.nm n) = tl at *
                  have o1 := float_same tl.tok o
                  clear o htr
                  have NX := Lib.hid hnx
                  clear hnx
                  have i1 : (3 * (n : Int) + 1).toNat = 3 * n + 1 := by omega
                  have k0 := fun o => (World.cell?_alloc_lt wr o ⟨OB, (3 * n + 1) * 3, none⟩ (by show OB < _; omega)).trans q0
                  have k1 := fun o => (World.cell?_alloc_lt wr o ⟨OB, (3 * n + 1) * 3 + 1, none⟩ (by show OB < _; omega)).trans q1
                  have k2 := fun o => (World.cell?_alloc_lt wr o ⟨OB, (3 * n + 1) * 3 + 2, none⟩ (by show OB < _; omega)).trans q2
                  clear q0 q1 q2
                  go_wp2_with fail
                  go_quiet (fail)
                  go_wp2_with fail
                  go_roundw
                  case rel => exact ⟨n + 1, by omega, by go_num, below_drewN (NX.out.alloc (by omega) _) _⟩
                  case measure => simp [intOf]; omega
                · have hnj : n = j := by omega
                  subst hnj
                  have NX := Lib.hid hnx
                  clear hnx
                  go_wp2_with fail
                  refine (HNv.out _).mono ?_; rintro e w7 ⟨rfl, rfl⟩
                  go_wp2_with fail
                  go_ret
                  exact ⟨rfl, HB6.out.trans (NX.out.mono HB6.out.size)⟩

theorem reads : ∀ t ∈ Try.f8.params.toList, Try.prog.readableRec t = true ∧ t < Try.prog.types.size := by
  rw [Try.params8]
  intro t ht
  simp at ht
  rcases ht with rfl | rfl
  all_goals exact ⟨by kernel_rfl, of_decide_eq_true (by kernel_rfl)⟩

set_option maxRecDepth 100000 in
theorem lifted (os : Os) (started : os.Started) (H : Type) (enc : TypeId × Value → H) :
    ReturnsInHanded {} Try.checked os 8 .any (Rows.fnAskingSpec.pre6 enc Try.prog Try.f8 Rows.fnAskingRow.domain false) (Rows.fnAskingSpec.post enc Try.prog Try.f8 false true false false) := by
  refine returnsInHanded_of_change (C := Try.checked) knobs started (by kernel_rfl) Try.func8
    (ChangeSpec.witness6 (enc := enc) (C := Try.checked) false ⟨#[], #[.int .i64 0, .int .i64 0, .slice none 0 0], []⟩ 8 (by kernel_rfl) (by kernel_rfl) (by kernel_rfl) (by kernel_rfl)) ?_
  intro W base args ds gs before hval0 hW hcnd _
  have hval : ∀ (j : Nat) t v, Try.f8.params[j]? = some t → args[j]? = some v → Value.okWide Try.prog W .any base t v := hval0
  have hW' := hW
  obtain ⟨p, q, hA0, hV, rfl, hfz, hnd⟩ := hW
  have hA : DataW.TrodAll enc Try.prog W 0 (fun _ => true) true Try.f8.params.toList args.toList ds p := hA0
  rw [Try.params8] at hA hval
  obtain ⟨v0, vs0, d0, ds0, p0, q0, hargs, rfl, rfl, h0, r0⟩ := trodAll_cons hA
  obtain ⟨v1, vs1, d1, ds1, p1, q1, rfl, rfl, rfl, h1, r1⟩ := trodAll_cons r0
  obtain ⟨v2, vs2, d2, ds2, p2, q2, rfl, rfl, rfl, h2, r2⟩ := trodAll_cons r1
  obtain ⟨rfl, rfl, rfl⟩ := trodAll_nil r2
  obtain rfl : args = #[v0, v1, v2] := by cases args; simp_all
  obtain ⟨rfl, rfl⟩ := trodVars_none hV
  obtain ⟨a0, rfl, rfl, rfl, w0⟩ := open_int Try.underlying3 (hval 0 3 v0 rfl rfl) h0
  obtain ⟨a1, rfl, rfl, rfl, w1⟩ := open_int Try.underlying3 (hval 1 3 v1 rfl rfl) h1
  obtain ⟨A, N, cap, sb, so, X, rfl, hAA, hX, -⟩ := open_steps (hval 2 27 v2 rfl rfl) h2
  clear hA0 hval0
  refine (walk sb so N cap a0 a1 X A W hAA (steps_none h2) hX).mono fun e W' ⟨he, hg⟩ => ?_
  subst he
  exact ⟨_, rfl, law_post hW' rfl rfl rfl rfl (by kernel_rfl) reads hg⟩

theorem named : Try.pinned.checked.prog.funcNamed Rows.fnAskingRow.func = some 8 := by kernel_rfl

theorem closed : joinedFacts Try.pinned.checked.prog 8 Try.f8 Rows.fnAskingSpec Rows.fnAskingRow = true := by
  unfold joinedFacts
  rw [enters, lifts, makes]
  repeat' (with_reducible refine band ?_ ?_)
  all_goals as_aux_lemma => kernel_rfl

theorem instanced : Func.isInstance Try.pinned.checked.prog Try.f8 Rows.fnAskingRow.origin Rows.fnAskingRow.targs := of_decide_eq_true (by kernel_rfl)

theorem wrapped : Func.isWrapper Try.pinned.checked.prog Try.f8 Rows.fnAskingRow.wrapper Rows.fnAskingRow.mainSum := by
  unfold Func.isWrapper; first | (rw [if_pos (by decide +kernel)]; kernel_rfl) | (rw [if_neg (by decide +kernel)]; exact ⟨rfl, rfl⟩)

theorem over : Rows.fnAskingRow.holds Try.pinned (OpenSpec.ofChange Rows.fnAskingSpec) :=
  OpenClaim.holds_of_wide 8 Try.f8 rfl rfl rfl rfl rfl rfl rfl ⟨rfl, rfl, rfl, rfl, rfl⟩ rfl rfl rfl rfl rfl named Try.func8 closed instanced wrapped
    (fun os started H enc _ => lifted os started H enc)

/-- ████ THE STATEMENT ████ -/
theorem proved : Rows.FnAskingSaid :=
  over
#print axioms proved
end Go.Proofs.Ytndkiphlpddbaaa.fnAsking
