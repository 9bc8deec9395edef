/- The law FnTokens holds for every input. No condition. (The frame is after the seat's proof-skeleton.) -/
import Derived.Test.YtndkiphlpddbaaaLwT
import Derived.BigQuiet
import Derived.Deep.QuietTactic
import Derived.Test.YtndkiphlpddbaaaRowS
import Derived.WalkKit
import Derived.ProofKit
import Derived.OpenShut
namespace Go.Proofs.Ytndkiphlpddbaaa.fnTokens
open Go.ChangeShapes Go.WideShapes Go.ChangeAt Go.RowKit Go.Deep Flt
set_option linter.unusedVariables false
attribute [local go_sem] store_float

set_option maxRecDepth 100000 in
set_option maxHeartbeats 4000000 in
theorem walk (sb so N cap : Nat) (rate burst : Int) (X : Scr) (A : Option Addr) (w : World) (hA : 0 < N → A = some ⟨sb, so, none⟩ ∧ sb < w.heap.size) (hn : A = none → N = 0 ∧ cap = 0) (hX : Lies w X sb so N) :
    Calls Try.prog 5 #[.int .i64 rate, .int .i64 burst, .slice A N cap] w fun e w' => e = .returned (.bool true) ∧ Below w.heap.size w w' := by
  by_cases hbig : 2147483647 < N
  · have hbig' : (2147483647 : Int) < N := by omega
    go_enter Try.func5, Try.ntmps5
    go_wp2_with fail
    go_ret
    exact ⟨rfl, Below.refl _ _⟩
  · have hN : N ≤ 2147483647 := by omega
    have hN' : ¬ (2147483647 : Int) < N := by omega
    have hNn : N ≤ 9223372036854775807 := by omega
    have HPl := Lib.hid (plain_any sb so N cap X A w hN hA hX)
    have HA := Lib.hid hA
    have HX := Lib.hid hX
    have HNo := Lib.hid hn
    clear hA hX hbig hn
    go_enter Try.func5, Try.ntmps5
    go_wp2_with fail
    refine HPl.out.mono ?_; rintro e w1 ⟨g, c1, rfl, hg0, hg1, hl1, hb1⟩
    have HB1 := Lib.hid hb1
    have HL1 := Lib.hid hl1
    have HWh := Lib.hid (whole_any g N c1 rate burst X w1 hN hg1 hl1)
    clear hb1 hl1 hg0 HPl
    go_wp2_with fail
    refine HWh.out.mono ?_; rintro e w2 ⟨r, rfl, hr, hb2⟩
    have HB2 := Lib.hid (HB1.out.trans (hb2.mono HB1.out.size))
    have HOn := Lib.hid (only_any g N c1 X 0 2 w2 hN (Nat.lt_of_lt_of_le hg1 hb2.size) (HL1.out.below hb2 hg1))
    have HR := Lib.hid hr
    clear hb2 hr HWh HL1 HB1
    cases r
    · go_wp2_with fail
      go_ret
      exact ⟨rfl, HB2.out⟩
    · have HWP := Lib.hid (HR.out rfl)
      clear HR
      go_wp2_with fail
      refine HOn.out.mono ?_; rintro e w3 ⟨r, rfl, hr, hb3⟩
      have HB3 := Lib.hid (HB2.out.trans (hb3.mono HB2.out.size))
      have HR := Lib.hid hr
      clear hb3 hr HOn
      cases r
      · go_wp2_with fail
        go_ret
        exact ⟨rfl, HB3.out⟩
      · have honly := HR.out rfl
        have hwh := HWP.out
        have hgood := hwh.good
        have hst := ask_steps hgood.step honly
        have hkd := ask_kd honly
        have R0 := hwh.r0
        have R1 := hwh.r1
        have hn40 := hgood.n
        have B0 := hgood.b0
        have B1 := hgood.b1
        have hs3 := HB3.out.size
        obtain ⟨v1, w4, hrun1, hown1, hgr1, hv1⟩ := app_steps w3.heap.size sb so N cap 1 X A (.slice (some ⟨w3.heap.size, 0, none⟩) 1 1) [.int .i64 2, .int .i64 0, .int .i64 0] (w3.alloc (.cells #[.int .i64 2, .int .i64 0, .int .i64 0] 26)) (fun h => ⟨(HA.out h).1, by have := (HA.out h).2; simp; omega⟩) HNo.out
          (lies_later HX.out (HB3.out.alloc hs3 _) (fun h => (HA.out h).2)) (World.ownsRow_lit w3 #[.int .i64 2, .int .i64 0, .int .i64 0] 1 (Nat.le_refl _) (by unfold maxLen; omega) rfl) (by omega) (by simp) (by simp)
        rw [← ask_cells, Nat.add_comm 1 N] at hown1
        have HB4 := Lib.hid ((HB3.out.alloc hs3 _).grown hgr1 (by simp; omega) (fun j hj => by simp [Value.ownBlock] at hj; omega))
        obtain ⟨g7, c7, hv2e⟩ : ∃ g7 c7, v1 = .slice (some ⟨g7, 0, none⟩) (N + 1) c7 := by
          rcases hown1.2 with ⟨h, _⟩ | ⟨g7, c7, _, h, _⟩
          · exact absurd h hv1
          · exact ⟨g7, c7, h⟩
        subst hv2e
        have HL5 := Lib.hid (lies_own hown1)
        have hg7 := (hown1.lt g7 rfl).2
        have HRun := Lib.hid (Run_plain g7 0 (N + 1) c7 rate burst X.ask w4 (some ⟨g7, 0, none⟩) hst.plain (by omega) (by omega) R1 B0 B1 (fun _ => ⟨rfl, hg7⟩) HL5.out)
        have HT := Lib.hid (tok_told (rate := rate) (burst := burst) hst hkd R0 B0)
        have hT0 : (toldOf (stN (St.new rate burst) X.ask 0) (X.ask.kd 0) (X.ask.at_ 0) (X.ask.nm 0)).tok = G (-9) (burst * 512) := rfl
        have HEq := Lib.hid (cmp_eq burst B0 B1)
        have HAp := Lib.hid hrun1
        have hNk : N + 1 ≤ 9223372036854775807 := by omega
        clear hgood hst hwh hkd honly HR HWP hown1 hgr1 hv1 hrun1
        generalize hTT : (fun k => toldOf (stN (St.new rate burst) X.ask k) (X.ask.kd k) (X.ask.at_ k) (X.ask.nm k)) = T at *
        have HT' : Hid (∀ k, k < N + 1 → ∃ m : Int, (T k).tok = G (-9) m ∧ 0 ≤ m ∧ m ≤ burst * 512) := Lib.hid (fun k hk => by rw [← hTT]; exact HT.out k hk)
        have hT0' : (T 0).tok = G (-9) (burst * 512) := by rw [← hTT]; exact hT0
        clear HT hT0 hTT
        go_wp2_with (at_builtin; refine wpList_app rfl (.tmp 29) (.tmp 30) 27 rfl rfl rfl rfl HAp.out ?_)
        refine HRun.out.mono ?_; rintro e w5 ⟨OB, rfl, ho0, hrow, hb5⟩
        have SO := Lib.hid (says_row hrow)
        have hO := hrow.lt
        have HB5 := Lib.hid (HB4.out.trans (hb5.mono HB4.out.size))
        have z0 := (SO.out 0 (by omega)).2.2
        rw [hT0'] at z0
        simp only [Nat.zero_mul, Nat.zero_add] at z0
        have q0 := HEq.out
        clear hrow hb5 ho0 HRun HAp HL5
        go_wp2_with fail
        clear z0 q0
        go_loopw [50] (fun i wr => ∃ k : Nat, k ≤ N + 1 ∧ i = .int .i64 k ∧ Below w5.heap.size w5 wr) (fun i _ => N + 1 - (intOf i).toNat)
        case atStart => exact ⟨0, Nat.zero_le _, rfl, Below.refl _ _⟩
        case round =>
          obtain ⟨k, hk, rfl, hnx⟩ := hrel
          have hsize := hnx.size
          by_cases hlt : k < N + 1
          · have hlt' : (k : Int) < (N : Int) + 1 := by omega
            obtain ⟨s0, s1, s2⟩ := SO.out.below hnx hO k hlt
            obtain ⟨m, hm, m0, m1⟩ := HT'.out k hlt
            rw [hm] at s2
            have o1 := cmp_low m m0 (by omega)
            have o2 := cmp_high m burst m0 m1 B1
            have NX := Lib.hid hnx
            clear hnx hm
            go_wp2_with fail
            go_roundw
            case rel => exact ⟨k + 1, by omega, by go_num, NX.out.alloc (by omega) _⟩
            case measure => simp [intOf]; omega
          · have hkN : k = N + 1 := by omega
            subst hkN
            have NX := Lib.hid hnx
            clear hnx
            go_wp2_with fail
            go_ret
            exact ⟨rfl, HB5.out.trans (NX.out.mono HB5.out.size)⟩

theorem reads : ∀ t ∈ Try.f5.params.toList, Try.prog.readableRec t = true ∧ t < Try.prog.types.size := by
  rw [Try.params5]
  intro t ht
  simp at ht
  rcases ht with rfl | rfl
  · exact ⟨by kernel_rfl, of_decide_eq_true (by kernel_rfl)⟩
  · exact ⟨by kernel_rfl, of_decide_eq_true (by kernel_rfl)⟩

set_option maxRecDepth 100000 in
theorem lifted (os : Os) (started : os.Started) (H : Type) (enc : TypeId × Value → H) :
    ReturnsInHanded {} Try.checked os 5 .any (Rows.fnTokensSpec.pre6 enc Try.prog Try.f5 Rows.fnTokensRow.domain false) (Rows.fnTokensSpec.post enc Try.prog Try.f5 false true false false) := by
  refine returnsInHanded_of_change (C := Try.checked) knobs started (by kernel_rfl) Try.func5
    (ChangeSpec.witness6 (enc := enc) (C := Try.checked) false ⟨#[], #[.int .i64 0, .int .i64 0, .slice none 0 0], []⟩ 8 (by kernel_rfl) (by kernel_rfl) (by kernel_rfl) (by kernel_rfl)) ?_
  intro W base args ds gs before hval0 hW hcnd _
  have hval : ∀ (j : Nat) t v, Try.f5.params[j]? = some t → args[j]? = some v → Value.okWide Try.prog W .any base t v := hval0
  have hW' := hW
  obtain ⟨p, q, hA0, hV, rfl, hfz, hnd⟩ := hW
  have hA : DataW.TrodAll enc Try.prog W 0 (fun _ => true) true Try.f5.params.toList args.toList ds p := hA0
  rw [Try.params5] at hA hval
  obtain ⟨v0, vs0, d0, ds0, p0, q0, hargs, rfl, rfl, h0, r0⟩ := trodAll_cons hA
  obtain ⟨v1, vs1, d1, ds1, p1, q1, rfl, rfl, rfl, h1, r1⟩ := trodAll_cons r0
  obtain ⟨v2, vs2, d2, ds2, p2, q2, rfl, rfl, rfl, h2, r2⟩ := trodAll_cons r1
  obtain ⟨rfl, rfl, rfl⟩ := trodAll_nil r2
  obtain rfl : args = #[v0, v1, v2] := by cases args; simp_all
  obtain ⟨rfl, rfl⟩ := trodVars_none hV
  obtain ⟨a0, rfl, rfl, rfl, w0⟩ := open_int Try.underlying3 (hval 0 3 v0 rfl rfl) h0
  obtain ⟨a1, rfl, rfl, rfl, w1⟩ := open_int Try.underlying3 (hval 1 3 v1 rfl rfl) h1
  obtain ⟨A, N, cap, sb, so, X, rfl, hAA, hX, -⟩ := open_steps (hval 2 27 v2 rfl rfl) h2
  clear hA0 hval0
  refine (walk sb so N cap a0 a1 X A W hAA (steps_none h2) hX).mono fun e W' ⟨he, hg⟩ => ?_
  subst he
  exact ⟨_, rfl, law_post hW' rfl rfl rfl rfl (by kernel_rfl) reads hg⟩

theorem named : Try.pinned.checked.prog.funcNamed Rows.fnTokensRow.func = some 5 := by kernel_rfl

theorem closed : joinedFacts Try.pinned.checked.prog 5 Try.f5 Rows.fnTokensSpec Rows.fnTokensRow = true := by
  unfold joinedFacts
  rw [enters, lifts, makes]
  repeat' (with_reducible refine band ?_ ?_)
  all_goals as_aux_lemma => kernel_rfl

theorem instanced : Func.isInstance Try.pinned.checked.prog Try.f5 Rows.fnTokensRow.origin Rows.fnTokensRow.targs := of_decide_eq_true (by kernel_rfl)

theorem wrapped : Func.isWrapper Try.pinned.checked.prog Try.f5 Rows.fnTokensRow.wrapper Rows.fnTokensRow.mainSum := by
  unfold Func.isWrapper; first | (rw [if_pos (by decide +kernel)]; kernel_rfl) | (rw [if_neg (by decide +kernel)]; exact ⟨rfl, rfl⟩)

theorem over : Rows.fnTokensRow.holds Try.pinned (OpenSpec.ofChange Rows.fnTokensSpec) :=
  OpenClaim.holds_of_wide 5 Try.f5 rfl rfl rfl rfl rfl rfl rfl ⟨rfl, rfl, rfl, rfl, rfl⟩ rfl rfl rfl rfl rfl named Try.func5 closed instanced wrapped
    (fun os started H enc _ => lifted os started H enc)

/-- ████ THE STATEMENT ████ -/
theorem proved : Rows.FnTokensSaid :=
  over
#print axioms proved
end Go.Proofs.Ytndkiphlpddbaaa.fnTokens
