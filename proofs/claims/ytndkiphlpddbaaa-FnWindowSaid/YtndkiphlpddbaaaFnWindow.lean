/- The law FnWindow holds for every input. No condition. (The frame is after the seat's proof-skeleton; the row's part printed by wip/tools/genrow.py.) -/
import Derived.Test.YtndkiphlpddbaaaLwX
import Derived.BigQuiet
import Derived.Deep.QuietTactic
import Derived.Test.YtndkiphlpddbaaaRowS
import Derived.WalkKit
import Derived.ProofKit
import Derived.OpenShut
namespace Go.Proofs.Ytndkiphlpddbaaa.fnWindow
open Go.ChangeShapes Go.WideShapes Go.ChangeAt Go.RowKit Go.Deep Flt
set_option linter.unusedVariables false
attribute [local go_sem] store_float

theorem info4 : (Try.prog.info? 4).map (fun i => (i.zero, i.size, i.bytes)) = some (some (.bool false), 1, 1) := by kernel_rfl

/-- What a step takes, of what is told of it. -/
def took (ob : Nat → Bool) (X : Scr) (j : Nat) : Int := if ob j then X.nm j else 0

def oL (ob : Nat → Bool) : Nat → List Value
  | 0 => []
  | k + 1 => oL ob k ++ [.bool (ob k)]

theorem oL_len (ob : Nat → Bool) (k : Nat) : (oL ob k).length = k := by
  induction k with
  | zero => rfl
  | succ k ih => rw [oL, List.length_append, ih]; rfl

theorem oL_get (ob : Nat → Bool) (N k : Nat) (hk : k < N) : (oL ob N)[k]? = some (.bool (ob k)) := by
  induction N with
  | zero => omega
  | succ N ih =>
    have hl := oL_len ob N
    by_cases h : k < N
    · rw [oL, List.getElem?_append_left (by omega)]; exact ih h
    · have : k = N := by omega
      subst this
      rw [oL, List.getElem?_append_right (by omega), hl, Nat.sub_self]
      rfl

theorem one_new (w : World) (x : Value) (t : TypeId) : ∀ j u, [x][j]? = some u → (w.alloc (.cells #[x] t)).cell? ((⟨w.heap.size, 0, none⟩ : Addr).add j) = some u := by
  intro j u hu
  rw [Addr.add_lit, Nat.zero_add, cell_of_row _ _ j #[x] t (0, 0) (heap_alloc_new w _)]
  simpa using hu

theorem sum_bounds {o : Nat → Int} {N i : Nat} (h : ∀ k, k < N → 0 ≤ o k ∧ o k ≤ 100) : ∀ m, i + m ≤ N → 0 ≤ sumW o i m ∧ sumW o i m ≤ 100 * (m : Int) := by
  intro m
  induction m with
  | zero => intro _; exact ⟨Int.le_refl _, Int.le_refl _⟩
  | succ m ih =>
    intro hm
    obtain ⟨a, b⟩ := ih (by omega)
    obtain ⟨c, d⟩ := h (i + m) (by omega)
    show 0 ≤ sumW o i m + o (i + m) ∧ sumW o i m + o (i + m) ≤ 100 * ((m + 1 : Nat) : Int)
    omega

/-- What spec.Window asks of its arguments here. -/
structure WinP (rate burst : Int) (X : Scr) (ob : Nat → Bool) (N : Nat) : Prop where
  r : 0 ≤ rate ∧ rate ≤ 1000
  b : 0 ≤ burst ∧ burst ≤ 64
  at_ : ∀ k, k < N → 0 ≤ X.at_ k ∧ X.at_ k ≤ 65536
  up : ∀ i k, i ≤ k → k < N → X.at_ i ≤ X.at_ k
  nm : ∀ k, k < N → 0 ≤ X.nm k ∧ X.nm k ≤ 100
  win : ∀ i m, i + m < N → sumW (took ob X) i (m + 1) * 512 ≤ burst * 512 + rate * (X.at_ (i + m) - X.at_ i)

theorem WinP.took {rate burst : Int} {X : Scr} {ob : Nat → Bool} {N : Nat} (h : WinP rate burst X ob N) (k : Nat) (hk : k < N) : 0 ≤ took ob X k ∧ took ob X k ≤ 100 := by
  have := h.nm k hk
  unfold fnWindow.took
  split <;> omega

set_option maxRecDepth 100000 in
set_option maxHeartbeats 4000000 in
theorem window_any (g N c1 b c2 : Nat) (rate burst : Int) (X : Scr) (ob : Nat → Bool) (w : World) (hN : N ≤ 40) (hg : g < w.heap.size) (hb : b < w.heap.size) (hX : Lies w X g 0 N)
    (hO : ∀ k, k < N → w.cell? ⟨b, k, none⟩ = some (.bool (ob k))) (hW : WinP rate burst X ob N) :
    Calls Try.prog 32 #[.int .i64 rate, .int .i64 burst, .slice (some ⟨g, 0, none⟩) N c1, .slice (some ⟨b, 0, none⟩) N c2] w fun e w' => e = .returned (.bool true) ∧ Below w.heap.size w w' := by
  have HX := Lib.hid hX
  have HO := Lib.hid hO
  have HW := Lib.hid hW
  obtain ⟨r0, r1⟩ := hW.r
  obtain ⟨b0, b1⟩ := hW.b
  clear hX hO hW
  have hN' : N ≤ 9223372036854775807 := by omega
  go_enter Try.func32, Try.ntmps32
  go_wp2_with fail
  go_loopw [14] (fun i wr => ∃ k : Nat, k ≤ N ∧ i = .int .i64 k ∧ Below w.heap.size w wr) (fun i _ => N - (intOf i).toNat)
  case atStart => exact ⟨0, Nat.zero_le _, rfl, Below.refl _ _⟩
  case round =>
    obtain ⟨i, hi, rfl, hnx⟩ := hrel
    have hsize := hnx.size
    by_cases hlt : i < N
    · have HB1 := Lib.hid hnx
      have hi0 : (0 : Int) ≤ (i : Int) := by omega
      clear hnx
      go_wp2_with fail
      go_loopw [10, 11] (fun s k wr' => ∃ m : Nat, i + m ≤ N ∧ s = .int .i64 (sumW (took ob X) i m) ∧ k = .int .i64 ((i + m : Nat) : Int) ∧ Below wr.heap.size wr wr') (fun _ k _ => N - (intOf k).toNat)
      case atStart => exact ⟨0, by omega, rfl, rfl, Below.refl _ _⟩
      case round =>
        rename_i wr2
        obtain ⟨m, hm, rfl, rfl, hnx⟩ := hrel
        have hsize2 := hnx.size
        by_cases hlt2 : i + m < N
        · have hB2 := HB1.out.trans (hnx.mono HB1.out.size)
          obtain ⟨-, s1, s2⟩ := HX.out.below hB2 hg (i + m) hlt2
          obtain ⟨-, q1, -⟩ := HX.out.below hB2 hg i hlt
          have o0 := (World.cell?_of_block (w := w) (a := ⟨b, i + m, none⟩) (hB2.block b hb)).trans (HO.out (i + m) hlt2)
          rw [Nat.zero_add] at s1 s2 q1
          obtain ⟨sb0, sb1⟩ := sum_bounds (o := took ob X) (i := i) (fun k hk => HW.out.took k hk) m (by omega)
          obtain ⟨nm0, nm1⟩ := HW.out.nm (i + m) hlt2
          have hwin := HW.out.win i m hlt2
          have hup := HW.out.up i (i + m) (by omega) hlt2
          obtain ⟨a0, a1⟩ := HW.out.at_ (i + m) hlt2
          obtain ⟨e0, e1⟩ := HW.out.at_ i hlt
          have p0 : 0 ≤ rate * (X.at_ (i + m) - X.at_ i) := Int.mul_nonneg r0 (by omega)
          have p1 : rate * (X.at_ (i + m) - X.at_ i) ≤ 1000 * 65536 := Int.mul_le_mul r1 (by omega) (by omega) (by omega)
          have hsucc : sumW (took ob X) i (m + 1) = sumW (took ob X) i m + took ob X (i + m) := rfl
          have HS := Lib.hid hsucc
          rw [hsucc] at hwin
          clear hsucc
          have NX := Lib.hid hnx
          clear hnx
          have hcast : ((i + m : Nat) : Int).toNat = i + m := by omega
          have hlt3 : ((i + m : Nat) : Int) < (N : Int) := by omega
          have hlt4 : (i : Int) < (N : Int) := by omega
          cases hob : ob (i + m)
          · have ht : took ob X (i + m) = 0 := by unfold took; rw [hob]; rfl
            rw [ht, Int.add_zero] at hwin
            have HS2 : Hid (sumW (took ob X) i (m + 1) = sumW (took ob X) i m) := Lib.hid (by rw [HS.out, ht, Int.add_zero])
            rw [hob] at o0
            clear HS ht hob
            generalize X.at_ (i + m) = ak at *
            generalize X.at_ i = ai at *
            generalize hpd : rate * (ak - ai) = pd at *
            generalize hss : sumW (took ob X) i m = ss at *
            have hd : decide (burst * 512 + pd < ss * 512) = false := decide_eq_false (by omega)
            go_wp2_with fail
            go_quiet (fail)
            go_wp2_with fail
            go_roundw
            case rel => exact ⟨m + 1, by omega, by rw [HS2.out], by go_num, below_drewN NX.out _⟩
            case measure => simp [intOf]; omega
          · have ht : took ob X (i + m) = X.nm (i + m) := by unfold took; rw [hob]; rfl
            rw [ht] at hwin
            have HS2 : Hid (sumW (took ob X) i (m + 1) = sumW (took ob X) i m + X.nm (i + m)) := Lib.hid (by rw [HS.out, ht])
            rw [hob] at o0
            clear HS ht hob
            generalize X.at_ (i + m) = ak at *
            generalize X.at_ i = ai at *
            generalize hpd : rate * (ak - ai) = pd at *
            generalize hss : sumW (took ob X) i m = ss at *
            have hd : decide (burst * 512 + pd < (ss + X.nm (i + m)) * 512) = false := decide_eq_false (by omega)
            go_wp2_with fail
            go_quiet (fail)
            go_wp2_with fail
            go_roundw
            case rel => exact ⟨m + 1, by omega, by rw [HS2.out], by go_num, below_drewN NX.out _⟩
            case measure => simp [intOf]; omega
        · have hmN : i + m = N := by omega
          have hnl : ¬ ((i + m : Nat) : Int) < (N : Int) := by omega
          go_wp2_with fail
          go_roundw
          case rel => exact ⟨i + 1, by omega, by go_num, HB1.out.trans (hnx.mono HB1.out.size)⟩
          case measure => simp [intOf]; omega
    · have hiN : i = N := by omega
      subst hiN
      go_wp2_with fail
      go_ret
      exact ⟨rfl, hnx⟩

set_option maxRecDepth 100000 in
set_option maxHeartbeats 4000000 in
theorem walk (sb so N cap : Nat) (rate burst : Int) (X : Scr) (A : Option Addr) (w : World) (hA : 0 < N → A = some ⟨sb, so, none⟩ ∧ sb < w.heap.size) (hn : A = none → N = 0 ∧ cap = 0) (hX : Lies w X sb so N) :
    Calls Try.prog 20 #[.int .i64 rate, .int .i64 burst, .slice A N cap] w fun e w' => e = .returned (.bool true) ∧ Below w.heap.size w w' := by
  by_cases hbig : 2147483647 < N
  · have hbig' : (2147483647 : Int) < N := by omega
    go_enter Try.func20, Try.ntmps20
    go_wp2_with fail
    go_ret
    exact ⟨rfl, Below.refl _ _⟩
  · have hN : N ≤ 2147483647 := by omega
    have hN' : ¬ (2147483647 : Int) < N := by omega
    have hNn : N ≤ 9223372036854775807 := by omega
    have HPl := Lib.hid (plain_any sb so N cap X A w hN hA hX)
    have HA := Lib.hid hA
    have HX := Lib.hid hX
    clear hA hX hbig hn
    go_enter Try.func20, Try.ntmps20
    go_wp2_with fail
    refine HPl.out.mono ?_; rintro e w1 ⟨g, c1, rfl, hg0, hg1, hl1, hb1⟩
    have HB1 := Lib.hid hb1
    have HL1 := Lib.hid hl1
    have HWh := Lib.hid (whole_any g N c1 rate burst X w1 hN hg1 hl1)
    clear hb1 hl1 hg0 HPl
    go_wp2_with fail
    refine HWh.out.mono ?_; rintro e w2 ⟨r, rfl, hr, hb2⟩
    have HB2 := Lib.hid (HB1.out.trans (hb2.mono HB1.out.size))
    have HL2 := Lib.hid (HL1.out.below hb2 hg1)
    have hg2 := Nat.lt_of_lt_of_le hg1 hb2.size
    have HOn := Lib.hid (only_any g N c1 X 0 0 w2 hN hg2 (HL1.out.below hb2 hg1))
    have HR := Lib.hid hr
    clear hb2 hr HWh HL1 HB1
    cases r
    · go_wp2_with fail
      go_ret
      exact ⟨rfl, HB2.out⟩
    · have HWP := Lib.hid (HR.out rfl)
      clear HR
      go_wp2_with fail
      refine HOn.out.mono ?_; rintro e w3 ⟨r, rfl, hr, hb3⟩
      have HB3 := Lib.hid (HB2.out.trans (hb3.mono HB2.out.size))
      have HL3 := Lib.hid (HL2.out.below hb3 hg2)
      have hg3 := Nat.lt_of_lt_of_le hg2 hb3.size
      have HR := Lib.hid hr
      clear hb3 hr HOn HL2
      cases r
      · go_wp2_with fail
        go_ret
        exact ⟨rfl, HB3.out⟩
      · have honly := HR.out rfl
        have hwh := HWP.out
        have hgood := hwh.good
        have hst : Steps X N := ⟨hgood.step, fun k hk => by have := honly k hk; omega⟩
        have R0 := hwh.r0
        have R1 := hwh.r1
        have hn40 := hgood.n
        have B0 := hgood.b0
        have B1 := hgood.b1
        have hs3 := HB3.out.size
        have hup : ∀ i k, i ≤ k → k < N → X.at_ i ≤ X.at_ k := by
          intro i k
          induction k with
          | zero => intro h _; rw [show i = 0 by omega]; exact Int.le_refl _
          | succ k ih =>
            intro h1 h2
            by_cases h3 : i = k + 1
            · rw [h3]; exact Int.le_refl _
            · have h4 := ih (by omega) (by omega)
              have h5 := (hgood.step (k + 1) h2).up (by omega)
              rw [Nat.add_sub_cancel] at h5
              omega
        have hWin : WinP rate burst X (fun k => (toldOf (stN (St.new rate burst) X k) (X.kd k) (X.at_ k) (X.nm k)).ok) N :=
          ⟨⟨by omega, R1⟩, ⟨B0, B1⟩, fun k hk => ⟨(hgood.step k hk).lo, (hgood.step k hk).hi⟩, hup, fun k hk => ⟨(hgood.step k hk).n0, (hgood.step k hk).n1⟩,
            fun i m him => window_ok (rate := rate) (burst := burst) hst honly R0 B0 i m him⟩
        have HWin := Lib.hid hWin
        obtain ⟨i0, hi, hz0, hz1, hz2⟩ := info_parts info4
        have HNv := Lib.hid never_any
        have HRun := Lib.hid (fun (w' : World) (hb : Below w.heap.size w w') => Run_plain sb so N cap rate burst X w' A hst.plain (by omega) (by omega) R1 B0 B1 (fun h => ⟨(HA.out h).1, Nat.lt_of_lt_of_le (HA.out h).2 hb.size⟩) (lies_later HX.out hb (fun h => (HA.out h).2)))
        clear hgood hst hwh honly HR HWP hup hWin
        have hb4 : Below w.heap.size w (w3.alloc (.cells #[] 4)) := HB3.out.alloc hs3 _
        have HRunA := Lib.hid (HRun.out _ hb4)
        have HB4 := Lib.hid hb4
        clear hb4 HRun
        go_wp2_with fail
        refine HRunA.out.mono ?_; rintro e w5 ⟨OB, rfl, ho0, hrow, hb5⟩
        generalize hTT : (fun k => toldOf (stN (St.new rate burst) X k) (X.kd k) (X.at_ k) (X.nm k)) = T at *
        have HWin' : Hid (WinP rate burst X (fun k => (T k).ok) N) := Lib.hid (by rw [← hTT]; exact HWin.out)
        have hO := hrow.lt
        have HB5 := Lib.hid (HB4.out.trans (hb5.mono HB4.out.size))
        have hb35 : Below w3.heap.size w3 w5 := ((Below.refl w3.heap.size w3).alloc (Nat.le_refl _) (.cells #[] 4)).trans (hb5.mono (by simp))
        have hown0 : w5.ownsRow w3.heap.size 4 1 (.slice (some ⟨w3.heap.size, 0, none⟩) 0 0) 0 [] :=
          (World.ownsRow_made w3 #[] 0 (Nat.le_refl _) (by unfold maxLen; omega) rfl).kept (row := none) ⟨hb5.os, hb5.tape, hb5.output, hb5.size, fun k hk _ => hb5.block k hk⟩ (.inr (by simp [Value.ownBlock]))
        have HB35 := Lib.hid hb35
        have HROW := Lib.hid hrow
        have HOWN := Lib.hid hown0
        clear hrow hb5 hb35 ho0 HRunA HWin hTT hown0
        go_wp2_with fail
        go_loopw [8, 32] (fun v i wr => ∃ k : Nat, k ≤ N ∧ i = .int .i64 k ∧ wr.ownsRow w3.heap.size 4 1 v k (oL (fun k => (T k).ok) k) ∧ v ≠ .slice none 0 0 ∧ Below w3.heap.size w3 wr ∧ wr.rowIs OB 30 (3 * N) (outF T N)) (fun _ i _ => N - (intOf i).toNat)
        case atStart => exact ⟨0, Nat.zero_le _, rfl, HOWN.out, by simp, HB35.out, HROW.out⟩
        case round =>
          obtain ⟨k, hk, rfl, hown, hnn, hnx, hrw⟩ := hrel
          have hsize := hnx.size
          have SO := says_row hrw
          by_cases hlt : k < N
          · obtain ⟨s0, s1, s2⟩ := SO k hlt
            have c1 := one_new (wr.alloc (.cells #[.bool (T k).ok, .int .i64 (T k).delay, .float .f64 (T k).tok] 30)) (.bool (T k).ok) 4
            rw [World.size_alloc] at c1
            have C1 := Lib.hid c1
            have HRW := Lib.hid hrw
            have HNX := Lib.hid hnx
            clear c1 SO hrw hnx
            go_wp2_with (at_builtin; refine wpList_append_own _ rfl (.tmp 36) (.tmp 39) 49 rfl w3.heap.size 4 i0 (.bool false) 1 1 Try.underlying49 hi hz0 hz1 hz2 rfl (by decide) _ _ _ rfl ((hown.alloc _).alloc _) ⟨wr.heap.size + 1, 0, none⟩ 1 1 [.bool (T k).ok] rfl rfl C1.out (by intro u hu; simp only [List.mem_cons, List.not_mem_nil, or_false] at hu; subst hu; rfl) (by unfold maxLen; omega) (by omega) (by simp; omega) ?_; intro v1 w6 hown1 hgrow1 hnil1)
            go_roundw
            case rel =>
              refine ⟨k + 1, by omega, by go_num, hown1, fun hh => absurd (hnil1.1 hh).2 (by decide), ((HNX.out.alloc (by omega) _).alloc (by simp; omega) _).grown hgrow1 (by simp; omega) (fun j hj => (hown.lt j hj).1), ?_⟩
              refine ((HRW.out.alloc _).alloc _).of_block (hgrow1.block OB (by have := HRW.out.lt; simp; omega) (fun he => ?_))
              rcases hown.2 with ⟨h, _⟩ | ⟨gg, cap', cur, hv, _, hg, _⟩
              · exact hnn h
              · subst hv
                have he' : some OB = some gg := he
                obtain rfl : OB = gg := Option.some.inj he'
                obtain ⟨x, hx, _⟩ := HRW.out
                rw [hx] at hg
                injection hg with hg
                injection hg with _ ht
                exact absurd ht (by decide)
            case measure => simp [intOf]; omega
          · have hkN : k = N := by omega
            subst hkN
            obtain ⟨gb, cb, hve⟩ : ∃ gb cb, _ = Value.slice (some ⟨gb, 0, none⟩) k cb := by
              rcases hown.2 with ⟨h, _⟩ | ⟨gb, cb, _, h, _⟩
              · exact absurd h hnn
              · exact ⟨gb, cb, h⟩
            subst hve
            have hgb := (hown.lt gb rfl).2
            have HB6 := Lib.hid (HB3.out.trans (hnx.mono hs3))
            have HWn := Lib.hid (window_any g k c1 gb cb rate burst X (fun k => (T k).ok) wr (by omega) (Nat.lt_of_lt_of_le hg3 hsize) hgb (HL3.out.below hnx hg3) (fun j hj => (hown.cellAt j (by omega)).trans (oL_get _ k j hj)) HWin'.out)
            clear hown hnn hnx hrw SO
            go_wp2_with fail
            refine HWn.out.mono ?_; rintro e w7 ⟨rfl, hb7⟩
            have HB7 := Lib.hid (HB6.out.trans (hb7.mono HB6.out.size))
            clear hb7 HWn
            go_wp2_with fail
            refine (HNv.out _).mono ?_; rintro e w8 ⟨rfl, rfl⟩
            go_wp2_with fail
            go_ret
            exact ⟨rfl, HB7.out⟩

theorem reads : ∀ t ∈ Try.f20.params.toList, Try.prog.readableRec t = true ∧ t < Try.prog.types.size := by
  rw [Try.params20]
  intro t ht
  simp at ht
  rcases ht with rfl | rfl
  all_goals exact ⟨by kernel_rfl, of_decide_eq_true (by kernel_rfl)⟩

set_option maxRecDepth 100000 in
theorem lifted (os : Os) (started : os.Started) (H : Type) (enc : TypeId × Value → H) :
    ReturnsInHanded {} Try.checked os 20 .any (Rows.fnWindowSpec.pre6 enc Try.prog Try.f20 Rows.fnWindowRow.domain false) (Rows.fnWindowSpec.post enc Try.prog Try.f20 false true false false) := by
  refine returnsInHanded_of_change (C := Try.checked) knobs started (by kernel_rfl) Try.func20
    (ChangeSpec.witness6 (enc := enc) (C := Try.checked) false ⟨#[], #[.int .i64 0, .int .i64 0, .slice none 0 0], []⟩ 8 (by kernel_rfl) (by kernel_rfl) (by kernel_rfl) (by kernel_rfl)) ?_
  intro W base args ds gs before hval0 hW hcnd _
  have hval : ∀ (j : Nat) t v, Try.f20.params[j]? = some t → args[j]? = some v → Value.okWide Try.prog W .any base t v := hval0
  have hW' := hW
  obtain ⟨p, q, hA0, hV, rfl, hfz, hnd⟩ := hW
  have hA : DataW.TrodAll enc Try.prog W 0 (fun _ => true) true Try.f20.params.toList args.toList ds p := hA0
  rw [Try.params20] at hA hval
  obtain ⟨v0, vs0, d0, ds0, p0, q0, hargs, rfl, rfl, h0, r0⟩ := trodAll_cons hA
  obtain ⟨v1, vs1, d1, ds1, p1, q1, rfl, rfl, rfl, h1, r1⟩ := trodAll_cons r0
  obtain ⟨v2, vs2, d2, ds2, p2, q2, rfl, rfl, rfl, h2, r2⟩ := trodAll_cons r1
  obtain ⟨rfl, rfl, rfl⟩ := trodAll_nil r2
  obtain rfl : args = #[v0, v1, v2] := by cases args; simp_all
  obtain ⟨rfl, rfl⟩ := trodVars_none hV
  obtain ⟨a0, rfl, rfl, rfl, w0⟩ := open_int Try.underlying3 (hval 0 3 v0 rfl rfl) h0
  obtain ⟨a1, rfl, rfl, rfl, w1⟩ := open_int Try.underlying3 (hval 1 3 v1 rfl rfl) h1
  obtain ⟨A, N, cap, sb, so, X, rfl, hAA, hX, -⟩ := open_steps (hval 2 27 v2 rfl rfl) h2
  clear hA0 hval0
  refine (walk sb so N cap a0 a1 X A W hAA (steps_none h2) hX).mono fun e W' ⟨he, hg⟩ => ?_
  subst he
  exact ⟨_, rfl, law_post hW' rfl rfl rfl rfl (by kernel_rfl) reads hg⟩

theorem named : Try.pinned.checked.prog.funcNamed Rows.fnWindowRow.func = some 20 := by kernel_rfl

theorem closed : joinedFacts Try.pinned.checked.prog 20 Try.f20 Rows.fnWindowSpec Rows.fnWindowRow = true := by
  unfold joinedFacts
  rw [enters, lifts, makes]
  repeat' (with_reducible refine band ?_ ?_)
  all_goals as_aux_lemma => kernel_rfl

theorem instanced : Func.isInstance Try.pinned.checked.prog Try.f20 Rows.fnWindowRow.origin Rows.fnWindowRow.targs := of_decide_eq_true (by kernel_rfl)

theorem wrapped : Func.isWrapper Try.pinned.checked.prog Try.f20 Rows.fnWindowRow.wrapper Rows.fnWindowRow.mainSum := by
  unfold Func.isWrapper; first | (rw [if_pos (by decide +kernel)]; kernel_rfl) | (rw [if_neg (by decide +kernel)]; exact ⟨rfl, rfl⟩)

theorem over : Rows.fnWindowRow.holds Try.pinned (OpenSpec.ofChange Rows.fnWindowSpec) :=
  OpenClaim.holds_of_wide 20 Try.f20 rfl rfl rfl rfl rfl rfl rfl ⟨rfl, rfl, rfl, rfl, rfl⟩ rfl rfl rfl rfl rfl named Try.func20 closed instanced wrapped
    (fun os started H enc _ => lifted os started H enc)

/-- ████ THE STATEMENT ████ -/
theorem proved : Rows.FnWindowSaid :=
  over
#print axioms proved
end Go.Proofs.Ytndkiphlpddbaaa.fnWindow
