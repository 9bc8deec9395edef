/- spec.Whole: what it says where it says yes. -/
import Derived.Test.YtndkiphlpddbaaaSpG
namespace Go.Proofs.Ytndkiphlpddbaaa
open Go.RowKit Go.Deep Flt

structure WholeP (rate burst : Int) (X : Scr) (N : Nat) : Prop where
  kd : ∀ k, k < N → X.kd k ≤ 2
  r0 : 1 ≤ rate
  r1 : rate ≤ 1000
  good : GoodP 1 burst X N

set_option maxRecDepth 100000 in
set_option maxHeartbeats 2000000 in
theorem whole_any (g N cap : Nat) (rate burst : Int) (X : Scr) (w : World) (hN : N ≤ 2147483647) (hg : g < w.heap.size) (hX : Lies w X g 0 N) :
    Calls Try.prog 27 #[.int .i64 rate, .int .i64 burst, .slice (some ⟨g, 0, none⟩) N cap] w (SaysPost w (WholeP rate burst X N)) := by
  have HX := Lib.hid hX
  clear hX
  have hN' : N ≤ 9223372036854775807 := by omega
  go_enter Try.func27, Try.ntmps27
  go_wp2_with fail
  go_loopw [11] (fun i wr => ∃ k : Nat, k ≤ N ∧ i = .int .i64 k ∧ Hid (∀ j, j < k → X.kd j ≤ 2) ∧ Below w.heap.size w wr) (fun i _ => N - (intOf i).toNat)
  case atStart => exact ⟨0, Nat.zero_le _, rfl, Lib.hid (fun j hj => absurd hj (Nat.not_lt_zero _)), Below.refl _ _⟩
  case round =>
    obtain ⟨k, hk, rfl, HO, hnx⟩ := hrel
    have hsize := hnx.size
    by_cases hlt : k < N
    · obtain ⟨s0, s1, s2⟩ := HX.out.below hnx hg k hlt
      rw [Nat.zero_add] at s0 s1 s2
      have NX := Lib.hid hnx
      clear hnx
      by_cases ha : X.kd k ≤ 2
      · have ha' : ¬ 2 < X.kd k := by omega
        go_wp2_with fail
        go_roundw
        case rel =>
          refine ⟨k + 1, by omega, by go_num, Lib.hid fun j hj => ?_, NX.out.alloc (by omega) _⟩
          by_cases hj' : j < k
          · exact HO.out j hj'
          · have : j = k := by omega
            subst this; exact ha
        case measure => simp [intOf]; omega
      · have ha' : 2 < X.kd k := by omega
        go_wp2_with fail
        go_ret
        exact ⟨false, rfl, fun h => (by cases h), NX.out.alloc (by omega) _⟩
    · have hkN : k = N := by omega
      subst hkN
      have HG := Lib.hid (good_any g k cap 1 burst X wr (Nat.lt_of_lt_of_le hg hsize) (HX.out.below hnx hg))
      have NX := Lib.hid hnx
      clear hnx
      by_cases r0 : 1 ≤ rate
      · by_cases r1 : rate ≤ 1000
        · go_wp2_with fail
          refine HG.out.mono ?_; rintro e w2 ⟨r, rfl, hr, hb2⟩
          have HB2 := Lib.hid (NX.out.trans (hb2.mono hsize))
          have HR := Lib.hid hr
          clear hr hb2
          cases r
          · go_wp2_with fail
            go_ret
            exact ⟨false, rfl, fun h => (by cases h), HB2.out⟩
          · have HGD := Lib.hid (HR.out rfl)
            clear HR
            go_wp2_with fail
            go_ret
            exact ⟨true, rfl, fun _ => ⟨HO.out, r0, r1, HGD.out⟩, HB2.out⟩
        · have d1 : decide (rate ≤ 1000) = false := decide_eq_false r1
          go_wp2_with fail
          go_ret
          exact ⟨false, rfl, fun h => (by cases h), NX.out⟩
      · have d0 : decide (1 ≤ rate) = false := decide_eq_false r0
        go_wp2_with fail
        go_ret
        exact ⟨false, rfl, fun h => (by cases h), NX.out⟩

end Go.Proofs.Ytndkiphlpddbaaa
