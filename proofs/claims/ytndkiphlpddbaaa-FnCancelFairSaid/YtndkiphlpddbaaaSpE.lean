/- laws.same: what is told is what is to be. -/
import Derived.Test.YtndkiphlpddbaaaSpR
namespace Go.Proofs.Ytndkiphlpddbaaa
open Go.RowKit Go.Deep Flt
attribute [local go_sem] store_float

def selfEq (t : Nat) : Prop := (FloatKind.f64.format.order t t == some Ordering.eq) = true

theorem Says.congr {w : World} {T T' : Nat → Tl} {g N : Nat} (h : Says w T g N) (e : ∀ k, k < N → T k = T' k) : Says w T' g N := by
  intro k hk
  rw [← e k hk]; exact h k hk

set_option maxRecDepth 100000 in
set_option maxHeartbeats 1000000 in
theorem same_any (O g N c1 c2 : Nat) (T : Nat → Tl) (w : World) (hN : N ≤ 1000) (hO : O < w.heap.size) (hg : g < w.heap.size) (h1 : Says w T O N) (h2 : Says w T g N) (hs : ∀ k, k < N → selfEq (T k).tok) :
    Calls Try.prog 25 #[.slice (some ⟨O, 0, none⟩) N c1, .slice (some ⟨g, 0, none⟩) N c2] w fun e w' => e = .returned (.bool true) ∧ Below w.heap.size w w' := by
  have H1 := Lib.hid h1
  have H2 := Lib.hid h2
  have HS := Lib.hid hs
  clear h1 h2 hs
  have hN' : N ≤ 9223372036854775807 := by omega
  go_enter Try.func25, Try.ntmps25
  go_wp2_with fail
  go_loopw [14] (fun i wr => ∃ k : Nat, k ≤ N ∧ i = .int .i64 k ∧ Below w.heap.size w wr) (fun i _ => N - (intOf i).toNat)
  case atStart => exact ⟨0, Nat.zero_le _, rfl, Below.refl _ _⟩
  case round =>
    obtain ⟨k, hk, rfl, hnx⟩ := hrel
    have hsize := hnx.size
    by_cases hlt : k < N
    · obtain ⟨s0, s1, s2⟩ := H1.out.below hnx hO k hlt
      obtain ⟨q0, q1, q2⟩ := H2.out.below hnx hg k hlt
      have o := HS.out k hlt
      have o2 : (FloatKind.f64.format.order (T k).tok (T k).tok != some Ordering.eq) = false := by unfold selfEq at o; rw [bne, o]; rfl
      clear o
      have NX := Lib.hid hnx
      clear hnx
      have e1 : ¬ wr.heap.size = O := by omega
      have e2 : ¬ wr.heap.size = g := by omega
      have e3 : ¬ O = wr.heap.size := by omega
      have e4 : ¬ g = wr.heap.size := by omega
      have k0 := (World.cell?_alloc_lt wr (.cells #[.bool (T k).ok, .int .i64 (T k).delay, .float .f64 (T k).tok] 30) ⟨g, k * 3, none⟩ (by show g < _; omega)).trans q0
      have k1 := (World.cell?_alloc_lt wr (.cells #[.bool (T k).ok, .int .i64 (T k).delay, .float .f64 (T k).tok] 30) ⟨g, k * 3 + 1, none⟩ (by show g < _; omega)).trans q1
      have k2 := (World.cell?_alloc_lt wr (.cells #[.bool (T k).ok, .int .i64 (T k).delay, .float .f64 (T k).tok] 30) ⟨g, k * 3 + 2, none⟩ (by show g < _; omega)).trans q2
      clear q0 q1 q2
      have n1 : ((T k).ok != (T k).ok) = false := by simp
      have n2 : ((T k).delay != (T k).delay) = false := by simp
      go_wp2_with fail
      go_quiet (fail)
      go_wp2_with fail
      go_roundw
      case rel => exact ⟨k + 1, by omega, by go_num, below_drewN (NX.out.alloc (by omega) _) _⟩
      case measure => simp [intOf]; omega
    · have hkN : k = N := by omega
      subst hkN
      go_wp2_with fail
      go_ret
      exact ⟨rfl, hnx⟩

end Go.Proofs.Ytndkiphlpddbaaa
