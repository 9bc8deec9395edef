/- spec.Only, spec.Fill. No condition. -/
import Derived.Test.YtndkiphlpddbaaaSpP
import Derived.BigQuiet
import Derived.Deep.QuietTactic
import Derived.Deep.DeepMust
namespace Go.Proofs.Ytndkiphlpddbaaa
open Go.RowKit Go.Deep Flt

/-- A test that says no more than: where it is true, this holds. -/
def SaysPost (w : World) (p : Prop) (e : Ending) (w' : World) : Prop := ∃ r : Bool, e = .returned (.bool r) ∧ (r = true → p) ∧ Below w.heap.size w w'

def OnlyP (X : Scr) (N : Nat) (a b : Int) : Prop := ∀ k, k < N → X.kd k = a ∨ X.kd k = b

set_option maxRecDepth 100000 in
set_option maxHeartbeats 1000000 in
theorem only_any (g N cap : Nat) (X : Scr) (a b : Int) (w : World) (hN : N ≤ 2147483647) (hg : g < w.heap.size) (hX : Lies w X g 0 N) :
    Calls Try.prog 28 #[.slice (some ⟨g, 0, none⟩) N cap, .int .i64 a, .int .i64 b] w (SaysPost w (OnlyP X N a b)) := by
  have HX := Lib.hid hX
  clear hX
  have hN' : N ≤ 9223372036854775807 := by omega
  go_enter Try.func28, Try.ntmps28
  go_wp2_with fail
  go_loopw [11] (fun i wr => ∃ k : Nat, k ≤ N ∧ i = .int .i64 k ∧ Hid (OnlyP X k a b) ∧ Below w.heap.size w wr) (fun i _ => N - (intOf i).toNat)
  case atStart => exact ⟨0, Nat.zero_le _, rfl, Lib.hid (fun j hj => absurd hj (Nat.not_lt_zero _)), Below.refl _ _⟩
  case round =>
    obtain ⟨k, hk, rfl, HO, hnx⟩ := hrel
    have hsize := hnx.size
    by_cases hlt : k < N
    · obtain ⟨s0, s1, s2⟩ := HX.out k hlt
      rw [Nat.zero_add] at s0 s1 s2
      have t0 := (World.cell?_of_block (w := w) (a := ⟨g, k * 3, none⟩) (hnx.block g hg)).trans s0
      have t1 := (World.cell?_of_block (w := w) (a := ⟨g, k * 3 + 1, none⟩) (hnx.block g hg)).trans s1
      have t2 := (World.cell?_of_block (w := w) (a := ⟨g, k * 3 + 2, none⟩) (hnx.block g hg)).trans s2
      clear s0 s1 s2
      have NX := Lib.hid hnx
      clear hnx
      by_cases ha : X.kd k = a
      · rw [ha] at t0
        go_wp2_with fail
        go_roundw
        case rel =>
          refine ⟨k + 1, by omega, by go_num, Lib.hid fun j hj => ?_, NX.out.alloc (by omega) _⟩
          by_cases hj' : j < k
          · exact HO.out j hj'
          · have : j = k := by omega
            subst this; exact .inl ha
        case measure => simp [intOf]; omega
      · by_cases hb : X.kd k = b
        · rw [hb] at t0
          have ha' : ¬ b = a := fun h => ha (hb.trans h)
          go_wp2_with fail
          go_roundw
          case rel =>
            refine ⟨k + 1, by omega, by go_num, Lib.hid fun j hj => ?_, NX.out.alloc (by omega) _⟩
            by_cases hj' : j < k
            · exact HO.out j hj'
            · have : j = k := by omega
              subst this; exact .inr hb
          case measure => simp [intOf]; omega
        · have ha2 : (X.kd k != a) = true := by simp [ha]
          have hb2 : (X.kd k != b) = true := by simp [hb]
          go_wp2_with fail
          go_ret
          exact ⟨false, rfl, fun h => (by cases h), NX.out.alloc (by omega) _⟩
    · have hkN : k = N := by omega
      subst hkN
      go_wp2_with fail
      go_ret
      exact ⟨true, rfl, fun _ => HO.out, hnx⟩

/-! ### the reference's bucket -/
structure Bk where
  rate : Int
  burst : Int
  tok : Int
  at_ : Int
  taken : Int

def Bk.cells (b : Bk) : Array Value := #[.int .i64 b.rate, .int .i64 b.burst, .int .i64 b.tok, .int .i64 b.at_, .int .i64 b.taken]

def Bk.fillTok (b : Bk) (a : Int) : Int := min (if b.at_ < a then b.tok + (a - b.at_) * b.rate else b.tok) (b.burst * 512)
def Bk.fill (b : Bk) (a : Int) : Bk := ⟨b.rate, b.burst, b.fillTok a, if b.at_ < a then a else b.at_, b.taken⟩

end Go.Proofs.Ytndkiphlpddbaaa
