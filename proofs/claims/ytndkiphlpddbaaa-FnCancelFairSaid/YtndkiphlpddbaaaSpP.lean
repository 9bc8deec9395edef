/- laws.plain: the reference's steps of some. No condition but the length. -/
import Derived.Test.YtndkiphlpddbaaaRunT
import Derived.Maps.AppendAt
import Derived.WalkSmall
namespace Go.Proofs.Ytndkiphlpddbaaa
open Go.RowKit Go.Deep Flt

theorem info34 : (Try.prog.info? 34).map (fun i => (i.zero, i.size, i.bytes)) = some (some (.agg #[.int .i64 0, .int .i64 0, .int .i64 0]), 3, 24) := by kernel_rfl

/-- The cells of k steps. -/
def scrL (X : Scr) : Nat → List Value
  | 0 => []
  | k + 1 => scrL X k ++ [.int .i64 (X.kd k), .int .i64 (X.at_ k), .int .i64 (X.nm k)]

theorem scrL_len (X : Scr) (k : Nat) : (scrL X k).length = k * 3 := by
  induction k with
  | zero => rfl
  | succ k ih => rw [scrL, List.length_append, ih]; simp only [List.length_cons, List.length_nil]; omega

theorem scrL_get (X : Scr) (N k : Nat) (hk : k < N) : (scrL X N)[k * 3]? = some (.int .i64 (X.kd k)) ∧ (scrL X N)[k * 3 + 1]? = some (.int .i64 (X.at_ k)) ∧ (scrL X N)[k * 3 + 2]? = some (.int .i64 (X.nm k)) := by
  induction N with
  | zero => omega
  | succ N ih =>
    have hl := scrL_len X N
    by_cases h : k < N
    · obtain ⟨a, b, c⟩ := ih h
      rw [scrL, List.getElem?_append_left (by omega), List.getElem?_append_left (by omega), List.getElem?_append_left (by omega)]
      exact ⟨a, b, c⟩
    · have : k = N := by omega
      subst this
      rw [scrL, List.getElem?_append_right (by omega), List.getElem?_append_right (by omega), List.getElem?_append_right (by omega), hl,
        show k * 3 - k * 3 = 0 by omega, show k * 3 + 1 - k * 3 = 1 by omega, show k * 3 + 2 - k * 3 = 2 by omega]
      exact ⟨rfl, rfl, rfl⟩

/-- A script lies in memory. -/
def Lies (w : World) (X : Scr) (g o N : Nat) : Prop :=
  ∀ k, k < N → w.cell? ⟨g, o + k * 3, none⟩ = some (.int .i64 (X.kd k)) ∧ w.cell? ⟨g, o + k * 3 + 1, none⟩ = some (.int .i64 (X.at_ k)) ∧ w.cell? ⟨g, o + k * 3 + 2, none⟩ = some (.int .i64 (X.nm k))

theorem Lies.below {w w' : World} {X : Scr} {g o N B : Nat} (h : Lies w X g o N) (hb : Below B w w') (hg : g < B) : Lies w' X g o N := by
  intro k hk
  obtain ⟨a, b, c⟩ := h k hk
  exact ⟨(World.cell?_of_block (w := w) (a := ⟨g, o + k * 3, none⟩) (hb.block g hg)).trans a, (World.cell?_of_block (w := w) (a := ⟨g, o + k * 3 + 1, none⟩) (hb.block g hg)).trans b, (World.cell?_of_block (w := w) (a := ⟨g, o + k * 3 + 2, none⟩) (hb.block g hg)).trans c⟩

theorem lies_own {w : World} {base : Nat} {e : TypeId} {g N cap : Nat} {X : Scr} (h : w.ownsRow base e 3 (.slice (some ⟨g, 0, none⟩) N cap) N (scrL X N)) : Lies w X g 0 N := by
  intro k hk
  obtain ⟨a, b, c⟩ := scrL_get X N k hk
  rw [Nat.zero_add]
  exact ⟨(h.cellAt _ (by omega)).trans a, (h.cellAt _ (by omega)).trans b, (h.cellAt _ (by omega)).trans c⟩

theorem cell_three_new (w : World) (x y z : Value) (t : TypeId) : ∀ j u, [x, y, z][j]? = some u → (w.alloc (.cells #[x, y, z] t)).cell? ((⟨w.heap.size, 0, none⟩ : Addr).add j) = some u := by
  intro j u hu
  rw [Addr.add_lit, Nat.zero_add, cell_of_row _ _ j #[x, y, z] t (0, 0) (heap_alloc_new w _)]
  simpa using hu

/-- What a copy of the steps is: a new row. -/
def PlainPost (w : World) (X : Scr) (N : Nat) (e : Ending) (w' : World) : Prop :=
  ∃ g cap, e = .returned (.slice (some ⟨g, 0, none⟩) N cap) ∧ w.heap.size ≤ g ∧ g < w'.heap.size ∧ Lies w' X g 0 N ∧ Below w.heap.size w w'

set_option maxRecDepth 100000 in
set_option maxHeartbeats 1000000 in
theorem plain_any (sb so N cap : Nat) (X : Scr) (A : Option Addr) (w : World) (hN : N ≤ 2147483647) (hA : 0 < N → A = some ⟨sb, so, none⟩ ∧ sb < w.heap.size) (hX : Lies w X sb so N) :
    Calls Try.prog 23 #[.slice A N cap] w (PlainPost w X N) := by
  obtain ⟨i0, hi, hz0, hz1, hz2⟩ := info_parts info34
  have HX := Lib.hid hX
  have HA := Lib.hid hA
  clear hX hA
  have hN' : N ≤ 9223372036854775807 := by omega
  go_enter Try.func23, Try.ntmps23
  go_wp2_with fail
  go_loopw [3, 9] (fun v i wr => ∃ k : Nat, k ≤ N ∧ i = .int .i64 k ∧ wr.ownsRow w.heap.size 34 3 v k (scrL X k) ∧ v ≠ .slice none 0 0 ∧ Below w.heap.size w wr) (fun _ i _ => N - (intOf i).toNat)
  case atStart =>
    exact ⟨0, Nat.zero_le _, rfl, World.ownsRow_made w #[] 0 (Nat.le_refl _) (by unfold maxLen; omega) rfl, by simp, (Below.refl _ _).alloc (Nat.le_refl _) _⟩
  case round =>
    obtain ⟨k, hk, rfl, hown, hnn, hnx⟩ := hrel
    have hsize := hnx.size
    by_cases hlt : k < N
    · obtain ⟨hAe, hsb⟩ := HA.out (by omega)
      subst hAe
      obtain ⟨s0, s1, s2⟩ := HX.out k hlt
      have t0 := (World.cell?_of_block (w := w) (a := ⟨sb, so + k * 3, none⟩) (hnx.block sb hsb)).trans s0
      have t1 := (World.cell?_of_block (w := w) (a := ⟨sb, so + k * 3 + 1, none⟩) (hnx.block sb hsb)).trans s1
      have t2 := (World.cell?_of_block (w := w) (a := ⟨sb, so + k * 3 + 2, none⟩) (hnx.block sb hsb)).trans s2
      clear s0 s1 s2
      have c1 := cell_three_new (wr.alloc (.cells #[.int .i64 (X.kd k), .int .i64 (X.at_ k), .int .i64 (X.nm k)] 26)) (.int .i64 (X.kd k)) (.int .i64 (X.at_ k)) (.int .i64 (X.nm k)) 34
      rw [World.size_alloc] at c1
      have C1 := Lib.hid c1
      clear c1
      go_wp2_with (at_builtin; refine wpList_append_own _ rfl (.tmp 13) (.tmp 21) 32 rfl w.heap.size 34 i0 (.agg #[.int .i64 0, .int .i64 0, .int .i64 0]) 3 24 Try.underlying32 hi hz0 hz1 hz2 rfl (by decide) _ _ _ rfl ((hown.alloc _).alloc _) ⟨wr.heap.size + 1, 0, none⟩ 1 1 [.int .i64 (X.kd k), .int .i64 (X.at_ k), .int .i64 (X.nm k)] rfl rfl C1.out (by intro u hu; simp at hu; rcases hu with rfl | rfl | rfl <;> rfl) (by unfold maxLen; omega) (by omega) (by simp; omega) ?_; intro v1 w1 hown1 hgrow1 hnil1)
      go_roundw
      case rel =>
        refine ⟨k + 1, by omega, by go_num, hown1, fun hh => hnn (hnil1.1 hh).1, ?_⟩
        exact ((hnx.alloc (by omega) _).alloc (by simp; omega) _).grown hgrow1 (by simp; omega) (fun j hj => (hown.lt j hj).1)
      case measure => simp [intOf]; omega
    · have hkN : k = N := by omega
      subst hkN
      go_wp2_with fail
      go_ret
      rcases hown.2 with ⟨h, _⟩ | ⟨g, cap', cur, rfl, hbg, hg, _⟩
      · exact absurd h hnn
      · exact ⟨g, cap', rfl, hbg, (hown.lt g rfl).2, lies_own hown, hnx⟩

end Go.Proofs.Ytndkiphlpddbaaa
