/- spec.Bucket's Fill. -/
import Derived.Test.YtndkiphlpddbaaaSpO
import Derived.WalkLawsBesides
namespace Go.Proofs.Ytndkiphlpddbaaa
open Go.RowKit Go.Deep Flt

theorem fill_blk1 {w : World} {b : Nat} {r u t a k x y z z' : Value} (h : Blk w b 56 #[r, u, t, a, k]) (hz : z = z') :
    Blk (((w.setCell ⟨b, 2, none⟩ x).setCell ⟨b, 3, none⟩ y).setCell ⟨b, 2, none⟩ z).drew.drew b 56 #[r, u, z', y, k] ∧ w.grownBy (((w.setCell ⟨b, 2, none⟩ x).setCell ⟨b, 3, none⟩ y).setCell ⟨b, 2, none⟩ z).drew.drew (some b) := by
  subst hz
  have h1 := h.put' 2 x #[r, u, x, a, k] rfl
  have h2 := h1.put' 3 y #[r, u, x, y, k] rfl
  have g1 := turn_set (turn_refl w b) (p := ⟨b, 2, none⟩) (.inl rfl) x
  have g2 := turn_set g1 (p := ⟨b, 3, none⟩) (.inl rfl) y
  have g3 := turn_set g2 (p := ⟨b, 2, none⟩) (.inl rfl) z
  exact ⟨h2.put' 2 z #[r, u, z, y, k] rfl, turn_drew (turn_drew g3)⟩

theorem fill_blk2 {w : World} {b : Nat} {r u t a k z z' : Value} (h : Blk w b 56 #[r, u, t, a, k]) (hz : z = z') :
    Blk (w.setCell ⟨b, 2, none⟩ z).drew b 56 #[r, u, z', a, k] ∧ w.grownBy (w.setCell ⟨b, 2, none⟩ z).drew (some b) := by
  subst hz
  exact ⟨h.put' 2 z #[r, u, z, a, k] rfl, turn_drew (turn_set (turn_refl w b) (p := ⟨b, 2, none⟩) (.inl rfl) z)⟩

set_option maxHeartbeats 1000000 in
theorem fill_any (b : Nat) (B : Bk) (a : Int) (w : World) (hB : Blk w b 56 B.cells)
    (h1 : -9000000000000 ≤ B.tok ∧ B.tok ≤ 9000000000000) (h2 : 0 ≤ B.rate ∧ B.rate ≤ 1000) (h3 : 0 ≤ B.burst ∧ B.burst ≤ 1000) (h4 : 0 ≤ B.at_ ∧ B.at_ ≤ 65536) (h5 : 0 ≤ a ∧ a ≤ 65536) :
    Calls Try.prog 47 #[.pointer (some ⟨b, 0, none⟩), .int .i64 a] w fun e w' => e = .returned (.tuple #[]) ∧ Blk w' b 56 (B.fill a).cells ∧ w.grownBy w' (some b) := by
  obtain ⟨rt, bu, tk, at_, tn⟩ := B
  simp only at h1 h2 h3 h4
  have k := hB.cell
  have f := hB.free
  simp only [Bk.cells] at k
  have HB := Lib.hid hB
  clear hB
  by_cases hlt : at_ < a
  · have m0 : 0 ≤ (a - at_) * rt := Int.mul_nonneg (by omega) h2.1
    have m1 : (a - at_) * rt ≤ 65536 * 1000 := Int.mul_le_mul (by omega) h2.2 h2.1 (by omega)
    unfold Bk.fill Bk.fillTok
    simp only [if_pos hlt]
    generalize hm : (a - at_) * rt = m at *
    go_enter Try.func47, Try.ntmps47
    go_wp2_with fail
    go_region
    go_wp2_with fail
    go_region
    all_goals (go_wp2_with fail)
    all_goals go_end0
    · exact ⟨rfl, fill_blk1 HB.out (by dsimp only; congr 1; omega)⟩
    · exact ⟨rfl, fill_blk1 HB.out (by dsimp only; congr 1; omega)⟩
  · unfold Bk.fill Bk.fillTok
    simp only [if_neg hlt]
    go_enter Try.func47, Try.ntmps47
    go_wp2_with fail
    go_region
    all_goals (go_wp2_with fail)
    all_goals go_end0
    · exact ⟨rfl, fill_blk2 HB.out (by dsimp only; congr 1; omega)⟩
    · exact ⟨rfl, fill_blk2 HB.out (by dsimp only; congr 1; omega)⟩
end Go.Proofs.Ytndkiphlpddbaaa
