/- RunInf: with the infinite rate all is allowed, and nothing is delayed. -/
import Derived.Test.YtndkiphlpddbaaaTr
namespace Go.Proofs.Ytndkiphlpddbaaa
open Go.RowKit Go.Deep Flt

def infCells (burst : Int) : Array Value := lcells 9218868437227405311 burst (G 0 burst) 0 0

theorem inf_item (L : Nat) (burst : Int) (X : Scr) (k : Nat) (hk : X.kd k = 0 ∨ X.kd k = 1) (a0 : 0 ≤ X.at_ k) (a1 : X.at_ k ≤ 65536) :
    Item L X (fun _ => infCells burst) (fun k => if X.kd k = 1 then some (rcells true L (X.nm k) (tick (X.at_ k)) 0) else none) (fun _ => ⟨true, 0, 0⟩) k := by
  unfold Item
  rcases hk with e | e
  · exact .inl ⟨e, by simp [e], ⟨rfl, rfl⟩, fun w hL => allow_any (Rsv.inf L burst (X.at_ k) (X.nm k) 0 (G 0 burst) 0 0) w hL⟩
  · refine .inr (.inl ⟨rcells true L (X.nm k) (tick (X.at_ k)) 0, e, by simp [e], rfl, fun w hL => reserve_any (Rsv.inf L burst (X.at_ k) (X.nm k) 9223372036854775807 (G 0 burst) 0 0) w hL, fun w R hR => ok_any L R true (X.nm k) (tick (X.at_ k)) 0 w hR, fun w R hR => ?_⟩)
    have hs := fun w => sub_any (tick (X.at_ k)) (tick (X.at_ k)) w (by unfold tick M0; omega) (by unfold tick M0; omega) (by omega) (by omega)
    have := delay_yes L R (X.nm k) (tick (X.at_ k)) 0 (tick (X.at_ k)) w hR _ hs
    rwa [show max 0 (tick (X.at_ k) - tick (X.at_ k)) = 0 from by omega] at this

end Go.Proofs.Ytndkiphlpddbaaa
