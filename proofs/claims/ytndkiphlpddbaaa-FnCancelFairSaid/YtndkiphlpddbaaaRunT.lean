/- The walks of impl.Run and impl.RunInf; run over an empty script. -/
import Derived.Test.YtndkiphlpddbaaaRunW
namespace Go.Proofs.Ytndkiphlpddbaaa
open Go.RowKit Go.Deep Flt

/-- What Run hands back: the told ones, in new memory. -/
def RunPost (w : World) (N : Nat) (T : Nat → Tl) (e : Ending) (w' : World) : Prop :=
  ∃ OB, e = .returned (.slice (some ⟨OB, 0, none⟩) N N) ∧ w.heap.size ≤ OB ∧ w'.rowIs OB 30 (3 * N) (outF T N) ∧ Below w.heap.size w w'

set_option maxRecDepth 100000 in
theorem run_nil (L cap : Nat) (A : Option Addr) (T : Nat → Tl) (w : World) :
    Calls Try.prog 33 #[.pointer (some ⟨L, 0, none⟩), .slice A 0 cap] w fun e w' =>
      e = .returned (.slice (some ⟨w.heap.size + 1, 0, none⟩) 0 0) ∧ w'.rowIs (w.heap.size + 1) 30 (3 * 0) (outF T 0) ∧ Below w.heap.size w w' := by
  have hm1 := fun w => make_held 0 (by omega) w
  have hm2 := fun w => make_out 0 (by omega) w
  simp only [Int.natCast_zero] at hm1 hm2
  go_enter Try.func33, Try.ntmps33
  go_wp2_with fail
  go_loop [18] (fun i => i = .int .i64 0) (fun _ => 0)
  case atStart => rfl
  case round =>
    subst hrel
    go_wp2_with fail
    go_ret
    refine ⟨rfl, ?_, ((Below.refl _ _).alloc (Nat.le_refl _) _).alloc (by simp) _⟩
    have := outObj_row 0 (w.alloc (heldObj 0)) T
    rwa [World.size_alloc] at this

/-- run over a script, of whatever length; the bound on old memory is the limiter's own block. -/
theorem run_post (sb so N cap : Nat) (l : Nat) (b : Int) (t : Nat) (X : Scr) (C : Nat → Array Value) (H : Nat → Option (Array Value)) (T : Nat → Tl) (w : World) (A : Option Addr)
    (hN : N ≤ 1000) (hC : C 0 = lcells l b t 0 0) (hA : 0 < N → A = some ⟨sb, so, none⟩ ∧ sb < w.heap.size)
    (hsteps : ∀ k, k < N → w.cell? ⟨sb, so + k * 3, none⟩ = some (.int .i64 (X.kd k)) ∧ w.cell? ⟨sb, so + k * 3 + 1, none⟩ = some (.int .i64 (X.at_ k)) ∧ w.cell? ⟨sb, so + k * 3 + 2, none⟩ = some (.int .i64 (X.nm k)))
    (hat : ∀ k, k < N → 0 ≤ X.at_ k ∧ X.at_ k ≤ 1099511627776)
    (hI : ∀ k, k < N → Item w.heap.size X C H T k) :
    Calls Try.prog 33 #[.pointer (some ⟨w.heap.size, 0, none⟩), .slice A N cap] (w.alloc (.cells (lcells l b t 0 0) 76)) (RunPost w N T) := by
  by_cases h0 : N = 0
  · subst h0
    refine (run_nil w.heap.size cap A T _).mono fun e w' ⟨he, hr, hb⟩ => ⟨_, he, by simp; omega, hr, ?_⟩
    exact ((Below.refl w.heap.size w).alloc (Nat.le_refl _) _).trans (hb.mono (by simp))
  · obtain ⟨rfl, hsb⟩ := hA (by omega)
    refine (run_any w.heap.size sb so N cap X C H T _ hN (hC ▸ Blk.new w 76 _) (by simp; omega) (by omega) ?_ hat hI).mono fun e w' ⟨he, hr, hg⟩ => ⟨_, he, by simp; omega, hr, ?_⟩
    · intro k hk
      obtain ⟨a, b, c⟩ := hsteps k hk
      refine ⟨?_, ?_, ?_⟩
      · rw [World.cell?_alloc_lt _ _ _ (by exact hsb)]; exact a
      · rw [World.cell?_alloc_lt _ _ _ (by exact hsb)]; exact b
      · rw [World.cell?_alloc_lt _ _ _ (by exact hsb)]; exact c
    · refine ((Below.refl w.heap.size w).alloc (Nat.le_refl _) _).trans ⟨hg.os, hg.tape, hg.output, hg.size, fun i hi => hg.block i (by simp; omega) (fun he => by injection he with he; omega)⟩

theorem Run_any (sb so N cap : Nat) (rate burst : Int) (X : Scr) (C : Nat → Array Value) (H : Nat → Option (Array Value)) (T : Nat → Tl) (w : World) (A : Option Addr)
    (hN : N ≤ 1000) (hC : C 0 = lcells (G 0 rate) burst (G 0 burst) 0 0) (hA : 0 < N → A = some ⟨sb, so, none⟩ ∧ sb < w.heap.size)
    (hsteps : ∀ k, k < N → w.cell? ⟨sb, so + k * 3, none⟩ = some (.int .i64 (X.kd k)) ∧ w.cell? ⟨sb, so + k * 3 + 1, none⟩ = some (.int .i64 (X.at_ k)) ∧ w.cell? ⟨sb, so + k * 3 + 2, none⟩ = some (.int .i64 (X.nm k)))
    (hat : ∀ k, k < N → 0 ≤ X.at_ k ∧ X.at_ k ≤ 1099511627776)
    (hI : ∀ k, k < N → Item w.heap.size X C H T k) :
    Calls Try.prog 22 #[.int .i64 rate, .int .i64 burst, .slice A N cap] w (RunPost w N T) := by
  have HR := Lib.hid (run_post sb so N cap (G 0 rate) burst (G 0 burst) X C H T w A hN hC hA hsteps hat hI)
  have HN := Lib.hid (new_any (G 0 rate) burst w)
  clear hC hA hsteps hat hI hN
  go_enter Try.func22, Try.ntmps22
  go_wp2_with fail
  refine HN.out.mono ?_; rintro e w1 ⟨rfl, rfl⟩
  go_wp2_with fail
  refine HR.out.mono ?_; rintro e w2 ⟨OB, rfl, h1, h2, h3⟩
  have H1 := Lib.hid h1
  have H2 := Lib.hid h2
  have H3 := Lib.hid h3
  clear h1 h2 h3
  go_wp2_with fail
  go_ret
  exact ⟨OB, rfl, H1.out, H2.out, H3.out⟩

theorem RunInf_any (sb so N cap : Nat) (burst : Int) (X : Scr) (C : Nat → Array Value) (H : Nat → Option (Array Value)) (T : Nat → Tl) (w : World) (A : Option Addr)
    (hN : N ≤ 1000) (hC : C 0 = lcells 9218868437227405311 burst (G 0 burst) 0 0) (hA : 0 < N → A = some ⟨sb, so, none⟩ ∧ sb < w.heap.size)
    (hsteps : ∀ k, k < N → w.cell? ⟨sb, so + k * 3, none⟩ = some (.int .i64 (X.kd k)) ∧ w.cell? ⟨sb, so + k * 3 + 1, none⟩ = some (.int .i64 (X.at_ k)) ∧ w.cell? ⟨sb, so + k * 3 + 2, none⟩ = some (.int .i64 (X.nm k)))
    (hat : ∀ k, k < N → 0 ≤ X.at_ k ∧ X.at_ k ≤ 1099511627776)
    (hI : ∀ k, k < N → Item w.heap.size X C H T k) :
    Calls Try.prog 31 #[.int .i64 burst, .slice A N cap] w (RunPost w N T) := by
  have HR := Lib.hid (run_post sb so N cap 9218868437227405311 burst (G 0 burst) X C H T w A hN hC hA hsteps hat hI)
  have HN := Lib.hid (new_any 9218868437227405311 burst w)
  clear hC hA hsteps hat hI hN
  go_enter Try.func31, Try.ntmps31
  go_wp2_with fail
  refine HN.out.mono ?_; rintro e w1 ⟨rfl, rfl⟩
  go_wp2_with fail
  refine HR.out.mono ?_; rintro e w2 ⟨OB, rfl, h1, h2, h3⟩
  have H1 := Lib.hid h1
  have H2 := Lib.hid h2
  have H3 := Lib.hid h3
  clear h1 h2 h3
  go_wp2_with fail
  go_ret
  exact ⟨OB, rfl, H1.out, H2.out, H3.out⟩

end Go.Proofs.Ytndkiphlpddbaaa
