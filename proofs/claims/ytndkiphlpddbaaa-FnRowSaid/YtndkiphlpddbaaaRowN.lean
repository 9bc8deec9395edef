/- The row frame for a slice of numbers. -/
import Derived.Test.YtndkiphlpddbaaaLawRow
import Derived.ChangeSlices
import Derived.Deep.Slices
import Derived.Deep.Fields
namespace Go.Proofs.Ytndkiphlpddbaaa
open Go.ChangeShapes Go.WideShapes Go.Deep Go.RowKit Go.ChangeAt

/-- An argument that is a slice of numbers. -/
theorem open_nums {H : Type} {enc : TypeId × Value → H} {W : World} {base : Nat} {v : Value} {d : DataW H} {p : List MemPlace} (hval : Value.okWide Try.prog W .any base 47 v) (h : DataW.Trod enc Try.prog W 0 (fun _ => true) true 47 v d p) :
    ∃ (A : Option Addr) (N cap sb so : Nat) (l : Nat → Int), v = .slice A N cap ∧ (0 < N → A = some ⟨sb, so, none⟩ ∧ sb < W.heap.size) ∧ (∀ k, k < N → W.cell? ⟨sb, so + k, none⟩ = some (.int .i64 (l k))) ∧
      ∀ k, k < N → (Lit.int .i64 (l k)).wf = true := by
  obtain ⟨a, n, c, rfl⟩ := okWide_slice Try.underlying47 hval
  obtain ⟨fuel, hf⟩ := h
  rcases open_ints Try.underlying47 Try.underlying3 (by kernel_rfl) hf with ⟨hcs, -⟩ | ⟨a', len, cap, zs, hcs, -, hlc, -, hzl, -, hcell, hwf⟩
  · have he : Value.slice a n c = .slice none 0 0 := by
      have h' : [Value.slice a n c] = [.slice none 0 0] := hcs
      exact (List.cons.inj h').1
    obtain ⟨h1, h2, h3⟩ := Value.slice.inj he
    subst h1 h2 h3
    exact ⟨none, 0, 0, 0, 0, fun _ => 0, rfl, fun h => absurd h (Nat.lt_irrefl _), fun k hk => absurd hk (Nat.not_lt_zero _), fun k hk => absurd hk (Nat.not_lt_zero _)⟩
  · have he : Value.slice a n c = .slice (some a') len cap := by
      have h' : [Value.slice a n c] = [.slice (some a') len cap] := hcs
      exact (List.cons.inj h').1
    obtain ⟨h1, h2, h3⟩ := Value.slice.inj he
    subst h1 h2 h3
    rw [if_pos rfl] at hzl
    by_cases h0 : n = 0
    · subst h0
      exact ⟨_, 0, c, 0, 0, fun _ => 0, rfl, fun h => absurd h (Nat.lt_irrefl _), fun k hk => absurd hk (Nat.not_lt_zero _), fun k hk => absurd hk (Nat.not_lt_zero _)⟩
    · have hc0 := hcell 0 (by omega)
      have hsp := World.cell?_spot hc0
      have hlt := World.block_lt_of_cell? W _ hc0
      obtain ⟨sb, so, sp⟩ := a'
      have hsp0 : sp = none := by simpa [Addr.add] using hsp
      subst hsp0
      have hlt' : sb < W.heap.size := by simpa [Addr.add_lit] using hlt
      refine ⟨_, n, c, sb, so, fun k => zs.getD k 0, rfl, fun _ => ⟨rfl, hlt'⟩, fun k hk => ?_, fun k hk => ?_⟩
      · have := hcell k (by omega)
        simpa only [Addr.add_lit] using this
      · have hk' : k < zs.length := by omega
        have : zs.getD k 0 = zs[k] := by simp [List.getD, List.getElem?_eq_getElem hk']
        show (Lit.int .i64 (zs.getD k 0)).wf = true
        rw [this]
        exact hwf _ (List.getElem_mem hk')

end Go.Proofs.Ytndkiphlpddbaaa
