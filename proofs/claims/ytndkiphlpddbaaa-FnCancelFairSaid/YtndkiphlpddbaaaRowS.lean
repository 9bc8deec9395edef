/- The row frame for a slice of steps. -/
import Derived.Test.YtndkiphlpddbaaaSpP
import Derived.Test.YtndkiphlpddbaaaLawRow
import Derived.Deep.Slices
import Derived.Deep.Fields
import Derived.ChangeSame
namespace Go.Proofs.Ytndkiphlpddbaaa
open Go.ChangeShapes Go.WideShapes Go.Deep Go.RowKit Go.ChangeAt

theorem type26 : ∃ fs, Try.prog.underlying 26 = some (.struct fs) ∧ Try.prog.cellsOf 26 = 3 ∧ fs.size = 3 ∧ ∀ j, j < 3 → ∃ f, fs[j]? = some f ∧ f.offset = j ∧ f.type = 3 ∧ Try.prog.cellsOf f.type = 1 := by
  refine ⟨_, Try.underlying26, by kernel_rfl, rfl, fun j hj => ?_⟩
  have : j = 0 ∨ j = 1 ∨ j = 2 := by omega
  rcases this with rfl | rfl | rfl
  · exact ⟨_, rfl, rfl, rfl, by kernel_rfl⟩
  · exact ⟨_, rfl, rfl, rfl, by kernel_rfl⟩
  · exact ⟨_, rfl, rfl, rfl, by kernel_rfl⟩

/-- An argument that is a slice of steps: its script. -/
theorem open_steps {H : Type} {enc : TypeId × Value → H} {W : World} {base : Nat} {v : Value} {d : DataW H} {p : List MemPlace} (hval : Value.okWide Try.prog W .any base 27 v) (h : DataW.Trod enc Try.prog W 0 (fun _ => true) true 27 v d p) :
    ∃ (A : Option Addr) (N cap sb so : Nat) (X : Scr), v = .slice A N cap ∧ (0 < N → A = some ⟨sb, so, none⟩ ∧ sb < W.heap.size) ∧ Lies W X sb so N ∧
      ∀ k, k < N → (Lit.int .i64 (X.kd k)).wf = true ∧ (Lit.int .i64 (X.at_ k)).wf = true ∧ (Lit.int .i64 (X.nm k)).wf = true := by
  obtain ⟨a, n, c, rfl⟩ := okWide_slice Try.underlying27 hval
  obtain ⟨fuel, hf⟩ := h
  rcases open_slice Try.underlying27 hf with ⟨hcs, -⟩ | ⟨a', len, cap, m, n', D, Pl, hcs, -, hlc, -, hm, -, hi⟩
  · have he : Value.slice a n c = .slice none 0 0 := by
      have h' : [Value.slice a n c] = [.slice none 0 0] := hcs
      exact (List.cons.inj h').1
    obtain ⟨h1, h2, h3⟩ := Value.slice.inj he
    subst h1 h2 h3
    exact ⟨none, 0, 0, 0, 0, ⟨fun _ => 0, fun _ => 0, fun _ => 0⟩, rfl, fun h => absurd h (Nat.lt_irrefl _), fun k hk => absurd hk (Nat.not_lt_zero _), fun k hk => absurd hk (Nat.not_lt_zero _)⟩
  · have he : Value.slice a n c = .slice (some a') len cap := by
      have h' : [Value.slice a n c] = [.slice (some a') len cap] := hcs
      exact (List.cons.inj h').1
    obtain ⟨h1, h2, h3⟩ := Value.slice.inj he
    subst h1 h2 h3
    obtain ⟨fs, hu, hc3, hfs, hfield⟩ := type26
    rw [if_pos rfl] at hm
    have hall : ∀ k, k < n → ∃ x y z : Int, (W.cell? (a'.add (k * 3)) = some (.int .i64 x) ∧ W.cell? ((a'.add (k * 3)).add 1) = some (.int .i64 y) ∧ W.cell? ((a'.add (k * 3)).add 2) = some (.int .i64 z)) ∧
        (Lit.int .i64 x).wf = true ∧ (Lit.int .i64 y).wf = true ∧ (Lit.int .i64 z).wf = true := by
      intro k hk
      obtain ⟨cs', hcell, ht⟩ := hi k (by omega)
      rw [hc3] at hcell
      obtain ⟨ys, n'', -, -, hlen, hyl, hff⟩ := DataW.trod_struct hu ht
      rw [hc3] at hlen
      obtain ⟨-, -, hat⟩ := World.cells?_some hcell
      have one : ∀ j, j < 3 → ∃ x : Int, cs'[j]? = some (.int .i64 x) ∧ (Lit.int .i64 x).wf = true := by
        intro j hj
        obtain ⟨f, hfj, ho, hty, hc1⟩ := hfield j hj
        have h1 := hff j f hfj
        rw [ho, hc1, hty] at h1
        have hys : ys[j]? = some (ys[j]'(by omega)) := List.getElem?_eq_getElem (by omega)
        rw [hys] at h1
        obtain ⟨x, hx, -, hw⟩ := DataW.trod_int Try.underlying3 h1
        refine ⟨x, ?_, hw⟩
        have := congrArg (·[0]?) hx
        simpa using this
      obtain ⟨x, hx, wx⟩ := one 0 (by omega)
      obtain ⟨y, hy, wy⟩ := one 1 (by omega)
      obtain ⟨z, hz, wz⟩ := one 2 (by omega)
      refine ⟨x, y, z, ⟨?_, ?_, ?_⟩, wx, wy, wz⟩
      · have := hat 0 (by omega)
        rw [hx] at this
        simpa [Addr.add] using this
      · rw [hat 1 (by omega), hy]
      · rw [hat 2 (by omega), hz]
    by_cases h0 : n = 0
    · subst h0
      exact ⟨_, 0, c, 0, 0, ⟨fun _ => 0, fun _ => 0, fun _ => 0⟩, rfl, fun h => absurd h (Nat.lt_irrefl _), fun k hk => absurd hk (Nat.not_lt_zero _), fun k hk => absurd hk (Nat.not_lt_zero _)⟩
    · obtain ⟨x0, _, _, ⟨hc0, _, _⟩, _⟩ := hall 0 (by omega)
      have hsp := World.cell?_spot hc0
      have hlt := World.block_lt_of_cell? W _ hc0
      obtain ⟨sb, so, sp⟩ := a'
      have hsp0 : sp = none := by simpa [Addr.add] using hsp
      subst hsp0
      have hlt' : sb < W.heap.size := by simpa [Addr.add_lit] using hlt
      have hall' : ∀ k, k < n → ∃ x y z : Int, (W.cell? ⟨sb, so + k * 3, none⟩ = some (.int .i64 x) ∧ W.cell? ⟨sb, so + k * 3 + 1, none⟩ = some (.int .i64 y) ∧ W.cell? ⟨sb, so + k * 3 + 2, none⟩ = some (.int .i64 z)) ∧
          (Lit.int .i64 x).wf = true ∧ (Lit.int .i64 y).wf = true ∧ (Lit.int .i64 z).wf = true := by
        intro k hk
        obtain ⟨x, y, z, hc, hw⟩ := hall k hk
        simp only [Addr.add_lit] at hc
        exact ⟨x, y, z, hc, hw⟩
      refine ⟨_, n, c, sb, so, ⟨fun k => if h : k < n then (hall' k h).choose else 0, fun k => if h : k < n then (hall' k h).choose_spec.choose else 0, fun k => if h : k < n then (hall' k h).choose_spec.choose_spec.choose else 0⟩, rfl, fun _ => ⟨rfl, hlt'⟩, fun k hk => ?_, fun k hk => ?_⟩
      · have hs := (hall' k hk).choose_spec.choose_spec.choose_spec.1
        simp only [dif_pos hk]
        exact hs
      · have hs := (hall' k hk).choose_spec.choose_spec.choose_spec.2
        simp only [dif_pos hk]
        exact hs

end Go.Proofs.Ytndkiphlpddbaaa
