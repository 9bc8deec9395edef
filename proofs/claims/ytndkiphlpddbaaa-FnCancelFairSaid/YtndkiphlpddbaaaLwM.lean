/- The laws FnTooMany and FnCancelNow: two steps more, amid a script. Plain. -/
import Derived.Test.YtndkiphlpddbaaaSpA
import Derived.Deep.Slices
namespace Go.Proofs.Ytndkiphlpddbaaa
open Go.RowKit Go.Deep Flt

/-- Two steps more, at p. -/
def Scr.ins (X : Scr) (p : Nat) (k1 a1 n1 k2 a2 n2 : Int) : Scr :=
  ⟨fun k => if k < p then X.kd k else if k = p then k1 else if k = p + 1 then k2 else X.kd (k - 2),
   fun k => if k < p then X.at_ k else if k = p then a1 else if k = p + 1 then a2 else X.at_ (k - 2),
   fun k => if k < p then X.nm k else if k = p then n1 else if k = p + 1 then n2 else X.nm (k - 2)⟩

/-- What is left of a script from p on. -/
def Scr.from (X : Scr) (p : Nat) : Scr := ⟨fun k => X.kd (p + k), fun k => X.at_ (p + k), fun k => X.nm (p + k)⟩

section
variable (X : Scr) (p : Nat) (k1 a1 n1 k2 a2 n2 : Int)

theorem ins_lo (k : Nat) (h : k < p) : (X.ins p k1 a1 n1 k2 a2 n2).kd k = X.kd k ∧ (X.ins p k1 a1 n1 k2 a2 n2).at_ k = X.at_ k ∧ (X.ins p k1 a1 n1 k2 a2 n2).nm k = X.nm k := by
  unfold Scr.ins; simp [h]

theorem ins_p : (X.ins p k1 a1 n1 k2 a2 n2).kd p = k1 ∧ (X.ins p k1 a1 n1 k2 a2 n2).at_ p = a1 ∧ (X.ins p k1 a1 n1 k2 a2 n2).nm p = n1 := by
  unfold Scr.ins; simp

theorem ins_q : (X.ins p k1 a1 n1 k2 a2 n2).kd (p + 1) = k2 ∧ (X.ins p k1 a1 n1 k2 a2 n2).at_ (p + 1) = a2 ∧ (X.ins p k1 a1 n1 k2 a2 n2).nm (p + 1) = n2 := by
  unfold Scr.ins; simp [show ¬ p + 1 < p from by omega]

theorem ins_hi (k : Nat) (h : p ≤ k) : (X.ins p k1 a1 n1 k2 a2 n2).kd (k + 2) = X.kd k ∧ (X.ins p k1 a1 n1 k2 a2 n2).at_ (k + 2) = X.at_ k ∧ (X.ins p k1 a1 n1 k2 a2 n2).nm (k + 2) = X.nm k := by
  have h1 : ¬ k + 2 < p := by omega
  have h2 : ¬ k + 2 = p := by omega
  have h3 : ¬ k + 2 = p + 1 := by omega
  unfold Scr.ins
  simp only [if_neg h1, if_neg h2, if_neg h3, Nat.add_sub_cancel, and_self]

theorem ins_cells_two : scrL (X.ins p k1 a1 n1 k2 a2 n2) (p + 2) = scrL X p ++ [.int .i64 k1, .int .i64 a1, .int .i64 n1, .int .i64 k2, .int .i64 a2, .int .i64 n2] := by
  obtain ⟨a, b, c⟩ := ins_p X p k1 a1 n1 k2 a2 n2
  obtain ⟨d, e, f⟩ := ins_q X p k1 a1 n1 k2 a2 n2
  rw [show p + 2 = p + 1 + 1 by omega, scrL, scrL, a, b, c, d, e, f, scrL_congr (X.ins p k1 a1 n1 k2 a2 n2) X p (fun j hj => ins_lo X p k1 a1 n1 k2 a2 n2 j hj), List.append_assoc]
  rfl

theorem ins_cells (m : Nat) : scrL (X.ins p k1 a1 n1 k2 a2 n2) (p + 2 + m) = scrL (X.ins p k1 a1 n1 k2 a2 n2) (p + 2) ++ scrL (X.from p) m := by
  induction m with
  | zero => simp [scrL]
  | succ m ih =>
    obtain ⟨a, b, c⟩ := ins_hi X p k1 a1 n1 k2 a2 n2 (p + m) (by omega)
    rw [← Nat.add_assoc, scrL, ih, scrL, List.append_assoc, show p + 2 + m = p + m + 2 by omega, a, b, c]
    rfl

end

/-- A script in a slice of its memory from p on. -/
theorem lies_from {w : World} {X : Scr} {g o N : Nat} (h : Lies w X g o N) (p : Nat) (_hp : p ≤ N) : Lies w (X.from p) g (o + p * 3) (N - p) := by
  intro k hk
  obtain ⟨a, b, c⟩ := h (p + k) (by omega)
  rw [show o + p * 3 + k * 3 = o + (p + k) * 3 by omega]
  exact ⟨a, b, c⟩

theorem lies_upto {w : World} {X : Scr} {g o N : Nat} (h : Lies w X g o N) (p : Nat) (hp : p ≤ N) : Lies w X g o p := fun k hk => h k (by omega)

/-! ### two steps that ask for more than the burst: the limiter stays -/
theorem stay_burst {rate burst : Int} {X : Scr} {N : Nat} (ho : OnlyP X N 0 1) (k : Nat) (hk : k ≤ N) : (stN (St.new rate burst) X k).burst = burst := by
  induction k with
  | zero => rfl
  | succ k ih =>
    have ih := ih (by omega)
    show (stepSt (stN (St.new rate burst) X k) (X.kd k) (X.at_ k) (X.nm k)).burst = burst
    generalize stN (St.new rate burst) X k = s at *
    rcases ho k (by omega) with e | e
    · rw [e]; unfold stepSt takes; rw [if_pos rfl]; split <;> exact ih
    · rw [e]; unfold stepSt takes; rw [if_neg (by decide), if_pos rfl]; split <;> exact ih

theorem many_0 {s : St} {a n : Int} (h : s.burst < n) : stepSt s 0 a n = s := by
  unfold stepSt; rw [if_pos rfl, if_neg (by omega)]

theorem many_1 {s : St} {a n : Int} (h : s.burst < n) : stepSt s 1 a n = s := by
  unfold stepSt; rw [if_neg (by decide), if_pos rfl, if_neg (by omega)]

section
variable {rate burst n : Int} {X : Scr} {N p : Nat} (hp : p < N) (ho : OnlyP X N 0 1) (hn : burst < n)

theorem many_lo (s0 : St) (X : Scr) (p : Nat) (k1 a1 n1 k2 a2 n2 : Int) (k : Nat) (hk : k ≤ p) : stN s0 (X.ins p k1 a1 n1 k2 a2 n2) k = stN s0 X k := by
  induction k with
  | zero => rfl
  | succ k ih =>
    obtain ⟨a, b, c⟩ := ins_lo X p k1 a1 n1 k2 a2 n2 k (by omega)
    show stepSt (stN s0 (X.ins p k1 a1 n1 k2 a2 n2) k) _ _ _ = stepSt (stN s0 X k) _ _ _
    rw [ih (by omega), a, b, c]

include hp ho hn in
theorem many_mid : stN (St.new rate burst) (X.ins p 1 (X.at_ p) n 0 (X.at_ p) n) (p + 1) = stN (St.new rate burst) X p ∧ stN (St.new rate burst) (X.ins p 1 (X.at_ p) n 0 (X.at_ p) n) (p + 2) = stN (St.new rate burst) X p := by
  have hb := stay_burst (rate := rate) (burst := burst) ho p (by omega)
  obtain ⟨a, b, c⟩ := ins_p X p 1 (X.at_ p) n 0 (X.at_ p) n
  obtain ⟨d, e, f⟩ := ins_q X p 1 (X.at_ p) n 0 (X.at_ p) n
  have h1 : stN (St.new rate burst) (X.ins p 1 (X.at_ p) n 0 (X.at_ p) n) (p + 1) = stN (St.new rate burst) X p := by
    show stepSt (stN (St.new rate burst) (X.ins p 1 (X.at_ p) n 0 (X.at_ p) n) p) _ _ _ = _
    rw [a, b, c, many_lo _ X p 1 (X.at_ p) n 0 (X.at_ p) n p (Nat.le_refl _), many_1 (by rw [hb]; exact hn)]
  refine ⟨h1, ?_⟩
  show stepSt (stN (St.new rate burst) (X.ins p 1 (X.at_ p) n 0 (X.at_ p) n) (p + 1)) _ _ _ = _
  rw [d, e, f, h1, many_0 (by rw [hb]; exact hn)]

include hp ho hn in
theorem many_hi (k : Nat) (hk : p ≤ k) (_hk2 : k ≤ N) : stN (St.new rate burst) (X.ins p 1 (X.at_ p) n 0 (X.at_ p) n) (k + 2) = stN (St.new rate burst) X k := by
  induction k with
  | zero =>
    have : p = 0 := by omega
    subst this
    exact (many_mid hp ho hn).2
  | succ k ih =>
    by_cases hkp : p = k + 1
    · subst hkp; exact (many_mid hp ho hn).2
    · obtain ⟨a, b, c⟩ := ins_hi X p 1 (X.at_ p) n 0 (X.at_ p) n k (by omega)
      show stepSt (stN (St.new rate burst) (X.ins p 1 (X.at_ p) n 0 (X.at_ p) n) (k + 2)) _ _ _ = stepSt (stN (St.new rate burst) X k) _ _ _
      rw [ih (by omega) (by omega), a, b, c]

include hp ho hn in
/-- What the script with the two steps more is told: as without them, elsewhere; nothing is granted to the two. -/
theorem many_told : (∀ k, k < p → toldOf (stN (St.new rate burst) (X.ins p 1 (X.at_ p) n 0 (X.at_ p) n) k) ((X.ins p 1 (X.at_ p) n 0 (X.at_ p) n).kd k) ((X.ins p 1 (X.at_ p) n 0 (X.at_ p) n).at_ k) ((X.ins p 1 (X.at_ p) n 0 (X.at_ p) n).nm k) = toldOf (stN (St.new rate burst) X k) (X.kd k) (X.at_ k) (X.nm k)) ∧
    (∀ k, p ≤ k → k < N → toldOf (stN (St.new rate burst) (X.ins p 1 (X.at_ p) n 0 (X.at_ p) n) (k + 2)) ((X.ins p 1 (X.at_ p) n 0 (X.at_ p) n).kd (k + 2)) ((X.ins p 1 (X.at_ p) n 0 (X.at_ p) n).at_ (k + 2)) ((X.ins p 1 (X.at_ p) n 0 (X.at_ p) n).nm (k + 2)) = toldOf (stN (St.new rate burst) X k) (X.kd k) (X.at_ k) (X.nm k)) ∧
    toldOf (stN (St.new rate burst) (X.ins p 1 (X.at_ p) n 0 (X.at_ p) n) p) ((X.ins p 1 (X.at_ p) n 0 (X.at_ p) n).kd p) ((X.ins p 1 (X.at_ p) n 0 (X.at_ p) n).at_ p) ((X.ins p 1 (X.at_ p) n 0 (X.at_ p) n).nm p) = ⟨false, 9223372036854775807, 0⟩ ∧
    (toldOf (stN (St.new rate burst) (X.ins p 1 (X.at_ p) n 0 (X.at_ p) n) (p + 1)) ((X.ins p 1 (X.at_ p) n 0 (X.at_ p) n).kd (p + 1)) ((X.ins p 1 (X.at_ p) n 0 (X.at_ p) n).at_ (p + 1)) ((X.ins p 1 (X.at_ p) n 0 (X.at_ p) n).nm (p + 1))).ok = false := by
  have hb := stay_burst (rate := rate) (burst := burst) ho p (by omega)
  refine ⟨fun k hk => ?_, fun k hk hk2 => ?_, ?_, ?_⟩
  · obtain ⟨a, b, c⟩ := ins_lo X p 1 (X.at_ p) n 0 (X.at_ p) n k hk
    rw [many_lo _ X p _ _ _ _ _ _ k (by omega), a, b, c]
  · obtain ⟨a, b, c⟩ := ins_hi X p 1 (X.at_ p) n 0 (X.at_ p) n k hk
    rw [many_hi hp ho hn k hk (by omega), a, b, c]
  · obtain ⟨a, b, c⟩ := ins_p X p 1 (X.at_ p) n 0 (X.at_ p) n
    rw [a, b, c, many_lo _ X p _ _ _ _ _ _ p (by omega)]
    unfold toldOf
    rw [if_neg (by decide), if_pos rfl, if_neg (by rw [hb]; omega)]
  · obtain ⟨a, b, c⟩ := ins_q X p 1 (X.at_ p) n 0 (X.at_ p) n
    rw [a, b, c, (many_mid hp ho hn).1]
    unfold toldOf
    rw [if_pos rfl, hb]
    exact decide_eq_false (by omega)
end

/-- The script with the two is a plain one. -/
theorem many_plain {n : Int} {X : Scr} {N p : Nat} (h : Steps X N) (hp : p < N) (n0 : 1 ≤ n) (n1 : n ≤ 1000) : PlainScr (X.ins p 1 (X.at_ p) n 0 (X.at_ p) n) (N + 2) := by
  have hpl := h.plain
  have cases3 : ∀ k, k < N + 2 → k < p ∨ k = p ∨ k = p + 1 ∨ ∃ j, k = j + 2 ∧ p ≤ j ∧ j < N := by
    intro k hk
    by_cases h1 : k < p
    · exact .inl h1
    · by_cases h2 : k = p
      · exact .inr (.inl h2)
      · by_cases h3 : k = p + 1
        · exact .inr (.inr (.inl h3))
        · exact .inr (.inr (.inr ⟨k - 2, by omega, by omega, by omega⟩))
  have at_ : ∀ k, k < N + 2 → ∃ j, j < N ∧ (X.ins p 1 (X.at_ p) n 0 (X.at_ p) n).at_ k = X.at_ j := by
    intro k hk
    rcases cases3 k hk with h1 | rfl | rfl | ⟨j, rfl, h2, h3⟩
    · exact ⟨k, by omega, (ins_lo X p 1 (X.at_ p) n 0 (X.at_ p) n k h1).2.1⟩
    · exact ⟨k, hp, (ins_p X k 1 (X.at_ k) n 0 (X.at_ k) n).2.1⟩
    · exact ⟨p, hp, (ins_q X p 1 (X.at_ p) n 0 (X.at_ p) n).2.1⟩
    · exact ⟨j, h3, (ins_hi X p 1 (X.at_ p) n 0 (X.at_ p) n j h2).2.1⟩
  refine ⟨fun k hk => ?_, fun k hk => ?_, fun k hk => ?_, fun k hk => ?_⟩
  · rcases cases3 k hk with h1 | rfl | rfl | ⟨j, rfl, h2, h3⟩
    · obtain ⟨a, b, c⟩ := ins_lo X p 1 (X.at_ p) n 0 (X.at_ p) n k h1
      rw [a, c]; exact hpl.plain k (by omega)
    · obtain ⟨a, b, c⟩ := ins_p X k 1 (X.at_ k) n 0 (X.at_ k) n
      rw [a, c]; exact .inr (.inl ⟨rfl, by omega, n1⟩)
    · obtain ⟨a, b, c⟩ := ins_q X p 1 (X.at_ p) n 0 (X.at_ p) n
      rw [a, c]; exact .inl ⟨rfl, by omega, n1⟩
    · obtain ⟨a, b, c⟩ := ins_hi X p 1 (X.at_ p) n 0 (X.at_ p) n j h2
      rw [a, c]; exact hpl.plain j h3
  · obtain ⟨j, hj, e⟩ := at_ k hk
    rw [e]; exact hpl.lo j hj
  · obtain ⟨j, hj, e⟩ := at_ k hk
    rw [e]; exact hpl.hi j hj
  · rcases cases3 k (by omega) with h1 | rfl | rfl | ⟨j, rfl, h2, h3⟩
    · by_cases h2 : k + 1 < p
      · rw [(ins_lo X p 1 (X.at_ p) n 0 (X.at_ p) n k h1).2.1, (ins_lo X p 1 (X.at_ p) n 0 (X.at_ p) n (k + 1) h2).2.1]
        exact hpl.up k (by omega)
      · have : p = k + 1 := by omega
        subst this
        rw [(ins_lo X (k + 1) 1 (X.at_ (k + 1)) n 0 (X.at_ (k + 1)) n k h1).2.1, (ins_p X (k + 1) 1 (X.at_ (k + 1)) n 0 (X.at_ (k + 1)) n).2.1]
        exact hpl.up k hp
    · rw [(ins_p X k 1 (X.at_ k) n 0 (X.at_ k) n).2.1, (ins_q X k 1 (X.at_ k) n 0 (X.at_ k) n).2.1]
      exact Int.le_refl _
    · rw [(ins_q X p 1 (X.at_ p) n 0 (X.at_ p) n).2.1, (ins_hi X p 1 (X.at_ p) n 0 (X.at_ p) n p (Nat.le_refl _)).2.1]
      exact Int.le_refl _
    · rw [(ins_hi X p 1 (X.at_ p) n 0 (X.at_ p) n j h2).2.1, show j + 2 + 1 = j + 1 + 2 by omega, (ins_hi X p 1 (X.at_ p) n 0 (X.at_ p) n (j + 1) (by omega)).2.1]
      exact hpl.up j (by omega)

open Go.ChangeShapes Go.WideShapes in
theorem steps_cap {H : Type} {enc : TypeId × Value → H} {W : World} {N cap : Nat} {A : Option Addr} {d : DataW H} {p : List MemPlace} (h : DataW.Trod enc Try.prog W 0 (fun _ => true) true 27 (.slice A N cap) d p) : N ≤ cap := by
  obtain ⟨fuel, hf⟩ := h
  rcases open_slice Try.underlying27 hf with ⟨hcs, -⟩ | ⟨a', len, c, m, n', D, Pl, hcs, -, hlc, -⟩
  · have h' : [Value.slice A N cap] = [.slice none 0 0] := hcs
    obtain ⟨-, h2, h3⟩ := Value.slice.inj (List.cons.inj h').1
    omega
  · have h' : [Value.slice A N cap] = [.slice (some a') len c] := hcs
    obtain ⟨-, h2, h3⟩ := Value.slice.inj (List.cons.inj h').1
    omega

theorem six_new (w : World) (a b c d e f : Value) (t : TypeId) : ∀ j u, [a, b, c, d, e, f][j]? = some u → (w.alloc (.cells #[a, b, c, d, e, f] t)).cell? ((⟨w.heap.size, 0, none⟩ : Addr).add j) = some u := by
  intro j u hu
  rw [Addr.add_lit, Nat.zero_add, cell_of_row _ _ j #[a, b, c, d, e, f] t (0, 0) (heap_alloc_new w _)]
  simpa using hu

/-- The three appends that put two steps amid a script. -/
def InsRuns (w1 : World) (sb so N cap p : Nat) (k1 a1 n1 k2 a2 n2 : Int) (X : Scr) (v1 : Value) (w2 : World) (v2 : Value) (w3 : World) (g c : Nat) (w4 : World) : Prop :=
  (Builtin.append_ #[27, 27] 27 #[.slice (some ⟨w1.heap.size, 0, none⟩) 0 0, .slice (some ⟨sb, so, none⟩) p cap]).run Try.prog (w1.alloc (.cells #[] 26)) = .ok v1 w2 ∧
  (Builtin.append_ #[27, 27] 27 #[v1, .slice (some ⟨w2.heap.size, 0, none⟩) 2 2]).run Try.prog (w2.alloc (.cells #[.int .i64 k1, .int .i64 a1, .int .i64 n1, .int .i64 k2, .int .i64 a2, .int .i64 n2] 26)) = .ok v2 w3 ∧
  (Builtin.append_ #[27, 27] 27 #[v2, .slice (some ⟨sb, so + p * 3, none⟩) (N - p) (cap - p)]).run Try.prog w3 = .ok (.slice (some ⟨g, 0, none⟩) (N + 2) c) w4 ∧
  g < w4.heap.size ∧ Lies w4 (X.ins p k1 a1 n1 k2 a2 n2) g 0 (N + 2) ∧ Below w1.heap.size w1 w4

theorem ins_runs (w1 : World) (sb so N cap p : Nat) (k1 a1 n1 k2 a2 n2 : Int) (X : Scr) (hp : p < N) (hN : N ≤ 100) (hsb : sb < w1.heap.size) (hX : Lies w1 X sb so N) :
    ∃ v1 w2 v2 w3 g c w4, InsRuns w1 sb so N cap p k1 a1 n1 k2 a2 n2 X v1 w2 v2 w3 g c w4 := by
  obtain ⟨i0, hi, hz0, hz1, hz2⟩ := info_parts info26
  have hb0 : Below w1.heap.size w1 (w1.alloc (.cells #[] 26)) := (Below.refl _ _).alloc (Nat.le_refl _) _
  obtain ⟨v1, w2, h1, hown1, hgr1, hv1⟩ := app_steps w1.heap.size sb so p cap 0 X (some ⟨sb, so, none⟩) (.slice (some ⟨w1.heap.size, 0, none⟩) 0 0) [] (w1.alloc (.cells #[] 26)) (fun _ => ⟨rfl, by simp; omega⟩) (fun h => by cases h)
    ((lies_upto hX p (by omega)).below hb0 hsb) (World.ownsRow_made w1 #[] 0 (Nat.le_refl _) (by unfold maxLen; omega) rfl) (by omega) (by simp) (by simp)
  rw [Nat.zero_add, List.nil_append] at hown1
  have hb2 : Below w1.heap.size w1 w2 := hb0.grown hgr1 (by simp) (fun j hj => by simp [Value.ownBlock] at hj; omega)
  have hs2 := hb2.size
  obtain ⟨v2, w3, h2, hown2, hgr2, hv2⟩ := run_append_own (P := Try.prog) (w2.alloc (.cells #[.int .i64 k1, .int .i64 a1, .int .i64 n1, .int .i64 k2, .int .i64 a2, .int .i64 n2] 26)) w1.heap.size 27 27 26 i0 (.agg #[.int .i64 0, .int .i64 0, .int .i64 0]) 3 24 Try.underlying27 hi hz0 hz1 hz2 rfl (by decide) v1 p (scrL X p) (hown1.alloc _)
    ⟨w2.heap.size, 0, none⟩ 2 2 [.int .i64 k1, .int .i64 a1, .int .i64 n1, .int .i64 k2, .int .i64 a2, .int .i64 n2] rfl (six_new w2 _ _ _ _ _ _ 26) (by intro u hu; simp only [List.mem_cons, List.not_mem_nil, or_false] at hu; rcases hu with rfl | rfl | rfl | rfl | rfl | rfl <;> rfl) (by unfold maxLen; omega) (by omega) (by simp; omega)
  have hb3 : Below w1.heap.size w1 w3 := (hb2.alloc hs2 _).grown hgr2 (by simp; omega) (fun j hj => (hown1.lt j hj).1)
  have hnn2 : v2 ≠ .slice none 0 0 := fun hh => absurd (hv2.1 hh).2 (by decide)
  rw [← ins_cells_two X p k1 a1 n1 k2 a2 n2] at hown2
  obtain ⟨v3, w4, h3, hown3, hgr3, hv3⟩ := app_steps w1.heap.size sb (so + p * 3) (N - p) (cap - p) (p + 2) (X.from p) (some ⟨sb, so + p * 3, none⟩) v2 _ w3 (fun _ => ⟨rfl, by have := hb3.size; omega⟩) (fun h => by cases h)
    ((lies_from hX p (by omega)).below hb3 hsb) hown2 (by omega) hb3.size hnn2
  rw [← ins_cells, show p + 2 + (N - p) = N + 2 by omega] at hown3
  have hb4 : Below w1.heap.size w1 w4 := hb3.grown hgr3 hb3.size (fun j hj => (hown2.lt j hj).1)
  obtain ⟨g, c, rfl⟩ : ∃ g c, v3 = .slice (some ⟨g, 0, none⟩) (N + 2) c := by
    rcases hown3.2 with ⟨h, _⟩ | ⟨g, c, _, h, _⟩
    · exact absurd h hv3
    · exact ⟨g, c, h⟩
  exact ⟨v1, w2, v2, w3, g, c, w4, h1, h2, h3, (hown3.lt g rfl).2, lies_own hown3, hb4⟩

end Go.Proofs.Ytndkiphlpddbaaa
