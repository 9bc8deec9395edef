/- A script appended to one of the call's own; one step more. -/
import Derived.Test.YtndkiphlpddbaaaLwG
import Derived.Test.YtndkiphlpddbaaaRowS
namespace Go.Proofs.Ytndkiphlpddbaaa
open Go.RowKit Go.Deep Flt

theorem info26 : (Try.prog.info? 26).map (fun i => (i.zero, i.size, i.bytes)) = some (some (.agg #[.int .i64 0, .int .i64 0, .int .i64 0]), 3, 24) := by kernel_rfl

theorem lies_cell {w : World} {X : Scr} {sb so N : Nat} (h : Lies w X sb so N) : ∀ j u, (scrL X N)[j]? = some u → w.cell? ((⟨sb, so, none⟩ : Addr).add j) = some u := by
  intro j u hu
  have hj : j < N * 3 := by
    have := (List.getElem?_eq_some_iff.1 hu).1
    rwa [scrL_len] at this
  obtain ⟨a, b, c⟩ := h (j / 3) (by omega)
  obtain ⟨x, y, z⟩ := scrL_get X N (j / 3) (by omega)
  rw [Addr.add_lit]
  have h3 : j = j / 3 * 3 ∨ j = j / 3 * 3 + 1 ∨ j = j / 3 * 3 + 2 := by omega
  rcases h3 with e | e | e
  · rw [e, x] at hu; rw [e]; exact a.trans hu
  · rw [e, y] at hu; rw [e, ← Nat.add_assoc]; exact b.trans hu
  · rw [e, z] at hu; rw [e, ← Nat.add_assoc]; exact c.trans hu

theorem scrL_one (X : Scr) (k : Nat) : ∀ u ∈ scrL X k, u.oneCell' = true := by
  induction k with
  | zero => intro u hu; cases hu
  | succ k ih =>
    intro u hu
    rw [scrL, List.mem_append] at hu
    rcases hu with hu | hu
    · exact ih u hu
    · simp at hu; rcases hu with rfl | rfl | rfl <;> rfl

theorem scrL_congr (X Y : Scr) (k : Nat) (h : ∀ j, j < k → X.kd j = Y.kd j ∧ X.at_ j = Y.at_ j ∧ X.nm j = Y.nm j) : scrL X k = scrL Y k := by
  induction k with
  | zero => rfl
  | succ k ih =>
    obtain ⟨a, b, c⟩ := h k (by omega)
    rw [scrL, scrL, ih (fun j hj => h j (by omega)), a, b, c]

/-- An append whose outcome is known. -/
theorem wpList_app {P : Program} {w : World} {ops : Array Oper} {rest : List Oper} {o : Oper} {a : Act} {Q : Exit → Act → World → Prop} (hgd : o.guard = none) (s x : Operand) (t : TypeId)
    (ho : o.op = .call { callee := .builtin .append, args := #[s, x], argTypes := #[t, t] }) (hty : o.type = t) {u y v' : Value} {w' : World} (hs : a.eval s = u) (hx : a.eval x = y)
    (hr : (Builtin.append_ #[t, t] t #[u, y]).run P w = .ok v' w') (h : wpList P ops Q rest (a.put o.dst v') w') : wpList P ops Q (o :: rest) a w := by
  refine wpList_plain hgd fun K hK => ?_
  unfold Oper.wp execOp
  simp only [ho, hty, resolve, invoke, builtin, Sem.run_bind, Sem.run_pure, Result.andThen_ok, List.map_toArray, List.map_cons, List.map_nil, hs, hx, hr]
  exact hK _ _ h

theorem app_steps (base sb so N cap n : Nat) (X : Scr) (A : Option Addr) (v : Value) (xs : List Value) (w : World) (hA : 0 < N → A = some ⟨sb, so, none⟩ ∧ sb < w.heap.size) (hn : A = none → N = 0 ∧ cap = 0) (hX : Lies w X sb so N)
    (hown : w.ownsRow base 26 3 v n xs) (hN : n + N ≤ 1000) (hbase : base ≤ w.heap.size) (hv : v ≠ .slice none 0 0) :
    ∃ v' w', (Builtin.append_ #[27, 27] 27 #[v, .slice A N cap]).run Try.prog w = .ok v' w' ∧ w'.ownsRow base 26 3 v' (n + N) (xs ++ scrL X N) ∧ w.grownBy w' v.ownBlock ∧ v' ≠ .slice none 0 0 := by
  obtain ⟨i0, hi, hz0, hz1, hz2⟩ := info_parts info26
  cases A with
  | none =>
    obtain ⟨rfl, rfl⟩ := hn rfl
    refine ⟨v, w, run_append_owned_none w base 27 27 26 i0 3 Try.underlying27 hi v n xs hown, ?_, ⟨rfl, rfl, rfl, Nat.le_refl _, fun _ _ _ => rfl⟩, hv⟩
    rw [Nat.add_zero]
    show w.ownsRow base 26 3 v n (xs ++ [])
    rwa [List.append_nil]
  | some a =>
    have hc : ∀ j u, (scrL X N)[j]? = some u → w.cell? (a.add j) = some u := by
      by_cases h0 : 0 < N
      · have := (hA h0).1
        injection this with this
        subst this
        exact lies_cell hX
      · intro j u hu
        have : N = 0 := by omega
        subst this
        simp [scrL] at hu
    obtain ⟨v', w', h1, h2, h3, h4⟩ := run_append_own (P := Try.prog) w base 27 27 26 i0 (.agg #[.int .i64 0, .int .i64 0, .int .i64 0]) 3 24 Try.underlying27 hi hz0 hz1 hz2 rfl (by decide) v n xs hown a N cap (scrL X N) (scrL_len X N) hc (scrL_one X N) (by unfold maxLen; omega) (by omega) hbase
    exact ⟨v', w', h1, h2, h3, fun hh => hv (h4.1 hh).1⟩

theorem Steps.plain {X : Scr} {N : Nat} (h : Steps X N) : PlainScr X N :=
  ⟨fun k hk => (h.step k hk).plain (h.no5 k hk), fun k hk => (h.step k hk).lo, fun k hk => by have := (h.step k hk).hi; omega, fun k hk => by have := (h.step (k + 1) hk).up (by omega); simpa using this⟩

/-- One step more, at its end. -/
def Scr.snoc (X : Scr) (N : Nat) (kd a n : Int) : Scr := ⟨fun k => if k < N then X.kd k else kd, fun k => if k < N then X.at_ k else a, fun k => if k < N then X.nm k else n⟩

theorem snoc_cells (X : Scr) (N : Nat) (kd a n : Int) : scrL (X.snoc N kd a n) (N + 1) = scrL X N ++ [.int .i64 kd, .int .i64 a, .int .i64 n] := by
  rw [scrL, scrL_congr (X.snoc N kd a n) X N (fun j hj => by unfold Scr.snoc; simp [hj])]
  congr 1
  unfold Scr.snoc
  simp

theorem snoc_steps {X : Scr} {N : Nat} (h : Steps X N) : Steps (X.snoc N 7 65536 1) (N + 1) := by
  refine ⟨fun k hk => ?_, fun k hk => ?_⟩
  · by_cases hlt : k < N
    · obtain ⟨lo, hi, up, n0, n1, kind⟩ := h.step k hlt
      have e0 : (X.snoc N 7 65536 1).kd k = X.kd k := by unfold Scr.snoc; simp [hlt]
      have e1 : (X.snoc N 7 65536 1).at_ k = X.at_ k := by unfold Scr.snoc; simp [hlt]
      have e2 : (X.snoc N 7 65536 1).nm k = X.nm k := by unfold Scr.snoc; simp [hlt]
      have e3 : (X.snoc N 7 65536 1).at_ (k - 1) = X.at_ (k - 1) := by unfold Scr.snoc; simp [show k - 1 < N by omega]
      have e4 : (X.snoc N 7 65536 1).kd (k - 1) = X.kd (k - 1) := by unfold Scr.snoc; simp [show k - 1 < N by omega]
      exact ⟨by rw [e1]; exact lo, by rw [e1]; exact hi, by rw [e1, e3]; exact up, by rw [e2]; exact n0, by rw [e2]; exact n1, by rw [e0, e1, e2, e3, e4]; exact kind⟩
    · have : k = N := by omega
      subst this
      have e0 : (X.snoc k 7 65536 1).kd k = 7 := by unfold Scr.snoc; simp
      have e1 : (X.snoc k 7 65536 1).at_ k = 65536 := by unfold Scr.snoc; simp
      have e2 : (X.snoc k 7 65536 1).nm k = 1 := by unfold Scr.snoc; simp
      refine ⟨by rw [e1]; omega, by rw [e1]; omega, fun hk0 => ?_, by rw [e2]; omega, by rw [e2]; omega, by rw [e0]; exact .inr (.inr (.inr (.inr (.inr (.inr rfl)))))⟩
      have e3 : (X.snoc k 7 65536 1).at_ (k - 1) = X.at_ (k - 1) := by unfold Scr.snoc; simp [show k - 1 < k by omega]
      rw [e1, e3]
      exact (h.step (k - 1) (by omega)).hi
  · by_cases hlt : k < N
    · have e0 : (X.snoc N 7 65536 1).kd k = X.kd k := by unfold Scr.snoc; simp [hlt]
      rw [e0]; exact h.no5 k hlt
    · have e0 : (X.snoc N 7 65536 1).kd k = 7 := by unfold Scr.snoc; simp [hlt]
      rw [e0]; decide

open Go.ChangeShapes Go.WideShapes in
theorem steps_none {H : Type} {enc : TypeId × Value → H} {W : World} {N cap : Nat} {A : Option Addr} {d : DataW H} {p : List MemPlace} (h : DataW.Trod enc Try.prog W 0 (fun _ => true) true 27 (.slice A N cap) d p) : A = none → N = 0 ∧ cap = 0 := by
  rintro rfl
  obtain ⟨fuel, hf⟩ := h
  rcases open_slice Try.underlying27 hf with ⟨hcs, -⟩ | ⟨a', len, c, m, n', D, Pl, hcs, -⟩
  · have h' : [Value.slice none N cap] = [.slice none 0 0] := hcs
    obtain ⟨-, h2, h3⟩ := Value.slice.inj (List.cons.inj h').1
    exact ⟨h2, h3⟩
  · have h' : [Value.slice none N cap] = [.slice (some a') len c] := hcs
    obtain ⟨h1, -, -⟩ := Value.slice.inj (List.cons.inj h').1
    cases h1

end Go.Proofs.Ytndkiphlpddbaaa
