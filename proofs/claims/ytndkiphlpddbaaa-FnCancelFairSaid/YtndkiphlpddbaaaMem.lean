/- Words for memory and for times, used by all walks of this seat. No condition: plain definitions and lemmas. -/
import Derived.Below
import Derived.Laws.OwnMore
import Derived.Laws.AppendOwn
import Derived.Laws.MakeOwn
import Derived.Laws.Entries
import Derived.Laws.BitsAllLaws
import Derived.Deep.Draws
import Derived.Laws.Rows
import Derived.Lib.Hide
namespace Go.Proofs.Ytndkiphlpddbaaa
open Go.RowKit

/-! ### numbers -/
theorem and_mask (x : Int) (h0 : 0 ≤ x) (h1 : x < 1073741824) : bits .and .u64 x 1073741823 = x := by
  obtain ⟨n, rfl⟩ := Int.eq_ofNat_of_zero_le h0
  rw [show (1073741823 : Int) = ((1073741823 : Nat) : Int) from rfl, u64_and_nat n 1073741823 (by omega) (by decide)]
  have : n &&& 1073741823 = n := by
    rw [show (1073741823 : Nat) = 2 ^ 30 - 1 from rfl, Nat.and_two_pow_sub_one_eq_mod]
    exact Nat.mod_eq_of_lt (by omega)
  rw [this]

theorem and_top (x : Int) (h0 : 0 ≤ x) (h1 : x < 1073741824) : bits .and .u64 x 9223372036854775808 = 0 := by
  obtain ⟨n, rfl⟩ := Int.eq_ofNat_of_zero_le h0
  rw [show (9223372036854775808 : Int) = ((9223372036854775808 : Nat) : Int) from rfl, u64_and_nat n _ (by omega) (by decide)]
  have : n &&& 9223372036854775808 = 0 := by
    apply Nat.eq_of_testBit_eq
    intro i
    rw [Nat.testBit_and, Nat.zero_testBit, show (9223372036854775808 : Nat) = 2 ^ 63 from rfl]
    by_cases hi : i < 30
    · rw [Nat.testBit_two_pow_of_ne (by omega), Bool.and_false]
    · rw [Nat.testBit_lt_two_pow (x := n) (i := i) (Nat.lt_of_lt_of_le (show n < 2 ^ 30 by omega) (Nat.pow_le_pow_right (by decide) (by omega))), Bool.false_and]
  rw [this]
  rfl

theorem and_small (x y : Int) (h0 : 0 ≤ x) (h1 : x < 1073741824) (g0 : 0 ≤ y) (g1 : y < 1073741824) : bits .and .u64 (bits .and .u64 x y) 9223372036854775808 = 0 := by
  obtain ⟨n, rfl⟩ := Int.eq_ofNat_of_zero_le h0
  obtain ⟨m, rfl⟩ := Int.eq_ofNat_of_zero_le g0
  rw [u64_and_nat n m (by omega) (by omega)]
  have h : n &&& m ≤ n := Nat.and_le_left
  exact and_top _ (by omega) (by omega)

theorem andNot_mask (x : Int) (h0 : 0 ≤ x) (h1 : x < 1073741824) : bits .andNot .u64 x 1073741823 = 0 := by
  obtain ⟨n, rfl⟩ := Int.eq_ofNat_of_zero_le h0
  rw [show (1073741823 : Int) = ((1073741823 : Nat) : Int) from rfl, u64_andNot_nat n 1073741823 (by omega) (by decide)]
  have : n &&& (18446744073709551615 - 1073741823) = 0 := by
    apply Nat.eq_of_testBit_eq
    intro i
    rw [Nat.testBit_and, Nat.zero_testBit]
    by_cases hi : i < 30
    · have : Nat.testBit (18446744073709551615 - 1073741823) i = false := by
        have hh : ∀ j : Fin 30, Nat.testBit (18446744073709551615 - 1073741823) j.val = false := by decide
        exact hh ⟨i, hi⟩
      rw [this, Bool.and_false]
    · rw [Nat.testBit_lt_two_pow (x := n) (i := i) (Nat.lt_of_lt_of_le (show n < 2 ^ 30 by omega) (Nat.pow_le_pow_right (by decide) (by omega))), Bool.false_and]
  rw [this]
  rfl

theorem or_zero (x : Int) (h0 : 0 ≤ x) (h1 : x < 1073741824) : bits .or .u64 0 x = x := by
  obtain ⟨n, rfl⟩ := Int.eq_ofNat_of_zero_le h0
  rw [show (0 : Int) = ((0 : Nat) : Int) from rfl, u64_or_nat 0 n (by decide) (by omega), Nat.zero_or]

/-! ### a block that is known whole -/
/-- Block g is just these cells, of this element type; none is frozen. -/
def Blk (w : World) (g : Nat) (t : TypeId) (cs : Array Value) : Prop := w.heap[g]? = some (.cells cs t (0, 0))

section
variable {w w' : World} {g : Nat} {t : TypeId} {cs : Array Value}
theorem Blk.lt (h : Blk w g t cs) : g < w.heap.size := by
  apply Nat.lt_of_not_ge
  intro hge
  unfold Blk at h
  rw [Array.getElem?_eq_none hge] at h
  cases h
theorem Blk.cell (h : Blk w g t cs) (i : Nat) : w.cell? ⟨g, i, none⟩ = cs[i]? := cell_of_row w g i cs t (0, 0) h
theorem Blk.free (h : Blk w g t cs) (i : Nat) : w.frozen? ⟨g, i, none⟩ = false := by
  unfold Blk at h
  simp [World.frozen?, h]
theorem Blk.new (w : World) (t : TypeId) (cs : Array Value) : Blk (w.alloc (.cells cs t)) w.heap.size t cs := heap_alloc_new w _
theorem Blk.alloc (h : Blk w g t cs) (o : Obj) : Blk (w.alloc o) g t cs := (Below.heap_alloc w o g h.lt).trans h
theorem Blk.put (h : Blk w g t cs) (i : Nat) (u : Value) : Blk (w.setCell ⟨g, i, none⟩ u) g t (cs.setIfInBounds i u) := by
  unfold Blk at h ⊢
  simp [World.setCell, Array.getElem?_modify, h]
theorem Blk.far (h : Blk w g t cs) {p : Addr} (hp : g ≠ p.block) (u : Value) : Blk (w.setCell p u) g t cs := (Below.heap_setCell w p u g hp).trans h
theorem Blk.below {B : Nat} (h : Blk w g t cs) (hb : Below B w w') (hg : g < B) : Blk w' g t cs := (hb.block g hg).trans h
theorem Blk.turned {row : Option Nat} (h : Blk w g t cs) (hb : w.grownBy w' row) (hg : some g ≠ row) : Blk w' g t cs := (hb.block g h.lt hg).trans h
end

/-- All old cells and marks read as before. -/
theorem bcell {W w1 : World} (hb : Below W.heap.size W w1) : (∀ b o, b < W.heap.size → w1.cell? ⟨b, o, none⟩ = W.cell? ⟨b, o, none⟩) ∧ (∀ b o, b < W.heap.size → w1.frozen? ⟨b, o, none⟩ = W.frozen? ⟨b, o, none⟩) :=
  ⟨fun b o h => hb.cell (p := ⟨b, o, none⟩) h, fun b o h => hb.frozen (p := ⟨b, o, none⟩) h⟩

theorem store_float (P : Program) (w : World) (a : Addr) (m : Mode) (k : FloatKind) (b : Nat) : (store a (.float k b) m).run P w = stored P w a (.float k b) m := run_store P w a _ m rfl

/-! ### times: nanoseconds since the first moment of year 1 -/
/-- The two numbers of a time. -/
def ns (T : Int) : Int := T % 1000000000
def sc (T : Int) : Int := T / 1000000000
/-- A time as a value. -/
abbrev tv (T : Int) : Value := .agg #[.int .u64 (ns T), .int .i64 (sc T), .pointer none]

theorem ns_nonneg (T : Int) : 0 ≤ ns T := by unfold ns; omega
theorem ns_lt (T : Int) : ns T < 1000000000 := by unfold ns; omega

end Go.Proofs.Ytndkiphlpddbaaa
