/- What impl.run keeps from round to round, and what a step of a script is. -/
import Derived.Test.YtndkiphlpddbaaaRtE
import Derived.Deep.OwnRows
namespace Go.Proofs.Ytndkiphlpddbaaa
open Go.RowKit Go.Deep Flt

/-- What a step is told. -/
structure Tl where
  ok : Bool
  delay : Int
  tok : Nat

def Tl.none : Tl := ⟨false, 0, 0⟩

def Tl.cell (t : Tl) (j : Nat) : Value := if j = 0 then .bool t.ok else if j = 1 then .int .i64 t.delay else .float .f64 t.tok

/-- The cells of the told ones behind k steps. -/
def outF (T : Nat → Tl) (k j : Nat) : Value := if j / 3 < k then (T (j / 3)).cell (j % 3) else Tl.none.cell (j % 3)

/-- The cells of the kept reservations behind k steps. -/
def heldF (H : Nat → Option (Array Value)) (P : Nat → Nat) (k j : Nat) : Value := if j < k ∧ (H j).isSome then .pointer (some ⟨P j, 0, none⟩) else .pointer none

/-- A script: kinds, ticks, numbers. -/
structure Scr where
  kd : Nat → Int
  at_ : Nat → Int
  nm : Nat → Int

/-- What is handed on from round to round. -/
structure Inv (w0 wr : World) (N L HB OB : Nat) (C : Nat → Array Value) (H : Nat → Option (Array Value)) (T : Nat → Tl) (k : Nat) : Prop where
  turn : w0.grownBy wr (some L)
  lim : Blk wr L 76 (C k)
  held : ∃ P : Nat → Nat, wr.rowIs HB 65 N (heldF H P k) ∧ ∀ j, j < k → ∀ rc, H j = some rc → Blk wr (P j) 82 rc ∧ w0.heap.size ≤ P j
  out : wr.rowIs OB 30 (3 * N) (outF T k)

theorem rowIs_ne {w : World} {b c : Nat} {t u : TypeId} {n m : Nat} {f g : Nat → Value} (h : w.rowIs b t n f) (k : w.rowIs c u m g) (hne : t ≠ u) : b ≠ c := by
  rintro rfl
  obtain ⟨x, hx, _⟩ := h
  obtain ⟨y, hy, _⟩ := k
  rw [hx] at hy
  injection hy with hy
  injection hy with _ ht
  exact hne ht

/-! ### what each kind of step asks and does -/
section
variable (L : Nat) (X : Scr) (C : Nat → Array Value) (H : Nat → Option (Array Value)) (T : Nat → Tl) (k : Nat)

structure It0 : Prop where
  kd : X.kd k = 0
  held : H k = none
  told : (T k).delay = 0 ∧ (T k).tok = 0
  call : ∀ w, Blk w L 76 (C k) → Calls Try.prog 37 #[.pointer (some ⟨L, 0, none⟩), tv (tick (X.at_ k)), .int .i64 (X.nm k)] w fun e w' => e = .returned (.bool (T k).ok) ∧ Blk w' L 76 (C (k + 1)) ∧ w.grownBy w' (some L)

structure It1 (rc : Array Value) : Prop where
  kd : X.kd k = 1
  held : H k = some rc
  told : (T k).tok = 0
  call : ∀ w, Blk w L 76 (C k) → Calls Try.prog 38 #[.pointer (some ⟨L, 0, none⟩), tv (tick (X.at_ k)), .int .i64 (X.nm k)] w (RsvPost w L (C (k + 1)) rc)
  okay : ∀ w R, Blk w R 82 rc → Calls Try.prog 39 #[.pointer (some ⟨R, 0, none⟩)] w fun e w' => e = .returned (.bool (T k).ok) ∧ w = w'
  delay : ∀ w R, Blk w R 82 rc → Calls Try.prog 40 #[.pointer (some ⟨R, 0, none⟩), tv (tick (X.at_ k))] w fun e w' => e = .returned (.int .i64 (T k).delay) ∧ Below w.heap.size w w'

structure It2 : Prop where
  kd : X.kd k = 2
  held : H k = none
  told : (T k).ok = false ∧ (T k).delay = 0
  same : C (k + 1) = C k
  call : ∀ w, Blk w L 76 (C k) → Calls Try.prog 41 #[.pointer (some ⟨L, 0, none⟩), tv (tick (X.at_ k))] w fun e w' => e = .returned (.float .f64 (T k).tok) ∧ Below w.heap.size w w'

structure It3 : Prop where
  kd : X.kd k = 3
  held : H k = none
  told : T k = Tl.none
  call : ∀ w, Blk w L 76 (C k) → Calls Try.prog 42 #[.pointer (some ⟨L, 0, none⟩), tv (tick (X.at_ k)), .float .f64 (floatOfInt .f64 (X.nm k))] w fun e w' => e = .returned (.tuple #[]) ∧ Blk w' L 76 (C (k + 1)) ∧ w.grownBy w' (some L)

structure It4 : Prop where
  kd : X.kd k = 4
  held : H k = none
  told : T k = Tl.none
  call : ∀ w, Blk w L 76 (C k) → Calls Try.prog 43 #[.pointer (some ⟨L, 0, none⟩), tv (tick (X.at_ k)), .int .i64 (X.nm k)] w fun e w' => e = .returned (.tuple #[]) ∧ Blk w' L 76 (C (k + 1)) ∧ w.grownBy w' (some L)

structure It5 (j : Nat) (rc : Array Value) : Prop where
  kd : X.kd k = 5
  nm : X.nm k = (j : Int)
  lt : j < k
  held : H k = none
  old : H j = some rc
  told : T k = Tl.none
  call : ∀ w R, R ≠ L → Blk w L 76 (C k) → Blk w R 82 rc → Calls Try.prog 44 #[.pointer (some ⟨R, 0, none⟩), tv (tick (X.at_ k))] w fun e w' => e = .returned (.tuple #[]) ∧ Blk w' L 76 (C (k + 1)) ∧ w.grownBy w' (some L)

structure It6 (j : Nat) (rc : Array Value) : Prop where
  kd : X.kd k = 6
  nm : X.nm k = (j : Int)
  lt : j < k
  held : H k = none
  old : H j = some rc
  told : (T k).tok = 0
  same : C (k + 1) = C k
  okay : ∀ w R, Blk w R 82 rc → Calls Try.prog 39 #[.pointer (some ⟨R, 0, none⟩)] w fun e w' => e = .returned (.bool (T k).ok) ∧ w = w'
  delay : ∀ w R, Blk w R 82 rc → Calls Try.prog 40 #[.pointer (some ⟨R, 0, none⟩), tv (tick (X.at_ k))] w fun e w' => e = .returned (.int .i64 (T k).delay) ∧ Below w.heap.size w w'

structure It7 (b : Int) : Prop where
  kd : X.kd k = 7
  held : H k = none
  told : (T k).ok = (b == X.nm k) ∧ (T k).delay = 0
  same : C (k + 1) = C k
  burst : ∀ w, Blk w L 76 (C k) → Calls Try.prog 45 #[.pointer (some ⟨L, 0, none⟩)] w fun e w' => e = .returned (.int .i64 b) ∧ w = w'
  limit : ∀ w, Blk w L 76 (C k) → Calls Try.prog 46 #[.pointer (some ⟨L, 0, none⟩)] w fun e w' => e = .returned (.float .f64 (T k).tok) ∧ w = w'

def Item : Prop :=
  It0 L X C H T k ∨ (∃ rc, It1 L X C H T k rc) ∨ It2 L X C H T k ∨ It3 L X C H T k ∨ It4 L X C H T k ∨ (∃ j rc, It5 L X C H T k j rc) ∨ (∃ j rc, It6 X C H T k j rc) ∨ (∃ b, It7 L X C H T k b)
end

end Go.Proofs.Ytndkiphlpddbaaa
