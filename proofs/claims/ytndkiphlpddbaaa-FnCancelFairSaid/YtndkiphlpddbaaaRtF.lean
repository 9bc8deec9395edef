/- The walk of CancelAt: where it does nothing. -/
import Derived.Test.YtndkiphlpddbaaaRtE
namespace Go.Proofs.Ytndkiphlpddbaaa
open Go.RowKit Flt
attribute [local go_sem] store_float

theorem cancel_no (L R : Nat) (m T : Int) (l : Nat) (t : Int) (w : World) (hR : Blk w R 82 (rcells false L m T l)) :
    Calls Try.prog 44 #[.pointer (some ⟨R, 0, none⟩), tv t] w fun e w' => e = .returned (.tuple #[]) ∧ Below w.heap.size w w' := by
  have c0 := hR.cell 0
  have hlt := hR.lt
  simp only [rcells, List.getElem?_toArray, List.getElem?_cons_zero] at c0
  clear hR
  go_enter Try.func44, Try.ntmps44
  go_wp2_with fail
  refine bodyPost_ret (results_none rfl _ _ _) rfl ⟨rfl, (Below.refl _ _).alloc (Nat.le_refl _) _⟩

/-- What the regions of CancelAt read: the time asked of, the reservation, the limiter. -/
def Core (W w : World) (L R : Nat) (t : Int) (lc rc : Array Value) : Prop :=
  Below W.heap.size W w ∧ W.heap.size < w.heap.size ∧ Blk w W.heap.size 62 #[.int .u64 (ns t), .int .i64 (sc t), .pointer none] ∧ Blk w L 76 lc ∧ Blk w R 82 rc ∧ L < W.heap.size ∧ R < W.heap.size

theorem Core.start {W : World} {L R : Nat} {lc rc : Array Value} (t : Int) (hL : Blk W L 76 lc) (hR : Blk W R 82 rc) : Core W (W.alloc (.cells #[.int .u64 (ns t), .int .i64 (sc t), .pointer none] 62)) L R t lc rc :=
  ⟨(Below.refl _ _).alloc (Nat.le_refl _) _, by simp, Blk.new _ _ _, hL.alloc _, hR.alloc _, hL.lt, hR.lt⟩

theorem Core.next {W w w' : World} {L R : Nat} {t : Int} {lc rc : Array Value} (h : Core W w L R t lc rc) (hb : Below w.heap.size w w') : Core W w' L R t lc rc := by
  obtain ⟨h0, h1, h2, h3, h4, h5, h6⟩ := h
  exact ⟨h0.trans (hb.mono (Nat.le_of_lt h1)), Nat.lt_of_lt_of_le h1 hb.size, h2.below hb h1, h3.below hb h3.lt, h4.below hb h4.lt, h5, h6⟩

theorem Core.drew {W w : World} {L R : Nat} {t : Int} {lc rc : Array Value} (h : Core W w L R t lc rc) : Core W w.drew L R t lc rc := h.next (Below.refl _ _).drew

theorem Core.facts {W w : World} {L R : Nat} {t : Int} {l : Nat} {b : Int} {k : Nat} {last ev : Int} {ok : Bool} {n T : Int} {lr : Nat} (h : Core W w L R t (lcells l b k last ev) (rcells ok L n T lr)) :
    Core W w L R t (lcells l b k last ev) (rcells ok L n T lr) ∧
    w.cell? ⟨W.heap.size, 0, none⟩ = some (.int .u64 (ns t)) ∧ w.cell? ⟨W.heap.size, 1, none⟩ = some (.int .i64 (sc t)) ∧ w.cell? ⟨W.heap.size, 2, none⟩ = some (.pointer none) ∧
    w.cell? ⟨R, 0, none⟩ = some (.bool ok) ∧ w.cell? ⟨R, 1, none⟩ = some (.pointer (some ⟨L, 0, none⟩)) ∧ w.cell? ⟨R, 2, none⟩ = some (.int .i64 n) ∧
    w.cell? ⟨R, 3, none⟩ = some (.int .u64 (ns T)) ∧ w.cell? ⟨R, 4, none⟩ = some (.int .i64 (sc T)) ∧ w.cell? ⟨R, 5, none⟩ = some (.pointer none) ∧ w.cell? ⟨R, 6, none⟩ = some (.float .f64 lr) ∧
    w.cell? ⟨L, 0, none⟩ = some (.float .f64 l) ∧ w.cell? ⟨L, 1, none⟩ = some (.int .i64 b) ∧ w.cell? ⟨L, 6, none⟩ = some (.int .u64 (ns ev)) ∧ w.cell? ⟨L, 7, none⟩ = some (.int .i64 (sc ev)) ∧ w.cell? ⟨L, 8, none⟩ = some (.pointer none) := by
  refine ⟨h, ?_⟩
  obtain ⟨_, _, h2, h3, h4, _, _⟩ := h
  exact ⟨h2.cell 0, h2.cell 1, h2.cell 2, h4.cell 0, h4.cell 1, h4.cell 2, h4.cell 3, h4.cell 4, h4.cell 5, h4.cell 6, h3.cell 0, h3.cell 1, h3.cell 6, h3.cell 7, h3.cell 8⟩

theorem Core.step {W w w' : World} {L R : Nat} {t : Int} {l : Nat} {b : Int} {k : Nat} {last ev : Int} {ok : Bool} {n T : Int} {lr : Nat} (hb : Below w.heap.size w w') (h : Core W w L R t (lcells l b k last ev) (rcells ok L n T lr) ∧
    w.cell? ⟨W.heap.size, 0, none⟩ = some (.int .u64 (ns t)) ∧ w.cell? ⟨W.heap.size, 1, none⟩ = some (.int .i64 (sc t)) ∧ w.cell? ⟨W.heap.size, 2, none⟩ = some (.pointer none) ∧
    w.cell? ⟨R, 0, none⟩ = some (.bool ok) ∧ w.cell? ⟨R, 1, none⟩ = some (.pointer (some ⟨L, 0, none⟩)) ∧ w.cell? ⟨R, 2, none⟩ = some (.int .i64 n) ∧
    w.cell? ⟨R, 3, none⟩ = some (.int .u64 (ns T)) ∧ w.cell? ⟨R, 4, none⟩ = some (.int .i64 (sc T)) ∧ w.cell? ⟨R, 5, none⟩ = some (.pointer none) ∧ w.cell? ⟨R, 6, none⟩ = some (.float .f64 lr) ∧
    w.cell? ⟨L, 0, none⟩ = some (.float .f64 l) ∧ w.cell? ⟨L, 1, none⟩ = some (.int .i64 b) ∧ w.cell? ⟨L, 6, none⟩ = some (.int .u64 (ns ev)) ∧ w.cell? ⟨L, 7, none⟩ = some (.int .i64 (sc ev)) ∧ w.cell? ⟨L, 8, none⟩ = some (.pointer none)) :
    Core W w' L R t (lcells l b k last ev) (rcells ok L n T lr) ∧
    w'.cell? ⟨W.heap.size, 0, none⟩ = some (.int .u64 (ns t)) ∧ w'.cell? ⟨W.heap.size, 1, none⟩ = some (.int .i64 (sc t)) ∧ w'.cell? ⟨W.heap.size, 2, none⟩ = some (.pointer none) ∧
    w'.cell? ⟨R, 0, none⟩ = some (.bool ok) ∧ w'.cell? ⟨R, 1, none⟩ = some (.pointer (some ⟨L, 0, none⟩)) ∧ w'.cell? ⟨R, 2, none⟩ = some (.int .i64 n) ∧
    w'.cell? ⟨R, 3, none⟩ = some (.int .u64 (ns T)) ∧ w'.cell? ⟨R, 4, none⟩ = some (.int .i64 (sc T)) ∧ w'.cell? ⟨R, 5, none⟩ = some (.pointer none) ∧ w'.cell? ⟨R, 6, none⟩ = some (.float .f64 lr) ∧
    w'.cell? ⟨L, 0, none⟩ = some (.float .f64 l) ∧ w'.cell? ⟨L, 1, none⟩ = some (.int .i64 b) ∧ w'.cell? ⟨L, 6, none⟩ = some (.int .u64 (ns ev)) ∧ w'.cell? ⟨L, 7, none⟩ = some (.int .i64 (sc ev)) ∧ w'.cell? ⟨L, 8, none⟩ = some (.pointer none) := (h.1.next hb).facts

set_option maxRecDepth 100000 in
set_option maxHeartbeats 1000000 in
theorem cancel_late (L R : Nat) (l : Nat) (b : Int) (k : Nat) (last ev : Int) (n T : Int) (lr : Nat) (t : Int) (w : World) (hL : Blk w L 76 (lcells l b k last ev)) (hR : Blk w R 82 (rcells true L n T lr))
    (hinf : (FloatKind.f64.format.order l 9218868437227405311 == some .eq) = false) (hn : n ≠ 0) (hT : T < t) :
    Calls Try.prog 44 #[.pointer (some ⟨R, 0, none⟩), tv t] w fun e w' => e = .returned (.tuple #[]) ∧ Below w.heap.size w w' := by
  have hB : ∀ w, Calls Try.prog 53 #[tv T, tv t] w fun e w' => e = .returned (.bool true) ∧ Below w.heap.size w w' := by
    intro w
    have := before_any T t w
    rwa [show decide (T < t) = true from decide_eq_true hT] at this
  have HB := Lib.hid hB
  have hn0 : (n == 0) = false := beq_eq_false_iff_ne.2 hn
  have START := Lib.hid (Core.start t hL hR).drew.facts
  have hlt := hR.lt
  have hLt := hL.lt
  have c0 := hR.cell 0
  simp only [rcells, List.getElem?_toArray, List.getElem?_cons_zero] at c0
  clear hB hn hT hL hR
  go_enter Try.func44, Try.ntmps44
  go_wp2_with fail
  go_region_held3 (fun w' => Core w w' L R t (lcells l b k last ev) (rcells true L n T lr) ∧
    w'.cell? ⟨w.heap.size, 0, none⟩ = some (.int .u64 (ns t)) ∧ w'.cell? ⟨w.heap.size, 1, none⟩ = some (.int .i64 (sc t)) ∧ w'.cell? ⟨w.heap.size, 2, none⟩ = some (.pointer none) ∧
    w'.cell? ⟨R, 0, none⟩ = some (.bool true) ∧ w'.cell? ⟨R, 1, none⟩ = some (.pointer (some ⟨L, 0, none⟩)) ∧ w'.cell? ⟨R, 2, none⟩ = some (.int .i64 n) ∧
    w'.cell? ⟨R, 3, none⟩ = some (.int .u64 (ns T)) ∧ w'.cell? ⟨R, 4, none⟩ = some (.int .i64 (sc T)) ∧ w'.cell? ⟨R, 5, none⟩ = some (.pointer none) ∧ w'.cell? ⟨R, 6, none⟩ = some (.float .f64 lr) ∧
    w'.cell? ⟨L, 0, none⟩ = some (.float .f64 l) ∧ w'.cell? ⟨L, 1, none⟩ = some (.int .i64 b) ∧ w'.cell? ⟨L, 6, none⟩ = some (.int .u64 (ns ev)) ∧ w'.cell? ⟨L, 7, none⟩ = some (.int .i64 (sc ev)) ∧ w'.cell? ⟨L, 8, none⟩ = some (.pointer none))
    (first | assumption | exact START.out | (refine Core.step hb1 ?_; assumption))
    (first | (go_at_call 53; refine (HB.out _).mono ?_; rintro e w' ⟨rfl, hb1⟩))
  rename_i hS
  obtain ⟨⟨hS0, _⟩, _⟩ := hS
  go_wp2_with fail
  refine bodyPost_ret (results_none rfl _ _ _) rfl ⟨rfl, hS0⟩

end Go.Proofs.Ytndkiphlpddbaaa
