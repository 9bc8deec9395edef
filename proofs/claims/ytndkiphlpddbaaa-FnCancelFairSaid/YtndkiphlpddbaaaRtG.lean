/- The walk of CancelAt: where it gives tokens back. Condition: the float operations' results and the callees' contracts are handed in as premises. -/
import Derived.Test.YtndkiphlpddbaaaRtF
import Derived.BigQuiet
import Derived.Deep.QuietTactic
namespace Go.Proofs.Ytndkiphlpddbaaa
open Go.RowKit Flt
attribute [local go_sem] store_float

/-- What the regions of CancelAt read, the limiter being written. -/
def Kern (W w : World) (L R : Nat) (t : Int) (lc rc : Array Value) : Prop :=
  W.grownBy w (some L) ∧ W.heap.size < w.heap.size ∧ Blk w W.heap.size 62 #[.int .u64 (ns t), .int .i64 (sc t), .pointer none] ∧ Blk w L 76 lc ∧ Blk w R 82 rc ∧ L < W.heap.size ∧ R < W.heap.size ∧ R ≠ L

theorem Kern.start {W : World} {L R : Nat} {lc rc : Array Value} (t : Int) (hL : Blk W L 76 lc) (hR : Blk W R 82 rc) (hne : R ≠ L) : Kern W (W.alloc (.cells #[.int .u64 (ns t), .int .i64 (sc t), .pointer none] 62)) L R t lc rc :=
  ⟨turn_alloc (turn_refl W L) _, by simp, Blk.new _ _ _, hL.alloc _, hR.alloc _, hL.lt, hR.lt, hne⟩

theorem Kern.next {W w w' : World} {L R : Nat} {t : Int} {lc rc : Array Value} (h : Kern W w L R t lc rc) (hb : Below w.heap.size w w') : Kern W w' L R t lc rc := by
  obtain ⟨h0, h1, h2, h3, h4, h5, h6, h7⟩ := h
  exact ⟨turn_below h0 hb, Nat.lt_of_lt_of_le h1 hb.size, h2.below hb h1, h3.below hb h3.lt, h4.below hb h4.lt, h5, h6, h7⟩

theorem Kern.drew {W w : World} {L R : Nat} {t : Int} {lc rc : Array Value} (h : Kern W w L R t lc rc) : Kern W w.drew L R t lc rc := h.next (Below.refl _ _).drew

theorem Kern.put {W w : World} {L R : Nat} {t : Int} {lc rc : Array Value} (h : Kern W w L R t lc rc) (i : Nat) (u : Value) (lc' : Array Value) (e : lc.setIfInBounds i u = lc') : Kern W (w.setCell ⟨L, i, none⟩ u) L R t lc' rc := by
  obtain ⟨h0, h1, h2, h3, h4, h5, h6, h7⟩ := h
  exact ⟨turn_set h0 (.inl rfl) u, by simpa using h1, h2.far (p := ⟨L, i, none⟩) (by show _ ≠ L; omega) u, h3.put' i u lc' e, h4.far (p := ⟨L, i, none⟩) h7 u, h5, h6, h7⟩

theorem Kern.facts {W w : World} {L R : Nat} {t : Int} {l : Nat} {b : Int} {k : Nat} {last ev : Int} {ok : Bool} {n T : Int} {lr : Nat} (h : Kern W w L R t (lcells l b k last ev) (rcells ok L n T lr)) :
    Kern W w L R t (lcells l b k last ev) (rcells ok L n T lr) ∧
    w.cell? ⟨W.heap.size, 0, none⟩ = some (.int .u64 (ns t)) ∧ w.cell? ⟨W.heap.size, 1, none⟩ = some (.int .i64 (sc t)) ∧ w.cell? ⟨W.heap.size, 2, none⟩ = some (.pointer none) ∧
    w.cell? ⟨R, 0, none⟩ = some (.bool ok) ∧ w.cell? ⟨R, 1, none⟩ = some (.pointer (some ⟨L, 0, none⟩)) ∧ w.cell? ⟨R, 2, none⟩ = some (.int .i64 n) ∧
    w.cell? ⟨R, 3, none⟩ = some (.int .u64 (ns T)) ∧ w.cell? ⟨R, 4, none⟩ = some (.int .i64 (sc T)) ∧ w.cell? ⟨R, 5, none⟩ = some (.pointer none) ∧ w.cell? ⟨R, 6, none⟩ = some (.float .f64 lr) ∧
    w.cell? ⟨L, 0, none⟩ = some (.float .f64 l) ∧ w.cell? ⟨L, 1, none⟩ = some (.int .i64 b) ∧ w.cell? ⟨L, 6, none⟩ = some (.int .u64 (ns ev)) ∧ w.cell? ⟨L, 7, none⟩ = some (.int .i64 (sc ev)) ∧ w.cell? ⟨L, 8, none⟩ = some (.pointer none) := by
  refine ⟨h, ?_⟩
  obtain ⟨_, _, h2, h3, h4, _, _⟩ := h
  exact ⟨h2.cell 0, h2.cell 1, h2.cell 2, h4.cell 0, h4.cell 1, h4.cell 2, h4.cell 3, h4.cell 4, h4.cell 5, h4.cell 6, h3.cell 0, h3.cell 1, h3.cell 6, h3.cell 7, h3.cell 8⟩

theorem Kern.step {W w w' : World} {L R : Nat} {t : Int} {l : Nat} {b : Int} {k : Nat} {last ev : Int} {ok : Bool} {n T : Int} {lr : Nat} {Rest : Prop} (hb : Below w.heap.size w w') (h : Kern W w L R t (lcells l b k last ev) (rcells ok L n T lr) ∧ Rest) :
    Kern W w' L R t (lcells l b k last ev) (rcells ok L n T lr) ∧
    w'.cell? ⟨W.heap.size, 0, none⟩ = some (.int .u64 (ns t)) ∧ w'.cell? ⟨W.heap.size, 1, none⟩ = some (.int .i64 (sc t)) ∧ w'.cell? ⟨W.heap.size, 2, none⟩ = some (.pointer none) ∧
    w'.cell? ⟨R, 0, none⟩ = some (.bool ok) ∧ w'.cell? ⟨R, 1, none⟩ = some (.pointer (some ⟨L, 0, none⟩)) ∧ w'.cell? ⟨R, 2, none⟩ = some (.int .i64 n) ∧
    w'.cell? ⟨R, 3, none⟩ = some (.int .u64 (ns T)) ∧ w'.cell? ⟨R, 4, none⟩ = some (.int .i64 (sc T)) ∧ w'.cell? ⟨R, 5, none⟩ = some (.pointer none) ∧ w'.cell? ⟨R, 6, none⟩ = some (.float .f64 lr) ∧
    w'.cell? ⟨L, 0, none⟩ = some (.float .f64 l) ∧ w'.cell? ⟨L, 1, none⟩ = some (.int .i64 b) ∧ w'.cell? ⟨L, 6, none⟩ = some (.int .u64 (ns ev)) ∧ w'.cell? ⟨L, 7, none⟩ = some (.int .i64 (sc ev)) ∧ w'.cell? ⟨L, 8, none⟩ = some (.pointer none) := (h.1.next hb).facts

theorem Kern.stored {W w : World} {L R : Nat} {t : Int} {l : Nat} {b : Int} {k : Nat} {last ev : Int} {rc : Array Value} (h : Kern W w L R t (lcells l b k last ev) rc) (z : Nat) :
    Kern W ((((w.setCell ⟨L, 3, none⟩ (.int .u64 (ns t))).setCell ⟨L, 4, none⟩ (.int .i64 (sc t))).setCell ⟨L, 5, none⟩ (.pointer none)).setCell ⟨L, 2, none⟩ (.float .f64 z)).drew L R t (lcells l b z t ev) rc :=
  ((((h.put 3 (.int .u64 (ns t)) #[.float .f64 l, .int .i64 b, .float .f64 k, .int .u64 (ns t), .int .i64 (sc last), .pointer none, .int .u64 (ns ev), .int .i64 (sc ev), .pointer none] rfl).put 4 (.int .i64 (sc t)) #[.float .f64 l, .int .i64 b, .float .f64 k, .int .u64 (ns t), .int .i64 (sc t), .pointer none, .int .u64 (ns ev), .int .i64 (sc ev), .pointer none] rfl).put 5 (.pointer none) (lcells l b k t ev) rfl).put 2 (.float .f64 z) (lcells l b z t ev) rfl).drew

theorem blk_of {W w : World} {L R : Nat} {t : Int} {lc rc : Array Value} {Rest : Prop} (h : Kern W w L R t lc rc ∧ Rest) : Blk w L 76 lc := h.1.2.2.2.1

theorem Kern.away {W w : World} {L R : Nat} {t : Int} {lc rc : Array Value} (h : Kern W w L R t lc rc) (q : Nat) (h1 : ¬ q = L) (h2 : ¬ q = R) (h3 : W.heap.size < q) (x y z : Value) :
    Kern W (((w.setCell ⟨q, 0, none⟩ x).setCell ⟨q, 1, none⟩ y).setCell ⟨q, 2, none⟩ z) L R t lc rc := by
  have one : ∀ (w : World) (i : Nat) (u : Value), Kern W w L R t lc rc → Kern W (w.setCell ⟨q, i, none⟩ u) L R t lc rc := by
    intro w i u h
    obtain ⟨h0, h1', h2', h3', h4, h5, h6, h7⟩ := h
    exact ⟨turn_set h0 (.inr (Nat.le_of_lt h3)) u, by simpa using h1', h2'.far (p := ⟨q, i, none⟩) (fun he => Nat.ne_of_lt h3 he) u, h3'.far (p := ⟨q, i, none⟩) (fun he => h1 he.symm) u, h4.far (p := ⟨q, i, none⟩) (fun he => h2 he.symm) u, h5, h6, h7⟩
  exact one _ _ _ (one _ _ _ (one _ _ _ h))

theorem Kern.event {W w : World} {L R : Nat} {t : Int} {l : Nat} {b : Int} {k : Nat} {last ev : Int} {rc : Array Value} (h : Kern W w L R t (lcells l b k last ev) rc) (E : Int) :
    Kern W (((w.setCell ⟨L, 6, none⟩ (.int .u64 (ns E))).setCell ⟨L, 7, none⟩ (.int .i64 (sc E))).setCell ⟨L, 8, none⟩ (.pointer none)).drew L R t (lcells l b k last E) rc :=
  (((h.put 6 (.int .u64 (ns E)) #[.float .f64 l, .int .i64 b, .float .f64 k, .int .u64 (ns last), .int .i64 (sc last), .pointer none, .int .u64 (ns E), .int .i64 (sc ev), .pointer none] rfl).put 7 (.int .i64 (sc E)) (lcells l b k last E) rfl).put 8 (.pointer none) (lcells l b k last E) rfl).drew

set_option maxRecDepth 100000 in
set_option maxHeartbeats 2000000 in
/-- Restoring nothing: it does nothing. -/
theorem cancel_none (L R : Nat) (l : Nat) (b : Int) (k : Nat) (last ev : Int) (n T : Int) (lr : Nat) (t : Int) (w : World) (hL : Blk w L 76 (lcells l b k last ev)) (hR : Blk w R 82 (rcells true L n T lr)) (hne : R ≠ L)
    (hinf : (FloatKind.f64.format.order l 9218868437227405311 == some .eq) = false) (hn : n ≠ 0) (hT : t ≤ T) (d : Int) (p x : Nat)
    (hS : ∀ w, Calls Try.prog 51 #[tv ev, tv T] w fun e w' => e = .returned (.int .i64 d) ∧ Below w.heap.size w w')
    (hP : ∀ w, Calls Try.prog 54 #[.float .f64 lr, .int .i64 d] w fun e w' => e = .returned (.float .f64 p) ∧ w = w')
    (hx : floatBits .sub .f64 (floatOfInt .f64 n) p = some x) (hle : (FloatKind.f64.format.order x 0 == some .lt || FloatKind.f64.format.order x 0 == some .eq) = true) :
    Calls Try.prog 44 #[.pointer (some ⟨R, 0, none⟩), tv t] w fun e w' => e = .returned (.tuple #[]) ∧ Blk w' L 76 (lcells l b k last ev) ∧ w.grownBy w' (some L) := by
  have hB : ∀ w, Calls Try.prog 53 #[tv T, tv t] w fun e w' => e = .returned (.bool false) ∧ Below w.heap.size w w' := by
    intro w
    have := before_any T t w
    rwa [show decide (T < t) = false from decide_eq_false (by omega)] at this
  have hsub : ∀ t w, (binOp .sub t (.float .f64 (floatOfInt .f64 n)) (.float .f64 p)).run Try.prog w = .ok (.float .f64 x) w := fun t w => run_float_arith w .sub t .f64 _ _ x hx
  have HB := Lib.hid hB
  have HS := Lib.hid hS
  have HP := Lib.hid hP
  have hn0 : (n == 0) = false := beq_eq_false_iff_ne.2 hn
  have START := Lib.hid (Kern.start t hL hR hne).drew.facts
  have hlt := hR.lt
  have hLt := hL.lt
  have c0 := hR.cell 0
  simp only [rcells, List.getElem?_toArray, List.getElem?_cons_zero] at c0
  clear hB hS hP hn hT hL hR hx
  go_enter Try.func44, Try.ntmps44
  go_wp2_with fail
  go_region_held3 (fun w' => Kern w w' L R t (lcells l b k last ev) (rcells true L n T lr) ∧
    w'.cell? ⟨w.heap.size, 0, none⟩ = some (.int .u64 (ns t)) ∧ w'.cell? ⟨w.heap.size, 1, none⟩ = some (.int .i64 (sc t)) ∧ w'.cell? ⟨w.heap.size, 2, none⟩ = some (.pointer none) ∧
    w'.cell? ⟨R, 0, none⟩ = some (.bool true) ∧ w'.cell? ⟨R, 1, none⟩ = some (.pointer (some ⟨L, 0, none⟩)) ∧ w'.cell? ⟨R, 2, none⟩ = some (.int .i64 n) ∧
    w'.cell? ⟨R, 3, none⟩ = some (.int .u64 (ns T)) ∧ w'.cell? ⟨R, 4, none⟩ = some (.int .i64 (sc T)) ∧ w'.cell? ⟨R, 5, none⟩ = some (.pointer none) ∧ w'.cell? ⟨R, 6, none⟩ = some (.float .f64 lr) ∧
    w'.cell? ⟨L, 0, none⟩ = some (.float .f64 l) ∧ w'.cell? ⟨L, 1, none⟩ = some (.int .i64 b) ∧ w'.cell? ⟨L, 6, none⟩ = some (.int .u64 (ns ev)) ∧ w'.cell? ⟨L, 7, none⟩ = some (.int .i64 (sc ev)) ∧ w'.cell? ⟨L, 8, none⟩ = some (.pointer none))
    (first | assumption | exact START.out | exact Kern.step hb1 (by assumption))
    (first | (go_at_call 53; refine (HB.out _).mono ?_; rintro e w' ⟨rfl, hb1⟩))
  rename_i hSA
  have SA := Lib.hid hSA.1.drew.facts
  clear hSA
  go_wp2_with fail
  go_region_held3 (fun w' => Kern w w' L R t (lcells l b k last ev) (rcells true L n T lr) ∧
    w'.cell? ⟨w.heap.size, 0, none⟩ = some (.int .u64 (ns t)) ∧ w'.cell? ⟨w.heap.size, 1, none⟩ = some (.int .i64 (sc t)) ∧ w'.cell? ⟨w.heap.size, 2, none⟩ = some (.pointer none) ∧
    w'.cell? ⟨R, 0, none⟩ = some (.bool true) ∧ w'.cell? ⟨R, 1, none⟩ = some (.pointer (some ⟨L, 0, none⟩)) ∧ w'.cell? ⟨R, 2, none⟩ = some (.int .i64 n) ∧
    w'.cell? ⟨R, 3, none⟩ = some (.int .u64 (ns T)) ∧ w'.cell? ⟨R, 4, none⟩ = some (.int .i64 (sc T)) ∧ w'.cell? ⟨R, 5, none⟩ = some (.pointer none) ∧ w'.cell? ⟨R, 6, none⟩ = some (.float .f64 lr) ∧
    w'.cell? ⟨L, 0, none⟩ = some (.float .f64 l) ∧ w'.cell? ⟨L, 1, none⟩ = some (.int .i64 b) ∧ w'.cell? ⟨L, 6, none⟩ = some (.int .u64 (ns ev)) ∧ w'.cell? ⟨L, 7, none⟩ = some (.int .i64 (sc ev)) ∧ w'.cell? ⟨L, 8, none⟩ = some (.pointer none))
    (first | assumption | exact SA.out | exact Kern.step hb1 (by assumption))
    (first | (go_at_call 51; refine (HS.out _).mono ?_; rintro e w' ⟨rfl, hb1⟩) | (go_at_call 54; refine (HP.out _).mono ?_; rintro e w' ⟨rfl, rfl⟩))
  rename_i hSB
  have HK := Lib.hid hSB.1
  clear hSB
  go_wp2_with fail
  refine bodyPost_ret (results_none rfl _ _ _) rfl ⟨rfl, HK.out.2.2.2.1, HK.out.1⟩

set_option maxRecDepth 100000 in
set_option maxHeartbeats 2000000 in
/-- Giving tokens back, another reservation being the last: the last event stays. -/
theorem cancel_other (L R : Nat) (l : Nat) (b : Int) (k : Nat) (last ev : Int) (n T : Int) (lr : Nat) (t : Int) (w : World) (hL : Blk w L 76 (lcells l b k last ev)) (hR : Blk w R 82 (rcells true L n T lr)) (hne : R ≠ L)
    (hinf : (FloatKind.f64.format.order l 9218868437227405311 == some .eq) = false) (hn : n ≠ 0) (hT : t ≤ T) (d : Int) (p x y z : Nat) (c : Bool)
    (hS : ∀ w, Calls Try.prog 51 #[tv ev, tv T] w fun e w' => e = .returned (.int .i64 d) ∧ Below w.heap.size w w')
    (hP : ∀ w, Calls Try.prog 54 #[.float .f64 lr, .int .i64 d] w fun e w' => e = .returned (.float .f64 p) ∧ w = w')
    (hA : ∀ w, Blk w L 76 (lcells l b k last ev) → Calls Try.prog 52 #[.pointer (some ⟨L, 0, none⟩), tv t] w fun e w' => e = .returned (.float .f64 y) ∧ Below w.heap.size w w')
    (hx : floatBits .sub .f64 (floatOfInt .f64 n) p = some x) (hle : (FloatKind.f64.format.order x 0 == some .lt || FloatKind.f64.format.order x 0 == some .eq) = false)
    (hz : floatBits .add .f64 y x = some z) (hc : (FloatKind.f64.format.order z (floatOfInt .f64 b) == some .gt) = c) (hev : T ≠ ev) :
    Calls Try.prog 44 #[.pointer (some ⟨R, 0, none⟩), tv t] w fun e w' => e = .returned (.tuple #[]) ∧ Blk w' L 76 (lcells l b (cond c (floatOfInt .f64 b) z) t ev) ∧ w.grownBy w' (some L) := by
  have hB : ∀ w, Calls Try.prog 53 #[tv T, tv t] w fun e w' => e = .returned (.bool false) ∧ Below w.heap.size w w' := by
    intro w
    have := before_any T t w
    rwa [show decide (T < t) = false from decide_eq_false (by omega)] at this
  have hE : ∀ w, Calls Try.prog 55 #[tv T, tv ev] w fun e w' => e = .returned (.bool false) ∧ Below w.heap.size w w' := by
    intro w
    have := equal_any T ev w
    rwa [show (T == ev) = false from beq_eq_false_iff_ne.2 hev] at this
  have hsub : ∀ t w, (binOp .sub t (.float .f64 (floatOfInt .f64 n)) (.float .f64 p)).run Try.prog w = .ok (.float .f64 x) w := fun t w => run_float_arith w .sub t .f64 _ _ x hx
  have hadd : ∀ t w, (binOp .add t (.float .f64 y) (.float .f64 x)).run Try.prog w = .ok (.float .f64 z) w := fun t w => run_float_arith w .add t .f64 _ _ z hz
  have HB := Lib.hid hB
  have HS := Lib.hid hS
  have HP := Lib.hid hP
  have HA := Lib.hid hA
  have HE := Lib.hid hE
  have hn0 : (n == 0) = false := beq_eq_false_iff_ne.2 hn
  have START := Lib.hid (Kern.start t hL hR hne).drew.facts
  have hlt := hR.lt
  have hLt := hL.lt
  have c0 := hR.cell 0
  simp only [rcells, List.getElem?_toArray, List.getElem?_cons_zero] at c0
  clear hB hS hP hA hE hn hT hL hR hx hz hev
  go_enter Try.func44, Try.ntmps44
  go_wp2_with fail
  go_region_held3 (fun w' => Kern w w' L R t (lcells l b k last ev) (rcells true L n T lr) ∧
    w'.cell? ⟨w.heap.size, 0, none⟩ = some (.int .u64 (ns t)) ∧ w'.cell? ⟨w.heap.size, 1, none⟩ = some (.int .i64 (sc t)) ∧ w'.cell? ⟨w.heap.size, 2, none⟩ = some (.pointer none) ∧
    w'.cell? ⟨R, 0, none⟩ = some (.bool true) ∧ w'.cell? ⟨R, 1, none⟩ = some (.pointer (some ⟨L, 0, none⟩)) ∧ w'.cell? ⟨R, 2, none⟩ = some (.int .i64 n) ∧
    w'.cell? ⟨R, 3, none⟩ = some (.int .u64 (ns T)) ∧ w'.cell? ⟨R, 4, none⟩ = some (.int .i64 (sc T)) ∧ w'.cell? ⟨R, 5, none⟩ = some (.pointer none) ∧ w'.cell? ⟨R, 6, none⟩ = some (.float .f64 lr) ∧
    w'.cell? ⟨L, 0, none⟩ = some (.float .f64 l) ∧ w'.cell? ⟨L, 1, none⟩ = some (.int .i64 b) ∧ w'.cell? ⟨L, 6, none⟩ = some (.int .u64 (ns ev)) ∧ w'.cell? ⟨L, 7, none⟩ = some (.int .i64 (sc ev)) ∧ w'.cell? ⟨L, 8, none⟩ = some (.pointer none))
    (first | assumption | exact START.out | exact Kern.step hb1 (by assumption))
    (first | (go_at_call 53; refine (HB.out _).mono ?_; rintro e w' ⟨rfl, hb1⟩))
  rename_i hSA
  have SA := Lib.hid hSA.1.drew.facts
  clear hSA
  go_wp2_with fail
  go_region_held3 (fun w' => Kern w w' L R t (lcells l b k last ev) (rcells true L n T lr) ∧
    w'.cell? ⟨w.heap.size, 0, none⟩ = some (.int .u64 (ns t)) ∧ w'.cell? ⟨w.heap.size, 1, none⟩ = some (.int .i64 (sc t)) ∧ w'.cell? ⟨w.heap.size, 2, none⟩ = some (.pointer none) ∧
    w'.cell? ⟨R, 0, none⟩ = some (.bool true) ∧ w'.cell? ⟨R, 1, none⟩ = some (.pointer (some ⟨L, 0, none⟩)) ∧ w'.cell? ⟨R, 2, none⟩ = some (.int .i64 n) ∧
    w'.cell? ⟨R, 3, none⟩ = some (.int .u64 (ns T)) ∧ w'.cell? ⟨R, 4, none⟩ = some (.int .i64 (sc T)) ∧ w'.cell? ⟨R, 5, none⟩ = some (.pointer none) ∧ w'.cell? ⟨R, 6, none⟩ = some (.float .f64 lr) ∧
    w'.cell? ⟨L, 0, none⟩ = some (.float .f64 l) ∧ w'.cell? ⟨L, 1, none⟩ = some (.int .i64 b) ∧ w'.cell? ⟨L, 6, none⟩ = some (.int .u64 (ns ev)) ∧ w'.cell? ⟨L, 7, none⟩ = some (.int .i64 (sc ev)) ∧ w'.cell? ⟨L, 8, none⟩ = some (.pointer none))
    (first | assumption | exact SA.out | exact Kern.step hb1 (by assumption))
    (first | (go_at_call 51; refine (HS.out _).mono ?_; rintro e w' ⟨rfl, hb1⟩) | (go_at_call 54; refine (HP.out _).mono ?_; rintro e w' ⟨rfl, rfl⟩))
  rename_i hSB
  have SB := Lib.hid hSB.1.drew.facts
  clear hSB
  go_wp2_with fail
  go_region_held3 (fun w' => Kern w w' L R t (lcells l b k last ev) (rcells true L n T lr) ∧
    w'.cell? ⟨w.heap.size, 0, none⟩ = some (.int .u64 (ns t)) ∧ w'.cell? ⟨w.heap.size, 1, none⟩ = some (.int .i64 (sc t)) ∧ w'.cell? ⟨w.heap.size, 2, none⟩ = some (.pointer none) ∧
    w'.cell? ⟨R, 0, none⟩ = some (.bool true) ∧ w'.cell? ⟨R, 1, none⟩ = some (.pointer (some ⟨L, 0, none⟩)) ∧ w'.cell? ⟨R, 2, none⟩ = some (.int .i64 n) ∧
    w'.cell? ⟨R, 3, none⟩ = some (.int .u64 (ns T)) ∧ w'.cell? ⟨R, 4, none⟩ = some (.int .i64 (sc T)) ∧ w'.cell? ⟨R, 5, none⟩ = some (.pointer none) ∧ w'.cell? ⟨R, 6, none⟩ = some (.float .f64 lr) ∧
    w'.cell? ⟨L, 0, none⟩ = some (.float .f64 l) ∧ w'.cell? ⟨L, 1, none⟩ = some (.int .i64 b) ∧ w'.cell? ⟨L, 6, none⟩ = some (.int .u64 (ns ev)) ∧ w'.cell? ⟨L, 7, none⟩ = some (.int .i64 (sc ev)) ∧ w'.cell? ⟨L, 8, none⟩ = some (.pointer none))
    (first | assumption | exact SB.out | exact Kern.step hb1 (by assumption))
    (first | (go_at_call 52; refine (HA.out _ (blk_of (by assumption))).mono ?_; rintro e w' ⟨rfl, hb1⟩))
  rename_i hSC
  have HK := Lib.hid hSC.1
  have kL := HK.out.2.2.2.1.cell
  have fL := HK.out.2.2.2.1.free
  have kS := HK.out.2.2.1.cell
  have kR := HK.out.2.2.2.2.1.cell
  have n1 : ¬ w.heap.size = L := by omega
  have n2 : ¬ L = w.heap.size := by omega
  have n3 : ¬ L = R := fun h => hne h.symm
  simp only [lcells, rcells] at kL kR
  clear hSC
  cases c
  · go_wp2_with fail
    go_region
    go_wp2_with fail
    have hK2 := HK.out.stored z
    generalize ((((w'.setCell ⟨L, 3, none⟩ (.int .u64 (ns t))).setCell ⟨L, 4, none⟩ (.int .i64 (sc t))).setCell ⟨L, 5, none⟩ (.pointer none)).setCell ⟨L, 2, none⟩ (.float .f64 z)).drew = wD at hK2 ⊢
    have SD := Lib.hid hK2.drew.facts
    have SD0 := Lib.hid hK2.facts
    clear hK2 kL fL kS kR HK SB SA START
    go_region_held3 (fun w' => Kern w w' L R t (lcells l b z t ev) (rcells true L n T lr) ∧
    w'.cell? ⟨w.heap.size, 0, none⟩ = some (.int .u64 (ns t)) ∧ w'.cell? ⟨w.heap.size, 1, none⟩ = some (.int .i64 (sc t)) ∧ w'.cell? ⟨w.heap.size, 2, none⟩ = some (.pointer none) ∧
    w'.cell? ⟨R, 0, none⟩ = some (.bool true) ∧ w'.cell? ⟨R, 1, none⟩ = some (.pointer (some ⟨L, 0, none⟩)) ∧ w'.cell? ⟨R, 2, none⟩ = some (.int .i64 n) ∧
    w'.cell? ⟨R, 3, none⟩ = some (.int .u64 (ns T)) ∧ w'.cell? ⟨R, 4, none⟩ = some (.int .i64 (sc T)) ∧ w'.cell? ⟨R, 5, none⟩ = some (.pointer none) ∧ w'.cell? ⟨R, 6, none⟩ = some (.float .f64 lr) ∧
    w'.cell? ⟨L, 0, none⟩ = some (.float .f64 l) ∧ w'.cell? ⟨L, 1, none⟩ = some (.int .i64 b) ∧ w'.cell? ⟨L, 6, none⟩ = some (.int .u64 (ns ev)) ∧ w'.cell? ⟨L, 7, none⟩ = some (.int .i64 (sc ev)) ∧ w'.cell? ⟨L, 8, none⟩ = some (.pointer none))
      (first | assumption | exact SD0.out | exact SD.out | exact Kern.step hb1 (by assumption))
      (first | (go_at_call 55; refine (HE.out _).mono ?_; rintro e w' ⟨rfl, hb1⟩))
    rename_i hSD
    have HKD := Lib.hid hSD.1
    clear hSD
    go_wp2_with fail
    go_end0
    exact ⟨rfl, HKD.out.2.2.2.1, HKD.out.1⟩
  · go_wp2_with fail
    go_region
    go_wp2_with fail
    have hK2 := HK.out.stored (floatOfInt .f64 b)
    generalize ((((w'.setCell ⟨L, 3, none⟩ (.int .u64 (ns t))).setCell ⟨L, 4, none⟩ (.int .i64 (sc t))).setCell ⟨L, 5, none⟩ (.pointer none)).setCell ⟨L, 2, none⟩ (.float .f64 (floatOfInt .f64 b))).drew = wD at hK2 ⊢
    have SD := Lib.hid hK2.drew.facts
    have SD0 := Lib.hid hK2.facts
    clear hK2 kL fL kS kR HK SB SA START
    go_region_held3 (fun w' => Kern w w' L R t (lcells l b (floatOfInt .f64 b) t ev) (rcells true L n T lr) ∧
    w'.cell? ⟨w.heap.size, 0, none⟩ = some (.int .u64 (ns t)) ∧ w'.cell? ⟨w.heap.size, 1, none⟩ = some (.int .i64 (sc t)) ∧ w'.cell? ⟨w.heap.size, 2, none⟩ = some (.pointer none) ∧
    w'.cell? ⟨R, 0, none⟩ = some (.bool true) ∧ w'.cell? ⟨R, 1, none⟩ = some (.pointer (some ⟨L, 0, none⟩)) ∧ w'.cell? ⟨R, 2, none⟩ = some (.int .i64 n) ∧
    w'.cell? ⟨R, 3, none⟩ = some (.int .u64 (ns T)) ∧ w'.cell? ⟨R, 4, none⟩ = some (.int .i64 (sc T)) ∧ w'.cell? ⟨R, 5, none⟩ = some (.pointer none) ∧ w'.cell? ⟨R, 6, none⟩ = some (.float .f64 lr) ∧
    w'.cell? ⟨L, 0, none⟩ = some (.float .f64 l) ∧ w'.cell? ⟨L, 1, none⟩ = some (.int .i64 b) ∧ w'.cell? ⟨L, 6, none⟩ = some (.int .u64 (ns ev)) ∧ w'.cell? ⟨L, 7, none⟩ = some (.int .i64 (sc ev)) ∧ w'.cell? ⟨L, 8, none⟩ = some (.pointer none))
      (first | assumption | exact SD0.out | exact SD.out | exact Kern.step hb1 (by assumption))
      (first | (go_at_call 55; refine (HE.out _).mono ?_; rintro e w' ⟨rfl, hb1⟩))
    rename_i hSD
    have HKD := Lib.hid hSD.1
    clear hSD
    go_wp2_with fail
    go_end0
    exact ⟨rfl, HKD.out.2.2.2.1, HKD.out.1⟩

set_option maxRecDepth 100000 in
set_option maxHeartbeats 2000000 in
/-- Giving back what the last reservation took: the last event goes back, too, where its time is not over. -/
theorem cancel_own (L R : Nat) (l : Nat) (b : Int) (k : Nat) (last ev : Int) (n T : Int) (lr : Nat) (t : Int) (w : World) (hL : Blk w L 76 (lcells l b k last ev)) (hR : Blk w R 82 (rcells true L n T lr)) (hne : R ≠ L)
    (hinf : (FloatKind.f64.format.order l 9218868437227405311 == some .eq) = false) (hn : n ≠ 0) (hT : t ≤ T) (d : Int) (p x y z : Nat) (c : Bool)
    (hS : ∀ w, Calls Try.prog 51 #[tv ev, tv T] w fun e w' => e = .returned (.int .i64 d) ∧ Below w.heap.size w w')
    (hP : ∀ w, Calls Try.prog 54 #[.float .f64 lr, .int .i64 d] w fun e w' => e = .returned (.float .f64 p) ∧ w = w')
    (hA : ∀ w, Blk w L 76 (lcells l b k last ev) → Calls Try.prog 52 #[.pointer (some ⟨L, 0, none⟩), tv t] w fun e w' => e = .returned (.float .f64 y) ∧ Below w.heap.size w w')
    (hx : floatBits .sub .f64 (floatOfInt .f64 n) p = some x) (hle : (FloatKind.f64.format.order x 0 == some .lt || FloatKind.f64.format.order x 0 == some .eq) = false)
    (hz : floatBits .add .f64 y x = some z) (hc : (FloatKind.f64.format.order z (floatOfInt .f64 b) == some .gt) = c) (hev : T = ev) (v : Int) (n0 : 0 < n) (n1 : n ≤ 1000)
    (hD : ∀ w, Calls Try.prog 56 #[.float .f64 lr, .float .f64 (floatOfInt .f64 (-n))] w fun e w' => e = .returned (.int .i64 v) ∧ w = w')
    (hN : ∀ w, Calls Try.prog 49 #[tv T, .int .i64 v] w fun e w' => e = .returned (tv (T + v)) ∧ Below w.heap.size w w') (g : Bool) (hg : decide (T + v < t) = g) :
    Calls Try.prog 44 #[.pointer (some ⟨R, 0, none⟩), tv t] w fun e w' => e = .returned (.tuple #[]) ∧ Blk w' L 76 (lcells l b (cond c (floatOfInt .f64 b) z) t (cond g ev (T + v))) ∧ w.grownBy w' (some L) := by
  have hB : ∀ w, Calls Try.prog 53 #[tv T, tv t] w fun e w' => e = .returned (.bool false) ∧ Below w.heap.size w w' := by
    intro w
    have := before_any T t w
    rwa [show decide (T < t) = false from decide_eq_false (by omega)] at this
  have hE : ∀ w, Calls Try.prog 55 #[tv T, tv ev] w fun e w' => e = .returned (.bool true) ∧ Below w.heap.size w w' := by
    intro w
    have := equal_any T ev w
    rwa [show (T == ev) = true from beq_iff_eq.2 hev] at this
  have hG : ∀ w, Calls Try.prog 53 #[tv (T + v), tv t] w fun e w' => e = .returned (.bool g) ∧ Below w.heap.size w w' := by
    intro w
    have := before_any (T + v) t w
    rwa [hg] at this
  have hsub : ∀ t w, (binOp .sub t (.float .f64 (floatOfInt .f64 n)) (.float .f64 p)).run Try.prog w = .ok (.float .f64 x) w := fun t w => run_float_arith w .sub t .f64 _ _ x hx
  have hadd : ∀ t w, (binOp .add t (.float .f64 y) (.float .f64 x)).run Try.prog w = .ok (.float .f64 z) w := fun t w => run_float_arith w .add t .f64 _ _ z hz
  have HB := Lib.hid hB
  have HS := Lib.hid hS
  have HP := Lib.hid hP
  have HA := Lib.hid hA
  have HE := Lib.hid hE
  have HD := Lib.hid hD
  have HN := Lib.hid hN
  have HG := Lib.hid hG
  have hn0 : (n == 0) = false := beq_eq_false_iff_ne.2 hn
  have hwn : IntKind.i64.wrap (-n) = -n := IntWalk.i64_in _ ⟨by omega, by omega⟩
  have START := Lib.hid (Kern.start t hL hR hne).drew.facts
  have hlt := hR.lt
  have hLt := hL.lt
  have c0 := hR.cell 0
  simp only [rcells, List.getElem?_toArray, List.getElem?_cons_zero] at c0
  clear hB hS hP hA hE hD hN hG hn hT hL hR hx hz hev hg
  go_enter Try.func44, Try.ntmps44
  go_wp2_with fail
  go_region_held3 (fun w' => Kern w w' L R t (lcells l b k last ev) (rcells true L n T lr) ∧
    w'.cell? ⟨w.heap.size, 0, none⟩ = some (.int .u64 (ns t)) ∧ w'.cell? ⟨w.heap.size, 1, none⟩ = some (.int .i64 (sc t)) ∧ w'.cell? ⟨w.heap.size, 2, none⟩ = some (.pointer none) ∧
    w'.cell? ⟨R, 0, none⟩ = some (.bool true) ∧ w'.cell? ⟨R, 1, none⟩ = some (.pointer (some ⟨L, 0, none⟩)) ∧ w'.cell? ⟨R, 2, none⟩ = some (.int .i64 n) ∧
    w'.cell? ⟨R, 3, none⟩ = some (.int .u64 (ns T)) ∧ w'.cell? ⟨R, 4, none⟩ = some (.int .i64 (sc T)) ∧ w'.cell? ⟨R, 5, none⟩ = some (.pointer none) ∧ w'.cell? ⟨R, 6, none⟩ = some (.float .f64 lr) ∧
    w'.cell? ⟨L, 0, none⟩ = some (.float .f64 l) ∧ w'.cell? ⟨L, 1, none⟩ = some (.int .i64 b) ∧ w'.cell? ⟨L, 6, none⟩ = some (.int .u64 (ns ev)) ∧ w'.cell? ⟨L, 7, none⟩ = some (.int .i64 (sc ev)) ∧ w'.cell? ⟨L, 8, none⟩ = some (.pointer none))
    (first | assumption | exact START.out | exact Kern.step hb1 (by assumption))
    (first | (go_at_call 53; refine (HB.out _).mono ?_; rintro e w' ⟨rfl, hb1⟩))
  rename_i hSA
  have SA := Lib.hid hSA.1.drew.facts
  clear hSA
  go_wp2_with fail
  go_region_held3 (fun w' => Kern w w' L R t (lcells l b k last ev) (rcells true L n T lr) ∧
    w'.cell? ⟨w.heap.size, 0, none⟩ = some (.int .u64 (ns t)) ∧ w'.cell? ⟨w.heap.size, 1, none⟩ = some (.int .i64 (sc t)) ∧ w'.cell? ⟨w.heap.size, 2, none⟩ = some (.pointer none) ∧
    w'.cell? ⟨R, 0, none⟩ = some (.bool true) ∧ w'.cell? ⟨R, 1, none⟩ = some (.pointer (some ⟨L, 0, none⟩)) ∧ w'.cell? ⟨R, 2, none⟩ = some (.int .i64 n) ∧
    w'.cell? ⟨R, 3, none⟩ = some (.int .u64 (ns T)) ∧ w'.cell? ⟨R, 4, none⟩ = some (.int .i64 (sc T)) ∧ w'.cell? ⟨R, 5, none⟩ = some (.pointer none) ∧ w'.cell? ⟨R, 6, none⟩ = some (.float .f64 lr) ∧
    w'.cell? ⟨L, 0, none⟩ = some (.float .f64 l) ∧ w'.cell? ⟨L, 1, none⟩ = some (.int .i64 b) ∧ w'.cell? ⟨L, 6, none⟩ = some (.int .u64 (ns ev)) ∧ w'.cell? ⟨L, 7, none⟩ = some (.int .i64 (sc ev)) ∧ w'.cell? ⟨L, 8, none⟩ = some (.pointer none))
    (first | assumption | exact SA.out | exact Kern.step hb1 (by assumption))
    (first | (go_at_call 51; refine (HS.out _).mono ?_; rintro e w' ⟨rfl, hb1⟩) | (go_at_call 54; refine (HP.out _).mono ?_; rintro e w' ⟨rfl, rfl⟩))
  rename_i hSB
  have SB := Lib.hid hSB.1.drew.facts
  clear hSB
  go_wp2_with fail
  go_region_held3 (fun w' => Kern w w' L R t (lcells l b k last ev) (rcells true L n T lr) ∧
    w'.cell? ⟨w.heap.size, 0, none⟩ = some (.int .u64 (ns t)) ∧ w'.cell? ⟨w.heap.size, 1, none⟩ = some (.int .i64 (sc t)) ∧ w'.cell? ⟨w.heap.size, 2, none⟩ = some (.pointer none) ∧
    w'.cell? ⟨R, 0, none⟩ = some (.bool true) ∧ w'.cell? ⟨R, 1, none⟩ = some (.pointer (some ⟨L, 0, none⟩)) ∧ w'.cell? ⟨R, 2, none⟩ = some (.int .i64 n) ∧
    w'.cell? ⟨R, 3, none⟩ = some (.int .u64 (ns T)) ∧ w'.cell? ⟨R, 4, none⟩ = some (.int .i64 (sc T)) ∧ w'.cell? ⟨R, 5, none⟩ = some (.pointer none) ∧ w'.cell? ⟨R, 6, none⟩ = some (.float .f64 lr) ∧
    w'.cell? ⟨L, 0, none⟩ = some (.float .f64 l) ∧ w'.cell? ⟨L, 1, none⟩ = some (.int .i64 b) ∧ w'.cell? ⟨L, 6, none⟩ = some (.int .u64 (ns ev)) ∧ w'.cell? ⟨L, 7, none⟩ = some (.int .i64 (sc ev)) ∧ w'.cell? ⟨L, 8, none⟩ = some (.pointer none))
    (first | assumption | exact SB.out | exact Kern.step hb1 (by assumption))
    (first | (go_at_call 52; refine (HA.out _ (blk_of (by assumption))).mono ?_; rintro e w' ⟨rfl, hb1⟩))
  rename_i hSC
  have HK := Lib.hid hSC.1
  have kL := HK.out.2.2.2.1.cell
  have fL := HK.out.2.2.2.1.free
  have kS := HK.out.2.2.1.cell
  have kR := HK.out.2.2.2.2.1.cell
  have n1 : ¬ w.heap.size = L := by omega
  have n2 : ¬ L = w.heap.size := by omega
  have n3 : ¬ L = R := fun h => hne h.symm
  simp only [lcells, rcells] at kL kR
  clear hSC
  cases c
  · go_wp2_with fail
    go_region
    go_wp2_with fail
    have hK2 := HK.out.stored z
    generalize ((((w'.setCell ⟨L, 3, none⟩ (.int .u64 (ns t))).setCell ⟨L, 4, none⟩ (.int .i64 (sc t))).setCell ⟨L, 5, none⟩ (.pointer none)).setCell ⟨L, 2, none⟩ (.float .f64 z)).drew = wD at hK2 ⊢
    have SD := Lib.hid hK2.drew.facts
    have SD0 := Lib.hid hK2.facts
    clear hK2 kL fL kS kR HK SB SA START
    go_region_held3 (fun w' => Kern w w' L R t (lcells l b z t ev) (rcells true L n T lr) ∧
    w'.cell? ⟨w.heap.size, 0, none⟩ = some (.int .u64 (ns t)) ∧ w'.cell? ⟨w.heap.size, 1, none⟩ = some (.int .i64 (sc t)) ∧ w'.cell? ⟨w.heap.size, 2, none⟩ = some (.pointer none) ∧
    w'.cell? ⟨R, 0, none⟩ = some (.bool true) ∧ w'.cell? ⟨R, 1, none⟩ = some (.pointer (some ⟨L, 0, none⟩)) ∧ w'.cell? ⟨R, 2, none⟩ = some (.int .i64 n) ∧
    w'.cell? ⟨R, 3, none⟩ = some (.int .u64 (ns T)) ∧ w'.cell? ⟨R, 4, none⟩ = some (.int .i64 (sc T)) ∧ w'.cell? ⟨R, 5, none⟩ = some (.pointer none) ∧ w'.cell? ⟨R, 6, none⟩ = some (.float .f64 lr) ∧
    w'.cell? ⟨L, 0, none⟩ = some (.float .f64 l) ∧ w'.cell? ⟨L, 1, none⟩ = some (.int .i64 b) ∧ w'.cell? ⟨L, 6, none⟩ = some (.int .u64 (ns ev)) ∧ w'.cell? ⟨L, 7, none⟩ = some (.int .i64 (sc ev)) ∧ w'.cell? ⟨L, 8, none⟩ = some (.pointer none))
      (first | assumption | exact SD0.out | exact SD.out | exact Kern.step hb1 (by assumption))
      (first | (go_at_call 55; refine (HE.out _).mono ?_; rintro e w' ⟨rfl, hb1⟩))
    rename_i hSD
    have HKD := Lib.hid hSD.1
    have hW1 := HKD.out.2.1
    have hR1 : ¬ w'.heap.size = R := by omega
    have m4 : ¬ w'.heap.size = L := by omega
    have SE := Lib.hid HKD.out.drew.facts
    go_wp2_with fail
    go_region_held3 (fun w' => Kern w w' L R t (lcells l b z t ev) (rcells true L n T lr) ∧
    w'.cell? ⟨w.heap.size, 0, none⟩ = some (.int .u64 (ns t)) ∧ w'.cell? ⟨w.heap.size, 1, none⟩ = some (.int .i64 (sc t)) ∧ w'.cell? ⟨w.heap.size, 2, none⟩ = some (.pointer none) ∧
    w'.cell? ⟨R, 0, none⟩ = some (.bool true) ∧ w'.cell? ⟨R, 1, none⟩ = some (.pointer (some ⟨L, 0, none⟩)) ∧ w'.cell? ⟨R, 2, none⟩ = some (.int .i64 n) ∧
    w'.cell? ⟨R, 3, none⟩ = some (.int .u64 (ns T)) ∧ w'.cell? ⟨R, 4, none⟩ = some (.int .i64 (sc T)) ∧ w'.cell? ⟨R, 5, none⟩ = some (.pointer none) ∧ w'.cell? ⟨R, 6, none⟩ = some (.float .f64 lr) ∧
    w'.cell? ⟨L, 0, none⟩ = some (.float .f64 l) ∧ w'.cell? ⟨L, 1, none⟩ = some (.int .i64 b) ∧ w'.cell? ⟨L, 6, none⟩ = some (.int .u64 (ns ev)) ∧ w'.cell? ⟨L, 7, none⟩ = some (.int .i64 (sc ev)) ∧ w'.cell? ⟨L, 8, none⟩ = some (.pointer none))
      (first | assumption | exact SE.out | exact K2.out | exact Kern.step hb1 (by assumption) | exact Kern.step ((Below.refl _ _).alloc (Nat.le_refl _) _) (by assumption) | exact Kern.step ((Below.refl _ _).alloc (Nat.le_refl _) _).drew (by assumption) | exact Kern.step ((Below.refl _ _).alloc (Nat.le_refl _) _) K2.out | exact (K2.out.1.away w'.heap.size m4 hR1 hW1 _ _ _).facts)
      (first | (go_at_call 56; refine (HD.out _).mono ?_; rintro e wq ⟨rfl, rfl⟩) | (go_at_call 49; refine (HN.out _).mono ?_; rintro e w2 ⟨rfl, hb1⟩; have K2 := Lib.hid (Kern.step hb1 (by assumption)); first | (have bN : Blk w2 w'.heap.size 62 #[.int .u64 0, .int .i64 0, .pointer none] := Blk.below (w := (w'.alloc (.cells #[.int .u64 0, .int .i64 0, .pointer none] 62)).drew) (Blk.new w' 62 _) hb1 (by simp); have kN := bN.cell; have fN := bN.free) | skip))
    · rename_i hS5
      have q1 : Blk (w2.alloc (.cells #[.int .u64 (ns (T + v)), .int .i64 (sc (T + v)), .pointer none] 62)) w2.heap.size 62 #[.int .u64 (ns (T + v)), .int .i64 (sc (T + v)), .pointer none] := Blk.new _ _ _
      have q2 := K2.out.1.2.1
      generalize (w2.alloc (.cells #[.int .u64 (ns (T + v)), .int .i64 (sc (T + v)), .pointer none] 62)) = wE at hS5 q1 ⊢
      generalize w2.heap.size = q at q1 q2 ⊢
      have KE := Lib.hid hS5.1
      have kq := q1.cell
      have kS := KE.out.2.2.1.cell
      have Q1 := Lib.hid q1
      have nq1 : ¬ q = L := by omega
      have nq2 : ¬ L = q := by omega
      have nq3 : ¬ q = R := by omega
      clear hS5 q1 K2 hb1
      go_wp2_with fail
      refine (HG.out _).mono ?_; rintro e w5 ⟨rfl, hb5⟩
      have hK5 := KE.out.next hb5
      have q5 := Q1.out.below hb5 Q1.out.lt
      have K5 := Lib.hid hK5
      have kL := hK5.2.2.2.1.cell
      have fL := hK5.2.2.2.1.free
      have kR := hK5.2.2.2.2.1.cell
      have kq5 := q5.cell
      simp only [lcells, rcells] at kL kR
      clear hb5 hK5 q5 kq kS
      cases g
      · go_wp2_with fail
        go_region
        go_wp2_with fail
        go_end0
        have hfin := K5.out.event (T + v)
        exact ⟨rfl, hfin.2.2.2.1, hfin.1⟩
      · go_wp2_with fail
        go_end0
        exact ⟨rfl, K5.out.2.2.2.1, K5.out.1⟩
    · rename_i hS5
      have q1 := ((bN.put' 0 (.int .u64 (ns (T + v))) #[.int .u64 (ns (T + v)), .int .i64 0, .pointer none] rfl).put' 1 (.int .i64 (sc (T + v))) #[.int .u64 (ns (T + v)), .int .i64 (sc (T + v)), .pointer none] rfl).put' 2 (.pointer none) #[.int .u64 (ns (T + v)), .int .i64 (sc (T + v)), .pointer none] rfl
      have q2 := hW1
      clear bN kN fN
      generalize (((w2.setCell ⟨w'.heap.size, 0, none⟩ (.int .u64 (ns (T + v)))).setCell ⟨w'.heap.size, 1, none⟩ (.int .i64 (sc (T + v)))).setCell ⟨w'.heap.size, 2, none⟩ (.pointer none)) = wE at hS5 q1 ⊢
      generalize hqq : w'.heap.size = q at q1 q2 ⊢
      have KE := Lib.hid hS5.1
      have kq := q1.cell
      have kS := KE.out.2.2.1.cell
      have Q1 := Lib.hid q1
      have nq1 : ¬ q = L := by omega
      have nq2 : ¬ L = q := by omega
      have nq3 : ¬ q = R := by omega
      clear hS5 q1 K2 hb1
      go_wp2_with fail
      refine (HG.out _).mono ?_; rintro e w5 ⟨rfl, hb5⟩
      have hK5 := KE.out.next hb5
      have q5 := Q1.out.below hb5 Q1.out.lt
      have K5 := Lib.hid hK5
      have kL := hK5.2.2.2.1.cell
      have fL := hK5.2.2.2.1.free
      have kR := hK5.2.2.2.2.1.cell
      have kq5 := q5.cell
      simp only [lcells, rcells] at kL kR
      clear hb5 hK5 q5 kq kS
      cases g
      · go_wp2_with fail
        go_region
        go_wp2_with fail
        go_end0
        have hfin := K5.out.event (T + v)
        exact ⟨rfl, hfin.2.2.2.1, hfin.1⟩
      · go_wp2_with fail
        go_end0
        exact ⟨rfl, K5.out.2.2.2.1, K5.out.1⟩
    · rename_i hS5
      have q1 := ((bN.put' 0 (.int .u64 (ns (T + v))) #[.int .u64 (ns (T + v)), .int .i64 0, .pointer none] rfl).put' 1 (.int .i64 (sc (T + v))) #[.int .u64 (ns (T + v)), .int .i64 (sc (T + v)), .pointer none] rfl).put' 2 (.pointer none) #[.int .u64 (ns (T + v)), .int .i64 (sc (T + v)), .pointer none] rfl
      have q2 := hW1
      clear bN kN fN
      generalize (((w2.setCell ⟨w'.heap.size, 0, none⟩ (.int .u64 (ns (T + v)))).setCell ⟨w'.heap.size, 1, none⟩ (.int .i64 (sc (T + v)))).setCell ⟨w'.heap.size, 2, none⟩ (.pointer none)) = wE at hS5 q1 ⊢
      generalize hqq : w'.heap.size = q at q1 q2 ⊢
      have KE := Lib.hid hS5.1
      have kq := q1.cell
      have kS := KE.out.2.2.1.cell
      have Q1 := Lib.hid q1
      have nq1 : ¬ q = L := by omega
      have nq2 : ¬ L = q := by omega
      have nq3 : ¬ q = R := by omega
      clear hS5 q1 K2 hb1
      go_wp2_with fail
      refine (HG.out _).mono ?_; rintro e w5 ⟨rfl, hb5⟩
      have hK5 := KE.out.next hb5
      have q5 := Q1.out.below hb5 Q1.out.lt
      have K5 := Lib.hid hK5
      have kL := hK5.2.2.2.1.cell
      have fL := hK5.2.2.2.1.free
      have kR := hK5.2.2.2.2.1.cell
      have kq5 := q5.cell
      simp only [lcells, rcells] at kL kR
      clear hb5 hK5 q5 kq kS
      cases g
      · go_wp2_with fail
        go_region
        go_wp2_with fail
        go_end0
        have hfin := K5.out.event (T + v)
        exact ⟨rfl, hfin.2.2.2.1, hfin.1⟩
      · go_wp2_with fail
        go_end0
        exact ⟨rfl, K5.out.2.2.2.1, K5.out.1⟩
  · go_wp2_with fail
    go_region
    go_wp2_with fail
    have hK2 := HK.out.stored (floatOfInt .f64 b)
    generalize ((((w'.setCell ⟨L, 3, none⟩ (.int .u64 (ns t))).setCell ⟨L, 4, none⟩ (.int .i64 (sc t))).setCell ⟨L, 5, none⟩ (.pointer none)).setCell ⟨L, 2, none⟩ (.float .f64 (floatOfInt .f64 b))).drew = wD at hK2 ⊢
    have SD := Lib.hid hK2.drew.facts
    have SD0 := Lib.hid hK2.facts
    clear hK2 kL fL kS kR HK SB SA START
    go_region_held3 (fun w' => Kern w w' L R t (lcells l b (floatOfInt .f64 b) t ev) (rcells true L n T lr) ∧
    w'.cell? ⟨w.heap.size, 0, none⟩ = some (.int .u64 (ns t)) ∧ w'.cell? ⟨w.heap.size, 1, none⟩ = some (.int .i64 (sc t)) ∧ w'.cell? ⟨w.heap.size, 2, none⟩ = some (.pointer none) ∧
    w'.cell? ⟨R, 0, none⟩ = some (.bool true) ∧ w'.cell? ⟨R, 1, none⟩ = some (.pointer (some ⟨L, 0, none⟩)) ∧ w'.cell? ⟨R, 2, none⟩ = some (.int .i64 n) ∧
    w'.cell? ⟨R, 3, none⟩ = some (.int .u64 (ns T)) ∧ w'.cell? ⟨R, 4, none⟩ = some (.int .i64 (sc T)) ∧ w'.cell? ⟨R, 5, none⟩ = some (.pointer none) ∧ w'.cell? ⟨R, 6, none⟩ = some (.float .f64 lr) ∧
    w'.cell? ⟨L, 0, none⟩ = some (.float .f64 l) ∧ w'.cell? ⟨L, 1, none⟩ = some (.int .i64 b) ∧ w'.cell? ⟨L, 6, none⟩ = some (.int .u64 (ns ev)) ∧ w'.cell? ⟨L, 7, none⟩ = some (.int .i64 (sc ev)) ∧ w'.cell? ⟨L, 8, none⟩ = some (.pointer none))
      (first | assumption | exact SD0.out | exact SD.out | exact Kern.step hb1 (by assumption))
      (first | (go_at_call 55; refine (HE.out _).mono ?_; rintro e w' ⟨rfl, hb1⟩))
    rename_i hSD
    have HKD := Lib.hid hSD.1
    have hW1 := HKD.out.2.1
    have hR1 : ¬ w'.heap.size = R := by omega
    have m4 : ¬ w'.heap.size = L := by omega
    have SE := Lib.hid HKD.out.drew.facts
    go_wp2_with fail
    go_region_held3 (fun w' => Kern w w' L R t (lcells l b (floatOfInt .f64 b) t ev) (rcells true L n T lr) ∧
    w'.cell? ⟨w.heap.size, 0, none⟩ = some (.int .u64 (ns t)) ∧ w'.cell? ⟨w.heap.size, 1, none⟩ = some (.int .i64 (sc t)) ∧ w'.cell? ⟨w.heap.size, 2, none⟩ = some (.pointer none) ∧
    w'.cell? ⟨R, 0, none⟩ = some (.bool true) ∧ w'.cell? ⟨R, 1, none⟩ = some (.pointer (some ⟨L, 0, none⟩)) ∧ w'.cell? ⟨R, 2, none⟩ = some (.int .i64 n) ∧
    w'.cell? ⟨R, 3, none⟩ = some (.int .u64 (ns T)) ∧ w'.cell? ⟨R, 4, none⟩ = some (.int .i64 (sc T)) ∧ w'.cell? ⟨R, 5, none⟩ = some (.pointer none) ∧ w'.cell? ⟨R, 6, none⟩ = some (.float .f64 lr) ∧
    w'.cell? ⟨L, 0, none⟩ = some (.float .f64 l) ∧ w'.cell? ⟨L, 1, none⟩ = some (.int .i64 b) ∧ w'.cell? ⟨L, 6, none⟩ = some (.int .u64 (ns ev)) ∧ w'.cell? ⟨L, 7, none⟩ = some (.int .i64 (sc ev)) ∧ w'.cell? ⟨L, 8, none⟩ = some (.pointer none))
      (first | assumption | exact SE.out | exact K2.out | exact Kern.step hb1 (by assumption) | exact Kern.step ((Below.refl _ _).alloc (Nat.le_refl _) _) (by assumption) | exact Kern.step ((Below.refl _ _).alloc (Nat.le_refl _) _).drew (by assumption) | exact Kern.step ((Below.refl _ _).alloc (Nat.le_refl _) _) K2.out | exact (K2.out.1.away w'.heap.size m4 hR1 hW1 _ _ _).facts)
      (first | (go_at_call 56; refine (HD.out _).mono ?_; rintro e wq ⟨rfl, rfl⟩) | (go_at_call 49; refine (HN.out _).mono ?_; rintro e w2 ⟨rfl, hb1⟩; have K2 := Lib.hid (Kern.step hb1 (by assumption)); first | (have bN : Blk w2 w'.heap.size 62 #[.int .u64 0, .int .i64 0, .pointer none] := Blk.below (w := (w'.alloc (.cells #[.int .u64 0, .int .i64 0, .pointer none] 62)).drew) (Blk.new w' 62 _) hb1 (by simp); have kN := bN.cell; have fN := bN.free) | skip))
    · rename_i hS5
      have q1 : Blk (w2.alloc (.cells #[.int .u64 (ns (T + v)), .int .i64 (sc (T + v)), .pointer none] 62)) w2.heap.size 62 #[.int .u64 (ns (T + v)), .int .i64 (sc (T + v)), .pointer none] := Blk.new _ _ _
      have q2 := K2.out.1.2.1
      generalize (w2.alloc (.cells #[.int .u64 (ns (T + v)), .int .i64 (sc (T + v)), .pointer none] 62)) = wE at hS5 q1 ⊢
      generalize w2.heap.size = q at q1 q2 ⊢
      have KE := Lib.hid hS5.1
      have kq := q1.cell
      have kS := KE.out.2.2.1.cell
      have Q1 := Lib.hid q1
      have nq1 : ¬ q = L := by omega
      have nq2 : ¬ L = q := by omega
      have nq3 : ¬ q = R := by omega
      clear hS5 q1 K2 hb1
      go_wp2_with fail
      refine (HG.out _).mono ?_; rintro e w5 ⟨rfl, hb5⟩
      have hK5 := KE.out.next hb5
      have q5 := Q1.out.below hb5 Q1.out.lt
      have K5 := Lib.hid hK5
      have kL := hK5.2.2.2.1.cell
      have fL := hK5.2.2.2.1.free
      have kR := hK5.2.2.2.2.1.cell
      have kq5 := q5.cell
      simp only [lcells, rcells] at kL kR
      clear hb5 hK5 q5 kq kS
      cases g
      · go_wp2_with fail
        go_region
        go_wp2_with fail
        go_end0
        have hfin := K5.out.event (T + v)
        exact ⟨rfl, hfin.2.2.2.1, hfin.1⟩
      · go_wp2_with fail
        go_end0
        exact ⟨rfl, K5.out.2.2.2.1, K5.out.1⟩
    · rename_i hS5
      have q1 := ((bN.put' 0 (.int .u64 (ns (T + v))) #[.int .u64 (ns (T + v)), .int .i64 0, .pointer none] rfl).put' 1 (.int .i64 (sc (T + v))) #[.int .u64 (ns (T + v)), .int .i64 (sc (T + v)), .pointer none] rfl).put' 2 (.pointer none) #[.int .u64 (ns (T + v)), .int .i64 (sc (T + v)), .pointer none] rfl
      have q2 := hW1
      clear bN kN fN
      generalize (((w2.setCell ⟨w'.heap.size, 0, none⟩ (.int .u64 (ns (T + v)))).setCell ⟨w'.heap.size, 1, none⟩ (.int .i64 (sc (T + v)))).setCell ⟨w'.heap.size, 2, none⟩ (.pointer none)) = wE at hS5 q1 ⊢
      generalize hqq : w'.heap.size = q at q1 q2 ⊢
      have KE := Lib.hid hS5.1
      have kq := q1.cell
      have kS := KE.out.2.2.1.cell
      have Q1 := Lib.hid q1
      have nq1 : ¬ q = L := by omega
      have nq2 : ¬ L = q := by omega
      have nq3 : ¬ q = R := by omega
      clear hS5 q1 K2 hb1
      go_wp2_with fail
      refine (HG.out _).mono ?_; rintro e w5 ⟨rfl, hb5⟩
      have hK5 := KE.out.next hb5
      have q5 := Q1.out.below hb5 Q1.out.lt
      have K5 := Lib.hid hK5
      have kL := hK5.2.2.2.1.cell
      have fL := hK5.2.2.2.1.free
      have kR := hK5.2.2.2.2.1.cell
      have kq5 := q5.cell
      simp only [lcells, rcells] at kL kR
      clear hb5 hK5 q5 kq kS
      cases g
      · go_wp2_with fail
        go_region
        go_wp2_with fail
        go_end0
        have hfin := K5.out.event (T + v)
        exact ⟨rfl, hfin.2.2.2.1, hfin.1⟩
      · go_wp2_with fail
        go_end0
        exact ⟨rfl, K5.out.2.2.2.1, K5.out.1⟩
    · rename_i hS5
      have q1 := ((bN.put' 0 (.int .u64 (ns (T + v))) #[.int .u64 (ns (T + v)), .int .i64 0, .pointer none] rfl).put' 1 (.int .i64 (sc (T + v))) #[.int .u64 (ns (T + v)), .int .i64 (sc (T + v)), .pointer none] rfl).put' 2 (.pointer none) #[.int .u64 (ns (T + v)), .int .i64 (sc (T + v)), .pointer none] rfl
      have q2 := hW1
      clear bN kN fN
      generalize (((w2.setCell ⟨w'.heap.size, 0, none⟩ (.int .u64 (ns (T + v)))).setCell ⟨w'.heap.size, 1, none⟩ (.int .i64 (sc (T + v)))).setCell ⟨w'.heap.size, 2, none⟩ (.pointer none)) = wE at hS5 q1 ⊢
      generalize hqq : w'.heap.size = q at q1 q2 ⊢
      have KE := Lib.hid hS5.1
      have kq := q1.cell
      have kS := KE.out.2.2.1.cell
      have Q1 := Lib.hid q1
      have nq1 : ¬ q = L := by omega
      have nq2 : ¬ L = q := by omega
      have nq3 : ¬ q = R := by omega
      clear hS5 q1 K2 hb1
      go_wp2_with fail
      refine (HG.out _).mono ?_; rintro e w5 ⟨rfl, hb5⟩
      have hK5 := KE.out.next hb5
      have q5 := Q1.out.below hb5 Q1.out.lt
      have K5 := Lib.hid hK5
      have kL := hK5.2.2.2.1.cell
      have fL := hK5.2.2.2.1.free
      have kR := hK5.2.2.2.2.1.cell
      have kq5 := q5.cell
      simp only [lcells, rcells] at kL kR
      clear hb5 hK5 q5 kq kS
      cases g
      · go_wp2_with fail
        go_region
        go_wp2_with fail
        go_end0
        have hfin := K5.out.event (T + v)
        exact ⟨rfl, hfin.2.2.2.1, hfin.1⟩
      · go_wp2_with fail
        go_end0
        exact ⟨rfl, K5.out.2.2.2.1, K5.out.1⟩

end Go.Proofs.Ytndkiphlpddbaaa
