/- The walk of reserveN, in whole numbers. -/
import Derived.Test.YtndkiphlpddbaaaRtB
namespace Go.Proofs.Ytndkiphlpddbaaa
open Go.RowKit Flt
attribute [local go_sem] store_float

theorem neg_run (a : Int) (h : a < 0) (ha : a.natAbs < 9007199254740992) (w : World) : (Op.unary .neg (.float .f64 (G (-9) a))).run Try.prog w = Result.ok (.float .f64 (G (-9) (-a))) w := by
  rw [← neg_G (-9) a h ha (by decide) (by decide)]
  rfl

/-! ### only block L, and what is new, has turned -/
theorem turn_refl (w : World) (L : Nat) : w.grownBy w (some L) := ⟨rfl, rfl, rfl, Nat.le_refl _, fun _ _ _ => rfl⟩
theorem turn_alloc {a w : World} {L : Nat} (h : a.grownBy w (some L)) (o : Obj) : a.grownBy (w.alloc o) (some L) :=
  ⟨h.os, h.tape, h.output, Nat.le_trans h.size (by simp), fun i hi hne => (Below.heap_alloc w o i (Nat.lt_of_lt_of_le hi h.size)).trans (h.block i hi hne)⟩
theorem turn_below {a w w' : World} {L : Nat} (h : a.grownBy w (some L)) (hb : Below w.heap.size w w') : a.grownBy w' (some L) :=
  ⟨hb.os.trans h.os, hb.tape.trans h.tape, hb.output.trans h.output, Nat.le_trans h.size hb.size, fun i hi hne => (hb.block i (Nat.lt_of_lt_of_le hi h.size)).trans (h.block i hi hne)⟩
theorem turn_set {a w : World} {L : Nat} (h : a.grownBy w (some L)) {p : Addr} (hp : p.block = L ∨ a.heap.size ≤ p.block) (u : Value) : a.grownBy (w.setCell p u) (some L) :=
  ⟨h.os, h.tape, h.output, by simpa [World.setCell] using h.size, fun i hi hne => (Below.heap_setCell w p u i (by
    rintro rfl
    rcases hp with hp | hp
    · exact hne (by rw [hp])
    · omega)).trans (h.block i hi hne)⟩
theorem turn_drew {a w : World} {L : Nat} (h : a.grownBy w (some L)) : a.grownBy w.drew (some L) := ⟨h.os, h.tape, h.output, h.size, h.block⟩

theorem Blk.put' {w : World} {g : Nat} {t : TypeId} {cs : Array Value} (h : Blk w g t cs) (i : Nat) (u : Value) (cs' : Array Value) (e : cs.setIfInBounds i u = cs') : Blk (w.setCell ⟨g, i, none⟩ u) g t cs' := e ▸ h.put i u

/-- The stores behind a reservation that is ok. -/
theorem rsv_close {w w2 : World} {L Q R : Nat} {l0 l1 l2 l3 l4 l5 l6 l7 l8 q3 q4 q5 x2 x3 x4 x5 x6 x7 x8 r0 r1 r2 r3 r4 r5 r6 : Value}
    (hL : Blk w2 L 76 #[l0, l1, l2, l3, l4, l5, l6, l7, l8]) (hQ : L ≠ Q) (hR : L ≠ R) (hg : w.grownBy w2 (some L)) (gQ : w.heap.size ≤ Q) (gR : w.heap.size ≤ R) :
    Blk (((((((((((((((((w2.setCell ⟨Q, 3, none⟩ q3).setCell ⟨Q, 4, none⟩ q4).setCell ⟨Q, 5, none⟩ q5).setCell ⟨L, 3, none⟩ x3).setCell ⟨L, 4, none⟩ x4).setCell ⟨L, 5, none⟩ x5).setCell ⟨L, 2, none⟩ x2).setCell ⟨L, 6, none⟩ x6).setCell ⟨L, 7, none⟩ x7).setCell ⟨L, 8, none⟩ x8).setCell ⟨R, 0, none⟩ r0).setCell ⟨R, 1, none⟩ r1).setCell ⟨R, 2, none⟩ r2).setCell ⟨R, 3, none⟩ r3).setCell ⟨R, 4, none⟩ r4).setCell ⟨R, 5, none⟩ r5).setCell ⟨R, 6, none⟩ r6) L 76 #[l0, l1, x2, x3, x4, x5, x6, x7, x8] ∧
    w.grownBy (((((((((((((((((w2.setCell ⟨Q, 3, none⟩ q3).setCell ⟨Q, 4, none⟩ q4).setCell ⟨Q, 5, none⟩ q5).setCell ⟨L, 3, none⟩ x3).setCell ⟨L, 4, none⟩ x4).setCell ⟨L, 5, none⟩ x5).setCell ⟨L, 2, none⟩ x2).setCell ⟨L, 6, none⟩ x6).setCell ⟨L, 7, none⟩ x7).setCell ⟨L, 8, none⟩ x8).setCell ⟨R, 0, none⟩ r0).setCell ⟨R, 1, none⟩ r1).setCell ⟨R, 2, none⟩ r2).setCell ⟨R, 3, none⟩ r3).setCell ⟨R, 4, none⟩ r4).setCell ⟨R, 5, none⟩ r5).setCell ⟨R, 6, none⟩ r6) (some L) := by
  have h := hL
  have g := hg
  replace h := h.far (p := ⟨Q, 3, none⟩) hQ q3
  replace g := turn_set g (p := ⟨Q, 3, none⟩) (.inr gQ) q3
  replace h := h.far (p := ⟨Q, 4, none⟩) hQ q4
  replace g := turn_set g (p := ⟨Q, 4, none⟩) (.inr gQ) q4
  replace h := h.far (p := ⟨Q, 5, none⟩) hQ q5
  replace g := turn_set g (p := ⟨Q, 5, none⟩) (.inr gQ) q5
  replace h := h.put' 3 x3 #[l0, l1, l2, x3, l4, l5, l6, l7, l8] rfl
  replace g := turn_set g (p := ⟨L, 3, none⟩) (.inl rfl) x3
  replace h := h.put' 4 x4 #[l0, l1, l2, x3, x4, l5, l6, l7, l8] rfl
  replace g := turn_set g (p := ⟨L, 4, none⟩) (.inl rfl) x4
  replace h := h.put' 5 x5 #[l0, l1, l2, x3, x4, x5, l6, l7, l8] rfl
  replace g := turn_set g (p := ⟨L, 5, none⟩) (.inl rfl) x5
  replace h := h.put' 2 x2 #[l0, l1, x2, x3, x4, x5, l6, l7, l8] rfl
  replace g := turn_set g (p := ⟨L, 2, none⟩) (.inl rfl) x2
  replace h := h.put' 6 x6 #[l0, l1, x2, x3, x4, x5, x6, l7, l8] rfl
  replace g := turn_set g (p := ⟨L, 6, none⟩) (.inl rfl) x6
  replace h := h.put' 7 x7 #[l0, l1, x2, x3, x4, x5, x6, x7, l8] rfl
  replace g := turn_set g (p := ⟨L, 7, none⟩) (.inl rfl) x7
  replace h := h.put' 8 x8 #[l0, l1, x2, x3, x4, x5, x6, x7, x8] rfl
  replace g := turn_set g (p := ⟨L, 8, none⟩) (.inl rfl) x8
  replace h := h.far (p := ⟨R, 0, none⟩) hR r0
  replace g := turn_set g (p := ⟨R, 0, none⟩) (.inr gR) r0
  replace h := h.far (p := ⟨R, 1, none⟩) hR r1
  replace g := turn_set g (p := ⟨R, 1, none⟩) (.inr gR) r1
  replace h := h.far (p := ⟨R, 2, none⟩) hR r2
  replace g := turn_set g (p := ⟨R, 2, none⟩) (.inr gR) r2
  replace h := h.far (p := ⟨R, 3, none⟩) hR r3
  replace g := turn_set g (p := ⟨R, 3, none⟩) (.inr gR) r3
  replace h := h.far (p := ⟨R, 4, none⟩) hR r4
  replace g := turn_set g (p := ⟨R, 4, none⟩) (.inr gR) r4
  replace h := h.far (p := ⟨R, 5, none⟩) hR r5
  replace g := turn_set g (p := ⟨R, 5, none⟩) (.inr gR) r5
  replace h := h.far (p := ⟨R, 6, none⟩) hR r6
  replace g := turn_set g (p := ⟨R, 6, none⟩) (.inr gR) r6
  exact ⟨h, g⟩

theorem rsv_ok (L : Nat) (s : St) (k n mx : Int) (w : World) (hL : Blk w L 76 s.cells) (h : s.Ok k) (n0 : 0 ≤ n) (n1 : n ≤ s.burst) (hm : 0 ≤ mx) (ht : n * 512 ≤ s.fill k) :
    Calls Try.prog 50 #[.pointer (some ⟨L, 0, none⟩), tv (tick k), .int .i64 n, .int .i64 mx] w fun e w' =>
      e = .returned (.agg #[.bool true, .pointer (some ⟨L, 0, none⟩), .int .i64 n, .int .u64 (ns (tick k)), .int .i64 (sc (tick k)), .pointer none, .float .f64 (G 0 s.rate)]) ∧
      Blk w' L 76 (lcells (G 0 s.rate) s.burst (G (-9) (s.fill k - n * 512)) (tick k) (tick k)) ∧ w.grownBy w' (some L) := by
  have hA := fun w hL => advance_st L s k w hL h
  have HA := Lib.hid hA
  have hb := h.fill_bounds
  have hb1 := h.b1
  have hsub : ∀ t w, (binOp .sub t (.float .f64 (G (-9) (s.fill k))) (.float .f64 (floatOfInt .f64 n))).run Try.prog w = .ok (.float .f64 (G (-9) (s.fill k - n * 512))) w :=
    fun t w => run_float_arith w .sub t .f64 _ _ _ (by rw [floatOfInt_G, G_512]; exact sub_G (-9) _ _ (by omega) (by omega) (by decide) (by decide))
  have hlt : (FloatKind.f64.format.order (G (-9) (s.fill k - n * 512)) 0 == some .lt) = false := by
    have := ord_lt (s.fill k - n * 512) 0 (by omega) (by decide)
    rw [G_zero] at this
    rw [show (FloatKind.f64.format.order (G (-9) (s.fill k - n * 512)) 0 == some .lt) = _ from this]
    exact decide_eq_false (by omega)
  have hinf : (FloatKind.f64.format.order (G 0 s.rate) 9218868437227405311 == some .eq) = false := rate_inf _ h.r0 h.r1
  have hT := fun w => add_any (tick k) 0 w (by have := h.k0; unfold tick M0; omega) (by have := h.k1; unfold tick M0; omega) (by decide) (by decide)
  rw [show tick k + 0 = tick k from by omega] at hT
  have HT := Lib.hid hT
  have HL := Lib.hid hL
  have hLt := hL.lt
  have c0 := hL.cell 0
  have c1 := hL.cell 1
  simp only [St.cells, lcells, List.getElem?_toArray, List.getElem?_cons_zero, List.getElem?_cons_succ] at c0 c1
  clear hA hT hL h hb hb1
  go_enter Try.func50, Try.ntmps50
  go_wp2_with fail
  refine (HA.out _ ((HL.out.alloc _).alloc _)).mono ?_; rintro e w1 ⟨rfl, hb⟩
  have hg1 : w.grownBy w1 (some L) := turn_below (turn_alloc (turn_alloc (turn_refl w L) _) _) hb
  have hz1 : w.heap.size + 1 < w1.heap.size := by have := hb.size; simp at this; omega
  have bL1 := ((HL.out.alloc _).alloc _).below hb (by simp; omega)
  have bS1 := ((Blk.new w 62 _).alloc _).below hb (by simp; omega)
  have bR1 := (Blk.new (w.alloc _) 82 _).below hb (by simp)
  have HL1 := Lib.hid bL1
  have HS1 := Lib.hid bS1
  have HR1 := Lib.hid bR1
  have HG1 := Lib.hid hg1
  have s0 := bS1.cell 0
  have s1 := bS1.cell 1
  have s2 := bS1.cell 2
  have l0 := bL1.cell 0
  have l1 := bL1.cell 1
  simp only [St.cells, lcells, List.getElem?_toArray, List.getElem?_cons_zero, List.getElem?_cons_succ] at s0 s1 s2 l0 l1
  have hL1 : L < w1.heap.size := bL1.lt
  have hz0 : w.heap.size < w1.heap.size := by omega
  clear hb hg1 bL1 bS1 bR1
  go_wp2_with fail
  refine (HT.out _).mono ?_; rintro e w2 ⟨rfl, hb⟩
  have hg2 : w.grownBy w2 (some L) := turn_below (turn_alloc HG1.out _) hb
  have hz2 : w1.heap.size < w2.heap.size := by have := hb.size; simp at this; omega
  have bL2 := (HL1.out.alloc _).below hb (by simp; omega)
  have bS2 := (HS1.out.alloc _).below hb (by simp; omega)
  have bR2 := (HR1.out.alloc _).below hb (by simp; omega)
  have bQ2 := (Blk.new w1 82 _).below hb (by simp)
  have HL2 := Lib.hid bL2
  have HG2 := Lib.hid hg2
  have n1 : ¬ w1.heap.size = L := by omega
  have n2 : ¬ L = w1.heap.size := by omega
  have n3 : ¬ w.heap.size = L := by omega
  have n4 : ¬ L = w.heap.size := by omega
  have n5 : ¬ w.heap.size + 1 = L := by omega
  have n6 : ¬ L = w.heap.size + 1 := by omega
  have n7 : ¬ w1.heap.size = w.heap.size := by omega
  have n8 : ¬ w.heap.size = w1.heap.size := by omega
  have n9 : ¬ w1.heap.size = w.heap.size + 1 := by omega
  have n10 : ¬ w.heap.size + 1 = w1.heap.size := by omega
  have kL := bL2.cell
  have kS := bS2.cell
  have kR := bR2.cell
  have kQ := bQ2.cell
  have fL := bL2.free
  have fR := bR2.free
  have fQ := bQ2.free
  simp only [St.cells, lcells, World.size_alloc] at kL kS kR kQ fL fR fQ
  clear hb hg2 bL2 bS2 bR2 bQ2 s0 s1 s2 l0 l1 c0 c1
  go_wp2_with fail
  refine bodyPost_ret (v := .agg #[.bool true, .pointer (some ⟨L, 0, none⟩), .int .i64 n, .int .u64 (ns (tick k)), .int .i64 (sc (tick k)), .pointer none, .float .f64 (G 0 s.rate)]) (by simp [results, Try.results50, go_sem, kR]) rfl ⟨rfl, ?_⟩
  exact rsv_close HL2.out n2 n6 HG2.out (by omega) (by omega)

theorem rsv_wait (L : Nat) (s : St) (k n mx : Int) (w : World) (hL : Blk w L 76 s.cells) (h : s.Ok k) (n0 : 0 ≤ n) (n1 : n ≤ s.burst) (hm : W s.rate (n * 512 - s.fill k) ≤ mx) (ht : s.fill k < n * 512) :
    Calls Try.prog 50 #[.pointer (some ⟨L, 0, none⟩), tv (tick k), .int .i64 n, .int .i64 mx] w fun e w' =>
      e = .returned (.agg #[.bool true, .pointer (some ⟨L, 0, none⟩), .int .i64 n, .int .u64 (ns (tick k + W s.rate (n * 512 - s.fill k))), .int .i64 (sc (tick k + W s.rate (n * 512 - s.fill k))), .pointer none, .float .f64 (G 0 s.rate)]) ∧
      Blk w' L 76 (lcells (G 0 s.rate) s.burst (G (-9) (s.fill k - n * 512)) (tick k) (tick k + W s.rate (n * 512 - s.fill k))) ∧ w.grownBy w' (some L) := by
  have hA := fun w hL => advance_st L s k w hL h
  have HA := Lib.hid hA
  have hb := h.fill_bounds
  have hb1 := h.b1
  have hsub : ∀ t w, (binOp .sub t (.float .f64 (G (-9) (s.fill k))) (.float .f64 (floatOfInt .f64 n))).run Try.prog w = .ok (.float .f64 (G (-9) (s.fill k - n * 512))) w :=
    fun t w => run_float_arith w .sub t .f64 _ _ _ (by rw [floatOfInt_G, G_512]; exact sub_G (-9) _ _ (by omega) (by omega) (by decide) (by decide))
  have hlt : (FloatKind.f64.format.order (G (-9) (s.fill k - n * 512)) 0 == some .lt) = true := by
    have := ord_lt (s.fill k - n * 512) 0 (by omega) (by decide)
    rw [G_zero] at this
    rw [show (FloatKind.f64.format.order (G (-9) (s.fill k - n * 512)) 0 == some .lt) = _ from this]
    exact decide_eq_true (by omega)
  have hinf : (FloatKind.f64.format.order (G 0 s.rate) 9218868437227405311 == some .eq) = false := rate_inf _ h.r0 h.r1
  have hwb := W_bounds s.rate (n * 512 - s.fill k) h.r0 h.r1 (by omega) (by omega)
  have hT := fun w => add_any (tick k) (W s.rate (n * 512 - s.fill k)) w (by have := h.k0; unfold tick M0; omega) (by have := h.k1; unfold tick M0; omega) (by omega) (by omega)
  have hneg := neg_run (s.fill k - n * 512) (by omega) (by omega)
  rw [show -(s.fill k - n * 512) = n * 512 - s.fill k from by omega] at hneg
  have hD := fun w => dft_st s.rate (n * 512 - s.fill k) w h.r0 h.r1 (by omega) (by omega)
  have HD := Lib.hid hD
  have HT := Lib.hid hT
  have HL := Lib.hid hL
  have hLt := hL.lt
  have c0 := hL.cell 0
  have c1 := hL.cell 1
  simp only [St.cells, lcells, List.getElem?_toArray, List.getElem?_cons_zero, List.getElem?_cons_succ] at c0 c1
  generalize W s.rate (n * 512 - s.fill k) = wt at *
  clear hA hT hL h hb hb1 hD hwb
  go_enter Try.func50, Try.ntmps50
  go_wp2_with fail
  refine (HA.out _ ((HL.out.alloc _).alloc _)).mono ?_; rintro e w1 ⟨rfl, hb⟩
  have hg1 : w.grownBy w1 (some L) := turn_below (turn_alloc (turn_alloc (turn_refl w L) _) _) hb
  have hz1 : w.heap.size + 1 < w1.heap.size := by have := hb.size; simp at this; omega
  have bL1 := ((HL.out.alloc _).alloc _).below hb (by simp; omega)
  have bS1 := ((Blk.new w 62 _).alloc _).below hb (by simp; omega)
  have bR1 := (Blk.new (w.alloc _) 82 _).below hb (by simp)
  have HL1 := Lib.hid bL1
  have HS1 := Lib.hid bS1
  have HR1 := Lib.hid bR1
  have HG1 := Lib.hid hg1
  have s0 := bS1.cell 0
  have s1 := bS1.cell 1
  have s2 := bS1.cell 2
  have l0 := bL1.cell 0
  have l1 := bL1.cell 1
  simp only [St.cells, lcells, List.getElem?_toArray, List.getElem?_cons_zero, List.getElem?_cons_succ] at s0 s1 s2 l0 l1
  have hL1 : L < w1.heap.size := bL1.lt
  have hz0 : w.heap.size < w1.heap.size := by omega
  clear hb hg1 bL1 bS1 bR1
  go_wp2_with fail
  refine (HD.out _).mono ?_; rintro e w' ⟨rfl, rfl⟩
  go_wp2_with fail
  refine (HT.out _).mono ?_; rintro e w2 ⟨rfl, hb⟩
  have hg2 : w.grownBy w2 (some L) := turn_below (turn_alloc HG1.out _) hb
  have hz2 : w1.heap.size < w2.heap.size := by have := hb.size; simp at this; omega
  have bL2 := (HL1.out.alloc _).below hb (by simp; omega)
  have bS2 := (HS1.out.alloc _).below hb (by simp; omega)
  have bR2 := (HR1.out.alloc _).below hb (by simp; omega)
  have bQ2 := (Blk.new w1 82 _).below hb (by simp)
  have HL2 := Lib.hid bL2
  have HG2 := Lib.hid hg2
  have n1 : ¬ w1.heap.size = L := by omega
  have n2 : ¬ L = w1.heap.size := by omega
  have n3 : ¬ w.heap.size = L := by omega
  have n4 : ¬ L = w.heap.size := by omega
  have n5 : ¬ w.heap.size + 1 = L := by omega
  have n6 : ¬ L = w.heap.size + 1 := by omega
  have n7 : ¬ w1.heap.size = w.heap.size := by omega
  have n8 : ¬ w.heap.size = w1.heap.size := by omega
  have n9 : ¬ w1.heap.size = w.heap.size + 1 := by omega
  have n10 : ¬ w.heap.size + 1 = w1.heap.size := by omega
  have kL := bL2.cell
  have kS := bS2.cell
  have kR := bR2.cell
  have kQ := bQ2.cell
  have fL := bL2.free
  have fR := bR2.free
  have fQ := bQ2.free
  simp only [St.cells, lcells, World.size_alloc] at kL kS kR kQ fL fR fQ
  clear hb hg2 bL2 bS2 bR2 bQ2 s0 s1 s2 l0 l1 c0 c1
  go_wp2_with fail
  refine bodyPost_ret (v := .agg #[.bool true, .pointer (some ⟨L, 0, none⟩), .int .i64 n, .int .u64 (ns (tick k + wt)), .int .i64 (sc (tick k + wt)), .pointer none, .float .f64 (G 0 s.rate)]) (by simp [results, Try.results50, go_sem, kR]) rfl ⟨rfl, ?_⟩
  exact rsv_close HL2.out n2 n6 HG2.out (by omega) (by omega)

theorem rsv_no (L : Nat) (s : St) (k n mx : Int) (w : World) (hL : Blk w L 76 s.cells) (h : s.Ok k) (n0 : 0 ≤ n) (n1 : n ≤ 1000) (hn : s.burst < n ∨ mx < W s.rate (n * 512 - s.fill k)) (ht : s.fill k < n * 512) :
    Calls Try.prog 50 #[.pointer (some ⟨L, 0, none⟩), tv (tick k), .int .i64 n, .int .i64 mx] w fun e w' =>
      e = .returned (.agg #[.bool false, .pointer (some ⟨L, 0, none⟩), .int .i64 0, .int .u64 0, .int .i64 0, .pointer none, .float .f64 (G 0 s.rate)]) ∧ Below w.heap.size w w' := by
  have hA := fun w hL => advance_st L s k w hL h
  have HA := Lib.hid hA
  have hb := h.fill_bounds
  have hb1 := h.b1
  have hsub : ∀ t w, (binOp .sub t (.float .f64 (G (-9) (s.fill k))) (.float .f64 (floatOfInt .f64 n))).run Try.prog w = .ok (.float .f64 (G (-9) (s.fill k - n * 512))) w :=
    fun t w => run_float_arith w .sub t .f64 _ _ _ (by rw [floatOfInt_G, G_512]; exact sub_G (-9) _ _ (by omega) (by omega) (by decide) (by decide))
  have hlt : (FloatKind.f64.format.order (G (-9) (s.fill k - n * 512)) 0 == some .lt) = true := by
    have := ord_lt (s.fill k - n * 512) 0 (by omega) (by decide)
    rw [G_zero] at this
    rw [show (FloatKind.f64.format.order (G (-9) (s.fill k - n * 512)) 0 == some .lt) = _ from this]
    exact decide_eq_true (by omega)
  have hinf : (FloatKind.f64.format.order (G 0 s.rate) 9218868437227405311 == some .eq) = false := rate_inf _ h.r0 h.r1
  have hwb := W_bounds s.rate (n * 512 - s.fill k) h.r0 h.r1 (by omega) (by omega)
  have hneg := neg_run (s.fill k - n * 512) (by omega) (by omega)
  rw [show -(s.fill k - n * 512) = n * 512 - s.fill k from by omega] at hneg
  have hD := fun w => dft_st s.rate (n * 512 - s.fill k) w h.r0 h.r1 (by omega) (by omega)
  have HD := Lib.hid hD
  have HL := Lib.hid hL
  have hLt := hL.lt
  have c0 := hL.cell 0
  have c1 := hL.cell 1
  simp only [St.cells, lcells, List.getElem?_toArray, List.getElem?_cons_zero, List.getElem?_cons_succ] at c0 c1
  generalize W s.rate (n * 512 - s.fill k) = wt at *
  clear hA hL h hb hb1 hD hwb
  by_cases hbu : n ≤ s.burst
  all_goals
    first | (have hbd : decide (n ≤ s.burst) = true := decide_eq_true hbu; have hmd : decide (wt ≤ mx) = false := decide_eq_false (by omega)) | have hbd : decide (n ≤ s.burst) = false := decide_eq_false hbu
    go_enter Try.func50, Try.ntmps50
    go_wp2_with fail
    refine (HA.out _ ((HL.out.alloc _).alloc _)).mono ?_; rintro e w1 ⟨rfl, hb⟩
    have hz1 : w.heap.size + 1 < w1.heap.size := by have := hb.size; simp at this; omega
    have hB1 := (((Below.refl w.heap.size w).alloc (Nat.le_refl _) (.cells #[.int .u64 (ns (tick k)), .int .i64 (sc (tick k)), .pointer none] 62)).alloc (by simp) (.cells #[.bool false, .pointer none, .int .i64 0, .int .u64 0, .int .i64 0, .pointer none, .float .f64 0] 82)).trans (hb.mono (by simp; omega))
    have bL1 := ((HL.out.alloc _).alloc _).below hb (by simp; omega)
    have bR1 := (Blk.new (w.alloc _) 82 _).below hb (by simp)
    have HB1 := Lib.hid hB1
    have l0 := bL1.cell 0
    have l1 := bL1.cell 1
    have kR := bR1.cell
    have fR := bR1.free
    simp only [St.cells, lcells, World.size_alloc, List.getElem?_toArray, List.getElem?_cons_zero, List.getElem?_cons_succ] at l0 l1 kR fR
    have hL1 : L < w1.heap.size := bL1.lt
    have hz0 : w.heap.size < w1.heap.size := by omega
    clear hb hB1 bL1 bR1
    go_wp2_with fail
    refine (HD.out _).mono ?_; rintro e w' ⟨rfl, rfl⟩
    go_wp2_with fail
    refine bodyPost_ret (v := .agg #[.bool false, .pointer (some ⟨L, 0, none⟩), .int .i64 0, .int .u64 0, .int .i64 0, .pointer none, .float .f64 (G 0 s.rate)]) (by simp [results, Try.results50, go_sem, kR, hz1]) rfl ⟨rfl, ?_⟩
    exact (((((((HB1.out.setCell (p := ⟨w.heap.size + 1, 0, none⟩) (Nat.le_succ _) _).setCell (p := ⟨w.heap.size + 1, 1, none⟩) (Nat.le_succ _) _).setCell (p := ⟨w.heap.size + 1, 2, none⟩) (Nat.le_succ _) _).setCell (p := ⟨w.heap.size + 1, 3, none⟩) (Nat.le_succ _) _).setCell (p := ⟨w.heap.size + 1, 4, none⟩) (Nat.le_succ _) _).setCell (p := ⟨w.heap.size + 1, 5, none⟩) (Nat.le_succ _) _).setCell (p := ⟨w.heap.size + 1, 6, none⟩) (Nat.le_succ _) _).alloc (Nat.le_trans HB1.out.size (by simp)) _

/-- With the infinite rate all is ok, and nothing turns. -/
theorem rsv_inf (L : Nat) (b n mx T : Int) (k : Nat) (last ev : Int) (w : World) (hL : Blk w L 76 (lcells 9218868437227405311 b k last ev)) :
    Calls Try.prog 50 #[.pointer (some ⟨L, 0, none⟩), tv T, .int .i64 n, .int .i64 mx] w fun e w' =>
      e = .returned (.agg #[.bool true, .pointer (some ⟨L, 0, none⟩), .int .i64 n, .int .u64 (ns T), .int .i64 (sc T), .pointer none, .float .f64 0]) ∧ Below w.heap.size w w' := by
  have hinf : (FloatKind.f64.format.order 9218868437227405311 9218868437227405311 == some .eq) = true := by decide +kernel
  have hLt := hL.lt
  have c0 := hL.cell 0
  simp only [lcells, List.getElem?_toArray, List.getElem?_cons_zero] at c0
  clear hL
  go_enter Try.func50, Try.ntmps50
  go_wp2_with fail
  refine bodyPost_ret (v := .agg #[.bool true, .pointer (some ⟨L, 0, none⟩), .int .i64 n, .int .u64 (ns T), .int .i64 (sc T), .pointer none, .float .f64 0]) (by simp [results, Try.results50, go_sem]) rfl ⟨rfl, ?_⟩
  exact ((Below.refl _ _).alloc (Nat.le_refl _) _).alloc (by simp) _

end Go.Proofs.Ytndkiphlpddbaaa
