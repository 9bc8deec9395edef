/- The walks of OK, DelayFrom, TokensAt, SetLimitAt, SetBurstAt, Burst, Limit, NewLimiter, Never. -/
import Derived.Test.YtndkiphlpddbaaaRtD
import Derived.Deep.RegionHeld3
namespace Go.Proofs.Ytndkiphlpddbaaa
open Go.RowKit Flt
attribute [local go_sem] store_float

theorem never_any (w : World) : Calls Try.prog 30 #[] w fun e w' => e = .returned (.int .i64 9223372036854775807) ∧ w = w' := by
  go_enter Try.func30, Try.ntmps30
  go_wp2_with fail
  go_ret
  exact ⟨rfl, rfl⟩

theorem ok_any (L R : Nat) (ok : Bool) (m T : Int) (l : Nat) (w : World) (hR : Blk w R 82 (rcells ok L m T l)) :
    Calls Try.prog 39 #[.pointer (some ⟨R, 0, none⟩)] w fun e w' => e = .returned (.bool ok) ∧ w = w' := by
  have c0 := hR.cell 0
  simp only [rcells, List.getElem?_toArray, List.getElem?_cons_zero] at c0
  clear hR
  go_enter Try.func39, Try.ntmps39
  go_wp2_with fail
  go_ret
  exact ⟨rfl, rfl⟩

theorem burst_any (L : Nat) (l : Nat) (b : Int) (t : Nat) (last ev : Int) (w : World) (hL : Blk w L 76 (lcells l b t last ev)) :
    Calls Try.prog 45 #[.pointer (some ⟨L, 0, none⟩)] w fun e w' => e = .returned (.int .i64 b) ∧ w = w' := by
  have c0 := hL.cell 1
  simp only [lcells, List.getElem?_toArray, List.getElem?_cons_zero, List.getElem?_cons_succ] at c0
  clear hL
  go_enter Try.func45, Try.ntmps45
  go_wp2_with fail
  go_ret
  exact ⟨rfl, rfl⟩

theorem limit_any (L : Nat) (l : Nat) (b : Int) (t : Nat) (last ev : Int) (w : World) (hL : Blk w L 76 (lcells l b t last ev)) :
    Calls Try.prog 46 #[.pointer (some ⟨L, 0, none⟩)] w fun e w' => e = .returned (.float .f64 l) ∧ w = w' := by
  have c0 := hL.cell 0
  simp only [lcells, List.getElem?_toArray, List.getElem?_cons_zero] at c0
  clear hL
  go_enter Try.func46, Try.ntmps46
  go_wp2_with fail
  go_ret
  exact ⟨rfl, rfl⟩

theorem new_any (l : Nat) (b : Int) (w : World) :
    Calls Try.prog 34 #[.float .f64 l, .int .i64 b] w fun e w' => e = .returned (.pointer (some ⟨w.heap.size, 0, none⟩)) ∧ w' = w.alloc (.cells (lcells l b (floatOfInt .f64 b) 0 0) 76) := by
  go_enter Try.func34, Try.ntmps34
  go_wp2_with fail
  go_ret
  exact ⟨rfl, rfl⟩

theorem tokens_any (L : Nat) (s : St) (k : Int) (w : World) (hL : Blk w L 76 s.cells) (h : s.Ok k) :
    Calls Try.prog 41 #[.pointer (some ⟨L, 0, none⟩), tv (tick k)] w fun e w' => e = .returned (.float .f64 (G (-9) (s.fill k))) ∧ Below w.heap.size w w' := by
  have HA := Lib.hid (advance_st L s k (w.alloc (.cells #[.int .u64 (ns (tick k)), .int .i64 (sc (tick k)), .pointer none] 62)) (hL.alloc _) h)
  clear hL h
  go_enter Try.func41, Try.ntmps41
  go_wp2_with fail
  refine HA.out.mono ?_; rintro e w1 ⟨rfl, hb⟩
  have hB := ((Below.refl w.heap.size w).alloc (Nat.le_refl _) (.cells #[.int .u64 (ns (tick k)), .int .i64 (sc (tick k)), .pointer none] 62)).trans (hb.mono (by simp))
  clear hb
  go_wp2_with fail
  go_ret
  exact ⟨rfl, hB⟩

theorem limit_close {w w2 : World} {L : Nat} {l0 l1 l2 l3 l4 l5 l6 l7 l8 x3 x4 x5 x2 x0 : Value} (hL : Blk w2 L 76 #[l0, l1, l2, l3, l4, l5, l6, l7, l8]) (hg : w.grownBy w2 (some L)) :
    Blk (((((w2.setCell ⟨L, 3, none⟩ x3).setCell ⟨L, 4, none⟩ x4).setCell ⟨L, 5, none⟩ x5).setCell ⟨L, 2, none⟩ x2).setCell ⟨L, 0, none⟩ x0) L 76 #[x0, l1, x2, x3, x4, x5, l6, l7, l8] ∧ w.grownBy (((((w2.setCell ⟨L, 3, none⟩ x3).setCell ⟨L, 4, none⟩ x4).setCell ⟨L, 5, none⟩ x5).setCell ⟨L, 2, none⟩ x2).setCell ⟨L, 0, none⟩ x0) (some L) := by
  have h := hL
  have g := hg
  replace h := h.put' 3 x3 #[l0, l1, l2, x3, l4, l5, l6, l7, l8] rfl
  replace g := turn_set g (p := ⟨L, 3, none⟩) (.inl rfl) x3
  replace h := h.put' 4 x4 #[l0, l1, l2, x3, x4, l5, l6, l7, l8] rfl
  replace g := turn_set g (p := ⟨L, 4, none⟩) (.inl rfl) x4
  replace h := h.put' 5 x5 #[l0, l1, l2, x3, x4, x5, l6, l7, l8] rfl
  replace g := turn_set g (p := ⟨L, 5, none⟩) (.inl rfl) x5
  replace h := h.put' 2 x2 #[l0, l1, x2, x3, x4, x5, l6, l7, l8] rfl
  replace g := turn_set g (p := ⟨L, 2, none⟩) (.inl rfl) x2
  replace h := h.put' 0 x0 #[x0, l1, x2, x3, x4, x5, l6, l7, l8] rfl
  replace g := turn_set g (p := ⟨L, 0, none⟩) (.inl rfl) x0
  exact ⟨h, g⟩

theorem burst_close {w w2 : World} {L : Nat} {l0 l1 l2 l3 l4 l5 l6 l7 l8 x3 x4 x5 x2 x1 : Value} (hL : Blk w2 L 76 #[l0, l1, l2, l3, l4, l5, l6, l7, l8]) (hg : w.grownBy w2 (some L)) :
    Blk (((((w2.setCell ⟨L, 3, none⟩ x3).setCell ⟨L, 4, none⟩ x4).setCell ⟨L, 5, none⟩ x5).setCell ⟨L, 2, none⟩ x2).setCell ⟨L, 1, none⟩ x1) L 76 #[l0, x1, x2, x3, x4, x5, l6, l7, l8] ∧ w.grownBy (((((w2.setCell ⟨L, 3, none⟩ x3).setCell ⟨L, 4, none⟩ x4).setCell ⟨L, 5, none⟩ x5).setCell ⟨L, 2, none⟩ x2).setCell ⟨L, 1, none⟩ x1) (some L) := by
  have h := hL
  have g := hg
  replace h := h.put' 3 x3 #[l0, l1, l2, x3, l4, l5, l6, l7, l8] rfl
  replace g := turn_set g (p := ⟨L, 3, none⟩) (.inl rfl) x3
  replace h := h.put' 4 x4 #[l0, l1, l2, x3, x4, l5, l6, l7, l8] rfl
  replace g := turn_set g (p := ⟨L, 4, none⟩) (.inl rfl) x4
  replace h := h.put' 5 x5 #[l0, l1, l2, x3, x4, x5, l6, l7, l8] rfl
  replace g := turn_set g (p := ⟨L, 5, none⟩) (.inl rfl) x5
  replace h := h.put' 2 x2 #[l0, l1, x2, x3, x4, x5, l6, l7, l8] rfl
  replace g := turn_set g (p := ⟨L, 2, none⟩) (.inl rfl) x2
  replace h := h.put' 1 x1 #[l0, x1, x2, x3, x4, x5, l6, l7, l8] rfl
  replace g := turn_set g (p := ⟨L, 1, none⟩) (.inl rfl) x1
  exact ⟨h, g⟩

theorem set_limit (L : Nat) (s : St) (k r : Int) (w : World) (hL : Blk w L 76 s.cells) (h : s.Ok k) :
    Calls Try.prog 42 #[.pointer (some ⟨L, 0, none⟩), tv (tick k), .float .f64 (G 0 r)] w fun e w' => e = .returned (.tuple #[]) ∧ Blk w' L 76 (St.cells ⟨r, s.burst, s.fill k, some k, s.ev⟩) ∧ w.grownBy w' (some L) := by
  have HA := Lib.hid (advance_st L s k (w.alloc (.cells #[.int .u64 (ns (tick k)), .int .i64 (sc (tick k)), .pointer none] 62)) (hL.alloc _) h)
  have HL := Lib.hid hL
  have hLt := hL.lt
  clear hL h
  go_enter Try.func42, Try.ntmps42
  go_wp2_with fail
  refine HA.out.mono ?_; rintro e w1 ⟨rfl, hb⟩
  have hg1 : w.grownBy w1 (some L) := turn_below (turn_alloc (turn_refl w L) _) hb
  have bL1 := (HL.out.alloc _).below hb (by simp; omega)
  have bS1 := (Blk.new w 62 _).below hb (by simp)
  have HL1 := Lib.hid bL1
  have HG1 := Lib.hid hg1
  have kL := bL1.cell
  have fL := bL1.free
  have kS := bS1.cell
  simp only [St.cells, lcells] at kL kS
  have n3 : ¬ w.heap.size = L := by omega
  have n4 : ¬ L = w.heap.size := by omega
  clear hb hg1 bL1 bS1
  go_wp2_with fail
  go_end0
  exact ⟨rfl, limit_close HL1.out HG1.out⟩

theorem set_burst (L : Nat) (s : St) (k b : Int) (w : World) (hL : Blk w L 76 s.cells) (h : s.Ok k) :
    Calls Try.prog 43 #[.pointer (some ⟨L, 0, none⟩), tv (tick k), .int .i64 b] w fun e w' => e = .returned (.tuple #[]) ∧ Blk w' L 76 (St.cells ⟨s.rate, b, s.fill k, some k, s.ev⟩) ∧ w.grownBy w' (some L) := by
  have HA := Lib.hid (advance_st L s k (w.alloc (.cells #[.int .u64 (ns (tick k)), .int .i64 (sc (tick k)), .pointer none] 62)) (hL.alloc _) h)
  have HL := Lib.hid hL
  have hLt := hL.lt
  clear hL h
  go_enter Try.func43, Try.ntmps43
  go_wp2_with fail
  refine HA.out.mono ?_; rintro e w1 ⟨rfl, hb⟩
  have hg1 : w.grownBy w1 (some L) := turn_below (turn_alloc (turn_refl w L) _) hb
  have bL1 := (HL.out.alloc _).below hb (by simp; omega)
  have bS1 := (Blk.new w 62 _).below hb (by simp)
  have HL1 := Lib.hid bL1
  have HG1 := Lib.hid hg1
  have kL := bL1.cell
  have fL := bL1.free
  have kS := bS1.cell
  simp only [St.cells, lcells] at kL kS
  have n3 : ¬ w.heap.size = L := by omega
  have n4 : ¬ L = w.heap.size := by omega
  clear hb hg1 bL1 bS1
  go_wp2_with fail
  go_end0
  exact ⟨rfl, burst_close HL1.out HG1.out⟩

theorem delay_no (L R : Nat) (m T : Int) (l : Nat) (t : Int) (w : World) (hR : Blk w R 82 (rcells false L m T l)) :
    Calls Try.prog 40 #[.pointer (some ⟨R, 0, none⟩), tv t] w fun e w' => e = .returned (.int .i64 9223372036854775807) ∧ Below w.heap.size w w' := by
  have c0 := hR.cell 0
  have hlt := hR.lt
  simp only [rcells, List.getElem?_toArray, List.getElem?_cons_zero] at c0
  clear hR
  go_enter Try.func40, Try.ntmps40
  go_wp2_with fail
  go_ret
  exact ⟨rfl, (Below.refl _ _).alloc (Nat.le_refl _) _⟩

theorem keep_two {W w1 w2 : World} {R : Nat} {a b c d e f : Value} (hb : Below w1.heap.size w1 w2)
    (h : Below W.heap.size W w1 ∧ W.heap.size < w1.heap.size ∧ w1.cell? ⟨W.heap.size, 0, none⟩ = some a ∧ w1.cell? ⟨W.heap.size, 1, none⟩ = some b ∧ w1.cell? ⟨W.heap.size, 2, none⟩ = some c ∧
      w1.cell? ⟨R, 3, none⟩ = some d ∧ w1.cell? ⟨R, 4, none⟩ = some e ∧ w1.cell? ⟨R, 5, none⟩ = some f) (hR : R < W.heap.size) :
    Below W.heap.size W w2 ∧ W.heap.size < w2.heap.size ∧ w2.cell? ⟨W.heap.size, 0, none⟩ = some a ∧ w2.cell? ⟨W.heap.size, 1, none⟩ = some b ∧ w2.cell? ⟨W.heap.size, 2, none⟩ = some c ∧
      w2.cell? ⟨R, 3, none⟩ = some d ∧ w2.cell? ⟨R, 4, none⟩ = some e ∧ w2.cell? ⟨R, 5, none⟩ = some f := by
  obtain ⟨h0, hs, c1, c2, c3, c4, c5, c6⟩ := h
  obtain ⟨k, _⟩ := bcell hb
  exact ⟨h0.trans (hb.mono (by omega)), Nat.lt_of_lt_of_le hs hb.size, by rw [k _ _ (by omega)]; exact c1, by rw [k _ _ (by omega)]; exact c2, by rw [k _ _ (by omega)]; exact c3, by rw [k _ _ (by omega)]; exact c4, by rw [k _ _ (by omega)]; exact c5, by rw [k _ _ (by omega)]; exact c6⟩

theorem start_two (W : World) (R : Nat) (t T : Int) (d3 : W.cell? ⟨R, 3, none⟩ = some (.int .u64 (ns T))) (d4 : W.cell? ⟨R, 4, none⟩ = some (.int .i64 (sc T))) (d5 : W.cell? ⟨R, 5, none⟩ = some (.pointer none)) :
    Below W.heap.size W (W.alloc (.cells #[.int .u64 (ns t), .int .i64 (sc t), .pointer none] 62)).drew ∧
      W.heap.size < (W.alloc (.cells #[.int .u64 (ns t), .int .i64 (sc t), .pointer none] 62)).drew.heap.size ∧
      (W.alloc (.cells #[.int .u64 (ns t), .int .i64 (sc t), .pointer none] 62)).drew.cell? ⟨W.heap.size, 0, none⟩ = some (.int .u64 (ns t)) ∧
      (W.alloc (.cells #[.int .u64 (ns t), .int .i64 (sc t), .pointer none] 62)).drew.cell? ⟨W.heap.size, 1, none⟩ = some (.int .i64 (sc t)) ∧
      (W.alloc (.cells #[.int .u64 (ns t), .int .i64 (sc t), .pointer none] 62)).drew.cell? ⟨W.heap.size, 2, none⟩ = some (.pointer none) ∧
      (W.alloc (.cells #[.int .u64 (ns t), .int .i64 (sc t), .pointer none] 62)).drew.cell? ⟨R, 3, none⟩ = some (.int .u64 (ns T)) ∧
      (W.alloc (.cells #[.int .u64 (ns t), .int .i64 (sc t), .pointer none] 62)).drew.cell? ⟨R, 4, none⟩ = some (.int .i64 (sc T)) ∧
      (W.alloc (.cells #[.int .u64 (ns t), .int .i64 (sc t), .pointer none] 62)).drew.cell? ⟨R, 5, none⟩ = some (.pointer none) := by
  refine ⟨((Below.refl _ _).alloc (Nat.le_refl _) _).drew, by simp, ?_⟩
  go_keep

theorem delay_yes (L R : Nat) (m T : Int) (l : Nat) (t : Int) (w : World) (hR : Blk w R 82 (rcells true L m T l)) (d : Int)
    (hS : ∀ w, Calls Try.prog 51 #[tv T, tv t] w fun e w' => e = .returned (.int .i64 d) ∧ Below w.heap.size w w') :
    Calls Try.prog 40 #[.pointer (some ⟨R, 0, none⟩), tv t] w fun e w' => e = .returned (.int .i64 (max 0 d)) ∧ Below w.heap.size w w' := by
  have c0 := hR.cell 0
  have c3 := hR.cell 3
  have c4 := hR.cell 4
  have c5 := hR.cell 5
  have hlt := hR.lt
  simp only [rcells, List.getElem?_toArray, List.getElem?_cons_zero, List.getElem?_cons_succ] at c0 c3 c4 c5
  have HS := Lib.hid hS
  have ST := Lib.hid (start_two w R t T c3 c4 c5)
  clear hR hS
  by_cases hd : d < 0
  all_goals
    first | rw [show max 0 d = 0 from by omega] | rw [show max 0 d = d from by omega]
    go_enter Try.func40, Try.ntmps40
    go_wp2_with fail
    go_region_held3 (fun w' => Below w.heap.size w w' ∧ w.heap.size < w'.heap.size ∧ w'.cell? ⟨w.heap.size, 0, none⟩ = some (.int .u64 (ns t)) ∧ w'.cell? ⟨w.heap.size, 1, none⟩ = some (.int .i64 (sc t)) ∧ w'.cell? ⟨w.heap.size, 2, none⟩ = some (.pointer none) ∧
        w'.cell? ⟨R, 3, none⟩ = some (.int .u64 (ns T)) ∧ w'.cell? ⟨R, 4, none⟩ = some (.int .i64 (sc T)) ∧ w'.cell? ⟨R, 5, none⟩ = some (.pointer none))
      (first | assumption | (refine keep_two hb1 ?_ hlt; assumption) | exact ST.out | go_keep)
      (first | (go_at_call 51; refine (HS.out _).mono ?_; rintro e w' ⟨rfl, hb1⟩))
    rename_i hS
    obtain ⟨hS0, _⟩ := hS
    go_wp2_with fail
    go_ret
    exact ⟨rfl, hS0⟩

end Go.Proofs.Ytndkiphlpddbaaa
