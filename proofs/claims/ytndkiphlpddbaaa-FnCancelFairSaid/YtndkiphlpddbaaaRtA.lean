/- The walks of Seconds, tokensFromDuration, durationFromTokens and advance. Condition: the float operations' results are handed in as premises. -/
import Derived.Test.YtndkiphlpddbaaaTmS
import Derived.Test.YtndkiphlpddbaaaFlt
namespace Go.Proofs.Ytndkiphlpddbaaa
open Go.RowKit Flt

theorem seconds_any (d : Int) (b z : Nat) (w : World) (h0 : 0 ≤ d) (h1 : d ≤ 9223372036854775807)
    (hb : floatBits .quo .f64 (floatOfInt .f64 (d % 1000000000)) 4741671816366391296 = some b) (hz : floatBits .add .f64 (floatOfInt .f64 (d / 1000000000)) b = some z) :
    Calls Try.prog 63 #[.int .i64 d] w fun e w' => e = .returned (.float .f64 z) ∧ w = w' := by
  have hq : ∀ t w, (binOp .quo t (.float .f64 (floatOfInt .f64 (d % 1000000000))) (.float .f64 4741671816366391296)).run Try.prog w = .ok (.float .f64 b) w := fun t w => run_float_arith w .quo t .f64 _ _ b hb
  have ha : ∀ t w, (binOp .add t (.float .f64 (floatOfInt .f64 (d / 1000000000))) (.float .f64 b)).run Try.prog w = .ok (.float .f64 z) w := fun t w => run_float_arith w .add t .f64 _ _ z hz
  clear hb hz
  go_enter Try.func63, Try.ntmps63
  go_wp2_with fail
  go_ret
  exact ⟨rfl, rfl⟩

/-- tokensFromDuration, at a positive rate. -/
theorem tfd_of (l : Nat) (d : Int) (b z p : Nat) (w : World) (h0 : 0 ≤ d) (h1 : d ≤ 9223372036854775807)
    (hl : (FloatKind.f64.format.order l 0 == some .lt || FloatKind.f64.format.order l 0 == some .eq) = false)
    (hb : floatBits .quo .f64 (floatOfInt .f64 (d % 1000000000)) 4741671816366391296 = some b) (hz : floatBits .add .f64 (floatOfInt .f64 (d / 1000000000)) b = some z)
    (hp : floatBits .mul .f64 z l = some p) :
    Calls Try.prog 54 #[.float .f64 l, .int .i64 d] w fun e w' => e = .returned (.float .f64 p) ∧ w = w' := by
  have hs := fun w => seconds_any d b z w h0 h1 hb hz
  have hm : ∀ t w, (binOp .mul t (.float .f64 z) (.float .f64 l)).run Try.prog w = .ok (.float .f64 p) w := fun t w => run_float_arith w .mul t .f64 _ _ p hp
  have Hs := Lib.hid hs
  clear hb hz hp hs
  go_enter Try.func54, Try.ntmps54
  go_wp2_with (go_at_call 63; refine (Hs.out _).mono ?_; rintro e w' ⟨rfl, rfl⟩)
  go_ret
  exact ⟨rfl, rfl⟩

/-- durationFromTokens, at a positive rate and a number that fits. -/
theorem dft_of (l x q y : Nat) (n : Int) (w : World)
    (hl : (FloatKind.f64.format.order l 0 == some .lt || FloatKind.f64.format.order l 0 == some .eq) = false)
    (hq : floatBits .quo .f64 x l = some q) (hy : floatBits .mul .f64 q 4741671816366391296 = some y)
    (hc : (FloatKind.f64.format.order y 4890909195324358656 == some .gt) = false) (hn : floatToIntVal .f64 y .i64 = some n) :
    Calls Try.prog 56 #[.float .f64 l, .float .f64 x] w fun e w' => e = .returned (.int .i64 n) ∧ w = w' := by
  have h1 : ∀ t w, (binOp .quo t (.float .f64 x) (.float .f64 l)).run Try.prog w = .ok (.float .f64 q) w := fun t w => run_float_arith w .quo t .f64 _ _ q hq
  have h2 : ∀ t w, (binOp .mul t (.float .f64 q) (.float .f64 4741671816366391296)).run Try.prog w = .ok (.float .f64 y) w := fun t w => run_float_arith w .mul t .f64 _ _ y hy
  have h3 : ∀ w, (convert 28 68 (.float .f64 y)).run Try.prog w = .ok (.int .i64 n) w := fun w => run_convert_float_int w 28 68 .f64 .i64 y n (by rw [Try.underlying28]; rfl) Try.underlying68 hn
  clear hq hy hn
  go_enter Try.func56, Try.ntmps56
  go_wp2_with fail
  go_ret
  exact ⟨rfl, rfl⟩

/-- The limiter's cells. -/
abbrev lcells (l : Nat) (b : Int) (k : Nat) (last ev : Int) : Array Value :=
  #[.float .f64 l, .int .i64 b, .float .f64 k, .int .u64 (ns last), .int .i64 (sc last), .pointer none, .int .u64 (ns ev), .int .i64 (sc ev), .pointer none]

/-- advance: the tokens at a time not ahead of the last one. -/
theorem advance_of (L : Nat) (l k : Nat) (b last ev T d : Int) (p s : Nat) (c : Bool) (w : World) (hL : Blk w L 76 (lcells l b k last ev)) (hT : last ≤ T)
    (hS : ∀ w, Calls Try.prog 51 #[tv T, tv last] w fun e w' => e = .returned (.int .i64 d) ∧ Below w.heap.size w w')
    (hP : ∀ w, Calls Try.prog 54 #[.float .f64 l, .int .i64 d] w fun e w' => e = .returned (.float .f64 p) ∧ w = w')
    (ha : floatBits .add .f64 k p = some s) (hc : (FloatKind.f64.format.order s (floatOfInt .f64 b) == some .gt) = c) :
    Calls Try.prog 52 #[.pointer (some ⟨L, 0, none⟩), tv T] w fun e w' => e = .returned (.float .f64 (cond c (floatOfInt .f64 b) s)) ∧ Below w.heap.size w w' := by
  have hB : ∀ w, Calls Try.prog 53 #[tv T, tv last] w fun e w' => e = .returned (.bool false) ∧ Below w.heap.size w w' := by
    intro w
    have := before_any T last w
    rwa [show decide (T < last) = false from decide_eq_false (by omega)] at this
  have HS := Lib.hid hS
  have HP := Lib.hid hP
  have HB := Lib.hid hB
  have hLt := hL.lt
  have c0 := hL.cell 0
  have c1 := hL.cell 1
  have c2 := hL.cell 2
  have c3 := hL.cell 3
  have c4 := hL.cell 4
  have c5 := hL.cell 5
  simp only [List.getElem?_toArray, List.getElem?_cons_zero, List.getElem?_cons_succ] at c0 c1 c2 c3 c4 c5
  have hadd : ∀ t w, (binOp .add t (.float .f64 k) (.float .f64 p)).run Try.prog w = .ok (.float .f64 s) w := fun t w => run_float_arith w .add t .f64 _ _ s ha
  clear hS hP hB hL ha hT
  have h0 : w.heap.size + 1 < ((w.alloc (.cells #[.int .u64 (ns T), .int .i64 (sc T), .pointer none] 62)).alloc (.cells #[.int .u64 (ns last), .int .i64 (sc last), .pointer none] 62)).heap.size := by simp
  have hB0 : Below w.heap.size w ((w.alloc (.cells #[.int .u64 (ns T), .int .i64 (sc T), .pointer none] 62)).alloc (.cells #[.int .u64 (ns last), .int .i64 (sc last), .pointer none] 62)) := ((Below.refl _ _).alloc (Nat.le_refl _) _).alloc (by simp) _
  have HB0 := Lib.hid hB0
  have HZ := Lib.hid h0
  clear hB0 h0
  cases c
  all_goals
    go_enter Try.func52, Try.ntmps52
    go_wp2_with fail
    refine (HB.out _).mono ?_; rintro e w1 ⟨rfl, hb⟩
    have hz1 : w.heap.size + 1 < w1.heap.size := Nat.lt_of_lt_of_le HZ.out hb.size
    have hL1 : L < w1.heap.size := by omega
    have hB1 := HB0.out.trans (hb.mono (Nat.le_trans (by omega) (Nat.le_of_lt HZ.out)))
    have k1 : ∀ o, w1.cell? ⟨w.heap.size, o, none⟩ = _ := fun o => hb.cell (p := ⟨w.heap.size, o, none⟩) (by simp; omega)
    have k2 : ∀ o, w1.cell? ⟨w.heap.size + 1, o, none⟩ = _ := fun o => hb.cell (p := ⟨w.heap.size + 1, o, none⟩) (by simp)
    clear hb
    go_wp2_with fail
    refine (HS.out _).mono ?_; rintro e w2 ⟨rfl, hb⟩
    have hz2 : w.heap.size + 1 < w2.heap.size := Nat.lt_of_lt_of_le hz1 hb.size
    have hB2 := hB1.trans (hb.mono (by omega))
    clear hb hB1 k1 k2
    have d0 := (hB2.cell (p := ⟨L, 0, none⟩) hLt).trans c0
    have d1 := (hB2.cell (p := ⟨L, 1, none⟩) hLt).trans c1
    have d2 := (hB2.cell (p := ⟨L, 2, none⟩) hLt).trans c2
    go_wp2_with (go_at_call 54; refine (HP.out _).mono ?_; rintro e w' ⟨rfl, rfl⟩)
    go_ret
    exact ⟨rfl, hB2⟩

end Go.Proofs.Ytndkiphlpddbaaa
