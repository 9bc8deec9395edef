/- spec.Bucket's Step. -/
import Derived.Test.YtndkiphlpddbaaaSpB
import Derived.BigQuiet
import Derived.Deep.QuietTactic
namespace Go.Proofs.Ytndkiphlpddbaaa
open Go.RowKit Go.Deep Flt
attribute [local go_sem] store_float

def Tl.val (t : Tl) : Value := .agg #[.bool t.ok, .int .i64 t.delay, .float .f64 t.tok]

/-- The bounds within which a bucket is asked. -/
structure Bk.In (B : Bk) (a n : Int) : Prop where
  t : -4000000 ≤ B.tok ∧ B.tok ≤ 4000000
  r : 1 ≤ B.rate ∧ B.rate ≤ 1000
  b : 0 ≤ B.burst ∧ B.burst ≤ 64
  k : 0 ≤ B.at_ ∧ B.at_ ≤ 65536
  a : 0 ≤ a ∧ a ≤ 65536
  n : 0 ≤ n ∧ n ≤ 1000
  u : 0 ≤ B.taken ∧ B.taken ≤ 1000

/-- What a step does to a bucket, and what it is told. -/
def Bk.step (B : Bk) (kd a n : Int) : Bk :=
  let t := B.fillTok a
  let at_ := if B.at_ < a then a else B.at_
  if kd = 0 then (if B.burst < n ∨ t < n * 512 then ⟨B.rate, B.burst, t, at_, 0⟩ else ⟨B.rate, B.burst, t - n * 512, at_, 0⟩)
  else if kd = 1 then (if B.burst < n then ⟨B.rate, B.burst, t, at_, 0⟩ else ⟨B.rate, B.burst, t - n * 512, at_, n⟩)
  else if kd = 3 then ⟨n, B.burst, t, at_, 0⟩
  else if kd = 4 then ⟨B.rate, n, t, at_, 0⟩
  else if kd = 5 then ⟨B.rate, B.burst, min (t + B.taken * 512) (B.burst * 512), at_, 0⟩
  else ⟨B.rate, B.burst, t, at_, 0⟩

def Bk.told (B : Bk) (kd a n : Int) : Tl :=
  let t := B.fillTok a
  if kd = 0 then (if B.burst < n ∨ t < n * 512 then Tl.none else ⟨true, 0, 0⟩)
  else if kd = 1 then (if B.burst < n then ⟨false, 9223372036854775807, 0⟩ else ⟨true, max 0 ((-(t - n * 512) * 1953125).tdiv B.rate), 0⟩)
  else if kd = 2 then ⟨false, 0, G (-9) t⟩
  else if kd = 7 then ⟨n == B.burst, 0, G 0 B.rate⟩
  else Tl.none

theorem Bk.In.tok {B : Bk} {a n : Int} (h : B.In a n) : -4000000 ≤ B.fillTok a ∧ B.fillTok a ≤ 32768 := by
  obtain ⟨t, r, b, k, a', n', u⟩ := h
  unfold Bk.fillTok
  by_cases hlt : B.at_ < a
  · rw [if_pos hlt]
    have m0 : 0 ≤ (a - B.at_) * B.rate := Int.mul_nonneg (by omega) (by omega)
    omega
  · rw [if_neg hlt]; omega

section
variable {w w1 : World} {b : Nat} {r u t a k : Value} {o0 o1 o2 : Value}
/-- Behind Fill: where all lies. -/
structure Stp (w w1 : World) (b : Nat) (B : Bk) (kd a n : Int) : Prop where
  turn : w.grownBy w1 (some b)
  buck : Blk w1 b 56 B.cells
  stp : Blk w1 w.heap.size 34 #[.int .i64 kd, .int .i64 a, .int .i64 n]
  res : Blk w1 (w.heap.size + 1) 43 #[.bool false, .int .i64 0, .float .f64 0]
  lt : b < w.heap.size
end

theorem stp_start (b : Nat) (B : Bk) (kd a n : Int) (w : World) (hB : Blk w b 56 B.cells) (h : B.In a n) :
    Calls Try.prog 47 #[.pointer (some ⟨b, 0, none⟩), .int .i64 a] ((w.alloc (.cells #[.int .i64 kd, .int .i64 a, .int .i64 n] 34)).alloc (.cells #[.bool false, .int .i64 0, .float .f64 0] 43)) fun e w1 => e = .returned (.tuple #[]) ∧ Stp w w1 b (B.fill a) kd a n := by
  refine (fill_any b B a _ ((hB.alloc _).alloc _) ⟨by have := h.t; omega, by have := h.t; omega⟩ ⟨by have := h.r; omega, h.r.2⟩ ⟨h.b.1, by have := h.b; omega⟩ h.k h.a).mono fun e w1 ⟨he, hb1, hg⟩ => ⟨he, ?_⟩
  have hlt := hB.lt
  refine ⟨turn_trans (turn_alloc (turn_alloc (turn_refl w b) _) _) hg, hb1, ?_, ?_, hlt⟩
  · exact ((Blk.new w 34 _).alloc _).turned hg (by intro he; injection he with he; omega)
  · have := (Blk.new (w.alloc (.cells #[.int .i64 kd, .int .i64 a, .int .i64 n] 34)) 43 #[.bool false, .int .i64 0, .float .f64 0])
    rw [World.size_alloc] at this
    exact this.turned hg (by intro he; injection he with he; omega)

def StepPost (w : World) (b : Nat) (B' : Bk) (t : Tl) (e : Ending) (w' : World) : Prop := e = .returned t.val ∧ Blk w' b 56 B'.cells ∧ w.grownBy w' (some b)

theorem info43 : (Try.prog.info? 43).map (·.size) = some 3 := by kernel_rfl

theorem div_small (x r : Int) (h0 : -10000000000000 ≤ x) (h1 : x ≤ 10000000000000) : -10000000000000 ≤ x.tdiv r ∧ x.tdiv r ≤ 10000000000000 := by
  have h := Int.natAbs_tdiv_le_natAbs x r
  omega

structure Two (w w2 : World) (b : Nat) (cs rs : Array Value) : Prop where
  turn : w.grownBy w2 (some b)
  buck : Blk w2 b 56 cs
  res : Blk w2 (w.heap.size + 1) 43 rs
  lt : b < w.heap.size

theorem Two.set {w w2 : World} {b : Nat} {cs rs : Array Value} (h : Two w w2 b cs rs) (i : Nat) (v : Value) : Two w (w2.setCell ⟨b, i, none⟩ v) b (cs.setIfInBounds i v) rs :=
  ⟨turn_set h.turn (.inl rfl) v, h.buck.put i v, h.res.far (p := ⟨b, i, none⟩) (by have := h.lt; show _ ≠ b; omega) v, h.lt⟩
theorem Two.put {w w2 : World} {b : Nat} {cs rs : Array Value} (h : Two w w2 b cs rs) (i : Nat) (v : Value) : Two w (w2.setCell ⟨w.heap.size + 1, i, none⟩ v) b cs (rs.setIfInBounds i v) :=
  ⟨turn_set h.turn (.inr (by simp)) v, h.buck.far (p := ⟨w.heap.size + 1, i, none⟩) (by have := h.lt; show b ≠ w.heap.size + 1; omega) v, h.res.put i v, h.lt⟩
theorem Two.drew {w w2 : World} {b : Nat} {cs rs : Array Value} (h : Two w w2 b cs rs) : Two w w2.drew b cs rs := ⟨turn_drew h.turn, h.buck, h.res, h.lt⟩
theorem Two.drewN {w w2 : World} {b : Nat} {cs rs : Array Value} (h : Two w w2 b cs rs) (m : Nat) : Two w (w2.drewN m) b cs rs := by
  induction m with
  | zero => exact h
  | succ m ih => exact ih.drew
theorem Two.said {w w2 : World} {b : Nat} {cs rs : Array Value} (h : Two w w2 b cs rs) (x y z : Value) (hr : rs.size = 3) :
    Two w (((w2.setCell ⟨w.heap.size + 1, 0, none⟩ x).setCell ⟨w.heap.size + 1, 1, none⟩ y).setCell ⟨w.heap.size + 1, 2, none⟩ z) b cs #[x, y, z] := by
  have := ((h.put 0 x).put 1 y).put 2 z
  obtain ⟨l⟩ := rs
  match l, hr with
  | [p, q, r], _ => exact this
theorem Two.to {w w2 : World} {b : Nat} {cs rs cs' : Array Value} (h : Two w w2 b cs rs) (e : cs = cs') : Two w w2 b cs' rs := e ▸ h
theorem Stp.two {w w1 : World} {b : Nat} {B : Bk} {kd a n : Int} (h : Stp w w1 b B kd a n) : Two w w1 b B.cells #[.bool false, .int .i64 0, .float .f64 0] := ⟨h.turn, h.buck, h.res, h.lt⟩

theorem stp_end {w w2 : World} {b : Nat} {B : Bk} {t : Tl} {tmps : Array Value} (h : Two w w2 b B.cells #[.bool t.ok, .int .i64 t.delay, .float .f64 t.tok]) (hp : tmps.getD 4 undef = .pointer (some ⟨w.heap.size + 1, 0, none⟩)) (x : Exit) (hx : x = .ret ∨ x = .normal) :
    bodyPost Try.prog Try.f35 (StepPost w b B t) x { tmps := tmps, defers := [] } w2 := by
  rcases hx with rfl | rfl
  · refine bodyPost_ret (results_cell_row rfl _ _ (w.heap.size + 1) 43 _ (0, 0) _ hp h.res Try.underlying43 rfl info43) rfl ?_
    exact ⟨rfl, h.buck, h.turn⟩
  · refine bodyPost_end (results_cell_row rfl _ _ (w.heap.size + 1) 43 _ (0, 0) _ hp h.res Try.underlying43 rfl info43) rfl ?_
    exact ⟨rfl, h.buck, h.turn⟩


set_option maxRecDepth 100000 in
set_option maxHeartbeats 400000 in
theorem step2 (b : Nat) (B : Bk) (a n : Int) (w : World) (hB : Blk w b 56 B.cells) (h : B.In a n) :
    Calls Try.prog 35 #[.pointer (some ⟨b, 0, none⟩), .agg #[.int .i64 2, .int .i64 a, .int .i64 n]] w (StepPost w b ⟨B.rate, B.burst, (B.fillTok a), (if B.at_ < a then a else B.at_), 0⟩ ⟨false, 0, G (-9) (B.fillTok a)⟩) := by
  have HS := Lib.hid (stp_start b B 2 a n w hB h)
  have ht := h.tok
  have hr := h.r
  have hu := h.b
  have hn := h.n
  have htk := h.u
  unfold Bk.fill at HS
  obtain ⟨rt, bu, tk, at_, tn⟩ := B
  clear hB h
  dsimp only at *
  generalize Bk.fillTok ⟨rt, bu, tk, at_, tn⟩ a = ft at *
  generalize (if at_ < a then a else at_) = at' at *
  go_enter Try.func35, Try.ntmps35
  go_wp2_with fail
  refine HS.out.mono ?_; rintro e w1 ⟨rfl, hs⟩
  have hlt := hs.lt
  have kB := hs.buck.cell
  have fB := hs.buck.free
  have kS := hs.stp.cell
  have kR := hs.res.cell
  have fR := hs.res.free
  simp only [Bk.cells] at kB
  have n1 : ¬ b = w.heap.size := by omega
  have n2 : ¬ b = w.heap.size + 1 := by omega
  have n3 : ¬ w.heap.size = b := by omega
  have n4 : ¬ w.heap.size + 1 = b := by omega
  have H := Lib.hid hs.two
  clear hs HS
  have hdiv := fun t w => run_float_arith (P := Try.prog) w .quo t .f64 (floatOfInt .f64 ft) 4647714815446351872 (G (-9) ft) (by
    rw [floatOfInt_G, show (4647714815446351872 : Nat) = G 0 512 from by decide +kernel]
    exact div_G 0 0 (-9) _ _ _ 9 (by omega) (by decide) (by decide) (by decide) (by decide) (by omega) (by decide) (by decide) (by decide) (by decide))
  go_wp2_with fail
  exact stp_end (Two.to (cs' := Bk.cells ⟨rt, bu, ft, at', 0⟩) ((H.out.set 4 (.int .i64 0)).said (.bool false) (.int .i64 0) (.float .f64 (G (-9) ft)) rfl) rfl) rfl _ (.inl rfl)

set_option maxRecDepth 100000 in
set_option maxHeartbeats 400000 in
theorem step3 (b : Nat) (B : Bk) (a n : Int) (w : World) (hB : Blk w b 56 B.cells) (h : B.In a n) :
    Calls Try.prog 35 #[.pointer (some ⟨b, 0, none⟩), .agg #[.int .i64 3, .int .i64 a, .int .i64 n]] w (StepPost w b ⟨n, B.burst, (B.fillTok a), (if B.at_ < a then a else B.at_), 0⟩ Tl.none) := by
  have HS := Lib.hid (stp_start b B 3 a n w hB h)
  have ht := h.tok
  have hr := h.r
  have hu := h.b
  have hn := h.n
  have htk := h.u
  unfold Bk.fill at HS
  obtain ⟨rt, bu, tk, at_, tn⟩ := B
  clear hB h
  dsimp only at *
  generalize Bk.fillTok ⟨rt, bu, tk, at_, tn⟩ a = ft at *
  generalize (if at_ < a then a else at_) = at' at *
  go_enter Try.func35, Try.ntmps35
  go_wp2_with fail
  refine HS.out.mono ?_; rintro e w1 ⟨rfl, hs⟩
  have hlt := hs.lt
  have kB := hs.buck.cell
  have fB := hs.buck.free
  have kS := hs.stp.cell
  have kR := hs.res.cell
  have fR := hs.res.free
  simp only [Bk.cells] at kB
  have n1 : ¬ b = w.heap.size := by omega
  have n2 : ¬ b = w.heap.size + 1 := by omega
  have n3 : ¬ w.heap.size = b := by omega
  have n4 : ¬ w.heap.size + 1 = b := by omega
  have H := Lib.hid hs.two
  clear hs HS
  go_wp2_with fail
  exact stp_end (Two.to (cs' := Bk.cells ⟨n, bu, ft, at', 0⟩) (((H.out.set 4 (.int .i64 0)).set 0 (.int .i64 n)).said (.bool false) (.int .i64 0) (.float .f64 0) rfl) rfl) rfl _ (.inl rfl)

set_option maxRecDepth 100000 in
set_option maxHeartbeats 400000 in
theorem step4 (b : Nat) (B : Bk) (a n : Int) (w : World) (hB : Blk w b 56 B.cells) (h : B.In a n) :
    Calls Try.prog 35 #[.pointer (some ⟨b, 0, none⟩), .agg #[.int .i64 4, .int .i64 a, .int .i64 n]] w (StepPost w b ⟨B.rate, n, (B.fillTok a), (if B.at_ < a then a else B.at_), 0⟩ Tl.none) := by
  have HS := Lib.hid (stp_start b B 4 a n w hB h)
  have ht := h.tok
  have hr := h.r
  have hu := h.b
  have hn := h.n
  have htk := h.u
  unfold Bk.fill at HS
  obtain ⟨rt, bu, tk, at_, tn⟩ := B
  clear hB h
  dsimp only at *
  generalize Bk.fillTok ⟨rt, bu, tk, at_, tn⟩ a = ft at *
  generalize (if at_ < a then a else at_) = at' at *
  go_enter Try.func35, Try.ntmps35
  go_wp2_with fail
  refine HS.out.mono ?_; rintro e w1 ⟨rfl, hs⟩
  have hlt := hs.lt
  have kB := hs.buck.cell
  have fB := hs.buck.free
  have kS := hs.stp.cell
  have kR := hs.res.cell
  have fR := hs.res.free
  simp only [Bk.cells] at kB
  have n1 : ¬ b = w.heap.size := by omega
  have n2 : ¬ b = w.heap.size + 1 := by omega
  have n3 : ¬ w.heap.size = b := by omega
  have n4 : ¬ w.heap.size + 1 = b := by omega
  have H := Lib.hid hs.two
  clear hs HS
  go_wp2_with fail
  exact stp_end (Two.to (cs' := Bk.cells ⟨rt, n, ft, at', 0⟩) (((H.out.set 4 (.int .i64 0)).set 1 (.int .i64 n)).said (.bool false) (.int .i64 0) (.float .f64 0) rfl) rfl) rfl _ (.inl rfl)

set_option maxRecDepth 100000 in
set_option maxHeartbeats 400000 in
theorem step7 (b : Nat) (B : Bk) (a n : Int) (w : World) (hB : Blk w b 56 B.cells) (h : B.In a n) :
    Calls Try.prog 35 #[.pointer (some ⟨b, 0, none⟩), .agg #[.int .i64 7, .int .i64 a, .int .i64 n]] w (StepPost w b ⟨B.rate, B.burst, (B.fillTok a), (if B.at_ < a then a else B.at_), 0⟩ ⟨n == B.burst, 0, G 0 B.rate⟩) := by
  have HS := Lib.hid (stp_start b B 7 a n w hB h)
  have ht := h.tok
  have hr := h.r
  have hu := h.b
  have hn := h.n
  have htk := h.u
  unfold Bk.fill at HS
  obtain ⟨rt, bu, tk, at_, tn⟩ := B
  clear hB h
  dsimp only at *
  generalize Bk.fillTok ⟨rt, bu, tk, at_, tn⟩ a = ft at *
  generalize (if at_ < a then a else at_) = at' at *
  go_enter Try.func35, Try.ntmps35
  go_wp2_with fail
  refine HS.out.mono ?_; rintro e w1 ⟨rfl, hs⟩
  have hlt := hs.lt
  have kB := hs.buck.cell
  have fB := hs.buck.free
  have kS := hs.stp.cell
  have kR := hs.res.cell
  have fR := hs.res.free
  simp only [Bk.cells] at kB
  have n1 : ¬ b = w.heap.size := by omega
  have n2 : ¬ b = w.heap.size + 1 := by omega
  have n3 : ¬ w.heap.size = b := by omega
  have n4 : ¬ w.heap.size + 1 = b := by omega
  have H := Lib.hid hs.two
  clear hs HS
  go_wp2_with fail
  go_region
  go_wp2_with fail
  exact stp_end (Two.to (cs' := Bk.cells ⟨rt, bu, ft, at', 0⟩) (((H.out.set 4 (.int .i64 0)).said (.bool (n == bu)) (.int .i64 0) (.float .f64 (G 0 rt)) rfl).drew) rfl) rfl _ (.inl rfl)

set_option maxRecDepth 100000 in
set_option maxHeartbeats 400000 in
theorem step0_no (b : Nat) (B : Bk) (a n : Int) (w : World) (hB : Blk w b 56 B.cells) (h : B.In a n) (hc : B.burst < n) :
    Calls Try.prog 35 #[.pointer (some ⟨b, 0, none⟩), .agg #[.int .i64 0, .int .i64 a, .int .i64 n]] w (StepPost w b ⟨B.rate, B.burst, (B.fillTok a), (if B.at_ < a then a else B.at_), 0⟩ Tl.none) := by
  have HS := Lib.hid (stp_start b B 0 a n w hB h)
  have ht := h.tok
  have hr := h.r
  have hu := h.b
  have hn := h.n
  have htk := h.u
  unfold Bk.fill at HS
  obtain ⟨rt, bu, tk, at_, tn⟩ := B
  clear hB h
  dsimp only at *
  generalize Bk.fillTok ⟨rt, bu, tk, at_, tn⟩ a = ft at *
  generalize (if at_ < a then a else at_) = at' at *
  go_enter Try.func35, Try.ntmps35
  go_wp2_with fail
  refine HS.out.mono ?_; rintro e w1 ⟨rfl, hs⟩
  have hlt := hs.lt
  have kB := hs.buck.cell
  have fB := hs.buck.free
  have kS := hs.stp.cell
  have kR := hs.res.cell
  have fR := hs.res.free
  simp only [Bk.cells] at kB
  have n1 : ¬ b = w.heap.size := by omega
  have n2 : ¬ b = w.heap.size + 1 := by omega
  have n3 : ¬ w.heap.size = b := by omega
  have n4 : ¬ w.heap.size + 1 = b := by omega
  have H := Lib.hid hs.two
  clear hs HS
  have hd : decide (n > bu) = true := decide_eq_true hc
  go_wp2_with fail
  go_quiet (fail)
  go_wp2_with fail
  exact stp_end (Two.to (cs' := Bk.cells ⟨rt, bu, ft, at', 0⟩) (((H.out.set 4 (.int .i64 0)).drewN _).said (.bool false) (.int .i64 0) (.float .f64 0) rfl) rfl) rfl _ (.inl rfl)

set_option maxRecDepth 100000 in
set_option maxHeartbeats 400000 in
theorem step0_few (b : Nat) (B : Bk) (a n : Int) (w : World) (hB : Blk w b 56 B.cells) (h : B.In a n) (hc : ¬ B.burst < n) (hf : (B.fillTok a) < n * 512) :
    Calls Try.prog 35 #[.pointer (some ⟨b, 0, none⟩), .agg #[.int .i64 0, .int .i64 a, .int .i64 n]] w (StepPost w b ⟨B.rate, B.burst, (B.fillTok a), (if B.at_ < a then a else B.at_), 0⟩ Tl.none) := by
  have HS := Lib.hid (stp_start b B 0 a n w hB h)
  have ht := h.tok
  have hr := h.r
  have hu := h.b
  have hn := h.n
  have htk := h.u
  unfold Bk.fill at HS
  obtain ⟨rt, bu, tk, at_, tn⟩ := B
  clear hB h
  dsimp only at *
  generalize Bk.fillTok ⟨rt, bu, tk, at_, tn⟩ a = ft at *
  generalize (if at_ < a then a else at_) = at' at *
  go_enter Try.func35, Try.ntmps35
  go_wp2_with fail
  refine HS.out.mono ?_; rintro e w1 ⟨rfl, hs⟩
  have hlt := hs.lt
  have kB := hs.buck.cell
  have fB := hs.buck.free
  have kS := hs.stp.cell
  have kR := hs.res.cell
  have fR := hs.res.free
  simp only [Bk.cells] at kB
  have n1 : ¬ b = w.heap.size := by omega
  have n2 : ¬ b = w.heap.size + 1 := by omega
  have n3 : ¬ w.heap.size = b := by omega
  have n4 : ¬ w.heap.size + 1 = b := by omega
  have H := Lib.hid hs.two
  clear hs HS
  have hd : decide (bu < n) = false := decide_eq_false (by omega)
  go_wp2_with fail
  go_quiet (fail)
  go_wp2_with fail
  exact stp_end (Two.to (cs' := Bk.cells ⟨rt, bu, ft, at', 0⟩) (((H.out.set 4 (.int .i64 0)).drewN _).said (.bool false) (.int .i64 0) (.float .f64 0) rfl) rfl) rfl _ (.inl rfl)

set_option maxRecDepth 100000 in
set_option maxHeartbeats 400000 in
theorem step0_ok (b : Nat) (B : Bk) (a n : Int) (w : World) (hB : Blk w b 56 B.cells) (h : B.In a n) (hc : ¬ B.burst < n) (hf : ¬ (B.fillTok a) < n * 512) :
    Calls Try.prog 35 #[.pointer (some ⟨b, 0, none⟩), .agg #[.int .i64 0, .int .i64 a, .int .i64 n]] w (StepPost w b ⟨B.rate, B.burst, (B.fillTok a) - n * 512, (if B.at_ < a then a else B.at_), 0⟩ ⟨true, 0, 0⟩) := by
  have HS := Lib.hid (stp_start b B 0 a n w hB h)
  have ht := h.tok
  have hr := h.r
  have hu := h.b
  have hn := h.n
  have htk := h.u
  unfold Bk.fill at HS
  obtain ⟨rt, bu, tk, at_, tn⟩ := B
  clear hB h
  dsimp only at *
  generalize Bk.fillTok ⟨rt, bu, tk, at_, tn⟩ a = ft at *
  generalize (if at_ < a then a else at_) = at' at *
  go_enter Try.func35, Try.ntmps35
  go_wp2_with fail
  refine HS.out.mono ?_; rintro e w1 ⟨rfl, hs⟩
  have hlt := hs.lt
  have kB := hs.buck.cell
  have fB := hs.buck.free
  have kS := hs.stp.cell
  have kR := hs.res.cell
  have fR := hs.res.free
  simp only [Bk.cells] at kB
  have n1 : ¬ b = w.heap.size := by omega
  have n2 : ¬ b = w.heap.size + 1 := by omega
  have n3 : ¬ w.heap.size = b := by omega
  have n4 : ¬ w.heap.size + 1 = b := by omega
  have H := Lib.hid hs.two
  clear hs HS
  have hd : decide (bu < n) = false := decide_eq_false (by omega)
  go_wp2_with fail
  go_quiet (fail)
  go_wp2_with fail
  go_region
  go_wp2_with fail
  exact stp_end (Two.to (cs' := Bk.cells ⟨rt, bu, ft - n * 512, at', 0⟩) ((((H.out.set 4 (.int .i64 0)).drewN _).set 2 (.int .i64 (ft - n * 512))).said (.bool true) (.int .i64 0) (.float .f64 0) rfl) rfl) rfl _ (.inl rfl)

set_option maxRecDepth 100000 in
set_option maxHeartbeats 400000 in
theorem step1_no (b : Nat) (B : Bk) (a n : Int) (w : World) (hB : Blk w b 56 B.cells) (h : B.In a n) (hc : B.burst < n) :
    Calls Try.prog 35 #[.pointer (some ⟨b, 0, none⟩), .agg #[.int .i64 1, .int .i64 a, .int .i64 n]] w (StepPost w b ⟨B.rate, B.burst, (B.fillTok a), (if B.at_ < a then a else B.at_), 0⟩ ⟨false, 9223372036854775807, 0⟩) := by
  have HS := Lib.hid (stp_start b B 1 a n w hB h)
  have ht := h.tok
  have hr := h.r
  have hu := h.b
  have hn := h.n
  have htk := h.u
  unfold Bk.fill at HS
  obtain ⟨rt, bu, tk, at_, tn⟩ := B
  clear hB h
  dsimp only at *
  generalize Bk.fillTok ⟨rt, bu, tk, at_, tn⟩ a = ft at *
  generalize (if at_ < a then a else at_) = at' at *
  go_enter Try.func35, Try.ntmps35
  go_wp2_with fail
  refine HS.out.mono ?_; rintro e w1 ⟨rfl, hs⟩
  have hlt := hs.lt
  have kB := hs.buck.cell
  have fB := hs.buck.free
  have kS := hs.stp.cell
  have kR := hs.res.cell
  have fR := hs.res.free
  simp only [Bk.cells] at kB
  have n1 : ¬ b = w.heap.size := by omega
  have n2 : ¬ b = w.heap.size + 1 := by omega
  have n3 : ¬ w.heap.size = b := by omega
  have n4 : ¬ w.heap.size + 1 = b := by omega
  have H := Lib.hid hs.two
  clear hs HS
  go_wp2_with fail
  go_region
  go_wp2_with fail
  exact stp_end (Two.to (cs' := Bk.cells ⟨rt, bu, ft, at', 0⟩) ((H.out.set 4 (.int .i64 0)).drew.said (.bool false) (.int .i64 9223372036854775807) (.float .f64 0) rfl) rfl) rfl _ (.inl rfl)

set_option maxRecDepth 100000 in
set_option maxHeartbeats 400000 in
theorem step1_ok (b : Nat) (B : Bk) (a n : Int) (w : World) (hB : Blk w b 56 B.cells) (h : B.In a n) (hc : ¬ B.burst < n) :
    Calls Try.prog 35 #[.pointer (some ⟨b, 0, none⟩), .agg #[.int .i64 1, .int .i64 a, .int .i64 n]] w (StepPost w b ⟨B.rate, B.burst, (B.fillTok a) - n * 512, (if B.at_ < a then a else B.at_), n⟩ ⟨true, max 0 ((-((B.fillTok a) - n * 512) * 1953125).tdiv B.rate), 0⟩) := by
  have HS := Lib.hid (stp_start b B 1 a n w hB h)
  have ht := h.tok
  have hr := h.r
  have hu := h.b
  have hn := h.n
  have htk := h.u
  unfold Bk.fill at HS
  obtain ⟨rt, bu, tk, at_, tn⟩ := B
  clear hB h
  dsimp only at *
  generalize Bk.fillTok ⟨rt, bu, tk, at_, tn⟩ a = ft at *
  generalize (if at_ < a then a else at_) = at' at *
  go_enter Try.func35, Try.ntmps35
  go_wp2_with fail
  refine HS.out.mono ?_; rintro e w1 ⟨rfl, hs⟩
  have hlt := hs.lt
  have kB := hs.buck.cell
  have fB := hs.buck.free
  have kS := hs.stp.cell
  have kR := hs.res.cell
  have fR := hs.res.free
  simp only [Bk.cells] at kB
  have n1 : ¬ b = w.heap.size := by omega
  have n2 : ¬ b = w.heap.size + 1 := by omega
  have n3 : ¬ w.heap.size = b := by omega
  have n4 : ¬ w.heap.size + 1 = b := by omega
  have H := Lib.hid hs.two
  clear hs HS
  have q := div_small (-(ft - n * 512) * 1953125) rt (by omega) (by omega)
  generalize hq : (-(ft - n * 512) * 1953125).tdiv rt = d at *
  go_wp2_with fail
  go_region
  go_wp2_with fail
  go_region
  go_wp2_with fail
  have z0 : rt ≠ 0 := by omega
  go_region
  all_goals (go_wp2_with fail)
  · rw [show max 0 d = d from by omega]
    exact stp_end (Two.to (cs' := Bk.cells ⟨rt, bu, ft - n * 512, at', n⟩) (((((H.out.set 4 (.int .i64 0)).set 2 (.int .i64 (ft - n * 512))).set 4 (.int .i64 n)).said (.bool true) (.int .i64 d) (.float .f64 0) rfl).drew.drew.drew) rfl) rfl _ (.inl rfl)
  · rw [show max 0 d = 0 from by omega]
    exact stp_end (Two.to (cs' := Bk.cells ⟨rt, bu, ft - n * 512, at', n⟩) (((((H.out.set 4 (.int .i64 0)).set 2 (.int .i64 (ft - n * 512))).set 4 (.int .i64 n)).said (.bool true) (.int .i64 0) (.float .f64 0) rfl).drew.drew.drew) rfl) rfl _ (.inl rfl)

set_option maxRecDepth 100000 in
set_option maxHeartbeats 400000 in
theorem step5 (b : Nat) (B : Bk) (a n : Int) (w : World) (hB : Blk w b 56 B.cells) (h : B.In a n) :
    Calls Try.prog 35 #[.pointer (some ⟨b, 0, none⟩), .agg #[.int .i64 5, .int .i64 a, .int .i64 n]] w (StepPost w b ⟨B.rate, B.burst, min ((B.fillTok a) + B.taken * 512) (B.burst * 512), (if B.at_ < a then a else B.at_), 0⟩ Tl.none) := by
  have HS := Lib.hid (stp_start b B 5 a n w hB h)
  have ht := h.tok
  have hr := h.r
  have hu := h.b
  have hn := h.n
  have htk := h.u
  unfold Bk.fill at HS
  obtain ⟨rt, bu, tk, at_, tn⟩ := B
  clear hB h
  dsimp only at *
  generalize Bk.fillTok ⟨rt, bu, tk, at_, tn⟩ a = ft at *
  generalize (if at_ < a then a else at_) = at' at *
  go_enter Try.func35, Try.ntmps35
  go_wp2_with fail
  refine HS.out.mono ?_; rintro e w1 ⟨rfl, hs⟩
  have hlt := hs.lt
  have kB := hs.buck.cell
  have fB := hs.buck.free
  have kS := hs.stp.cell
  have kR := hs.res.cell
  have fR := hs.res.free
  simp only [Bk.cells] at kB
  have n1 : ¬ b = w.heap.size := by omega
  have n2 : ¬ b = w.heap.size + 1 := by omega
  have n3 : ¬ w.heap.size = b := by omega
  have n4 : ¬ w.heap.size + 1 = b := by omega
  have H := Lib.hid hs.two
  clear hs HS
  go_wp2_with fail
  go_region
  all_goals (go_wp2_with fail)
  · rw [show min (ft + tn * 512) (bu * 512) = bu * 512 from by omega]
    exact stp_end (Two.to (cs' := Bk.cells ⟨rt, bu, bu * 512, at', 0⟩) ((((H.out.set 4 (.int .i64 0)).set 2 (.int .i64 (bu * 512))).said (.bool false) (.int .i64 0) (.float .f64 0) rfl).drew) rfl) rfl _ (.inl rfl)
  · rw [show min (ft + tn * 512) (bu * 512) = ft + tn * 512 from by omega]
    exact stp_end (Two.to (cs' := Bk.cells ⟨rt, bu, ft + tn * 512, at', 0⟩) ((((H.out.set 4 (.int .i64 0)).set 2 (.int .i64 (ft + tn * 512))).said (.bool false) (.int .i64 0) (.float .f64 0) rfl).drew) rfl) rfl _ (.inl rfl)

theorem step_any (b : Nat) (B : Bk) (kd a n : Int) (w : World) (hB : Blk w b 56 B.cells) (h : B.In a n) (hk : kd = 0 ∨ kd = 1 ∨ kd = 2 ∨ kd = 3 ∨ kd = 4 ∨ kd = 5 ∨ kd = 7) :
    Calls Try.prog 35 #[.pointer (some ⟨b, 0, none⟩), .agg #[.int .i64 kd, .int .i64 a, .int .i64 n]] w (StepPost w b (B.step kd a n) (B.told kd a n)) := by
  rcases hk with rfl | rfl | rfl | rfl | rfl | rfl | rfl
  · by_cases hc : B.burst < n
    · rw [show B.step 0 a n = ⟨B.rate, B.burst, B.fillTok a, (if B.at_ < a then a else B.at_), 0⟩ from by simp [Bk.step, hc], show B.told 0 a n = Tl.none from by simp [Bk.told, hc]]
      exact step0_no b B a n w hB h hc
    · by_cases hf : B.fillTok a < n * 512
      · rw [show B.step 0 a n = ⟨B.rate, B.burst, B.fillTok a, (if B.at_ < a then a else B.at_), 0⟩ from by simp [Bk.step, hf], show B.told 0 a n = Tl.none from by simp [Bk.told, hf]]
        exact step0_few b B a n w hB h hc hf
      · rw [show B.step 0 a n = ⟨B.rate, B.burst, B.fillTok a - n * 512, (if B.at_ < a then a else B.at_), 0⟩ from by simp [Bk.step, hc, hf], show B.told 0 a n = ⟨true, 0, 0⟩ from by simp [Bk.told, hc, hf]]
        exact step0_ok b B a n w hB h hc hf
  · by_cases hc : B.burst < n
    · rw [show B.step 1 a n = ⟨B.rate, B.burst, B.fillTok a, (if B.at_ < a then a else B.at_), 0⟩ from by simp [Bk.step, hc], show B.told 1 a n = ⟨false, 9223372036854775807, 0⟩ from by simp [Bk.told, hc]]
      exact step1_no b B a n w hB h hc
    · rw [show B.step 1 a n = ⟨B.rate, B.burst, B.fillTok a - n * 512, (if B.at_ < a then a else B.at_), n⟩ from by simp [Bk.step, hc], show B.told 1 a n = ⟨true, max 0 ((-(B.fillTok a - n * 512) * 1953125).tdiv B.rate), 0⟩ from by simp [Bk.told, hc]]
      exact step1_ok b B a n w hB h hc
  · exact step2 b B a n w hB h
  · exact step3 b B a n w hB h
  · exact step4 b B a n w hB h
  · exact step5 b B a n w hB h
  · exact step7 b B a n w hB h


end Go.Proofs.Ytndkiphlpddbaaa
