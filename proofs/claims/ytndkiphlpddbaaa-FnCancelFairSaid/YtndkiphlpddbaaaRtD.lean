/- The walks of the limiter's methods over reserveN and advance, in whole numbers. -/
import Derived.Test.YtndkiphlpddbaaaRtC
namespace Go.Proofs.Ytndkiphlpddbaaa
open Go.RowKit Flt
attribute [local go_sem] store_float

/-- A reservation's cells. -/
abbrev rcells (ok : Bool) (L : Nat) (n T : Int) (l : Nat) : Array Value := #[.bool ok, .pointer (some ⟨L, 0, none⟩), .int .i64 n, .int .u64 (ns T), .int .i64 (sc T), .pointer none, .float .f64 l]

theorem ns_zero : ns 0 = 0 := by decide
theorem sc_zero : sc 0 = 0 := by decide

theorem turn_trans {a b c : World} {L : Nat} (h : a.grownBy b (some L)) (g : b.grownBy c (some L)) : a.grownBy c (some L) :=
  ⟨g.os.trans h.os, g.tape.trans h.tape, g.output.trans h.output, Nat.le_trans h.size g.size, fun i hi hne => (g.block i (Nat.lt_of_lt_of_le hi h.size) hne).trans (h.block i hi hne)⟩

/-- What reserveN does: a reservation, the limiter's new cells (the old ones if nothing turned). -/
def Rsv (L : Nat) (k n mx : Int) (old : Array Value) (ok : Bool) (m T : Int) (l : Nat) (cs : Array Value) : Prop :=
  ∀ w : World, Blk w L 76 old → Calls Try.prog 50 #[.pointer (some ⟨L, 0, none⟩), tv (tick k), .int .i64 n, .int .i64 mx] w fun e w' =>
    e = .returned (.agg (rcells ok L m T l)) ∧ Blk w' L 76 cs ∧ w.grownBy w' (some L)

theorem Rsv.okay (L : Nat) (s : St) (k n mx : Int) (h : s.Ok k) (n0 : 0 ≤ n) (n1 : n ≤ s.burst) (hm : 0 ≤ mx) (ht : n * 512 ≤ s.fill k) :
    Rsv L k n mx s.cells true n (tick k) (G 0 s.rate) (St.cells ⟨s.rate, s.burst, s.fill k - n * 512, some k, tick k⟩) :=
  fun w hL => rsv_ok L s k n mx w hL h n0 n1 hm ht

theorem Rsv.wait (L : Nat) (s : St) (k n mx : Int) (h : s.Ok k) (n0 : 0 ≤ n) (n1 : n ≤ s.burst) (hm : W s.rate (n * 512 - s.fill k) ≤ mx) (ht : s.fill k < n * 512) :
    Rsv L k n mx s.cells true n (tick k + W s.rate (n * 512 - s.fill k)) (G 0 s.rate) (St.cells ⟨s.rate, s.burst, s.fill k - n * 512, some k, tick k + W s.rate (n * 512 - s.fill k)⟩) :=
  fun w hL => rsv_wait L s k n mx w hL h n0 n1 hm ht

theorem Rsv.no (L : Nat) (s : St) (k n mx : Int) (h : s.Ok k) (n0 : 0 ≤ n) (n1 : n ≤ 1000) (hn : s.burst < n ∨ mx < W s.rate (n * 512 - s.fill k)) (ht : s.fill k < n * 512) :
    Rsv L k n mx s.cells false 0 0 (G 0 s.rate) s.cells :=
  fun w hL => (rsv_no L s k n mx w hL h n0 n1 hn ht).mono fun _ _ ⟨he, hb⟩ => ⟨by rw [he]; simp [rcells, ns_zero, sc_zero], hL.below hb hL.lt, turn_below (turn_refl w L) hb⟩

theorem Rsv.inf (L : Nat) (b k n mx : Int) (t : Nat) (last ev : Int) :
    Rsv L k n mx (lcells 9218868437227405311 b t last ev) true n (tick k) 0 (lcells 9218868437227405311 b t last ev) :=
  fun w hL => (rsv_inf L b n mx (tick k) t last ev w hL).mono fun _ _ ⟨he, hb⟩ => ⟨he, hL.below hb hL.lt, turn_below (turn_refl w L) hb⟩

theorem field_ok (ok : Bool) (a1 a2 a3 a4 a5 a6 : Value) (w : World) : (Instr.field 82 (.agg #[.bool ok, a1, a2, a3, a4, a5, a6]) 0).run Try.prog w = Result.ok (.bool ok) w := by kernel_rfl

theorem allow_any {L : Nat} {k n : Int} {old cs : Array Value} {ok : Bool} {m T : Int} {l : Nat} (hR : Rsv L k n 0 old ok m T l cs) (w : World) (hL : Blk w L 76 old) :
    Calls Try.prog 37 #[.pointer (some ⟨L, 0, none⟩), tv (tick k), .int .i64 n] w fun e w' => e = .returned (.bool ok) ∧ Blk w' L 76 cs ∧ w.grownBy w' (some L) := by
  have HR := Lib.hid (hR (w.alloc (.cells #[.int .u64 (ns (tick k)), .int .i64 (sc (tick k)), .pointer none] 62)) (hL.alloc _))
  clear hR hL
  dsimp only [rcells] at HR
  have hf := fun w => field_ok ok (.pointer (some ⟨L, 0, none⟩)) (.int .i64 m) (.int .u64 (ns T)) (.int .i64 (sc T)) (.pointer none) (.float .f64 l) w
  go_enter Try.func37, Try.ntmps37
  go_wp2_with fail
  refine HR.out.mono ?_; rintro e w1 ⟨rfl, hb, hg⟩
  have hg' := turn_trans (turn_alloc (turn_refl w L) (.cells #[.int .u64 (ns (tick k)), .int .i64 (sc (tick k)), .pointer none] 62)) hg
  clear hg
  have HB := Lib.hid hb
  have HG := Lib.hid hg'
  clear hb hg'
  go_wp2_with fail
  go_ret
  exact ⟨rfl, HB.out, HG.out⟩

/-- A new reservation has been handed back. -/
def RsvPost (w : World) (L : Nat) (cs rs : Array Value) (e : Ending) (w' : World) : Prop :=
  ∃ R : Nat, e = .returned (.pointer (some ⟨R, 0, none⟩)) ∧ w.heap.size ≤ R ∧ Blk w' R 82 rs ∧ Blk w' L 76 cs ∧ w.grownBy w' (some L)

theorem reserve_any {L : Nat} {k n : Int} {old cs : Array Value} {ok : Bool} {m T : Int} {l : Nat} (hR : Rsv L k n 9223372036854775807 old ok m T l cs) (w : World) (hL : Blk w L 76 old) :
    Calls Try.prog 38 #[.pointer (some ⟨L, 0, none⟩), tv (tick k), .int .i64 n] w (RsvPost w L cs (rcells ok L m T l)) := by
  have HR := Lib.hid (hR (w.alloc (.cells #[.int .u64 (ns (tick k)), .int .i64 (sc (tick k)), .pointer none] 62)) (hL.alloc _))
  clear hR hL
  go_enter Try.func38, Try.ntmps38
  go_wp2_with fail
  refine HR.out.mono ?_; rintro e w1 ⟨rfl, hb, hg⟩
  have hg' := turn_trans (turn_alloc (turn_refl w L) (.cells #[.int .u64 (ns (tick k)), .int .i64 (sc (tick k)), .pointer none] 62)) hg
  clear hg
  go_wp2_with fail
  go_ret
  exact ⟨w1.heap.size, rfl, hg'.size, Blk.new _ _ _, hb.alloc _, turn_alloc hg' _⟩

end Go.Proofs.Ytndkiphlpddbaaa
