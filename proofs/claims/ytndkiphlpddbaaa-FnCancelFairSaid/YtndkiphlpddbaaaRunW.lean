/- The walk of impl.run: what each step is told, and that nothing else turns. -/
import Derived.Test.YtndkiphlpddbaaaRunM
import Derived.Deep.DeepMust
namespace Go.Proofs.Ytndkiphlpddbaaa
open Go.RowKit Go.Deep Flt
attribute [local go_sem] store_float

theorem info30 : (Try.prog.info? 30).map (fun i => (i.zero, i.size, i.bytes)) = some (some (.agg #[.bool false, .int .i64 0, .float .f64 0]), 3, 24) := by kernel_rfl
theorem info65 : (Try.prog.info? 65).map (fun i => (i.zero, i.size, i.bytes)) = some (some (.pointer none), 1, 8) := by kernel_rfl

/-- What the two makes lay. -/
def heldObj (N : Nat) : Obj := .cells (madeCells #[.pointer none] N) 65
def outObj (N : Nat) : Obj := .cells (madeCells #[.bool false, .int .i64 0, .float .f64 0] (N * 3)) 30

theorem make_held (N : Nat) (hN : N ≤ 1000) (w : World) : (Instr.makeSlice 58 (.int .i64 (N : Int)) (.int .i64 (N : Int))).run Try.prog w = .ok (.slice (some ⟨w.heap.size, 0, none⟩) N N) (w.alloc (heldObj N)) := by
  obtain ⟨i, hi, hz, hs, hb⟩ := info_parts info65
  have := run_make (P := Try.prog) w 58 65 i _ Try.underlying58 hi hz .i64 .i64 N N (by omega) (by omega) (by rw [hb]; omega) (by omega)
  rw [this, Int.toNat_natCast, hs, Nat.mul_one]; rfl

theorem make_out (N : Nat) (hN : N ≤ 1000) (w : World) : (Instr.makeSlice 23 (.int .i64 (N : Int)) (.int .i64 (N : Int))).run Try.prog w = .ok (.slice (some ⟨w.heap.size, 0, none⟩) N N) (w.alloc (outObj N)) := by
  obtain ⟨i, hi, hz, hs, hb⟩ := info_parts info30
  have := run_make (P := Try.prog) w 23 30 i _ Try.underlying23 hi hz .i64 .i64 N N (by omega) (by omega) (by rw [hb]; omega) (by omega)
  rw [this, Int.toNat_natCast, hs]; rfl

theorem heldObj_row (N : Nat) (w : World) (H : Nat → Option (Array Value)) (P : Nat → Nat) : (w.alloc (heldObj N)).rowIs w.heap.size 65 N (heldF H P 0) :=
  (World.rowIs_made w (.pointer none) N 65).congr fun i _ => by simp [heldF]

theorem outObj_row (N : Nat) (w : World) (T : Nat → Tl) : (w.alloc (outObj N)).rowIs w.heap.size 30 (3 * N) (outF T 0) := by
  have h := World.rowIs_alloc w (madeCells #[.bool false, .int .i64 0, .float .f64 0] (N * 3)) 30 (outF T 0) (fun i hi => by
    rw [size_madeCells] at hi
    have h3 : i % 3 = 0 ∨ i % 3 = 1 ∨ i % 3 = 2 := by omega
    rcases h3 with h | h | h <;> simp [madeCells, hi, outF, Tl.none, Tl.cell, h])
  rw [size_madeCells, Nat.mul_comm] at h
  unfold outObj
  rw [Nat.mul_comm N 3]
  exact h

/-! ### the rows behind a step -/
theorem outF_next (T : Nat → Tl) (k : Nat) (f : Nat → Value) (h0 : f (k * 3) = .bool (T k).ok) (h1 : f (k * 3 + 1) = .int .i64 (T k).delay) (h2 : f (k * 3 + 2) = .float .f64 (T k).tok)
    (h : ∀ j, j ≠ k * 3 → j ≠ k * 3 + 1 → j ≠ k * 3 + 2 → f j = outF T k j) (j : Nat) : f j = outF T (k + 1) j := by
  by_cases e0 : j = k * 3
  · subst e0; rw [h0]; simp [outF, Tl.cell, Nat.mul_mod_left]
  · by_cases e1 : j = k * 3 + 1
    · subst e1
      rw [h1, outF, if_pos (by omega), show (k * 3 + 1) / 3 = k by omega, show (k * 3 + 1) % 3 = 1 by omega]; rfl
    · by_cases e2 : j = k * 3 + 2
      · subst e2
        rw [h2, outF, if_pos (by omega), show (k * 3 + 2) / 3 = k by omega, show (k * 3 + 2) % 3 = 2 by omega]; rfl
      · rw [h j e0 e1 e2]
        unfold outF
        by_cases hk : j / 3 < k
        · rw [if_pos hk, if_pos (by omega)]
        · rw [if_neg hk, if_neg (by omega)]

theorem outF_at (T : Nat → Tl) (k c : Nat) (hc : c < 3) : outF T k (k * 3 + c) = Tl.none.cell c := by
  unfold outF
  rw [if_neg (by omega), show (k * 3 + c) % 3 = c by omega]

theorem heldF_none (H : Nat → Option (Array Value)) (P : Nat → Nat) (k : Nat) (h : H k = none) (j : Nat) : heldF H P k j = heldF H P (k + 1) j := by
  unfold heldF
  by_cases hj : j = k
  · subst hj; simp [h]
  · by_cases hl : j < k
    · simp [hl, show j < k + 1 by omega]
    · simp [hl, show ¬ j < k + 1 by omega]

theorem heldF_some (H : Nat → Option (Array Value)) (P : Nat → Nat) (k R : Nat) (rc : Array Value) (h : H k = some rc) (j : Nat) :
    (if j = k then Value.pointer (some ⟨R, 0, none⟩) else heldF H P k j) = heldF H (fun i => if i = k then R else P i) (k + 1) j := by
  unfold heldF
  by_cases hj : j = k
  · subst hj; simp [h]
  · by_cases hl : j < k
    · simp [hl, hj, show j < k + 1 by omega]
    · simp [hl, hj, show ¬ j < k + 1 by omega]

theorem blk_drew {w : World} {g : Nat} {t : TypeId} {cs : Array Value} (h : Blk w g t cs) : Blk w.drew g t cs := h

/-- Inv, but for what the step at hand is told. -/
structure Half (w0 wr : World) (N L HB OB : Nat) (C : Nat → Array Value) (H : Nat → Option (Array Value)) (k : Nat) (f : Nat → Value) : Prop where
  turn : w0.grownBy wr (some L)
  lim : Blk wr L 76 (C (k + 1))
  held : ∃ P : Nat → Nat, wr.rowIs HB 65 N (heldF H P (k + 1)) ∧ ∀ j, j < k + 1 → ∀ rc, H j = some rc → Blk wr (P j) 82 rc ∧ w0.heap.size ≤ P j
  out : wr.rowIs OB 30 (3 * N) f

section
variable {w0 wr w3 : World} {N L HB OB k : Nat} {C : Nat → Array Value} {H : Nat → Option (Array Value)} {T : Nat → Tl} {f : Nat → Value}

theorem blk_row_ne {w : World} {b c : Nat} {t u : TypeId} {n : Nat} {cs : Array Value} {g : Nat → Value} (h : Blk w b t cs) (r : w.rowIs c u n g) (hne : t ≠ u) : b ≠ c := by
  rintro rfl
  obtain ⟨y, hy, _⟩ := r
  unfold Blk at h
  rw [h] at hy
  injection hy with hy
  injection hy with _ ht
  exact hne ht

theorem blk_ne {w : World} {b c : Nat} {t u : TypeId} {cs ds : Array Value} (h : Blk w b t cs) (r : Blk w c u ds) (hne : t ≠ u) : b ≠ c := by
  rintro rfl
  unfold Blk at h r
  rw [h] at r
  injection r with hy
  injection hy with _ ht
  exact hne ht

theorem Inv.half (h : Inv w0 wr N L HB OB C H T k) (hg : wr.grownBy w3 (some L)) (hL : Blk w3 L 76 (C (k + 1))) (hH : H k = none) : Half w0 w3 N L HB OB C H k (outF T k) := by
  obtain ⟨ht, hl, ⟨P, hp, hr⟩, ho⟩ := h
  have e : ∀ b, b < wr.heap.size → b ≠ L → w3.heap[b]? = wr.heap[b]? := fun b hb hne => hg.block b hb (fun he => hne (by injection he))
  refine ⟨turn_trans ht hg, hL, ⟨P, (hp.of_block (e _ hp.lt (blk_row_ne hl hp (by decide)).symm)).congr fun i _ => heldF_none H P k hH i, ?_⟩, ho.of_block (e _ ho.lt (blk_row_ne hl ho (by decide)).symm)⟩
  intro j hj rc hrc
  have hjk : j < k := by
    rcases Nat.lt_or_ge j k with h | h
    · exact h
    · have : j = k := by omega
      subst this; rw [hH] at hrc; cases hrc
  obtain ⟨b1, b2⟩ := hr j hjk rc hrc
  exact ⟨b1.turned hg (fun he => (blk_ne b1 hl (by decide)) (by injection he)), b2⟩

theorem Inv.half_some {R : Nat} {rc : Array Value} (h : Inv w0 wr N L HB OB C H T k) (hg : wr.grownBy w3 (some L)) (hL : Blk w3 L 76 (C (k + 1))) (hH : H k = some rc) (hR : Blk w3 R 82 rc) (hR0 : wr.heap.size ≤ R) (hHB : w0.heap.size ≤ HB) :
    Half w0 (w3.setCell ⟨HB, k, none⟩ (.pointer (some ⟨R, 0, none⟩))) N L HB OB C H k (outF T k) := by
  obtain ⟨ht, hl, ⟨P, hp, hr⟩, ho⟩ := h
  have e : ∀ b, b < wr.heap.size → b ≠ L → w3.heap[b]? = wr.heap[b]? := fun b hb hne => hg.block b hb (fun he => hne (by injection he))
  have hp3 := hp.of_block (e _ hp.lt (blk_row_ne hl hp (by decide)).symm)
  have ho3 := ho.of_block (e _ ho.lt (blk_row_ne hl ho (by decide)).symm)
  refine ⟨turn_set (turn_trans ht hg) (p := ⟨HB, k, none⟩) (.inr hHB) _, hL.far (p := ⟨HB, k, none⟩) (blk_row_ne hL hp3 (by decide)) _,
    ⟨fun i => if i = k then R else P i, (hp3.set k _).congr fun i _ => heldF_some H P k R rc hH i, ?_⟩, ho3.setOther (a := ⟨HB, k, none⟩) (rowIs_ne ho3 hp3 (by decide)) _⟩
  intro j hj rc' hrc
  by_cases hjk : j = k
  · subst hjk
    rw [hH] at hrc
    cases hrc
    simp only [if_true]
    exact ⟨hR.far (p := ⟨HB, j, none⟩) (blk_row_ne hR hp3 (by decide)) _, Nat.le_trans ht.size hR0⟩
  · simp only [if_neg hjk]
    obtain ⟨b1, b2⟩ := hr j (by omega) rc' hrc
    have b3 := b1.turned hg (fun he => (blk_ne b1 hl (by decide)) (by injection he))
    exact ⟨b3.far (p := ⟨HB, k, none⟩) (blk_row_ne b3 hp3 (by decide)) _, b2⟩

theorem Inv.old {j : Nat} {rc : Array Value} (h : Inv w0 wr N L HB OB C H T k) (hj : j < k) (hk : k ≤ N) (hH : H j = some rc) :
    ∃ R, wr.cell? ⟨HB, j, none⟩ = some (.pointer (some ⟨R, 0, none⟩)) ∧ Blk wr R 82 rc ∧ R ≠ L ∧ HB < wr.heap.size ∧ HB ≠ L := by
  obtain ⟨ht, hl, ⟨P, hp, hr⟩, ho⟩ := h
  obtain ⟨b1, b2⟩ := hr j hj rc hH
  refine ⟨P j, ?_, b1, blk_ne b1 hl (by decide), hp.lt, (blk_row_ne hl hp (by decide)).symm⟩
  rw [hp.cell (by omega)]
  simp [heldF, hj, hH]

theorem Half.below (h : Half w0 wr N L HB OB C H k f) (hb : Below wr.heap.size wr w3) : Half w0 w3 N L HB OB C H k f := by
  obtain ⟨ht, hl, ⟨P, hp, hr⟩, ho⟩ := h
  exact ⟨turn_below ht hb, hl.below hb hl.lt, ⟨P, hp.of_block (hb.block _ hp.lt), fun j hj rc hrc => ⟨(hr j hj rc hrc).1.below hb (hr j hj rc hrc).1.lt, (hr j hj rc hrc).2⟩⟩, ho.of_block (hb.block _ ho.lt)⟩

theorem Half.put (h : Half w0 wr N L HB OB C H k f) (hOB : w0.heap.size ≤ OB) (i : Nat) (u : Value) : Half w0 (wr.setCell ⟨OB, i, none⟩ u) N L HB OB C H k (fun j => if j = i then u else f j) := by
  obtain ⟨ht, hl, ⟨P, hp, hr⟩, ho⟩ := h
  exact ⟨turn_set ht (.inr hOB) u, hl.far (p := ⟨OB, i, none⟩) (blk_row_ne hl ho (by decide)) u, ⟨P, hp.setOther (a := ⟨OB, i, none⟩) (rowIs_ne hp ho (by decide)) u, fun j hj rc hrc => ⟨(hr j hj rc hrc).1.far (p := ⟨OB, i, none⟩) (blk_row_ne (hr j hj rc hrc).1 ho (by decide)) u, (hr j hj rc hrc).2⟩⟩, ho.set i u⟩

theorem Half.alloc (h : Half w0 wr N L HB OB C H k f) (o : Obj) : Half w0 (wr.alloc o) N L HB OB C H k f := h.below ((Below.refl _ _).alloc (Nat.le_refl _) o)
theorem Half.drew (h : Half w0 wr N L HB OB C H k f) : Half w0 wr.drew N L HB OB C H k f := h.below (Below.refl _ _).drew

theorem Half.done (h : Half w0 wr N L HB OB C H k f) (h0 : f (k * 3) = .bool (T k).ok) (h1 : f (k * 3 + 1) = .int .i64 (T k).delay) (h2 : f (k * 3 + 2) = .float .f64 (T k).tok)
    (hf : ∀ j, j ≠ k * 3 → j ≠ k * 3 + 1 → j ≠ k * 3 + 2 → f j = outF T k j) : Inv w0 wr N L HB OB C H T (k + 1) :=
  ⟨h.turn, h.lim, h.held, h.out.congr fun i _ => outF_next T k f h0 h1 h2 hf i⟩

theorem Half.done_none (h : Half w0 wr N L HB OB C H k (outF T k)) (ht : T k = Tl.none) : Inv w0 wr N L HB OB C H T (k + 1) :=
  h.done (by rw [ht]; exact outF_at T k 0 (by omega)) (by rw [ht]; exact outF_at T k 1 (by omega)) (by rw [ht]; exact outF_at T k 2 (by omega)) fun _ _ _ _ => rfl

theorem Half.done_0 (h : Half w0 wr N L HB OB C H k (fun j => if j = k * 3 then .bool (T k).ok else outF T k j)) (hd : (T k).delay = 0) (ht : (T k).tok = 0) : Inv w0 wr N L HB OB C H T (k + 1) :=
  h.done (by rw [if_pos rfl]) (by rw [if_neg (by omega), hd]; exact outF_at T k 1 (by omega)) (by rw [if_neg (by omega), ht]; exact outF_at T k 2 (by omega)) fun j h _ _ => if_neg h

theorem Half.done_2 (h : Half w0 wr N L HB OB C H k (fun j => if j = k * 3 + 2 then .float .f64 (T k).tok else outF T k j)) (hd : (T k).delay = 0) (ht : (T k).ok = false) : Inv w0 wr N L HB OB C H T (k + 1) :=
  h.done (by rw [if_neg (by omega), ht]; exact outF_at T k 0 (by omega)) (by rw [if_neg (by omega), hd]; exact outF_at T k 1 (by omega)) (by rw [if_pos rfl]) fun j _ _ h => if_neg h

theorem Half.done_01 (h : Half w0 wr N L HB OB C H k (fun j => if j = k * 3 + 1 then .int .i64 (T k).delay else if j = k * 3 then .bool (T k).ok else outF T k j)) (ht : (T k).tok = 0) : Inv w0 wr N L HB OB C H T (k + 1) :=
  h.done (by rw [if_neg (by omega), if_pos rfl]) (by rw [if_pos rfl]) (by rw [if_neg (by omega), if_neg (by omega), ht]; exact outF_at T k 2 (by omega)) fun j h0 h1 _ => by rw [if_neg h1, if_neg h0]

theorem Half.done_02 (h : Half w0 wr N L HB OB C H k (fun j => if j = k * 3 + 2 then .float .f64 (T k).tok else if j = k * 3 then .bool (T k).ok else outF T k j)) (ht : (T k).delay = 0) : Inv w0 wr N L HB OB C H T (k + 1) :=
  h.done (by rw [if_neg (by omega), if_pos rfl]) (by rw [if_neg (by omega), if_neg (by omega), ht]; exact outF_at T k 1 (by omega)) (by rw [if_pos rfl]) fun j h0 _ h2 => by rw [if_neg h2, if_neg h0]
end

set_option maxRecDepth 100000 in
set_option maxHeartbeats 4000000 in
theorem run_any (L sb so N cap : Nat) (X : Scr) (C : Nat → Array Value) (H : Nat → Option (Array Value)) (T : Nat → Tl) (w : World)
    (hN : N ≤ 1000) (hL : Blk w L 76 (C 0)) (hsb : sb < w.heap.size) (hne : sb ≠ L)
    (hsteps : ∀ k, k < N → w.cell? ⟨sb, so + k * 3, none⟩ = some (.int .i64 (X.kd k)) ∧ w.cell? ⟨sb, so + k * 3 + 1, none⟩ = some (.int .i64 (X.at_ k)) ∧ w.cell? ⟨sb, so + k * 3 + 2, none⟩ = some (.int .i64 (X.nm k)))
    (hat : ∀ k, k < N → 0 ≤ X.at_ k ∧ X.at_ k ≤ 1099511627776)
    (hI : ∀ k, k < N → Item L X C H T k) :
    Calls Try.prog 33 #[.pointer (some ⟨L, 0, none⟩), .slice (some ⟨sb, so, none⟩) N cap] w fun e w' =>
      e = .returned (.slice (some ⟨w.heap.size + 1, 0, none⟩) N N) ∧ w'.rowIs (w.heap.size + 1) 30 (3 * N) (outF T N) ∧ w.grownBy w' (some L) := by
  have hm1 := fun w => make_held N hN w
  have hm2 := fun w => make_out N hN w
  have hN' : N ≤ 9223372036854775807 := by omega
  have HS := Lib.hid hsteps
  have HA := Lib.hid hat
  have HI := Lib.hid hI
  have HL := Lib.hid hL
  clear hsteps hat hI hL
  go_enter Try.func33, Try.ntmps33
  go_wp2_with fail
  go_loopw [18] (fun i wr => ∃ k : Nat, k ≤ N ∧ i = .int .i64 k ∧ Inv w wr N L w.heap.size (w.heap.size + 1) C H T k) (fun i _ => N - (intOf i).toNat)
  case atStart =>
    refine ⟨0, Nat.zero_le _, rfl, ?_⟩
    have hLlt := HL.out.lt
    refine ⟨turn_alloc (turn_alloc (turn_refl w L) _) _, (HL.out.alloc _).alloc _, ⟨fun _ => 0, (heldObj_row N w H _).alloc _, fun j hj => absurd hj (Nat.not_lt_zero _)⟩, ?_⟩
    have := outObj_row N (w.alloc (heldObj N)) T
    rwa [World.size_alloc] at this
  case round =>
    obtain ⟨k, hk, rfl, inv⟩ := hrel
    by_cases hlt : k < N
    · obtain ⟨s0, s1, s2⟩ := HS.out k hlt
      obtain ⟨a0, a1⟩ := HA.out k hlt
      have hblk : wr.heap[sb]? = w.heap[sb]? := inv.turn.block sb hsb (fun he => hne (by injection he))
      have t0 := (World.cell?_of_block (w := w) (a := ⟨sb, so + k * 3, none⟩) hblk).trans s0
      have t1 := (World.cell?_of_block (w := w) (a := ⟨sb, so + k * 3 + 1, none⟩) hblk).trans s1
      have t2 := (World.cell?_of_block (w := w) (a := ⟨sb, so + k * 3 + 2, none⟩) hblk).trans s2
      have item := HI.out k hlt
      have hsz := inv.turn.size
      have hLlt := inv.lim.lt
      clear s0 s1 s2
      have INV := Lib.hid inv
      clear inv hblk
      have ITEM := Lib.hid item
      clear item
      go_wp2_with fail
      refine (moment_any (X.at_ k) _ a0 a1).mono ?_; rintro e w2 ⟨rfl, hb⟩
      have hg2 : wr.grownBy w2 (some L) := turn_below (turn_alloc (turn_refl wr L) _) hb
      have bL2 := (INV.out.lim.alloc _).below hb (by simp; omega)
      have bS2 := (Blk.new wr 26 _).below hb (by simp)
      have k0 := bS2.cell 0
      have k1 := bS2.cell 1
      have k2 := bS2.cell 2
      simp only [List.getElem?_toArray, List.getElem?_cons_zero, List.getElem?_cons_succ] at k0 k1 k2
      have hz2 : wr.heap.size < w2.heap.size := bS2.lt
      have hL2 : L < w2.heap.size := bL2.lt
      have HG2 := Lib.hid hg2
      have HL2 := Lib.hid bL2
      have HS2 := Lib.hid bS2
      clear hb hg2 bL2 bS2 t0 t1 t2
      rcases ITEM.out with it | item
      · rw [it.kd] at k0
        have HIT := Lib.hid it
        clear it ITEM
        go_wp2_with fail
        refine (HIT.out.call _ (HL2.out.alloc _)).mono ?_; rintro e w3 ⟨rfl, bL3, hg3⟩
        have half := INV.out.half (turn_trans (turn_alloc HG2.out _) hg3) bL3 HIT.out.held
        have cO := half.out.cell (i := k * 3) (by omega)
        have fO := half.out.frozen (k * 3)
        have HF := Lib.hid half
        clear half bL3 hg3
        go_wp2_with fail
        go_roundw
        case rel => exact ⟨k + 1, by omega, by go_num, (HF.out.put (by omega) _ _).done_0 HIT.out.told.1 HIT.out.told.2⟩
        case measure => simp [intOf]; omega
      rcases item with ⟨rc, it⟩ | item
      · rw [it.kd] at k0
        have HIT := Lib.hid it
        clear it ITEM
        go_wp2_with fail
        refine (HIT.out.call _ (HL2.out.alloc _)).mono ?_
        rintro e w3 ⟨R, rfl, hR0, bR, bL3, hg3⟩
        have hgr := turn_trans (turn_alloc HG2.out (.cells #[.int .u64 (ns (tick (X.at_ k))), .int .i64 (sc (tick (X.at_ k))), .pointer none] 62)) hg3
        have half := INV.out.half_some hgr bL3 HIT.out.held bR (by simp at hR0; omega) (Nat.le_refl _)
        have hTime := (Blk.new w2 62 #[.int .u64 (ns (tick (X.at_ k))), .int .i64 (sc (tick (X.at_ k))), .pointer none]).turned hg3 (by intro he; injection he with he; omega)
        obtain ⟨_, _, ⟨P0, hp0, _⟩, ho0⟩ := INV.out
        have hp3 := hp0.of_block (hgr.block _ hp0.lt (fun he => (blk_row_ne INV.out.lim hp0 (by decide)) (by injection he with he; exact he.symm)))
        have cH := hp3.cell (i := k) hlt
        have fH := hp3.frozen k
        have cO := half.out.cell (i := k * 3) (by omega)
        have fO := half.out.frozen (k * 3)
        have HF := Lib.hid half
        have HR3 := Lib.hid bR
        have HT3 := Lib.hid hTime
        have HP3 := Lib.hid hp3
        clear half bL3 hg3 hgr bR hTime hp0 ho0 hp3
        go_wp2_with fail
        refine (HIT.out.okay _ R (HR3.out.far (p := ⟨w.heap.size, k, none⟩) (blk_row_ne HR3.out HP3.out (by decide)) _)).mono ?_; rintro e w' ⟨rfl, rfl⟩
        go_wp2_with fail
        obtain ⟨w5, hw5⟩ : ∃ w5, w5 = (w3.setCell ⟨w.heap.size, k, none⟩ (.pointer (some ⟨R, 0, none⟩))).setCell ⟨w.heap.size + 1, k * 3, none⟩ (.bool (T k).ok) := ⟨_, rfl⟩
        rw [← hw5]
        have hf5 := HF.out.put (Nat.le_succ _) (k * 3) (.bool (T k).ok)
        rw [← hw5] at hf5
        have hp5 := (HP3.out.set k (.pointer (some ⟨R, 0, none⟩))).setOther (a := ⟨w.heap.size + 1, k * 3, none⟩) (by simp) (.bool (T k).ok)
        have hr5 := (HR3.out.far (p := ⟨w.heap.size, k, none⟩) (blk_row_ne HR3.out HP3.out (by decide)) (.pointer (some ⟨R, 0, none⟩))).far (p := ⟨w.heap.size + 1, k * 3, none⟩) (blk_row_ne (HR3.out.far (p := ⟨w.heap.size, k, none⟩) (blk_row_ne HR3.out HP3.out (by decide)) (.pointer (some ⟨R, 0, none⟩))) HF.out.out (by decide)) (.bool (T k).ok)
        have ht5 := (HT3.out.far (p := ⟨w.heap.size, k, none⟩) (blk_row_ne HT3.out HP3.out (by decide)) (.pointer (some ⟨R, 0, none⟩))).far (p := ⟨w.heap.size + 1, k * 3, none⟩) (blk_row_ne (HT3.out.far (p := ⟨w.heap.size, k, none⟩) (blk_row_ne HT3.out HP3.out (by decide)) (.pointer (some ⟨R, 0, none⟩))) HF.out.out (by decide)) (.bool (T k).ok)
        rw [← hw5] at hp5 hr5 ht5
        have cH5 := hp5.cell (i := k) hlt
        simp only [if_true] at cH5
        have b0 := ht5.cell 0
        have b1 := ht5.cell 1
        have b2 := ht5.cell 2
        simp only [List.getElem?_toArray, List.getElem?_cons_zero, List.getElem?_cons_succ] at b0 b1 b2
        have cO5 := hf5.out.cell (i := k * 3 + 1) (by omega)
        have fO5 := hf5.out.frozen (k * 3 + 1)
        have lO5 := hf5.out.lt
        have HF5 := Lib.hid hf5
        have HR5 := Lib.hid (show Blk w5.drew R 82 rc from hr5)
        clear hw5 hf5 hp5 hr5 ht5 cO fO cH fH k0 k1 k2
        go_region_with (go_at_call 40; refine (HIT.out.delay _ R HR5.out).mono ?_; rintro e w6 ⟨rfl, hb6⟩; have cO6 := (hb6.cell (p := ⟨w.heap.size + 1, k * 3 + 1, none⟩) lO5).trans cO5; have fO6 := (hb6.frozen (p := ⟨w.heap.size + 1, k * 3 + 1, none⟩) lO5).trans fO5; have HB6 := Lib.hid hb6; clear hb6)
        all_goals
          go_wp2_with fail
          go_roundw
          case rel => exact ⟨k + 1, by omega, by go_num, ((HF5.out.drew.below HB6.out).put (Nat.le_succ _) _ _).done_01 HIT.out.told⟩
          case measure => simp [intOf]; omega
      · rcases item with it | item
        · rw [it.kd] at k0
          have HIT := Lib.hid it
          clear it ITEM
          go_wp2_with fail
          refine (HIT.out.call _ (HL2.out.alloc _)).mono ?_; rintro e w3 ⟨rfl, hb3⟩
          have half := INV.out.half (turn_below (turn_alloc HG2.out _) hb3) (HIT.out.same ▸ (HL2.out.alloc _).below hb3 (by simp; omega)) HIT.out.held
          have cO := half.out.cell (i := k * 3 + 2) (by omega)
          have fO := half.out.frozen (k * 3 + 2)
          have HF := Lib.hid half
          clear half hb3
          go_wp2_with fail
          go_roundw
          case rel => exact ⟨k + 1, by omega, by go_num, (HF.out.put (by omega) _ _).done_2 HIT.out.told.2 HIT.out.told.1⟩
          case measure => simp [intOf]; omega
        · rcases item with it | item
          · rw [it.kd] at k0
            have HIT := Lib.hid it
            clear it ITEM
            go_wp2_with fail
            refine (HIT.out.call _ (HL2.out.alloc _)).mono ?_; rintro e w3 ⟨rfl, bL3, hg3⟩
            have HF := Lib.hid (INV.out.half (turn_trans (turn_alloc HG2.out _) hg3) bL3 HIT.out.held)
            clear bL3 hg3
            go_wp2_with fail
            go_roundw
            case rel => exact ⟨k + 1, by omega, by go_num, HF.out.done_none HIT.out.told⟩
            case measure => simp [intOf]; omega
          · rcases item with it | item
            · rw [it.kd] at k0
              have HIT := Lib.hid it
              clear it ITEM
              go_wp2_with fail
              refine (HIT.out.call _ (HL2.out.alloc _)).mono ?_; rintro e w3 ⟨rfl, bL3, hg3⟩
              have HF := Lib.hid (INV.out.half (turn_trans (turn_alloc HG2.out _) hg3) bL3 HIT.out.held)
              clear bL3 hg3
              go_wp2_with fail
              go_roundw
              case rel => exact ⟨k + 1, by omega, by go_num, HF.out.done_none HIT.out.told⟩
              case measure => simp [intOf]; omega
            · rcases item with ⟨j, rc, it⟩ | item
              · rw [it.kd] at k0
                rw [it.nm] at k2
                have HIT := Lib.hid it
                clear it ITEM
                obtain ⟨R, cj, bR, hRL, hHBlt, hHBL⟩ := INV.out.old HIT.out.lt hk HIT.out.old
                have hjk := HIT.out.lt
                have hb2 : w2.heap[w.heap.size]? = wr.heap[w.heap.size]? := HG2.out.block _ hHBlt (fun he => hHBL (by injection he))
                have cj2 := (World.cell?_of_block (w := wr) (a := ⟨w.heap.size, j, none⟩) hb2).trans cj
                have bR2 := bR.turned HG2.out (fun he => hRL (by injection he))
                have hHB2 : w.heap.size < w2.heap.size := by omega
                have hj0 : (0 : Int) ≤ (j : Int) := Int.natCast_nonneg _
                have hj1 : (j : Int) < (k : Int) := by omega
                have HR2 := Lib.hid bR2
                clear cj bR hHBL hb2 bR2
                have HLt := Lib.hid (show Blk (w2.alloc (.cells #[.int .u64 (ns (tick (X.at_ k))), .int .i64 (sc (tick (X.at_ k))), .pointer none] 62)).drew L 76 (C k) from HL2.out.alloc _)
                have HRt := Lib.hid (show Blk (w2.alloc (.cells #[.int .u64 (ns (tick (X.at_ k))), .int .i64 (sc (tick (X.at_ k))), .pointer none] 62)).drew R 82 rc from HR2.out.alloc _)
                go_wp2_with fail
                go_region_with (go_at_call 44; refine (HIT.out.call _ R hRL HLt.out HRt.out).mono ?_; rintro e w4 ⟨rfl, bL4, hg4⟩; have HF := Lib.hid (INV.out.half (turn_trans (turn_drew (turn_alloc HG2.out (.cells #[.int .u64 (ns (tick (X.at_ k))), .int .i64 (sc (tick (X.at_ k))), .pointer none] 62))) hg4) bL4 HIT.out.held); clear bL4 hg4)
                all_goals
                  go_wp2_with fail
                  go_roundw
                  case rel => exact ⟨k + 1, by omega, by go_num, HF.out.done_none HIT.out.told⟩
                  case measure => simp [intOf]; omega
              · rcases item with ⟨j, rc, it⟩ | ⟨b, it⟩
                · rw [it.kd] at k0
                  rw [it.nm] at k2
                  have HIT := Lib.hid it
                  clear it ITEM
                  obtain ⟨R, cj, bR, hRL, hHBlt, hHBL⟩ := INV.out.old HIT.out.lt hk HIT.out.old
                  have hjk := HIT.out.lt
                  have hb2 : w2.heap[w.heap.size]? = wr.heap[w.heap.size]? := HG2.out.block _ hHBlt (fun he => hHBL (by injection he))
                  have cj2 := (World.cell?_of_block (w := wr) (a := ⟨w.heap.size, j, none⟩) hb2).trans cj
                  have bR2 := bR.turned HG2.out (fun he => hRL (by injection he))
                  have hHB2 : w.heap.size < w2.heap.size := by omega
                  have hj0 : (0 : Int) ≤ (j : Int) := Int.natCast_nonneg _
                  have hj1 : (j : Int) < (k : Int) := by omega
                  have HR2 := Lib.hid bR2
                  clear cj bR hHBL hb2 bR2
                  go_wp2_with fail
                  refine (HIT.out.okay _ R (HR2.out.alloc _)).mono ?_; rintro e w' ⟨rfl, rfl⟩
                  have half := INV.out.half HG2.out (HIT.out.same ▸ HL2.out) HIT.out.held
                  have hOB2 := half.out.lt
                  have cO := half.out.cell (i := k * 3) (by omega)
                  have fO := half.out.frozen (k * 3)
                  have HF := Lib.hid half
                  clear half
                  go_wp2_with fail
                  obtain ⟨w5, hw5⟩ : ∃ w5, w5 = (w2.setCell ⟨w.heap.size + 1, k * 3, none⟩ (.bool (T k).ok)).alloc (.cells #[.int .u64 (ns (M0 + X.at_ k * 1953125)), .int .i64 (sc (M0 + X.at_ k * 1953125)), .pointer none] 62) := ⟨_, rfl⟩
                  rw [← hw5]
                  have hf5 := (HF.out.put (Nat.le_succ _) (k * 3) (.bool (T k).ok)).alloc (.cells #[.int .u64 (ns (M0 + X.at_ k * 1953125)), .int .i64 (sc (M0 + X.at_ k * 1953125)), .pointer none] 62)
                  have hr5 := (HR2.out.far (p := ⟨w.heap.size + 1, k * 3, none⟩) (blk_row_ne HR2.out HF.out.out (by decide)) (.bool (T k).ok)).alloc (.cells #[.int .u64 (ns (M0 + X.at_ k * 1953125)), .int .i64 (sc (M0 + X.at_ k * 1953125)), .pointer none] 62)
                  have ht5 := Blk.new (w2.setCell ⟨w.heap.size + 1, k * 3, none⟩ (.bool (T k).ok)) 62 #[.int .u64 (ns (M0 + X.at_ k * 1953125)), .int .i64 (sc (M0 + X.at_ k * 1953125)), .pointer none]
                  rw [show (w2.setCell ⟨w.heap.size + 1, k * 3, none⟩ (.bool (T k).ok)).heap.size = w2.heap.size from by simp [World.setCell]] at ht5
                  have hs5 := (HS2.out.far (p := ⟨w.heap.size + 1, k * 3, none⟩) (blk_row_ne HS2.out HF.out.out (by decide)) (.bool (T k).ok)).alloc (.cells #[.int .u64 (ns (M0 + X.at_ k * 1953125)), .int .i64 (sc (M0 + X.at_ k * 1953125)), .pointer none] 62)
                  have cj5 : ((w2.setCell ⟨w.heap.size + 1, k * 3, none⟩ (.bool (T k).ok)).alloc (.cells #[.int .u64 (ns (M0 + X.at_ k * 1953125)), .int .i64 (sc (M0 + X.at_ k * 1953125)), .pointer none] 62)).cell? ⟨w.heap.size, j, none⟩ = some (.pointer (some ⟨R, 0, none⟩)) := by
                    rw [World.cell?_alloc_lt _ _ _ (by simp [World.setCell]; exact hHB2), World.cell?_setCell_other _ _ _ _ (by intro he; injection he with he; omega)]
                    exact cj2
                  rw [← hw5] at hf5 hr5 ht5 hs5 cj5
                  have b0 := ht5.cell 0
                  have b1 := ht5.cell 1
                  have b2 := ht5.cell 2
                  have d2 := hs5.cell 2
                  simp only [List.getElem?_toArray, List.getElem?_cons_zero, List.getElem?_cons_succ] at b0 b1 b2 d2
                  rw [HIT.out.nm] at d2
                  have cO5 := hf5.out.cell (i := k * 3 + 1) (by omega)
                  have fO5 := hf5.out.frozen (k * 3 + 1)
                  have lO5 := hf5.out.lt
                  have HF5 := Lib.hid hf5
                  have HR5 := Lib.hid (show Blk w5.drew R 82 rc from hr5)
                  clear hw5 hf5 hr5 ht5 hs5 cO fO k0 k1 k2 cj2
                  go_region_with (go_at_call 40; refine (HIT.out.delay _ R HR5.out).mono ?_; rintro e w6 ⟨rfl, hb6⟩; have cO6 := (hb6.cell (p := ⟨w.heap.size + 1, k * 3 + 1, none⟩) lO5).trans cO5; have fO6 := (hb6.frozen (p := ⟨w.heap.size + 1, k * 3 + 1, none⟩) lO5).trans fO5; have HB6 := Lib.hid hb6; clear hb6)
                  all_goals
                    go_wp2_with fail
                    go_roundw
                    case rel => exact ⟨k + 1, by omega, by go_num, ((HF5.out.drew.below HB6.out).put (Nat.le_succ _) _ _).done_01 HIT.out.told⟩
                    case measure => simp [intOf]; omega
                · rw [it.kd] at k0
                  have HIT := Lib.hid it
                  clear it ITEM
                  have half := INV.out.half HG2.out (HIT.out.same ▸ HL2.out) HIT.out.held
                  have hOB2 := half.out.lt
                  have cO := half.out.cell (i := k * 3) (by omega)
                  have fO := half.out.frozen (k * 3)
                  have cO2 := half.out.cell (i := k * 3 + 2) (by omega)
                  have fO2 := half.out.frozen (k * 3 + 2)
                  have HF := Lib.hid half
                  have HLt := Lib.hid (show Blk (w2.alloc (.cells #[.int .u64 (ns (M0 + X.at_ k * 1953125)), .int .i64 (sc (M0 + X.at_ k * 1953125)), .pointer none] 62)).drew L 76 (C k) from HL2.out.alloc _)
                  clear half
                  go_wp2_with fail
                  go_region_with (go_at_call 45; refine (HIT.out.burst _ HLt.out).mono ?_; rintro e w' ⟨rfl, rfl⟩)
                  all_goals
                    go_wp2_with fail
                    refine (HIT.out.limit _ (blk_drew ((HL2.out.far (p := ⟨w.heap.size + 1, k * 3, none⟩) (blk_row_ne HL2.out HF.out.out (by decide)) (.bool (b == X.nm k))).alloc (.cells #[.int .u64 (ns (M0 + X.at_ k * 1953125)), .int .i64 (sc (M0 + X.at_ k * 1953125)), .pointer none] 62)))).mono ?_
                    rintro e w' ⟨rfl, rfl⟩
                    go_wp2_with fail
                    go_roundw
                    case rel =>
                      refine ⟨k + 1, by omega, by go_num, ?_⟩
                      have := (((HF.out.put (Nat.le_succ _) (k * 3) (.bool (T k).ok)).put (Nat.le_succ _) (k * 3 + 2) (.float .f64 (T k).tok)).alloc (.cells #[.int .u64 (ns (M0 + X.at_ k * 1953125)), .int .i64 (sc (M0 + X.at_ k * 1953125)), .pointer none] 62)).drew
                      have := Half.done_02 this HIT.out.told.2
                      rw [HIT.out.told.1] at this
                      exact this
                    case measure => simp [intOf]; omega
    · have hkN : k = N := by omega
      subst hkN
      have INV := Lib.hid inv
      clear inv
      go_wp2_with fail
      go_ret
      exact ⟨rfl, INV.out.out, INV.out.turn⟩

end Go.Proofs.Ytndkiphlpddbaaa
