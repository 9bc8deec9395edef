/- CancelAt over the limiter at a later tick: what it leaves, and what TokensAt tells then. -/
import Derived.Test.YtndkiphlpddbaaaCnW
import Derived.Test.YtndkiphlpddbaaaCnS
import Derived.Test.YtndkiphlpddbaaaLwG
namespace Go.Proofs.Ytndkiphlpddbaaa
open Go.RowKit Go.Deep Flt

/-- TokensAt, by advance. -/
theorem tokens_of (L : Nat) (cs : Array Value) (T : Int) (t : Nat) (w : World) (hL : Blk w L 76 cs)
    (hA : ∀ w, Blk w L 76 cs → Calls Try.prog 52 #[.pointer (some ⟨L, 0, none⟩), tv T] w fun e w' => e = .returned (.float .f64 t) ∧ Below w.heap.size w w') :
    Calls Try.prog 41 #[.pointer (some ⟨L, 0, none⟩), tv T] w fun e w' => e = .returned (.float .f64 t) ∧ Below w.heap.size w w' := by
  have HA := Lib.hid (hA _ (hL.alloc (.cells #[.int .u64 (ns T), .int .i64 (sc T), .pointer none] 62)))
  clear hL hA
  go_enter Try.func41, Try.ntmps41
  go_wp2_with fail
  refine HA.out.mono ?_; rintro e w1 ⟨rfl, hb⟩
  have hB := ((Below.refl w.heap.size w).alloc (Nat.le_refl _) (.cells #[.int .u64 (ns T), .int .i64 (sc T), .pointer none] 62)).trans (hb.mono (by simp))
  clear hb
  go_wp2_with fail
  go_ret
  exact ⟨rfl, hB⟩

/-- A word that stands for a number of tokens between A 512ths, and B and C 512ths. -/
def Between (t : Nat) (A B C : Int) : Prop :=
  ∃ (s k : Nat) (v : Int), Sv s k t v ∧ 1074 ≤ s ∧ A * ((2 ^ (s - 9) : Nat) : Int) ≤ v ∧ v ≤ B * ((2 ^ (s - 9) : Nat) : Int) ∧ v ≤ C * ((2 ^ (s - 9) : Nat) : Int)

theorem sv_512 (s : Nat) (a : Int) (hs : 1074 ≤ s) (ha : a.natAbs < 9007199254740992) : Sv s (s - 9) (G (-9) a) (a * ((2 ^ (s - 9) : Nat) : Int)) := by
  have := sv_G s (-9) a hs ha (by decide) (by decide)
  rwa [show ((-9 : Int) + s).toNat = s - 9 by omega] at this

theorem between_self (A B C : Int) (hA : A.natAbs < 9007199254740992) (h1 : A ≤ B) (h2 : A ≤ C) : Between (G (-9) A) A B C := by
  refine ⟨1100, 1100 - 9, A * ((2 ^ (1100 - 9) : Nat) : Int), sv_512 1100 A (by omega) hA, by omega, Int.le_refl _, ?_, ?_⟩
  · exact Int.mul_le_mul_of_nonneg_right h1 (Int.natCast_nonneg _)
  · exact Int.mul_le_mul_of_nonneg_right h2 (Int.natCast_nonneg _)

theorem between_cmp {t : Nat} {A B C : Int} (h : Between t A B C) (hA : A.natAbs < 9007199254740992) (hB : B.natAbs < 9007199254740992) (hC : C.natAbs < 9007199254740992) :
    (FloatKind.f64.format.order t (G (-9) A) == some Ordering.lt) = false ∧ (FloatKind.f64.format.order t (G (-9) B) == some Ordering.gt) = false ∧ (FloatKind.f64.format.order t (G (-9) C) == some Ordering.gt) = false ∧
      (∃ o, FloatKind.f64.format.order t (G (-9) A) = some o) ∧ (∃ o, FloatKind.f64.format.order t (G (-9) B) = some o) ∧ ∃ o, FloatKind.f64.format.order t (G (-9) C) = some o := by
  obtain ⟨s, k, v, hv, hs, a, b, c⟩ := h
  have oA : FloatKind.f64.format.order t (G (-9) A) = _ := sv_order hv (sv_512 s A hs hA)
  have oB : FloatKind.f64.format.order t (G (-9) B) = _ := sv_order hv (sv_512 s B hs hB)
  have oC : FloatKind.f64.format.order t (G (-9) C) = _ := sv_order hv (sv_512 s C hs hC)
  refine ⟨?_, ?_, ?_, ⟨_, oA⟩, ⟨_, oB⟩, ⟨_, oC⟩⟩
  · rw [oA]
    have : compare v (A * ((2 ^ (s - 9) : Nat) : Int)) ≠ Ordering.lt := by rw [Ne, Int.compare_eq_lt]; omega
    simpa using this
  · rw [oB]
    have : compare v (B * ((2 ^ (s - 9) : Nat) : Int)) ≠ Ordering.gt := by rw [Ne, Int.compare_eq_gt]; omega
    simpa using this
  · rw [oC]
    have : compare v (C * ((2 ^ (s - 9) : Nat) : Int)) ≠ Ordering.gt := by rw [Ne, Int.compare_eq_gt]; omega
    simpa using this

/-- What a cancelling at a tick leaves. -/
structure FairP (L : Nat) (s : St) (r : Rs) (b n : Int) (Cc : Array Value) (t : Nat) : Prop where
  cancel : ∀ w R, R ≠ L → Blk w L 76 s.cells → Blk w R 82 (r.cells L) → Calls Try.prog 44 #[.pointer (some ⟨R, 0, none⟩), tv (tick b)] w fun e w' => e = .returned (.tuple #[]) ∧ Blk w' L 76 Cc ∧ w.grownBy w' (some L)
  tokens : ∀ w, Blk w L 76 Cc → Calls Try.prog 41 #[.pointer (some ⟨L, 0, none⟩), tv (tick b)] w fun e w' => e = .returned (.float .f64 t) ∧ Below w.heap.size w w'
  between : Between t (s.fill b) (s.burst * 512) (s.fill b + n * 512)

theorem fair_same (L : Nat) (s : St) (r : Rs) (b n : Int) (h : s.Ok b) (n0 : 0 ≤ n) (n1 : n ≤ 1000)
    (hc : ∀ w R, R ≠ L → Blk w L 76 s.cells → Blk w R 82 (r.cells L) → Calls Try.prog 44 #[.pointer (some ⟨R, 0, none⟩), tv (tick b)] w fun e w' => e = .returned (.tuple #[]) ∧ Below w.heap.size w w') :
    FairP L s r b n s.cells (G (-9) (s.fill b)) := by
  have hb := h.fill_bounds
  have hb1 := h.b1
  refine ⟨fun w R hne hL hR => (hc w R hne hL hR).mono fun e w2 ⟨he, hbb⟩ => ⟨he, hL.below hbb hL.lt, turn_below (turn_refl w _) hbb⟩, fun w hL => tokens_any L s b w hL h, ?_⟩
  exact between_self _ _ _ (by omega) hb.2.1 (by omega)

theorem fair_gives (L : Nat) (s : St) (n T b : Int) (h : s.Ok b) (n0 : 0 < n) (n1 : n ≤ 100) (hT : tick b ≤ T) (hev : T ≤ s.ev) : ∃ Cc t, FairP L s ⟨true, n, T, s.rate⟩ b n Cc t := by
  have hb := h.fill_bounds
  have hb1 := h.b1
  have hb0 := h.b0
  have hr0 := h.r0
  have hr1 := h.r1
  have hk0 := h.k0
  have hk1 := h.k1
  have he1 := h.e1
  have hev0 := h.e0
  obtain ⟨sc, P, S, hsc⟩ := scale_ex
  have hs1 := S.s1
  have hP0 := S.pos
  have hPQ : P = 512 * 2 ^ (sc - 9) := by
    rw [S.eq, show (512 : Nat) = 2 ^ 9 from rfl, ← Nat.pow_add]; congr 1; omega
  have hQ0 := Nat.two_pow_pos (sc - 9)
  obtain ⟨rn, hrn⟩ := Int.eq_ofNat_of_zero_le (Int.le_of_lt hr0)
  obtain ⟨dn, hdn⟩ := Int.eq_ofNat_of_zero_le (show 0 ≤ s.ev - T by omega)
  have hTM : 62135597800000000000 ≤ T := by unfold tick M0 at hT; omega
  obtain ⟨q0, z0, p, e1, e2, e3, vp, hvp, hlow, hup⟩ := gives_val S rn dn (by omega) (by omega) (by omega)
  rw [← hrn] at e3
  have hP : ∀ w, Calls Try.prog 54 #[.float .f64 (G 0 s.rate), .int .i64 (s.ev - T)] w fun e w' => e = .returned (.float .f64 p) ∧ w = w' :=
    fun w => by rw [hdn]; exact tfd_of (G 0 s.rate) dn q0 z0 p w (by omega) (by omega) (rate_pos s.rate hr0 hr1) e1 e2 e3
  have hS : ∀ w, Calls Try.prog 51 #[tv s.ev, tv T] w fun e w' => e = .returned (.int .i64 (s.ev - T)) ∧ Below w.heap.size w w' :=
    fun w => sub_any s.ev T w (by omega) (by omega) (by omega) (by omega)
  have hbig : 2305843009213693952 * P ≤ 2 ^ (sc + 900) := by
    obtain ⟨e, he⟩ : ∃ e : Nat, e = sc + 900 := ⟨_, rfl⟩
    rw [← he, S.eq, show (2305843009213693952 : Nat) = 2 ^ 61 from rfl, ← Nat.pow_add]
    exact Nat.pow_le_pow_right (by decide) (by omega)
  have hpv : Sv sc (sc - 113) p (vp : Int) := by
    refine sv_val hvp ?_ hs1
    rcases hlow with h | h
    · exact .inl h
    · right
      have e : P = 1152921504606846976 * 2 ^ (sc - 60) := by
        rw [S.eq, show (1152921504606846976 : Nat) = 2 ^ 60 from rfl, ← Nat.pow_add]; congr 1; omega
      rw [e] at h
      exact Nat.le_of_mul_le_mul_left h (by decide)
  have hnv : Sv sc sc (G 0 n) (n * (P : Int)) := by
    have := sv_G sc 0 n hs1 (by omega) (by decide) (by decide)
    rwa [show ((0 : Int) + sc).toNat = sc by omega, ← S.eq] at this
  have hPi : (0 : Int) < (P : Int) := by omega
  have hnP0 : 0 ≤ n * (P : Int) := Int.mul_nonneg (by omega) (by omega)
  have hnP1 : n * (P : Int) ≤ 100 * (P : Int) := Int.mul_le_mul_of_nonneg_right n1 (by omega)
  obtain ⟨x, X1, hx, hxv, snd1⟩ := sub_sand hs1 (show sc ≤ sc - 113 + 1022 by omega) (show 60 ≤ sc - 113 by omega) (hnv.mono (by omega)) hpv (by omega)
  have hX1 : X1 ≤ n * (P : Int) := (snd1 _ _ _ hnv).1 (by omega)
  have hzero : FloatKind.f64.format.order x 0 = some (compare X1 0) := by
    have h0 := sv_512 sc 0 hs1 (by decide)
    rw [G_zero, Int.zero_mul] at h0
    exact sv_order hxv h0
  have hAd := fun w hL => advance_st L s b w hL h
  by_cases hX : X1 ≤ 0
  · have hle : (FloatKind.f64.format.order x 0 == some .lt || FloatKind.f64.format.order x 0 == some .eq) = true := by
      rw [hzero]
      rcases Int.lt_or_eq_of_le hX with h1 | h1
      · rw [Int.compare_eq_lt.2 h1]; rfl
      · rw [Int.compare_eq_eq.2 h1]; rfl
    exact ⟨s.cells, G (-9) (s.fill b), fun w R hne hL hR => cancel_none L R (G 0 s.rate) s.burst (G (-9) s.tok) (lastNs s.last) s.ev n T (G 0 s.rate) (tick b) w hL hR hne (rate_inf s.rate hr0 hr1) (by omega) hT _ p x hS hP hx hle,
      fun w hL => tokens_any L s b w hL h, between_self _ _ _ (by omega) hb.2.1 (by omega)⟩
  · have hle : (FloatKind.f64.format.order x 0 == some .lt || FloatKind.f64.format.order x 0 == some .eq) = false := by
      rw [hzero, Int.compare_eq_gt.2 (by omega)]; rfl
    obtain ⟨Q, hQ⟩ : ∃ Q : Nat, Q = 2 ^ (sc - 9) := ⟨_, rfl⟩
    have hyv := sv_512 sc (s.fill b) hs1 (by omega)
    have hbv := sv_512 sc (s.burst * 512) hs1 (by omega)
    have huv := sv_512 sc (s.fill b + n * 512) hs1 (by omega)
    have hov := sv_512 sc 0 hs1 (by decide)
    rw [← hQ] at hyv hbv huv hov hPQ hQ0
    have hPQi : (P : Int) = 512 * (Q : Int) := by omega
    have hnQ : n * (P : Int) = n * 512 * (Q : Int) := by rw [hPQi, Int.mul_assoc]
    have hA0 : -4000000 * (Q : Int) ≤ s.fill b * (Q : Int) := Int.mul_le_mul_of_nonneg_right hb.1 (by omega)
    have hA1 : s.fill b * (Q : Int) ≤ s.burst * 512 * (Q : Int) := Int.mul_le_mul_of_nonneg_right hb.2.1 (by omega)
    have hB1 : s.burst * 512 * (Q : Int) ≤ 51200 * (Q : Int) := Int.mul_le_mul_of_nonneg_right (by omega) (by omega)
    have hsum : (s.fill b + n * 512) * (Q : Int) = s.fill b * (Q : Int) + n * 512 * (Q : Int) := Int.add_mul ..
    obtain ⟨z, Z, hz, hzv, snd2⟩ := add_sand hs1 (show sc ≤ sc - 113 - 53 + 1022 by omega) (show 60 ≤ sc - 113 - 53 by omega) (hyv.mono (show sc - 113 - 53 ≤ sc - 9 by omega)) hxv (by omega)
    have hZ0 : s.fill b * (Q : Int) ≤ Z := (snd2 _ _ _ hyv).2 (by omega)
    have hZ1 : Z ≤ (s.fill b + n * 512) * (Q : Int) := (snd2 _ _ _ huv).1 (by omega)
    have hcmp : FloatKind.f64.format.order z (floatOfInt .f64 s.burst) = some (compare Z (s.burst * 512 * (Q : Int))) := by
      rw [floatOfInt_G, G_512]; exact sv_order hzv hbv
    obtain ⟨c, hc⟩ : ∃ c, (FloatKind.f64.format.order z (floatOfInt .f64 s.burst) == some .gt) = c := ⟨_, rfl⟩
    have hq : ∃ V, Sv sc (sc - 113 - 53 - 53) (cond c (floatOfInt .f64 s.burst) z) V ∧ s.fill b * (Q : Int) ≤ V ∧ V ≤ s.burst * 512 * (Q : Int) ∧ V ≤ (s.fill b + n * 512) * (Q : Int) := by
      cases c
      · refine ⟨Z, hzv, hZ0, ?_, hZ1⟩
        rw [hcmp] at hc
        apply Int.le_of_not_gt
        intro hgt
        rw [Int.compare_eq_gt.2 hgt] at hc
        exact absurd hc (by decide)
      · refine ⟨s.burst * 512 * (Q : Int), ?_, hA1, Int.le_refl _, ?_⟩
        · show Sv sc _ (floatOfInt .f64 s.burst) _
          rw [floatOfInt_G, G_512]
          exact hbv.mono (by omega)
        · rw [hcmp] at hc
          have : compare Z (s.burst * 512 * (Q : Int)) = .gt := by
            cases hcc : compare Z (s.burst * 512 * (Q : Int)) <;> rw [hcc] at hc <;> first | rfl | exact absurd hc (by decide)
          have := Int.compare_eq_gt.1 this
          omega
    obtain ⟨V, hqv, hV0, hV1, hV2⟩ := hq
    generalize hqq : cond c (floatOfInt .f64 s.burst) z = q at *
    rw [Int.zero_mul] at hov
    obtain ⟨t, V', ht, htv, snd3⟩ := add_sand hs1 (show sc ≤ sc - 113 - 53 - 53 + 1022 by omega) (show 60 ≤ sc - 113 - 53 - 53 by omega) hqv (hov.mono (by omega)) (by omega)
    have hVV : V' = V := by
      have h1 := (snd3 _ _ _ hqv).1 (by omega)
      have h2 := (snd3 _ _ _ hqv).2 (by omega)
      omega
    subst hVV
    have hbet : Between t (s.fill b) (s.burst * 512) (s.fill b + n * 512) := ⟨sc, _, V', htv, hs1, by rw [← hQ]; exact hV0, by rw [← hQ]; exact hV1, by rw [← hQ]; exact hV2⟩
    have hct : (FloatKind.f64.format.order t (floatOfInt .f64 s.burst) == some .gt) = false := by
      rw [floatOfInt_G, G_512]
      exact (between_cmp hbet (by omega) (by omega) (by omega)).2.1
    have htok : ∀ ev' w, Blk w L 76 (lcells (G 0 s.rate) s.burst q (tick b) ev') → Calls Try.prog 41 #[.pointer (some ⟨L, 0, none⟩), tv (tick b)] w fun e w' => e = .returned (.float .f64 t) ∧ Below w.heap.size w w' := by
      intro ev' w hL
      refine tokens_of L _ (tick b) t w hL fun w hL => ?_
      exact advance_of L (G 0 s.rate) q s.burst (tick b) ev' (tick b) 0 (G (-9) 0) t false w hL (Int.le_refl _)
        (fun w => by have := sub_any (tick b) (tick b) w (by unfold tick M0; omega) (by unfold tick M0; omega) (by omega) (by omega); rwa [Int.sub_self] at this)
        (fun w => tfd_zero s.rate w hr0 hr1) ht hct
    by_cases hTe : T = s.ev
    · have hW := W_bounds s.rate (n * 512) hr0 hr1 (by omega) (by omega)
      refine ⟨lcells (G 0 s.rate) s.burst q (tick b) (cond (decide (T + -(W s.rate (n * 512)) < tick b)) s.ev (T + -(W s.rate (n * 512)))), t, fun w R hne hL hR => ?_, fun w hL => htok _ w hL, hbet⟩
      rw [← hqq]
      exact cancel_own L R (G 0 s.rate) s.burst (G (-9) s.tok) (lastNs s.last) s.ev n T (G 0 s.rate) (tick b) w hL hR hne (rate_inf s.rate hr0 hr1) (by omega) hT _ p x _ z c hS hP hAd hx hle hz hc hTe _ n0 (by omega)
        (fun w => dft_neg s.rate n w hr0 hr1 n0 (by omega)) (fun w => add_any T _ w (by omega) (by omega) (by omega) (by omega)) _ rfl
    · refine ⟨lcells (G 0 s.rate) s.burst q (tick b) s.ev, t, fun w R hne hL hR => ?_, fun w hL => htok _ w hL, hbet⟩
      rw [← hqq]
      exact cancel_other L R (G 0 s.rate) s.burst (G (-9) s.tok) (lastNs s.last) s.ev n T (G 0 s.rate) (tick b) w hL hR hne (rate_inf s.rate hr0 hr1) (by omega) hT _ p x _ z c hS hP hAd hx hle hz hc hTe

/-- Whatever the reservation: what cancelling it at a later tick leaves. -/
theorem fair_any (L : Nat) (s : St) (r : Rs) (b n : Int) (h : s.Ok b) (hr : r = ⟨false, 0, 0, s.rate⟩ ∨ (r.ok = true ∧ r.n = n ∧ r.rate = s.rate ∧ r.T ≤ s.ev)) (n0 : 0 < n) (n1 : n ≤ 100) : ∃ Cc t, FairP L s r b n Cc t := by
  rcases hr with rfl | ⟨h1, h2, h3, h4⟩
  · exact ⟨_, _, fair_same L s _ b n h (by omega) (by omega) fun w R hne hL hR => cancel_no L R 0 0 (G 0 s.rate) (tick b) w hR⟩
  · obtain ⟨ok, m, T, rt⟩ := r
    dsimp only at h1 h2 h3 h4
    subst h1 h2 h3
    by_cases hT : T < tick b
    · exact ⟨_, _, fair_same L s _ b m h (by omega) (by omega) fun w R hne hL hR => cancel_late L R (G 0 s.rate) s.burst (G (-9) s.tok) (lastNs s.last) s.ev m T (G 0 s.rate) (tick b) w hL hR (rate_inf s.rate h.r0 h.r1) (by omega) hT⟩
    · exact fair_gives L s m T b h n0 n1 (by omega) h4

end Go.Proofs.Ytndkiphlpddbaaa
