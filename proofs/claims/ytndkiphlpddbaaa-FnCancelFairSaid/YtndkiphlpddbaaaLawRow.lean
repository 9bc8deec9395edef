/- The last step of a law's row: the call returned true, and nothing that was there before it has turned. No condition. -/
import Derived.Test.YtndkiphlpddbaaaRows
import Derived.WalkKit
import Derived.ProofKit
import Derived.OpenShut
namespace Go.Proofs.Ytndkiphlpddbaaa
open Go.ChangeShapes Go.WideShapes Go.ChangeAt Go.RowKit

theorem knobs : ownKnob Try.prog.godebug = none := by kernel_rfl
theorem laid : laidOutB Try.prog = true := by kernel_rfl

/-- The signs of the dump's head, as numbers: its first three words, and what follows. -/
def headA : List Char := ([104, 97, 114, 110, 101, 115, 115] : List Nat).map Char.ofNat
def headB : List Char := ([53, 101, 54, 57, 102, 99, 49, 99, 54, 98, 97, 55, 98, 99, 52, 53, 100, 53, 102, 99, 54, 48, 53, 57, 54, 99, 48, 100, 101, 99, 97, 51, 98, 49, 56, 101, 51, 53, 100, 102, 50, 101, 97, 101, 56, 50, 54, 55, 51, 54, 51, 57, 54, 55, 51, 53, 54, 56, 53, 53, 102, 98, 55, 55] : List Nat).map Char.ofNat
def headC : List Char := ([99, 117, 116] : List Nat).map Char.ofNat
def headR : List Char := ([97, 116, 32, 108, 111, 111, 112, 46, 101, 120, 97, 109, 112, 108, 101, 47, 112, 117, 98, 45, 116, 111, 107, 101, 110, 115, 98, 121, 99, 108, 111, 99, 107, 47, 108, 97, 119, 115, 46, 70, 110, 67, 97, 110, 99, 101, 108, 76, 97, 116, 101, 32, 108, 111, 111, 112, 46, 101, 120, 97, 109, 112, 108, 101, 47, 112, 117, 98, 45, 116, 111, 107, 101, 110, 115, 98, 121, 99, 108, 111, 99, 107, 47, 108, 97, 119, 115, 46, 70, 110, 76, 105, 109, 105, 116, 115, 32, 108, 111, 111, 112, 46, 101, 120, 97, 109, 112, 108, 101, 47, 112, 117, 98, 45, 116, 111, 107, 101, 110, 115, 98, 121, 99, 108, 111, 99, 107, 47, 108, 97, 119, 115, 46, 70, 110, 84, 111, 107, 101, 110, 115, 32, 108, 111, 111, 112, 46, 101, 120, 97, 109, 112, 108, 101, 47, 112, 117, 98, 45, 116, 111, 107, 101, 110, 115, 98, 121, 99, 108, 111, 99, 107, 47, 108, 97, 119, 115, 46, 70, 110, 65, 108, 108, 111, 119, 32, 108, 111, 111, 112, 46, 101, 120, 97, 109, 112, 108, 101, 47, 112, 117, 98, 45, 116, 111, 107, 101, 110, 115, 98, 121, 99, 108, 111, 99, 107, 47, 108, 97, 119, 115, 46, 70, 110, 65, 110, 121, 82, 97, 116, 101, 32, 108, 111, 111, 112, 46, 101, 120, 97, 109, 112, 108, 101, 47, 112, 117, 98, 45, 116, 111, 107, 101, 110, 115, 98, 121, 99, 108, 111, 99, 107, 47, 108, 97, 119, 115, 46, 70, 110, 65, 115, 107, 105, 110, 103, 32, 108, 111, 111, 112, 46, 101, 120, 97, 109, 112, 108, 101, 47, 112, 117, 98, 45, 116, 111, 107, 101, 110, 115, 98, 121, 99, 108, 111, 99, 107, 47, 108, 97, 119, 115, 46, 70, 110, 67, 97, 110, 99, 101, 108, 70, 97, 105, 114, 32, 108, 111, 111, 112, 46, 101, 120, 97, 109, 112, 108, 101, 47, 112, 117, 98, 45, 116, 111, 107, 101, 110, 115, 98, 121, 99, 108, 111, 99, 107, 47, 108, 97, 119, 115, 46, 70, 110, 67, 97, 110, 99, 101, 108, 78, 111, 119, 32, 108, 111, 111, 112, 46, 101, 120, 97, 109, 112, 108, 101, 47, 112, 117, 98, 45, 116, 111, 107, 101, 110, 115, 98, 121, 99, 108, 111, 99, 107, 47, 108, 97, 119, 115, 46, 70, 110, 73, 110, 102, 32, 108, 111, 111, 112, 46, 101, 120, 97, 109, 112, 108, 101, 47, 112, 117, 98, 45, 116, 111, 107, 101, 110, 115, 98, 121, 99, 108, 111, 99, 107, 47, 108, 97, 119, 115, 46, 70, 110, 76, 97, 116, 101, 114, 32, 108, 111, 111, 112, 46, 101, 120, 97, 109, 112, 108, 101, 47, 112, 117, 98, 45, 116, 111, 107, 101, 110, 115, 98, 121, 99, 108, 111, 99, 107, 47, 108, 97, 119, 115, 46, 70, 110, 77, 97, 110, 121, 83, 109, 97, 108, 108, 32, 108, 111, 111, 112, 46, 101, 120, 97, 109, 112, 108, 101, 47, 112, 117, 98, 45, 116, 111, 107, 101, 110, 115, 98, 121, 99, 108, 111, 99, 107, 47, 108, 97, 119, 115, 46, 70, 110, 77, 105, 120, 101, 100, 32, 108, 111, 111, 112, 46, 101, 120, 97, 109, 112, 108, 101, 47, 112, 117, 98, 45, 116, 111, 107, 101, 110, 115, 98, 121, 99, 108, 111, 99, 107, 47, 108, 97, 119, 115, 46, 70, 110, 78, 111, 87, 97, 115, 116, 101, 32, 108, 111, 111, 112, 46, 101, 120, 97, 109, 112, 108, 101, 47, 112, 117, 98, 45, 116, 111, 107, 101, 110, 115, 98, 121, 99, 108, 111, 99, 107, 47, 108, 97, 119, 115, 46, 70, 110, 82, 101, 115, 101, 114, 118, 101, 32, 108, 111, 111, 112, 46, 101, 120, 97, 109, 112, 108, 101, 47, 112, 117, 98, 45, 116, 111, 107, 101, 110, 115, 98, 121, 99, 108, 111, 99, 107, 47, 108, 97, 119, 115, 46, 70, 110, 82, 111, 119, 32, 108, 111, 111, 112, 46, 101, 120, 97, 109, 112, 108, 101, 47, 112, 117, 98, 45, 116, 111, 107, 101, 110, 115, 98, 121, 99, 108, 111, 99, 107, 47, 108, 97, 119, 115, 46, 70, 110, 83, 99, 114, 105, 112, 116, 32, 108, 111, 111, 112, 46, 101, 120, 97, 109, 112, 108, 101, 47, 112, 117, 98, 45, 116, 111, 107, 101, 110, 115, 98, 121, 99, 108, 111, 99, 107, 47, 108, 97, 119, 115, 46, 70, 110, 84, 111, 111, 77, 97, 110, 121, 32, 108, 111, 111, 112, 46, 101, 120, 97, 109, 112, 108, 101, 47, 112, 117, 98, 45, 116, 111, 107, 101, 110, 115, 98, 121, 99, 108, 111, 99, 107, 47, 108, 97, 119, 115, 46, 70, 110, 87, 105, 110, 100, 111, 119] : List Nat).map Char.ofNat

set_option maxRecDepth 100000 in
theorem head_eq : Try.pinned.checked.prog.initOrder = String.ofList (headA ++ Char.ofNat 32 :: (headB ++ Char.ofNat 32 :: (headC ++ Char.ofNat 32 :: headR))) := by kernel_rfl

theorem words (r : List Char) : ∀ w : List Char, (w.all fun c => c != Char.ofNat 32) = true → wordsSigns (w ++ Char.ofNat 32 :: r) = w :: wordsSigns r
  | [], _ => rfl
  | c :: w, h => by
    rw [List.all_cons, Bool.and_eq_true] at h
    have ih := words r w h.2
    have hc : c ≠ Char.ofNat 32 := by simpa using h.1
    rw [List.cons_append, wordsSigns.eq_3 _ _ (fun he => hc he), ih]

theorem head_words : wordsSigns Try.pinned.checked.prog.initOrder.toList = headA :: headB :: headC :: wordsSigns headR := by
  rw [head_eq, String.toList_ofList, words _ headA (by decide +kernel), words _ headB (by decide +kernel), words _ headC (by decide +kernel)]

theorem behind : behindMainWord (wordsSigns Try.pinned.checked.prog.initOrder.toList) = headC :: wordsSigns headR := by
  rw [head_words]
  generalize wordsSigns headR = rest
  kernel_rfl

theorem makes_of (P : Program) (c : List Char) (rest : List (List Char)) (h : behindMainWord (wordsSigns P.initOrder.toList) = c :: rest) (h1 : (c == "gc".toList || c == "spec".toList) = false) (h2 : (c == "cut".toList) = true) : P.make = some .cut := by
  unfold Program.make
  rw [h]
  dsimp only
  rw [if_neg (by rw [h1]; decide), if_pos (by rw [h2]; rfl)]

theorem strip_of (c : List Char) (rest : List (List Char)) : ∀ os : List String, (os.all fun o => !(c == o.toList)) = true → stripLifts os (c :: rest) = ([], c :: rest)
  | [], _ => rfl
  | o :: os, h => by
    rw [List.all_cons, Bool.and_eq_true] at h
    have h1 : (c == o.toList) = false := by simpa using h.1
    rw [stripLifts, h1]
    exact strip_of c rest os h.2

theorem lifts_of (P : Program) (c : List Char) (rest : List (List Char)) (h : behindMainWord (wordsSigns P.initOrder.toList) = c :: rest) (h1 : (c == "carried".toList) = false) (h2 : (liftWords.all fun o => !(c == o.toList)) = true) : P.liftsFinal = false := by
  have h3 : (some c == some "carried".toList) = false := by simpa using h1
  unfold Program.liftsFinal Program.headLifts
  rw [h]
  simp only [strip_of c rest _ h2, List.head?_cons, h3, Bool.false_and, Bool.false_or]
  split <;> rfl

theorem enters_of (P : Program) (c : List Char) (rest : List (List Char)) (h : behindMainWord (wordsSigns P.initOrder.toList) = c :: rest) (h1 : (c == "gc".toList || c == "spec".toList) = false) (h2 : (some c == some "cut".toList) = true)
    (h3 : (liftWords.all fun o => !(c == o.toList)) = true) (hl : P.laysLater = false) (hr : P.bearsReflect = false) (hd : P.doorFits [] = true) : P.mayEnter = true := by
  unfold Program.mayEnter
  rw [h]
  dsimp only
  rw [strip_of c rest _ h3]
  simp only [h1, List.head?_cons, h2, hl, hr, hd, Bool.not_false, Bool.or_true, Bool.and_true, Bool.true_and]
  simp

theorem enters : Try.pinned.checked.prog.mayEnter = true := enters_of _ _ _ behind (by kernel_rfl) (by kernel_rfl) (by kernel_rfl) (by kernel_rfl) (by kernel_rfl) (by kernel_rfl)
theorem lifts : Try.pinned.checked.prog.liftsFinal = false := lifts_of _ _ _ behind (by kernel_rfl) (by kernel_rfl)
theorem makes : Try.pinned.checked.prog.make = some .cut := makes_of _ _ _ behind (by kernel_rfl) (by kernel_rfl)

theorem band {a b : Bool} (ha : a = true) (hb : b = true) : (a && b) = true := by rw [ha, hb]; rfl

theorem stays {H : Type} {enc : TypeId × Value → H} {W W' : World} (hb : Below W.heap.size W W') (sp : Nat → Bool) :
    ∀ {ts : List TypeId} {vs : List Value} {ds : List (DataW H)} {ps : List MemPlace}, (∀ t ∈ ts, Try.prog.readableRec t = true ∧ t < Try.prog.types.size) →
      DataW.TrodAll enc Try.prog W 0 (fun _ => true) true ts vs ds ps → (∀ x ∈ ps, x.block < W.heap.size) → (∀ x ∈ ps, sp x.block = true) → DataW.TrodAll enc Try.prog W' 0 sp true ts vs ds ps := by
  intro ts
  induction ts with
  | nil =>
    intro vs ds ps _ h _ _
    obtain ⟨rfl, rfl, rfl⟩ := trodAll_nil h
    exact trodAll_mk0
  | cons t ts ih =>
    intro vs ds ps ht h hlt hsp
    obtain ⟨v0, vs0, d0, ds0, p0, q0, rfl, rfl, rfl, h0, r0⟩ := trodAll_cons h
    have ht0 := ht t (List.mem_cons_self ..)
    refine trodAll_cons_mk (WideElems.Trod_stays laid ht0.1 ht0.2 h0 (fun x hx => hb.same (hlt x (List.mem_append_left _ hx))) (fun x hx => hsp x (List.mem_append_left _ hx))) ?_
    exact ih (fun t ht' => ht t (List.mem_cons_of_mem _ ht')) r0 (fun x hx => hlt x (List.mem_append_right _ hx)) (fun x hx => hsp x (List.mem_append_right _ hx))

set_option maxRecDepth 10000 in
theorem law_post {H : Type} {enc : TypeId × Value → H} {f : Func} {s : ChangeSpec} {apart fresh handsOn again : Bool} {W W' : World} {args : Array Value} {ds gs : List (DataW H)} {before : List MemPlace}
    (hW : DataW.Whole enc Try.prog f.params.toList s.vars apart W args.toList ds gs before) (hv : s.vars = []) (hr : (s.fn H (ds ++ gs)).results = [.lit (.bool true)]) (ha : (s.fn H (ds ++ gs)).args = ds) (hvv : (s.fn H (ds ++ gs)).vars = [])
    (ht : f.resultTypes = #[4]) (hp : ∀ t ∈ f.params.toList, Try.prog.readableRec t = true ∧ t < Try.prog.types.size) (hb : Below W.heap.size W W') :
    s.post enc Try.prog f apart fresh handsOn again W args (.bool true) W' := by
  have hlt := hW.lt
  have hWo := hW
  obtain ⟨p, q, hA, hV, rfl, hz, hn⟩ := hW
  rw [hv] at hV
  obtain ⟨rfl, rfl⟩ := trodVars_none hV
  have hargs : ∀ sp : Nat → Bool, (∀ x ∈ p, sp x.block = true) → DataW.TrodAll enc Try.prog W' 0 sp true f.params.toList args.toList (s.fn H (ds ++ [])).args p := by
    intro sp hsp
    rw [ha]
    exact stays hb sp hp hA (fun x hx => hlt x (List.mem_append_left _ hx)) hsp
  have hres : ∀ (b : Nat) (sp : Nat → Bool) (hd : Bool), DataW.TrodAll enc Try.prog W' b sp hd f.resultTypes.toList ((Value.bool true).resultList f.resultTypes.size) (s.fn H (ds ++ [])).results [] := by
    intro b sp hd
    rw [hr, ht]
    exact trodAll_cons_mk (shut_bool Try.underlying4 _) trodAll_mk0
  have hvars : ∀ sp : Nat → Bool, DataW.TrodVars enc Try.prog W' sp s.vars (s.fn H (ds ++ [])).vars [] := by
    intro sp
    rw [hv, hvv]
    exact rfl
  refine ⟨ds, [], p ++ [], [], p, [], hWo, hres _ _ _, hargs _ (fun x hx => by simpa using hlt x (List.mem_append_left _ hx)), hvars _, World.keptBut_mono (fun x hx => ⟨hx, .inr (by simpa using hx)⟩) (hb.frame (· ∈ p ++ [])), fun _ => ?_⟩
  refine ⟨ok_one ht rfl (okWide_bool_mk Try.underlying4 _), _, _, ([] ++ p) ++ [], ⟨[] ++ p, [], trodAll_append (hargs _ (fun _ _ => rfl)) (hres _ _ _), hvars _, rfl, ?_, ?_⟩, ?_⟩
  · intro b off hx
    have hin : MemPlace.cell b off ∈ p ++ [] := by simpa using hx
    rw [hb.frozen (hlt _ hin)]
    exact hz b off hin
  · intro h
    have := hn h
    simpa using this
  · intro x hx _
    simpa using hx

end Go.Proofs.Ytndkiphlpddbaaa
