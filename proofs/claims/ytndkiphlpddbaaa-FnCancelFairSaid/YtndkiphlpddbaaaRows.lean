/-
  No cell of these rows narrows 'for every input' (looked for: loops, veiled, ifaces, maps, wideKeys, modest, calm, conditions, laid).
  DERIVED. THE GIVEN ROWS OF THIS SEAT. 18 by the template 'for every input the law returns true; each argument reads behind the call as it read before'; 0 by the template 'total and deterministic' (their statements: YtndkiphlpddbaaaTotals.lean).
  GIVEN WITH THE SEED: the statements are not yours to turn. If you find one false, say at which input.
  Laid BY PROGRAM, IN A SANDBOX (cutbox-rows.mjs): the forced cells as the released guide's own fill.sh prints them over the translation 57bfd60b33552d28… (all of the seat's roots in one cut). By AI agents, Wed Nov 11 2026. No macro, syntax, notation, axiom, sorry.
-/
import Derived.Test.YtndkiphlpddbaaaChecked
import GoSem.Claim
import GoSem.ClaimJoined
import GoSem.ClaimMapViews
import Derived.JoinedTies
import Derived.KernelRfl
namespace Go.Proofs.Ytndkiphlpddbaaa
/- THE CELL 'sum', in the pinned program and in every row, IS THE sha256 OF THE DUMP (.gsa) THAT YtndkiphlpddbaaaProg.lean LOADS. Nothing in Lean hashes anything: it is a label: what it is worth is what the hold of that sum in a sandbox is worth. -/
noncomputable def Try.pinned : Pinned := { name := "ytndkiphlpddbaaa", sum := "57bfd60b33552d2837d58a860845bccee36e0f8685c19bb758c2701e171e06ab", checked := Try.checked }
namespace Rows
def none {H : Type} : Left H := { results := [], args := [] }

/-- 'laws.FnCancelLate': WHATEVER THE INPUT: true; the input reads as it did. -/
def fnCancelLateSpec : ChangeSpec := { name := "fnCancelLate", fn := fun _ => fun
  | [d1, d2, d3, d4, d5] => { results := [.lit (.bool true)], args := [d1, d2, d3, d4, d5] }
  | _ => none }
def fnCancelLateRow : OpenClaim := { program := "ytndkiphlpddbaaa", sum := "57bfd60b33552d2837d58a860845bccee36e0f8685c19bb758c2701e171e06ab", func := "loop.example/pub-tokensbyclock/laws.FnCancelLate", spec := "fnCancelLate", apart := false }
def FnCancelLateSaid : Prop := fnCancelLateRow.holds Try.pinned (OpenSpec.ofChange fnCancelLateSpec)

/-- ITS FALSE NEIGHBOUR: 'it returns false'. Refute it at one input. -/
def fnCancelLateWrong : ChangeSpec := { name := "fnCancelLate", fn := fun _ => fun
  | [d1, d2, d3, d4, d5] => { results := [.lit (.bool false)], args := [d1, d2, d3, d4, d5] }
  | _ => none }
def FnCancelLateWrongFalsely : Prop := fnCancelLateRow.holds Try.pinned (OpenSpec.ofChange fnCancelLateWrong)

/-- 'laws.FnLimits': WHATEVER THE INPUT: true; the input reads as it did. -/
def fnLimitsSpec : ChangeSpec := { name := "fnLimits", fn := fun _ => fun
  | [d1, d2, d3] => { results := [.lit (.bool true)], args := [d1, d2, d3] }
  | _ => none }
def fnLimitsRow : OpenClaim := { program := "ytndkiphlpddbaaa", sum := "57bfd60b33552d2837d58a860845bccee36e0f8685c19bb758c2701e171e06ab", func := "loop.example/pub-tokensbyclock/laws.FnLimits", spec := "fnLimits", apart := false }
def FnLimitsSaid : Prop := fnLimitsRow.holds Try.pinned (OpenSpec.ofChange fnLimitsSpec)

/-- ITS FALSE NEIGHBOUR: 'it returns false'. Refute it at one input. -/
def fnLimitsWrong : ChangeSpec := { name := "fnLimits", fn := fun _ => fun
  | [d1, d2, d3] => { results := [.lit (.bool false)], args := [d1, d2, d3] }
  | _ => none }
def FnLimitsWrongFalsely : Prop := fnLimitsRow.holds Try.pinned (OpenSpec.ofChange fnLimitsWrong)

/-- 'laws.FnTokens': WHATEVER THE INPUT: true; the input reads as it did. -/
def fnTokensSpec : ChangeSpec := { name := "fnTokens", fn := fun _ => fun
  | [d1, d2, d3] => { results := [.lit (.bool true)], args := [d1, d2, d3] }
  | _ => none }
def fnTokensRow : OpenClaim := { program := "ytndkiphlpddbaaa", sum := "57bfd60b33552d2837d58a860845bccee36e0f8685c19bb758c2701e171e06ab", func := "loop.example/pub-tokensbyclock/laws.FnTokens", spec := "fnTokens", apart := false }
def FnTokensSaid : Prop := fnTokensRow.holds Try.pinned (OpenSpec.ofChange fnTokensSpec)

/-- ITS FALSE NEIGHBOUR: 'it returns false'. Refute it at one input. -/
def fnTokensWrong : ChangeSpec := { name := "fnTokens", fn := fun _ => fun
  | [d1, d2, d3] => { results := [.lit (.bool false)], args := [d1, d2, d3] }
  | _ => none }
def FnTokensWrongFalsely : Prop := fnTokensRow.holds Try.pinned (OpenSpec.ofChange fnTokensWrong)

/-- 'laws.FnAllow': WHATEVER THE INPUT: true; the input reads as it did. -/
def fnAllowSpec : ChangeSpec := { name := "fnAllow", fn := fun _ => fun
  | [d1, d2, d3] => { results := [.lit (.bool true)], args := [d1, d2, d3] }
  | _ => none }
def fnAllowRow : OpenClaim := { program := "ytndkiphlpddbaaa", sum := "57bfd60b33552d2837d58a860845bccee36e0f8685c19bb758c2701e171e06ab", func := "loop.example/pub-tokensbyclock/laws.FnAllow", spec := "fnAllow", apart := false }
def FnAllowSaid : Prop := fnAllowRow.holds Try.pinned (OpenSpec.ofChange fnAllowSpec)

/-- ITS FALSE NEIGHBOUR: 'it returns false'. Refute it at one input. -/
def fnAllowWrong : ChangeSpec := { name := "fnAllow", fn := fun _ => fun
  | [d1, d2, d3] => { results := [.lit (.bool false)], args := [d1, d2, d3] }
  | _ => none }
def FnAllowWrongFalsely : Prop := fnAllowRow.holds Try.pinned (OpenSpec.ofChange fnAllowWrong)

/-- 'laws.FnAnyRate': WHATEVER THE INPUT: true; the input reads as it did. -/
def fnAnyRateSpec : ChangeSpec := { name := "fnAnyRate", fn := fun _ => fun
  | [d1, d2, d3] => { results := [.lit (.bool true)], args := [d1, d2, d3] }
  | _ => none }
def fnAnyRateRow : OpenClaim := { program := "ytndkiphlpddbaaa", sum := "57bfd60b33552d2837d58a860845bccee36e0f8685c19bb758c2701e171e06ab", func := "loop.example/pub-tokensbyclock/laws.FnAnyRate", spec := "fnAnyRate", apart := false }
def FnAnyRateSaid : Prop := fnAnyRateRow.holds Try.pinned (OpenSpec.ofChange fnAnyRateSpec)

/-- ITS FALSE NEIGHBOUR: 'it returns false'. Refute it at one input. -/
def fnAnyRateWrong : ChangeSpec := { name := "fnAnyRate", fn := fun _ => fun
  | [d1, d2, d3] => { results := [.lit (.bool false)], args := [d1, d2, d3] }
  | _ => none }
def FnAnyRateWrongFalsely : Prop := fnAnyRateRow.holds Try.pinned (OpenSpec.ofChange fnAnyRateWrong)

/-- 'laws.FnAsking': WHATEVER THE INPUT: true; the input reads as it did. -/
def fnAskingSpec : ChangeSpec := { name := "fnAsking", fn := fun _ => fun
  | [d1, d2, d3] => { results := [.lit (.bool true)], args := [d1, d2, d3] }
  | _ => none }
def fnAskingRow : OpenClaim := { program := "ytndkiphlpddbaaa", sum := "57bfd60b33552d2837d58a860845bccee36e0f8685c19bb758c2701e171e06ab", func := "loop.example/pub-tokensbyclock/laws.FnAsking", spec := "fnAsking", apart := false }
def FnAskingSaid : Prop := fnAskingRow.holds Try.pinned (OpenSpec.ofChange fnAskingSpec)

/-- ITS FALSE NEIGHBOUR: 'it returns false'. Refute it at one input. -/
def fnAskingWrong : ChangeSpec := { name := "fnAsking", fn := fun _ => fun
  | [d1, d2, d3] => { results := [.lit (.bool false)], args := [d1, d2, d3] }
  | _ => none }
def FnAskingWrongFalsely : Prop := fnAskingRow.holds Try.pinned (OpenSpec.ofChange fnAskingWrong)

/-- 'laws.FnCancelFair': WHATEVER THE INPUT: true; the input reads as it did. -/
def fnCancelFairSpec : ChangeSpec := { name := "fnCancelFair", fn := fun _ => fun
  | [d1, d2, d3, d4, d5] => { results := [.lit (.bool true)], args := [d1, d2, d3, d4, d5] }
  | _ => none }
def fnCancelFairRow : OpenClaim := { program := "ytndkiphlpddbaaa", sum := "57bfd60b33552d2837d58a860845bccee36e0f8685c19bb758c2701e171e06ab", func := "loop.example/pub-tokensbyclock/laws.FnCancelFair", spec := "fnCancelFair", apart := false }
def FnCancelFairSaid : Prop := fnCancelFairRow.holds Try.pinned (OpenSpec.ofChange fnCancelFairSpec)

/-- ITS FALSE NEIGHBOUR: 'it returns false'. Refute it at one input. -/
def fnCancelFairWrong : ChangeSpec := { name := "fnCancelFair", fn := fun _ => fun
  | [d1, d2, d3, d4, d5] => { results := [.lit (.bool false)], args := [d1, d2, d3, d4, d5] }
  | _ => none }
def FnCancelFairWrongFalsely : Prop := fnCancelFairRow.holds Try.pinned (OpenSpec.ofChange fnCancelFairWrong)

/-- 'laws.FnCancelNow': WHATEVER THE INPUT: true; the input reads as it did. -/
def fnCancelNowSpec : ChangeSpec := { name := "fnCancelNow", fn := fun _ => fun
  | [d1, d2, d3, d4, d5] => { results := [.lit (.bool true)], args := [d1, d2, d3, d4, d5] }
  | _ => none }
def fnCancelNowRow : OpenClaim := { program := "ytndkiphlpddbaaa", sum := "57bfd60b33552d2837d58a860845bccee36e0f8685c19bb758c2701e171e06ab", func := "loop.example/pub-tokensbyclock/laws.FnCancelNow", spec := "fnCancelNow", apart := false }
def FnCancelNowSaid : Prop := fnCancelNowRow.holds Try.pinned (OpenSpec.ofChange fnCancelNowSpec)

/-- ITS FALSE NEIGHBOUR: 'it returns false'. Refute it at one input. -/
def fnCancelNowWrong : ChangeSpec := { name := "fnCancelNow", fn := fun _ => fun
  | [d1, d2, d3, d4, d5] => { results := [.lit (.bool false)], args := [d1, d2, d3, d4, d5] }
  | _ => none }
def FnCancelNowWrongFalsely : Prop := fnCancelNowRow.holds Try.pinned (OpenSpec.ofChange fnCancelNowWrong)

/-- 'laws.FnInf': WHATEVER THE INPUT: true; the input reads as it did. -/
def fnInfSpec : ChangeSpec := { name := "fnInf", fn := fun _ => fun
  | [d1, d2] => { results := [.lit (.bool true)], args := [d1, d2] }
  | _ => none }
def fnInfRow : OpenClaim := { program := "ytndkiphlpddbaaa", sum := "57bfd60b33552d2837d58a860845bccee36e0f8685c19bb758c2701e171e06ab", func := "loop.example/pub-tokensbyclock/laws.FnInf", spec := "fnInf", apart := false }
def FnInfSaid : Prop := fnInfRow.holds Try.pinned (OpenSpec.ofChange fnInfSpec)

/-- ITS FALSE NEIGHBOUR: 'it returns false'. Refute it at one input. -/
def fnInfWrong : ChangeSpec := { name := "fnInf", fn := fun _ => fun
  | [d1, d2] => { results := [.lit (.bool false)], args := [d1, d2] }
  | _ => none }
def FnInfWrongFalsely : Prop := fnInfRow.holds Try.pinned (OpenSpec.ofChange fnInfWrong)

/-- 'laws.FnLater': WHATEVER THE INPUT: true; the input reads as it did. -/
def fnLaterSpec : ChangeSpec := { name := "fnLater", fn := fun _ => fun
  | [d1, d2, d3, d4, d5] => { results := [.lit (.bool true)], args := [d1, d2, d3, d4, d5] }
  | _ => none }
def fnLaterRow : OpenClaim := { program := "ytndkiphlpddbaaa", sum := "57bfd60b33552d2837d58a860845bccee36e0f8685c19bb758c2701e171e06ab", func := "loop.example/pub-tokensbyclock/laws.FnLater", spec := "fnLater", apart := false }
def FnLaterSaid : Prop := fnLaterRow.holds Try.pinned (OpenSpec.ofChange fnLaterSpec)

/-- ITS FALSE NEIGHBOUR: 'it returns false'. Refute it at one input. -/
def fnLaterWrong : ChangeSpec := { name := "fnLater", fn := fun _ => fun
  | [d1, d2, d3, d4, d5] => { results := [.lit (.bool false)], args := [d1, d2, d3, d4, d5] }
  | _ => none }
def FnLaterWrongFalsely : Prop := fnLaterRow.holds Try.pinned (OpenSpec.ofChange fnLaterWrong)

/-- 'laws.FnManySmall': WHATEVER THE INPUT: true; the input reads as it did. -/
def fnManySmallSpec : ChangeSpec := { name := "fnManySmall", fn := fun _ => fun
  | [d1, d2, d3, d4] => { results := [.lit (.bool true)], args := [d1, d2, d3, d4] }
  | _ => none }
def fnManySmallRow : OpenClaim := { program := "ytndkiphlpddbaaa", sum := "57bfd60b33552d2837d58a860845bccee36e0f8685c19bb758c2701e171e06ab", func := "loop.example/pub-tokensbyclock/laws.FnManySmall", spec := "fnManySmall", apart := false }
def FnManySmallSaid : Prop := fnManySmallRow.holds Try.pinned (OpenSpec.ofChange fnManySmallSpec)

/-- ITS FALSE NEIGHBOUR: 'it returns false'. Refute it at one input. -/
def fnManySmallWrong : ChangeSpec := { name := "fnManySmall", fn := fun _ => fun
  | [d1, d2, d3, d4] => { results := [.lit (.bool false)], args := [d1, d2, d3, d4] }
  | _ => none }
def FnManySmallWrongFalsely : Prop := fnManySmallRow.holds Try.pinned (OpenSpec.ofChange fnManySmallWrong)

/-- 'laws.FnMixed': WHATEVER THE INPUT: true; the input reads as it did. -/
def fnMixedSpec : ChangeSpec := { name := "fnMixed", fn := fun _ => fun
  | [d1, d2, d3] => { results := [.lit (.bool true)], args := [d1, d2, d3] }
  | _ => none }
def fnMixedRow : OpenClaim := { program := "ytndkiphlpddbaaa", sum := "57bfd60b33552d2837d58a860845bccee36e0f8685c19bb758c2701e171e06ab", func := "loop.example/pub-tokensbyclock/laws.FnMixed", spec := "fnMixed", apart := false }
def FnMixedSaid : Prop := fnMixedRow.holds Try.pinned (OpenSpec.ofChange fnMixedSpec)

/-- ITS FALSE NEIGHBOUR: 'it returns false'. Refute it at one input. -/
def fnMixedWrong : ChangeSpec := { name := "fnMixed", fn := fun _ => fun
  | [d1, d2, d3] => { results := [.lit (.bool false)], args := [d1, d2, d3] }
  | _ => none }
def FnMixedWrongFalsely : Prop := fnMixedRow.holds Try.pinned (OpenSpec.ofChange fnMixedWrong)

/-- 'laws.FnNoWaste': WHATEVER THE INPUT: true; the input reads as it did. -/
def fnNoWasteSpec : ChangeSpec := { name := "fnNoWaste", fn := fun _ => fun
  | [d1, d2, d3] => { results := [.lit (.bool true)], args := [d1, d2, d3] }
  | _ => none }
def fnNoWasteRow : OpenClaim := { program := "ytndkiphlpddbaaa", sum := "57bfd60b33552d2837d58a860845bccee36e0f8685c19bb758c2701e171e06ab", func := "loop.example/pub-tokensbyclock/laws.FnNoWaste", spec := "fnNoWaste", apart := false }
def FnNoWasteSaid : Prop := fnNoWasteRow.holds Try.pinned (OpenSpec.ofChange fnNoWasteSpec)

/-- ITS FALSE NEIGHBOUR: 'it returns false'. Refute it at one input. -/
def fnNoWasteWrong : ChangeSpec := { name := "fnNoWaste", fn := fun _ => fun
  | [d1, d2, d3] => { results := [.lit (.bool false)], args := [d1, d2, d3] }
  | _ => none }
def FnNoWasteWrongFalsely : Prop := fnNoWasteRow.holds Try.pinned (OpenSpec.ofChange fnNoWasteWrong)

/-- 'laws.FnReserve': WHATEVER THE INPUT: true; the input reads as it did. -/
def fnReserveSpec : ChangeSpec := { name := "fnReserve", fn := fun _ => fun
  | [d1, d2, d3] => { results := [.lit (.bool true)], args := [d1, d2, d3] }
  | _ => none }
def fnReserveRow : OpenClaim := { program := "ytndkiphlpddbaaa", sum := "57bfd60b33552d2837d58a860845bccee36e0f8685c19bb758c2701e171e06ab", func := "loop.example/pub-tokensbyclock/laws.FnReserve", spec := "fnReserve", apart := false }
def FnReserveSaid : Prop := fnReserveRow.holds Try.pinned (OpenSpec.ofChange fnReserveSpec)

/-- ITS FALSE NEIGHBOUR: 'it returns false'. Refute it at one input. -/
def fnReserveWrong : ChangeSpec := { name := "fnReserve", fn := fun _ => fun
  | [d1, d2, d3] => { results := [.lit (.bool false)], args := [d1, d2, d3] }
  | _ => none }
def FnReserveWrongFalsely : Prop := fnReserveRow.holds Try.pinned (OpenSpec.ofChange fnReserveWrong)

/-- 'laws.FnRow': WHATEVER THE INPUT: true; the input reads as it did. -/
def fnRowSpec : ChangeSpec := { name := "fnRow", fn := fun _ => fun
  | [d1, d2, d3] => { results := [.lit (.bool true)], args := [d1, d2, d3] }
  | _ => none }
def fnRowRow : OpenClaim := { program := "ytndkiphlpddbaaa", sum := "57bfd60b33552d2837d58a860845bccee36e0f8685c19bb758c2701e171e06ab", func := "loop.example/pub-tokensbyclock/laws.FnRow", spec := "fnRow", apart := false }
def FnRowSaid : Prop := fnRowRow.holds Try.pinned (OpenSpec.ofChange fnRowSpec)

/-- ITS FALSE NEIGHBOUR: 'it returns false'. Refute it at one input. -/
def fnRowWrong : ChangeSpec := { name := "fnRow", fn := fun _ => fun
  | [d1, d2, d3] => { results := [.lit (.bool false)], args := [d1, d2, d3] }
  | _ => none }
def FnRowWrongFalsely : Prop := fnRowRow.holds Try.pinned (OpenSpec.ofChange fnRowWrong)

/-- 'laws.FnScript': WHATEVER THE INPUT: true; the input reads as it did. -/
def fnScriptSpec : ChangeSpec := { name := "fnScript", fn := fun _ => fun
  | [d1, d2, d3] => { results := [.lit (.bool true)], args := [d1, d2, d3] }
  | _ => none }
def fnScriptRow : OpenClaim := { program := "ytndkiphlpddbaaa", sum := "57bfd60b33552d2837d58a860845bccee36e0f8685c19bb758c2701e171e06ab", func := "loop.example/pub-tokensbyclock/laws.FnScript", spec := "fnScript", apart := false }
def FnScriptSaid : Prop := fnScriptRow.holds Try.pinned (OpenSpec.ofChange fnScriptSpec)

/-- ITS FALSE NEIGHBOUR: 'it returns false'. Refute it at one input. -/
def fnScriptWrong : ChangeSpec := { name := "fnScript", fn := fun _ => fun
  | [d1, d2, d3] => { results := [.lit (.bool false)], args := [d1, d2, d3] }
  | _ => none }
def FnScriptWrongFalsely : Prop := fnScriptRow.holds Try.pinned (OpenSpec.ofChange fnScriptWrong)

/-- 'laws.FnTooMany': WHATEVER THE INPUT: true; the input reads as it did. -/
def fnTooManySpec : ChangeSpec := { name := "fnTooMany", fn := fun _ => fun
  | [d1, d2, d3, d4, d5] => { results := [.lit (.bool true)], args := [d1, d2, d3, d4, d5] }
  | _ => none }
def fnTooManyRow : OpenClaim := { program := "ytndkiphlpddbaaa", sum := "57bfd60b33552d2837d58a860845bccee36e0f8685c19bb758c2701e171e06ab", func := "loop.example/pub-tokensbyclock/laws.FnTooMany", spec := "fnTooMany", apart := false }
def FnTooManySaid : Prop := fnTooManyRow.holds Try.pinned (OpenSpec.ofChange fnTooManySpec)

/-- ITS FALSE NEIGHBOUR: 'it returns false'. Refute it at one input. -/
def fnTooManyWrong : ChangeSpec := { name := "fnTooMany", fn := fun _ => fun
  | [d1, d2, d3, d4, d5] => { results := [.lit (.bool false)], args := [d1, d2, d3, d4, d5] }
  | _ => none }
def FnTooManyWrongFalsely : Prop := fnTooManyRow.holds Try.pinned (OpenSpec.ofChange fnTooManyWrong)

/-- 'laws.FnWindow': WHATEVER THE INPUT: true; the input reads as it did. -/
def fnWindowSpec : ChangeSpec := { name := "fnWindow", fn := fun _ => fun
  | [d1, d2, d3] => { results := [.lit (.bool true)], args := [d1, d2, d3] }
  | _ => none }
def fnWindowRow : OpenClaim := { program := "ytndkiphlpddbaaa", sum := "57bfd60b33552d2837d58a860845bccee36e0f8685c19bb758c2701e171e06ab", func := "loop.example/pub-tokensbyclock/laws.FnWindow", spec := "fnWindow", apart := false }
def FnWindowSaid : Prop := fnWindowRow.holds Try.pinned (OpenSpec.ofChange fnWindowSpec)

/-- ITS FALSE NEIGHBOUR: 'it returns false'. Refute it at one input. -/
def fnWindowWrong : ChangeSpec := { name := "fnWindow", fn := fun _ => fun
  | [d1, d2, d3] => { results := [.lit (.bool false)], args := [d1, d2, d3] }
  | _ => none }
def FnWindowWrongFalsely : Prop := fnWindowRow.holds Try.pinned (OpenSpec.ofChange fnWindowWrong)

/- THE SECOND FORM. 'bulk': how many values and letters a reading holds, each counted each time it is reached (what is shared counts as often as it is met; a slice's spare places count too). A statement '..UptoSaid' is the law's where the arguments, and the package variables that the reading takes, are together of bulk at most 1048576: NARROWER than '..Said'. Prove '..Said' where nothing that the law and all that it calls make is longer than what came in: it says more and counts as full. Else prove '..UptoSaid'. A law counts once. -/
mutual
def uptoBulk {H : Type} : DataW H → Nat
  | .lit (.string bytes) => bytes.length + 1
  | .lit _ => 1
  | .nil => 1
  | .ptr d => uptoBulk d + 1
  | .slice elems spare => uptoBulkAll elems + uptoBulkAll spare + 1
  | .agg parts => uptoBulkAll parts + 1
  | .iface _ d => uptoBulk d + 1
  | .map entries => uptoBulkEntries entries + 1
  | .held _ => 1
def uptoBulkAll {H : Type} : List (DataW H) → Nat
  | [] => 0
  | d :: r => uptoBulk d + uptoBulkAll r
def uptoBulkEntries {H : Type} : List (Lit × DataW H) → Nat
  | [] => 0
  | x :: r => uptoBulkEntry x + uptoBulkEntries r
def uptoBulkEntry {H : Type} : Lit × DataW H → Nat
  | (.string bytes, d) => bytes.length + uptoBulk d + 1
  | (_, d) => uptoBulk d + 1
 end
def uptoSmall : (H : Type) → List (DataW H) → Bool := fun _ ds => decide (uptoBulkAll ds ≤ 1048576)
def OpenSpec.upto (s : _root_.Go.ChangeSpec) : _root_.Go.OpenSpec := { _root_.Go.OpenSpec.ofChange s with cond := some uptoSmall }

/-- 'laws.FnCancelLate', WHERE WHAT IT READS IS OF BULK AT MOST 1048576: true; the input reads as it did. -/
def fnCancelLateUptoRow : OpenClaim := { program := "ytndkiphlpddbaaa", sum := "57bfd60b33552d2837d58a860845bccee36e0f8685c19bb758c2701e171e06ab", func := "loop.example/pub-tokensbyclock/laws.FnCancelLate", spec := "fnCancelLate", apart := false, narrowed := true }
def FnCancelLateUptoSaid : Prop := fnCancelLateUptoRow.holds Try.pinned (OpenSpec.upto fnCancelLateSpec)

/-- 'laws.FnLimits', WHERE WHAT IT READS IS OF BULK AT MOST 1048576: true; the input reads as it did. -/
def fnLimitsUptoRow : OpenClaim := { program := "ytndkiphlpddbaaa", sum := "57bfd60b33552d2837d58a860845bccee36e0f8685c19bb758c2701e171e06ab", func := "loop.example/pub-tokensbyclock/laws.FnLimits", spec := "fnLimits", apart := false, narrowed := true }
def FnLimitsUptoSaid : Prop := fnLimitsUptoRow.holds Try.pinned (OpenSpec.upto fnLimitsSpec)

/-- 'laws.FnTokens', WHERE WHAT IT READS IS OF BULK AT MOST 1048576: true; the input reads as it did. -/
def fnTokensUptoRow : OpenClaim := { program := "ytndkiphlpddbaaa", sum := "57bfd60b33552d2837d58a860845bccee36e0f8685c19bb758c2701e171e06ab", func := "loop.example/pub-tokensbyclock/laws.FnTokens", spec := "fnTokens", apart := false, narrowed := true }
def FnTokensUptoSaid : Prop := fnTokensUptoRow.holds Try.pinned (OpenSpec.upto fnTokensSpec)

/-- 'laws.FnAllow', WHERE WHAT IT READS IS OF BULK AT MOST 1048576: true; the input reads as it did. -/
def fnAllowUptoRow : OpenClaim := { program := "ytndkiphlpddbaaa", sum := "57bfd60b33552d2837d58a860845bccee36e0f8685c19bb758c2701e171e06ab", func := "loop.example/pub-tokensbyclock/laws.FnAllow", spec := "fnAllow", apart := false, narrowed := true }
def FnAllowUptoSaid : Prop := fnAllowUptoRow.holds Try.pinned (OpenSpec.upto fnAllowSpec)

/-- 'laws.FnAnyRate', WHERE WHAT IT READS IS OF BULK AT MOST 1048576: true; the input reads as it did. -/
def fnAnyRateUptoRow : OpenClaim := { program := "ytndkiphlpddbaaa", sum := "57bfd60b33552d2837d58a860845bccee36e0f8685c19bb758c2701e171e06ab", func := "loop.example/pub-tokensbyclock/laws.FnAnyRate", spec := "fnAnyRate", apart := false, narrowed := true }
def FnAnyRateUptoSaid : Prop := fnAnyRateUptoRow.holds Try.pinned (OpenSpec.upto fnAnyRateSpec)

/-- 'laws.FnAsking', WHERE WHAT IT READS IS OF BULK AT MOST 1048576: true; the input reads as it did. -/
def fnAskingUptoRow : OpenClaim := { program := "ytndkiphlpddbaaa", sum := "57bfd60b33552d2837d58a860845bccee36e0f8685c19bb758c2701e171e06ab", func := "loop.example/pub-tokensbyclock/laws.FnAsking", spec := "fnAsking", apart := false, narrowed := true }
def FnAskingUptoSaid : Prop := fnAskingUptoRow.holds Try.pinned (OpenSpec.upto fnAskingSpec)

/-- 'laws.FnCancelFair', WHERE WHAT IT READS IS OF BULK AT MOST 1048576: true; the input reads as it did. -/
def fnCancelFairUptoRow : OpenClaim := { program := "ytndkiphlpddbaaa", sum := "57bfd60b33552d2837d58a860845bccee36e0f8685c19bb758c2701e171e06ab", func := "loop.example/pub-tokensbyclock/laws.FnCancelFair", spec := "fnCancelFair", apart := false, narrowed := true }
def FnCancelFairUptoSaid : Prop := fnCancelFairUptoRow.holds Try.pinned (OpenSpec.upto fnCancelFairSpec)

/-- 'laws.FnCancelNow', WHERE WHAT IT READS IS OF BULK AT MOST 1048576: true; the input reads as it did. -/
def fnCancelNowUptoRow : OpenClaim := { program := "ytndkiphlpddbaaa", sum := "57bfd60b33552d2837d58a860845bccee36e0f8685c19bb758c2701e171e06ab", func := "loop.example/pub-tokensbyclock/laws.FnCancelNow", spec := "fnCancelNow", apart := false, narrowed := true }
def FnCancelNowUptoSaid : Prop := fnCancelNowUptoRow.holds Try.pinned (OpenSpec.upto fnCancelNowSpec)

/-- 'laws.FnInf', WHERE WHAT IT READS IS OF BULK AT MOST 1048576: true; the input reads as it did. -/
def fnInfUptoRow : OpenClaim := { program := "ytndkiphlpddbaaa", sum := "57bfd60b33552d2837d58a860845bccee36e0f8685c19bb758c2701e171e06ab", func := "loop.example/pub-tokensbyclock/laws.FnInf", spec := "fnInf", apart := false, narrowed := true }
def FnInfUptoSaid : Prop := fnInfUptoRow.holds Try.pinned (OpenSpec.upto fnInfSpec)

/-- 'laws.FnLater', WHERE WHAT IT READS IS OF BULK AT MOST 1048576: true; the input reads as it did. -/
def fnLaterUptoRow : OpenClaim := { program := "ytndkiphlpddbaaa", sum := "57bfd60b33552d2837d58a860845bccee36e0f8685c19bb758c2701e171e06ab", func := "loop.example/pub-tokensbyclock/laws.FnLater", spec := "fnLater", apart := false, narrowed := true }
def FnLaterUptoSaid : Prop := fnLaterUptoRow.holds Try.pinned (OpenSpec.upto fnLaterSpec)

/-- 'laws.FnManySmall', WHERE WHAT IT READS IS OF BULK AT MOST 1048576: true; the input reads as it did. -/
def fnManySmallUptoRow : OpenClaim := { program := "ytndkiphlpddbaaa", sum := "57bfd60b33552d2837d58a860845bccee36e0f8685c19bb758c2701e171e06ab", func := "loop.example/pub-tokensbyclock/laws.FnManySmall", spec := "fnManySmall", apart := false, narrowed := true }
def FnManySmallUptoSaid : Prop := fnManySmallUptoRow.holds Try.pinned (OpenSpec.upto fnManySmallSpec)

/-- 'laws.FnMixed', WHERE WHAT IT READS IS OF BULK AT MOST 1048576: true; the input reads as it did. -/
def fnMixedUptoRow : OpenClaim := { program := "ytndkiphlpddbaaa", sum := "57bfd60b33552d2837d58a860845bccee36e0f8685c19bb758c2701e171e06ab", func := "loop.example/pub-tokensbyclock/laws.FnMixed", spec := "fnMixed", apart := false, narrowed := true }
def FnMixedUptoSaid : Prop := fnMixedUptoRow.holds Try.pinned (OpenSpec.upto fnMixedSpec)

/-- 'laws.FnNoWaste', WHERE WHAT IT READS IS OF BULK AT MOST 1048576: true; the input reads as it did. -/
def fnNoWasteUptoRow : OpenClaim := { program := "ytndkiphlpddbaaa", sum := "57bfd60b33552d2837d58a860845bccee36e0f8685c19bb758c2701e171e06ab", func := "loop.example/pub-tokensbyclock/laws.FnNoWaste", spec := "fnNoWaste", apart := false, narrowed := true }
def FnNoWasteUptoSaid : Prop := fnNoWasteUptoRow.holds Try.pinned (OpenSpec.upto fnNoWasteSpec)

/-- 'laws.FnReserve', WHERE WHAT IT READS IS OF BULK AT MOST 1048576: true; the input reads as it did. -/
def fnReserveUptoRow : OpenClaim := { program := "ytndkiphlpddbaaa", sum := "57bfd60b33552d2837d58a860845bccee36e0f8685c19bb758c2701e171e06ab", func := "loop.example/pub-tokensbyclock/laws.FnReserve", spec := "fnReserve", apart := false, narrowed := true }
def FnReserveUptoSaid : Prop := fnReserveUptoRow.holds Try.pinned (OpenSpec.upto fnReserveSpec)

/-- 'laws.FnRow', WHERE WHAT IT READS IS OF BULK AT MOST 1048576: true; the input reads as it did. -/
def fnRowUptoRow : OpenClaim := { program := "ytndkiphlpddbaaa", sum := "57bfd60b33552d2837d58a860845bccee36e0f8685c19bb758c2701e171e06ab", func := "loop.example/pub-tokensbyclock/laws.FnRow", spec := "fnRow", apart := false, narrowed := true }
def FnRowUptoSaid : Prop := fnRowUptoRow.holds Try.pinned (OpenSpec.upto fnRowSpec)

/-- 'laws.FnScript', WHERE WHAT IT READS IS OF BULK AT MOST 1048576: true; the input reads as it did. -/
def fnScriptUptoRow : OpenClaim := { program := "ytndkiphlpddbaaa", sum := "57bfd60b33552d2837d58a860845bccee36e0f8685c19bb758c2701e171e06ab", func := "loop.example/pub-tokensbyclock/laws.FnScript", spec := "fnScript", apart := false, narrowed := true }
def FnScriptUptoSaid : Prop := fnScriptUptoRow.holds Try.pinned (OpenSpec.upto fnScriptSpec)

/-- 'laws.FnTooMany', WHERE WHAT IT READS IS OF BULK AT MOST 1048576: true; the input reads as it did. -/
def fnTooManyUptoRow : OpenClaim := { program := "ytndkiphlpddbaaa", sum := "57bfd60b33552d2837d58a860845bccee36e0f8685c19bb758c2701e171e06ab", func := "loop.example/pub-tokensbyclock/laws.FnTooMany", spec := "fnTooMany", apart := false, narrowed := true }
def FnTooManyUptoSaid : Prop := fnTooManyUptoRow.holds Try.pinned (OpenSpec.upto fnTooManySpec)

/-- 'laws.FnWindow', WHERE WHAT IT READS IS OF BULK AT MOST 1048576: true; the input reads as it did. -/
def fnWindowUptoRow : OpenClaim := { program := "ytndkiphlpddbaaa", sum := "57bfd60b33552d2837d58a860845bccee36e0f8685c19bb758c2701e171e06ab", func := "loop.example/pub-tokensbyclock/laws.FnWindow", spec := "fnWindow", apart := false, narrowed := true }
def FnWindowUptoSaid : Prop := fnWindowUptoRow.holds Try.pinned (OpenSpec.upto fnWindowSpec)

end Rows
end Go.Proofs.Ytndkiphlpddbaaa
