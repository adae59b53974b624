/-
  No cell of these rows narrows 'for every input' (looked for: loops, veiled, ifaces, maps, wideKeys, modest, calm, conditions, laid).
  DERIVED. THE GIVEN ROWS OF THIS SEAT. 5 by the template 'for every input the law returns true; each argument reads behind the call as it read before'; 0 by the template 'total and deterministic' (their statements: Qxb6003628aTotals.lean).
  GIVEN WITH THE SEED: the statements are not yours to turn. If you find one false, say at which input.
  Laid BY PROGRAM, IN A SANDBOX (cutbox-rows.mjs): the forced cells as the released guide's own fill.sh prints them over the translation 73d67009802ed830… (all of the seat's roots in one cut). By AI agents, Wed Nov 11 2026. No macro, syntax, notation, axiom, sorry.
-/
import Derived.Test.Qxb6003628aChecked
import GoSem.Claim
import GoSem.ClaimJoined
import GoSem.ClaimMapViews
import Derived.JoinedTies
import Derived.KernelRfl
namespace Go.Proofs.Qxb6003628a
/- THE CELL 'sum', in the pinned program and in every row, IS THE sha256 OF THE DUMP (.gsa) THAT Qxb6003628aProg.lean LOADS. Nothing in Lean hashes anything: it is a label: what it is worth is what the hold of that sum in a sandbox is worth. -/
noncomputable def Try.pinned : Pinned := { name := "qxb6003628a", sum := "73d67009802ed830dd79ceb5763d83cd673b86552d4dbde0ecd81cee5f9ac19f", checked := Try.checked }
namespace Rows
def none {H : Type} : Left H := { results := [], args := [] }

/-- 'zzlaws_jsonwalk_b1.FnNextLandsOnFirstNonSpace': WHATEVER THE INPUT: true; the input reads as it did. -/
def fnNextLandsOnFirstNonSpaceSpec : ChangeSpec := { name := "fnNextLandsOnFirstNonSpace", fn := fun _ => fun
  | [d1, d2, d3, d4] => { results := [.lit (.bool true)], args := [d1, d2, d3, d4] }
  | _ => none }
def fnNextLandsOnFirstNonSpaceRow : OpenClaim := { program := "qxb6003628a", sum := "73d67009802ed830dd79ceb5763d83cd673b86552d4dbde0ecd81cee5f9ac19f", func := "example.com/glot2/glot2/zzlaws_jsonwalk_b1.FnNextLandsOnFirstNonSpace", spec := "fnNextLandsOnFirstNonSpace", apart := false }
def FnNextLandsOnFirstNonSpaceSaid : Prop := fnNextLandsOnFirstNonSpaceRow.holds Try.pinned (OpenSpec.ofChange fnNextLandsOnFirstNonSpaceSpec)

/-- ITS FALSE NEIGHBOUR: 'it returns false'. Refute it at one input. -/
def fnNextLandsOnFirstNonSpaceWrong : ChangeSpec := { name := "fnNextLandsOnFirstNonSpace", fn := fun _ => fun
  | [d1, d2, d3, d4] => { results := [.lit (.bool false)], args := [d1, d2, d3, d4] }
  | _ => none }
def FnNextLandsOnFirstNonSpaceWrongFalsely : Prop := fnNextLandsOnFirstNonSpaceRow.holds Try.pinned (OpenSpec.ofChange fnNextLandsOnFirstNonSpaceWrong)

/-- 'zzlaws_jsonwalk_b1.FnValueReadsTheSameInAnyContext': WHATEVER THE INPUT: true; the input reads as it did. -/
def fnValueReadsTheSameInAnyContextSpec : ChangeSpec := { name := "fnValueReadsTheSameInAnyContext", fn := fun _ => fun
  | [d1, d2, d3, d4, d5] => { results := [.lit (.bool true)], args := [d1, d2, d3, d4, d5] }
  | _ => none }
def fnValueReadsTheSameInAnyContextRow : OpenClaim := { program := "qxb6003628a", sum := "73d67009802ed830dd79ceb5763d83cd673b86552d4dbde0ecd81cee5f9ac19f", func := "example.com/glot2/glot2/zzlaws_jsonwalk_b1.FnValueReadsTheSameInAnyContext", spec := "fnValueReadsTheSameInAnyContext", inPlace := ["internal/bytealg.IndexByte"], apart := false }
def FnValueReadsTheSameInAnyContextSaid : Prop := fnValueReadsTheSameInAnyContextRow.holds Try.pinned (OpenSpec.ofChange fnValueReadsTheSameInAnyContextSpec)

/-- ITS FALSE NEIGHBOUR: 'it returns false'. Refute it at one input. -/
def fnValueReadsTheSameInAnyContextWrong : ChangeSpec := { name := "fnValueReadsTheSameInAnyContext", fn := fun _ => fun
  | [d1, d2, d3, d4, d5] => { results := [.lit (.bool false)], args := [d1, d2, d3, d4, d5] }
  | _ => none }
def FnValueReadsTheSameInAnyContextWrongFalsely : Prop := fnValueReadsTheSameInAnyContextRow.holds Try.pinned (OpenSpec.ofChange fnValueReadsTheSameInAnyContextWrong)

/-- 'zzlaws_jsonwalk_b1.FnValueIsFixedByItsOwnBytes': WHATEVER THE INPUT: true; the input reads as it did. -/
def fnValueIsFixedByItsOwnBytesSpec : ChangeSpec := { name := "fnValueIsFixedByItsOwnBytes", fn := fun _ => fun
  | [d1, d2, d3] => { results := [.lit (.bool true)], args := [d1, d2, d3] }
  | _ => none }
def fnValueIsFixedByItsOwnBytesRow : OpenClaim := { program := "qxb6003628a", sum := "73d67009802ed830dd79ceb5763d83cd673b86552d4dbde0ecd81cee5f9ac19f", func := "example.com/glot2/glot2/zzlaws_jsonwalk_b1.FnValueIsFixedByItsOwnBytes", spec := "fnValueIsFixedByItsOwnBytes", inPlace := ["internal/bytealg.IndexByte"], apart := false }
def FnValueIsFixedByItsOwnBytesSaid : Prop := fnValueIsFixedByItsOwnBytesRow.holds Try.pinned (OpenSpec.ofChange fnValueIsFixedByItsOwnBytesSpec)

/-- ITS FALSE NEIGHBOUR: 'it returns false'. Refute it at one input. -/
def fnValueIsFixedByItsOwnBytesWrong : ChangeSpec := { name := "fnValueIsFixedByItsOwnBytes", fn := fun _ => fun
  | [d1, d2, d3] => { results := [.lit (.bool false)], args := [d1, d2, d3] }
  | _ => none }
def FnValueIsFixedByItsOwnBytesWrongFalsely : Prop := fnValueIsFixedByItsOwnBytesRow.holds Try.pinned (OpenSpec.ofChange fnValueIsFixedByItsOwnBytesWrong)

/-- 'zzlaws_jsonwalk_b1.FnStringEndMatchesEscapeScan': WHATEVER THE INPUT: true; the input reads as it did. -/
def fnStringEndMatchesEscapeScanSpec : ChangeSpec := { name := "fnStringEndMatchesEscapeScan", fn := fun _ => fun
  | [d1, d2] => { results := [.lit (.bool true)], args := [d1, d2] }
  | _ => none }
def fnStringEndMatchesEscapeScanRow : OpenClaim := { program := "qxb6003628a", sum := "73d67009802ed830dd79ceb5763d83cd673b86552d4dbde0ecd81cee5f9ac19f", func := "example.com/glot2/glot2/zzlaws_jsonwalk_b1.FnStringEndMatchesEscapeScan", spec := "fnStringEndMatchesEscapeScan", inPlace := ["internal/bytealg.IndexByte"], apart := false }
def FnStringEndMatchesEscapeScanSaid : Prop := fnStringEndMatchesEscapeScanRow.holds Try.pinned (OpenSpec.ofChange fnStringEndMatchesEscapeScanSpec)

/-- ITS FALSE NEIGHBOUR: 'it returns false'. Refute it at one input. -/
def fnStringEndMatchesEscapeScanWrong : ChangeSpec := { name := "fnStringEndMatchesEscapeScan", fn := fun _ => fun
  | [d1, d2] => { results := [.lit (.bool false)], args := [d1, d2] }
  | _ => none }
def FnStringEndMatchesEscapeScanWrongFalsely : Prop := fnStringEndMatchesEscapeScanRow.holds Try.pinned (OpenSpec.ofChange fnStringEndMatchesEscapeScanWrong)

/-- 'zzlaws_jsonwalk_b1.FnStringEndCutAnywhere': WHATEVER THE INPUT: true; the input reads as it did. -/
def fnStringEndCutAnywhereSpec : ChangeSpec := { name := "fnStringEndCutAnywhere", fn := fun _ => fun
  | [d1, d2, d3, d4] => { results := [.lit (.bool true)], args := [d1, d2, d3, d4] }
  | _ => none }
def fnStringEndCutAnywhereRow : OpenClaim := { program := "qxb6003628a", sum := "73d67009802ed830dd79ceb5763d83cd673b86552d4dbde0ecd81cee5f9ac19f", func := "example.com/glot2/glot2/zzlaws_jsonwalk_b1.FnStringEndCutAnywhere", spec := "fnStringEndCutAnywhere", inPlace := ["internal/bytealg.IndexByte"], apart := false }
def FnStringEndCutAnywhereSaid : Prop := fnStringEndCutAnywhereRow.holds Try.pinned (OpenSpec.ofChange fnStringEndCutAnywhereSpec)

/-- ITS FALSE NEIGHBOUR: 'it returns false'. Refute it at one input. -/
def fnStringEndCutAnywhereWrong : ChangeSpec := { name := "fnStringEndCutAnywhere", fn := fun _ => fun
  | [d1, d2, d3, d4] => { results := [.lit (.bool false)], args := [d1, d2, d3, d4] }
  | _ => none }
def FnStringEndCutAnywhereWrongFalsely : Prop := fnStringEndCutAnywhereRow.holds Try.pinned (OpenSpec.ofChange fnStringEndCutAnywhereWrong)

end Rows
end Go.Proofs.Qxb6003628a
