/-
  No cell of these rows narrows 'for every input' (looked for: loops, veiled, ifaces, maps, wideKeys, modest, calm, conditions, laid).
  DERIVED. THE GIVEN ROWS OF THIS SEAT. 8 by the template 'for every input the law returns true; each argument reads behind the call as it read before'; 0 by the template 'total and deterministic' (their statements: Qxb6600169aTotals.lean).
  GIVEN WITH THE SEED: the statements are not yours to turn. If you find one false, say at which input.
  Laid BY PROGRAM, IN A SANDBOX (cutbox-rows.mjs): the forced cells as the released guide's own fill.sh prints them over the translation b67bf76993ac4cd3… (all of the seat's roots in one cut). By AI agents, Wed Nov 11 2026. No macro, syntax, notation, axiom, sorry.
-/
import Derived.Test.Qxb6600169aChecked
import GoSem.Claim
import GoSem.ClaimJoined
import GoSem.ClaimMapViews
import Derived.JoinedTies
import Derived.KernelRfl
namespace Go.Proofs.Qxb6600169a
/- THE CELL 'sum', in the pinned program and in every row, IS THE sha256 OF THE DUMP (.gsa) THAT Qxb6600169aProg.lean LOADS. Nothing in Lean hashes anything: it is a label: what it is worth is what the hold of that sum in a sandbox is worth. -/
noncomputable def Try.pinned : Pinned := { name := "qxb6600169a", sum := "b67bf76993ac4cd3609b65cffdbe4d7ee2def78fc27031deaad5636c6eb858b8", checked := Try.checked }
namespace Rows
def none {H : Type} : Left H := { results := [], args := [] }

/-- 'zzlaws_pkg_jsonfield_b1.FnPlainNameAgreesWithAlphabet': WHATEVER THE INPUT: true; the input reads as it did. -/
def fnPlainNameAgreesWithAlphabetSpec : ChangeSpec := { name := "fnPlainNameAgreesWithAlphabet", fn := fun _ => fun
  | [d] => { results := [.lit (.bool true)], args := [d] }
  | _ => none }
def fnPlainNameAgreesWithAlphabetRow : OpenClaim := { program := "qxb6600169a", sum := "b67bf76993ac4cd3609b65cffdbe4d7ee2def78fc27031deaad5636c6eb858b8", func := "example.com/rungs/rungs/zzlaws_pkg_jsonfield_b1.FnPlainNameAgreesWithAlphabet", spec := "fnPlainNameAgreesWithAlphabet", apart := false }
def FnPlainNameAgreesWithAlphabetSaid : Prop := fnPlainNameAgreesWithAlphabetRow.holds Try.pinned (OpenSpec.ofChange fnPlainNameAgreesWithAlphabetSpec)

/-- ITS FALSE NEIGHBOUR: 'it returns false'. Refute it at one input. -/
def fnPlainNameAgreesWithAlphabetWrong : ChangeSpec := { name := "fnPlainNameAgreesWithAlphabet", fn := fun _ => fun
  | [d] => { results := [.lit (.bool false)], args := [d] }
  | _ => none }
def FnPlainNameAgreesWithAlphabetWrongFalsely : Prop := fnPlainNameAgreesWithAlphabetRow.holds Try.pinned (OpenSpec.ofChange fnPlainNameAgreesWithAlphabetWrong)

/-- 'zzlaws_pkg_jsonfield_b1.FnPlainNameConcat': WHATEVER THE INPUT: true; the input reads as it did. -/
def fnPlainNameConcatSpec : ChangeSpec := { name := "fnPlainNameConcat", fn := fun _ => fun
  | [d1, d2] => { results := [.lit (.bool true)], args := [d1, d2] }
  | _ => none }
def fnPlainNameConcatRow : OpenClaim := { program := "qxb6600169a", sum := "b67bf76993ac4cd3609b65cffdbe4d7ee2def78fc27031deaad5636c6eb858b8", func := "example.com/rungs/rungs/zzlaws_pkg_jsonfield_b1.FnPlainNameConcat", spec := "fnPlainNameConcat", apart := false }
def FnPlainNameConcatSaid : Prop := fnPlainNameConcatRow.holds Try.pinned (OpenSpec.ofChange fnPlainNameConcatSpec)

/-- ITS FALSE NEIGHBOUR: 'it returns false'. Refute it at one input. -/
def fnPlainNameConcatWrong : ChangeSpec := { name := "fnPlainNameConcat", fn := fun _ => fun
  | [d1, d2] => { results := [.lit (.bool false)], args := [d1, d2] }
  | _ => none }
def FnPlainNameConcatWrongFalsely : Prop := fnPlainNameConcatRow.holds Try.pinned (OpenSpec.ofChange fnPlainNameConcatWrong)

/-- 'zzlaws_pkg_jsonfield_b1.FnWsStopsAtFirstNonSpace': WHATEVER THE INPUT: true; the input reads as it did. -/
def fnWsStopsAtFirstNonSpaceSpec : ChangeSpec := { name := "fnWsStopsAtFirstNonSpace", fn := fun _ => fun
  | [d1, d2] => { results := [.lit (.bool true)], args := [d1, d2] }
  | _ => none }
def fnWsStopsAtFirstNonSpaceRow : OpenClaim := { program := "qxb6600169a", sum := "b67bf76993ac4cd3609b65cffdbe4d7ee2def78fc27031deaad5636c6eb858b8", func := "example.com/rungs/rungs/zzlaws_pkg_jsonfield_b1.FnWsStopsAtFirstNonSpace", spec := "fnWsStopsAtFirstNonSpace", apart := false }
def FnWsStopsAtFirstNonSpaceSaid : Prop := fnWsStopsAtFirstNonSpaceRow.holds Try.pinned (OpenSpec.ofChange fnWsStopsAtFirstNonSpaceSpec)

/-- ITS FALSE NEIGHBOUR: 'it returns false'. Refute it at one input. -/
def fnWsStopsAtFirstNonSpaceWrong : ChangeSpec := { name := "fnWsStopsAtFirstNonSpace", fn := fun _ => fun
  | [d1, d2] => { results := [.lit (.bool false)], args := [d1, d2] }
  | _ => none }
def FnWsStopsAtFirstNonSpaceWrongFalsely : Prop := fnWsStopsAtFirstNonSpaceRow.holds Try.pinned (OpenSpec.ofChange fnWsStopsAtFirstNonSpaceWrong)

/-- 'zzlaws_pkg_jsonfield_b1.FnWsIdempotent': WHATEVER THE INPUT: true; the input reads as it did. -/
def fnWsIdempotentSpec : ChangeSpec := { name := "fnWsIdempotent", fn := fun _ => fun
  | [d1, d2] => { results := [.lit (.bool true)], args := [d1, d2] }
  | _ => none }
def fnWsIdempotentRow : OpenClaim := { program := "qxb6600169a", sum := "b67bf76993ac4cd3609b65cffdbe4d7ee2def78fc27031deaad5636c6eb858b8", func := "example.com/rungs/rungs/zzlaws_pkg_jsonfield_b1.FnWsIdempotent", spec := "fnWsIdempotent", apart := false }
def FnWsIdempotentSaid : Prop := fnWsIdempotentRow.holds Try.pinned (OpenSpec.ofChange fnWsIdempotentSpec)

/-- ITS FALSE NEIGHBOUR: 'it returns false'. Refute it at one input. -/
def fnWsIdempotentWrong : ChangeSpec := { name := "fnWsIdempotent", fn := fun _ => fun
  | [d1, d2] => { results := [.lit (.bool false)], args := [d1, d2] }
  | _ => none }
def FnWsIdempotentWrongFalsely : Prop := fnWsIdempotentRow.holds Try.pinned (OpenSpec.ofChange fnWsIdempotentWrong)

/-- 'zzlaws_pkg_jsonfield_b1.FnWsMonotoneAndStableInsideRun': WHATEVER THE INPUT: true; the input reads as it did. -/
def fnWsMonotoneAndStableInsideRunSpec : ChangeSpec := { name := "fnWsMonotoneAndStableInsideRun", fn := fun _ => fun
  | [d1, d2, d3] => { results := [.lit (.bool true)], args := [d1, d2, d3] }
  | _ => none }
def fnWsMonotoneAndStableInsideRunRow : OpenClaim := { program := "qxb6600169a", sum := "b67bf76993ac4cd3609b65cffdbe4d7ee2def78fc27031deaad5636c6eb858b8", func := "example.com/rungs/rungs/zzlaws_pkg_jsonfield_b1.FnWsMonotoneAndStableInsideRun", spec := "fnWsMonotoneAndStableInsideRun", apart := false }
def FnWsMonotoneAndStableInsideRunSaid : Prop := fnWsMonotoneAndStableInsideRunRow.holds Try.pinned (OpenSpec.ofChange fnWsMonotoneAndStableInsideRunSpec)

/-- ITS FALSE NEIGHBOUR: 'it returns false'. Refute it at one input. -/
def fnWsMonotoneAndStableInsideRunWrong : ChangeSpec := { name := "fnWsMonotoneAndStableInsideRun", fn := fun _ => fun
  | [d1, d2, d3] => { results := [.lit (.bool false)], args := [d1, d2, d3] }
  | _ => none }
def FnWsMonotoneAndStableInsideRunWrongFalsely : Prop := fnWsMonotoneAndStableInsideRunRow.holds Try.pinned (OpenSpec.ofChange fnWsMonotoneAndStableInsideRunWrong)

/-- 'zzlaws_pkg_jsonfield_b1.FnNumberMatchesGrammarAutomaton': WHATEVER THE INPUT: true; the input reads as it did. -/
def fnNumberMatchesGrammarAutomatonSpec : ChangeSpec := { name := "fnNumberMatchesGrammarAutomaton", fn := fun _ => fun
  | [d1, d2] => { results := [.lit (.bool true)], args := [d1, d2] }
  | _ => none }
def fnNumberMatchesGrammarAutomatonRow : OpenClaim := { program := "qxb6600169a", sum := "b67bf76993ac4cd3609b65cffdbe4d7ee2def78fc27031deaad5636c6eb858b8", func := "example.com/rungs/rungs/zzlaws_pkg_jsonfield_b1.FnNumberMatchesGrammarAutomaton", spec := "fnNumberMatchesGrammarAutomaton", apart := false }
def FnNumberMatchesGrammarAutomatonSaid : Prop := fnNumberMatchesGrammarAutomatonRow.holds Try.pinned (OpenSpec.ofChange fnNumberMatchesGrammarAutomatonSpec)

/-- ITS FALSE NEIGHBOUR: 'it returns false'. Refute it at one input. -/
def fnNumberMatchesGrammarAutomatonWrong : ChangeSpec := { name := "fnNumberMatchesGrammarAutomaton", fn := fun _ => fun
  | [d1, d2] => { results := [.lit (.bool false)], args := [d1, d2] }
  | _ => none }
def FnNumberMatchesGrammarAutomatonWrongFalsely : Prop := fnNumberMatchesGrammarAutomatonRow.holds Try.pinned (OpenSpec.ofChange fnNumberMatchesGrammarAutomatonWrong)

/-- 'zzlaws_pkg_jsonfield_b1.FnNumberIgnoresTextBefore': WHATEVER THE INPUT: true; the input reads as it did. -/
def fnNumberIgnoresTextBeforeSpec : ChangeSpec := { name := "fnNumberIgnoresTextBefore", fn := fun _ => fun
  | [d1, d2, d3] => { results := [.lit (.bool true)], args := [d1, d2, d3] }
  | _ => none }
def fnNumberIgnoresTextBeforeRow : OpenClaim := { program := "qxb6600169a", sum := "b67bf76993ac4cd3609b65cffdbe4d7ee2def78fc27031deaad5636c6eb858b8", func := "example.com/rungs/rungs/zzlaws_pkg_jsonfield_b1.FnNumberIgnoresTextBefore", spec := "fnNumberIgnoresTextBefore", apart := false }
def FnNumberIgnoresTextBeforeSaid : Prop := fnNumberIgnoresTextBeforeRow.holds Try.pinned (OpenSpec.ofChange fnNumberIgnoresTextBeforeSpec)

/-- ITS FALSE NEIGHBOUR: 'it returns false'. Refute it at one input. -/
def fnNumberIgnoresTextBeforeWrong : ChangeSpec := { name := "fnNumberIgnoresTextBefore", fn := fun _ => fun
  | [d1, d2, d3] => { results := [.lit (.bool false)], args := [d1, d2, d3] }
  | _ => none }
def FnNumberIgnoresTextBeforeWrongFalsely : Prop := fnNumberIgnoresTextBeforeRow.holds Try.pinned (OpenSpec.ofChange fnNumberIgnoresTextBeforeWrong)

/-- 'zzlaws_pkg_jsonfield_b1.FnNumberReadsSameWhenCutAfterIt': WHATEVER THE INPUT: true; the input reads as it did. -/
def fnNumberReadsSameWhenCutAfterItSpec : ChangeSpec := { name := "fnNumberReadsSameWhenCutAfterIt", fn := fun _ => fun
  | [d1, d2] => { results := [.lit (.bool true)], args := [d1, d2] }
  | _ => none }
def fnNumberReadsSameWhenCutAfterItRow : OpenClaim := { program := "qxb6600169a", sum := "b67bf76993ac4cd3609b65cffdbe4d7ee2def78fc27031deaad5636c6eb858b8", func := "example.com/rungs/rungs/zzlaws_pkg_jsonfield_b1.FnNumberReadsSameWhenCutAfterIt", spec := "fnNumberReadsSameWhenCutAfterIt", apart := false }
def FnNumberReadsSameWhenCutAfterItSaid : Prop := fnNumberReadsSameWhenCutAfterItRow.holds Try.pinned (OpenSpec.ofChange fnNumberReadsSameWhenCutAfterItSpec)

/-- ITS FALSE NEIGHBOUR: 'it returns false'. Refute it at one input. -/
def fnNumberReadsSameWhenCutAfterItWrong : ChangeSpec := { name := "fnNumberReadsSameWhenCutAfterIt", fn := fun _ => fun
  | [d1, d2] => { results := [.lit (.bool false)], args := [d1, d2] }
  | _ => none }
def FnNumberReadsSameWhenCutAfterItWrongFalsely : Prop := fnNumberReadsSameWhenCutAfterItRow.holds Try.pinned (OpenSpec.ofChange fnNumberReadsSameWhenCutAfterItWrong)

end Rows
end Go.Proofs.Qxb6600169a
