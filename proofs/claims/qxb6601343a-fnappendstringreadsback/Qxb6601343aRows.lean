/-
  No cell of these rows narrows 'for every input' (looked for: loops, veiled, ifaces, maps, wideKeys, modest, calm, conditions, laid).
  DERIVED. THE GIVEN ROWS OF THIS SEAT. 5 by the template 'for every input the law returns true; each argument reads behind the call as it read before'; 0 by the template 'total and deterministic' (their statements: Qxb6601343aTotals.lean).
  GIVEN WITH THE SEED: the statements are not yours to turn. If you find one false, say at which input.
  Laid BY PROGRAM, IN A SANDBOX (cutbox-rows.mjs): the forced cells as the released guide's own fill.sh prints them over the translation 24c51d629c0fbbf3… (all of the seat's roots in one cut). By AI agents, Wed Nov 11 2026. No macro, syntax, notation, axiom, sorry.
-/
import Derived.Test.Qxb6601343aChecked
import GoSem.Claim
import GoSem.ClaimJoined
import GoSem.ClaimMapViews
import Derived.JoinedTies
import Derived.KernelRfl
namespace Go.Proofs.Qxb6601343a
/- THE CELL 'sum', in the pinned program and in every row, IS THE sha256 OF THE DUMP (.gsa) THAT Qxb6601343aProg.lean LOADS. Nothing in Lean hashes anything: it is a label: what it is worth is what the hold of that sum in a sandbox is worth. -/
noncomputable def Try.pinned : Pinned := { name := "qxb6601343a", sum := "24c51d629c0fbbf3964d00887f154acd960cdc75fbeaf6981b8aea0cd15c43b5", checked := Try.checked }
namespace Rows
def none {H : Type} : Left H := { results := [], args := [] }

/-- 'zzlaws_internal_jsonvalue_b1.FnValidNumberMatchesAutomaton': WHATEVER THE INPUT: true; the input reads as it did. -/
def fnValidNumberMatchesAutomatonSpec : ChangeSpec := { name := "fnValidNumberMatchesAutomaton", fn := fun _ => fun
  | [d] => { results := [.lit (.bool true)], args := [d] }
  | _ => none }
def fnValidNumberMatchesAutomatonRow : OpenClaim := { program := "qxb6601343a", sum := "24c51d629c0fbbf3964d00887f154acd960cdc75fbeaf6981b8aea0cd15c43b5", func := "example.com/quern/quern/zzlaws_internal_jsonvalue_b1.FnValidNumberMatchesAutomaton", spec := "fnValidNumberMatchesAutomaton", unfollowed := true, recurses := true, apart := false }
def FnValidNumberMatchesAutomatonSaid : Prop := fnValidNumberMatchesAutomatonRow.holds Try.pinned (OpenSpec.ofChange fnValidNumberMatchesAutomatonSpec)

/-- ITS FALSE NEIGHBOUR: 'it returns false'. Refute it at one input. -/
def fnValidNumberMatchesAutomatonWrong : ChangeSpec := { name := "fnValidNumberMatchesAutomaton", fn := fun _ => fun
  | [d] => { results := [.lit (.bool false)], args := [d] }
  | _ => none }
def FnValidNumberMatchesAutomatonWrongFalsely : Prop := fnValidNumberMatchesAutomatonRow.holds Try.pinned (OpenSpec.ofChange fnValidNumberMatchesAutomatonWrong)

/-- 'zzlaws_internal_jsonvalue_b1.FnValidNumberSignPrefix': WHATEVER THE INPUT: true; the input reads as it did. -/
def fnValidNumberSignPrefixSpec : ChangeSpec := { name := "fnValidNumberSignPrefix", fn := fun _ => fun
  | [d] => { results := [.lit (.bool true)], args := [d] }
  | _ => none }
def fnValidNumberSignPrefixRow : OpenClaim := { program := "qxb6601343a", sum := "24c51d629c0fbbf3964d00887f154acd960cdc75fbeaf6981b8aea0cd15c43b5", func := "example.com/quern/quern/zzlaws_internal_jsonvalue_b1.FnValidNumberSignPrefix", spec := "fnValidNumberSignPrefix", unfollowed := true, recurses := true, apart := false }
def FnValidNumberSignPrefixSaid : Prop := fnValidNumberSignPrefixRow.holds Try.pinned (OpenSpec.ofChange fnValidNumberSignPrefixSpec)

/-- ITS FALSE NEIGHBOUR: 'it returns false'. Refute it at one input. -/
def fnValidNumberSignPrefixWrong : ChangeSpec := { name := "fnValidNumberSignPrefix", fn := fun _ => fun
  | [d] => { results := [.lit (.bool false)], args := [d] }
  | _ => none }
def FnValidNumberSignPrefixWrongFalsely : Prop := fnValidNumberSignPrefixRow.holds Try.pinned (OpenSpec.ofChange fnValidNumberSignPrefixWrong)

/-- 'zzlaws_internal_jsonvalue_b1.FnValidNumberRenamingInvariant': WHATEVER THE INPUT: true; the input reads as it did. -/
def fnValidNumberRenamingInvariantSpec : ChangeSpec := { name := "fnValidNumberRenamingInvariant", fn := fun _ => fun
  | [d] => { results := [.lit (.bool true)], args := [d] }
  | _ => none }
def fnValidNumberRenamingInvariantRow : OpenClaim := { program := "qxb6601343a", sum := "24c51d629c0fbbf3964d00887f154acd960cdc75fbeaf6981b8aea0cd15c43b5", func := "example.com/quern/quern/zzlaws_internal_jsonvalue_b1.FnValidNumberRenamingInvariant", spec := "fnValidNumberRenamingInvariant", unfollowed := true, recurses := true, apart := false }
def FnValidNumberRenamingInvariantSaid : Prop := fnValidNumberRenamingInvariantRow.holds Try.pinned (OpenSpec.ofChange fnValidNumberRenamingInvariantSpec)

/-- ITS FALSE NEIGHBOUR: 'it returns false'. Refute it at one input. -/
def fnValidNumberRenamingInvariantWrong : ChangeSpec := { name := "fnValidNumberRenamingInvariant", fn := fun _ => fun
  | [d] => { results := [.lit (.bool false)], args := [d] }
  | _ => none }
def FnValidNumberRenamingInvariantWrongFalsely : Prop := fnValidNumberRenamingInvariantRow.holds Try.pinned (OpenSpec.ofChange fnValidNumberRenamingInvariantWrong)

/-- 'zzlaws_internal_jsonvalue_b1.FnAppendStringReadsBack': WHATEVER THE INPUT: true; the input reads as it did. -/
def fnAppendStringReadsBackSpec : ChangeSpec := { name := "fnAppendStringReadsBack", fn := fun _ => fun
  | [d1, d2] => { results := [.lit (.bool true)], args := [d1, d2] }
  | _ => none }
def fnAppendStringReadsBackRow : OpenClaim := { program := "qxb6601343a", sum := "24c51d629c0fbbf3964d00887f154acd960cdc75fbeaf6981b8aea0cd15c43b5", func := "example.com/quern/quern/zzlaws_internal_jsonvalue_b1.FnAppendStringReadsBack", spec := "fnAppendStringReadsBack", apart := false }
def FnAppendStringReadsBackSaid : Prop := fnAppendStringReadsBackRow.holds Try.pinned (OpenSpec.ofChange fnAppendStringReadsBackSpec)

/-- ITS FALSE NEIGHBOUR: 'it returns false'. Refute it at one input. -/
def fnAppendStringReadsBackWrong : ChangeSpec := { name := "fnAppendStringReadsBack", fn := fun _ => fun
  | [d1, d2] => { results := [.lit (.bool false)], args := [d1, d2] }
  | _ => none }
def FnAppendStringReadsBackWrongFalsely : Prop := fnAppendStringReadsBackRow.holds Try.pinned (OpenSpec.ofChange fnAppendStringReadsBackWrong)

/-- 'zzlaws_internal_jsonvalue_b1.FnAppendStringConcat': WHATEVER THE INPUT: true; the input reads as it did. -/
def fnAppendStringConcatSpec : ChangeSpec := { name := "fnAppendStringConcat", fn := fun _ => fun
  | [d1, d2] => { results := [.lit (.bool true)], args := [d1, d2] }
  | _ => none }
def fnAppendStringConcatRow : OpenClaim := { program := "qxb6601343a", sum := "24c51d629c0fbbf3964d00887f154acd960cdc75fbeaf6981b8aea0cd15c43b5", func := "example.com/quern/quern/zzlaws_internal_jsonvalue_b1.FnAppendStringConcat", spec := "fnAppendStringConcat", apart := false }
def FnAppendStringConcatSaid : Prop := fnAppendStringConcatRow.holds Try.pinned (OpenSpec.ofChange fnAppendStringConcatSpec)

/-- ITS FALSE NEIGHBOUR: 'it returns false'. Refute it at one input. -/
def fnAppendStringConcatWrong : ChangeSpec := { name := "fnAppendStringConcat", fn := fun _ => fun
  | [d1, d2] => { results := [.lit (.bool false)], args := [d1, d2] }
  | _ => none }
def FnAppendStringConcatWrongFalsely : Prop := fnAppendStringConcatRow.holds Try.pinned (OpenSpec.ofChange fnAppendStringConcatWrong)

end Rows
end Go.Proofs.Qxb6601343a
