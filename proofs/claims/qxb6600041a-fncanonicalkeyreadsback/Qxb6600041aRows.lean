/-
  No cell of these rows narrows 'for every input' (looked for: loops, veiled, ifaces, maps, wideKeys, modest, calm, conditions, laid).
  DERIVED. THE GIVEN ROWS OF THIS SEAT. 6 by the template 'for every input the law returns true; each argument reads behind the call as it read before'; 0 by the template 'total and deterministic' (their statements: Qxb6600041aTotals.lean).
  GIVEN WITH THE SEED: the statements are not yours to turn. If you find one false, say at which input.
  Laid BY PROGRAM, IN A SANDBOX (cutbox-rows.mjs): the forced cells as the released guide's own fill.sh prints them over the translation 5db7108b14ddf17b… (all of the seat's roots in one cut). By AI agents, Wed Nov 11 2026. No macro, syntax, notation, axiom, sorry.
-/
import Derived.Test.Qxb6600041aChecked
import GoSem.Claim
import GoSem.ClaimJoined
import GoSem.ClaimMapViews
import Derived.JoinedTies
import Derived.KernelRfl
namespace Go.Proofs.Qxb6600041a
/- THE CELL 'sum', in the pinned program and in every row, IS THE sha256 OF THE DUMP (.gsa) THAT Qxb6600041aProg.lean LOADS. Nothing in Lean hashes anything: it is a label: what it is worth is what the hold of that sum in a sandbox is worth. -/
noncomputable def Try.pinned : Pinned := { name := "qxb6600041a", sum := "5db7108b14ddf17b985e0bc7cd2c93c2f37c05c1057b8a3068ce1b16eafe0bf5", checked := Try.checked }
namespace Rows
def none {H : Type} : Left H := { results := [], args := [] }

/-- 'zzlaws_userstring_b1.FnLongerThanIsCharacterCountAboveN': WHATEVER THE INPUT: true; the input reads as it did. -/
def fnLongerThanIsCharacterCountAboveNSpec : ChangeSpec := { name := "fnLongerThanIsCharacterCountAboveN", fn := fun _ => fun
  | [d1, d2] => { results := [.lit (.bool true)], args := [d1, d2] }
  | _ => none }
def fnLongerThanIsCharacterCountAboveNRow : OpenClaim := { program := "qxb6600041a", sum := "5db7108b14ddf17b985e0bc7cd2c93c2f37c05c1057b8a3068ce1b16eafe0bf5", func := "example.com/moorage/moorage/zzlaws_userstring_b1.FnLongerThanIsCharacterCountAboveN", spec := "fnLongerThanIsCharacterCountAboveN", apart := false }
def FnLongerThanIsCharacterCountAboveNSaid : Prop := fnLongerThanIsCharacterCountAboveNRow.holds Try.pinned (OpenSpec.ofChange fnLongerThanIsCharacterCountAboveNSpec)

/-- ITS FALSE NEIGHBOUR: 'it returns false'. Refute it at one input. -/
def fnLongerThanIsCharacterCountAboveNWrong : ChangeSpec := { name := "fnLongerThanIsCharacterCountAboveN", fn := fun _ => fun
  | [d1, d2] => { results := [.lit (.bool false)], args := [d1, d2] }
  | _ => none }
def FnLongerThanIsCharacterCountAboveNWrongFalsely : Prop := fnLongerThanIsCharacterCountAboveNRow.holds Try.pinned (OpenSpec.ofChange fnLongerThanIsCharacterCountAboveNWrong)

/-- 'zzlaws_userstring_b1.FnLongerThanMonotoneInBound': WHATEVER THE INPUT: true; the input reads as it did. -/
def fnLongerThanMonotoneInBoundSpec : ChangeSpec := { name := "fnLongerThanMonotoneInBound", fn := fun _ => fun
  | [d1, d2, d3] => { results := [.lit (.bool true)], args := [d1, d2, d3] }
  | _ => none }
def fnLongerThanMonotoneInBoundRow : OpenClaim := { program := "qxb6600041a", sum := "5db7108b14ddf17b985e0bc7cd2c93c2f37c05c1057b8a3068ce1b16eafe0bf5", func := "example.com/moorage/moorage/zzlaws_userstring_b1.FnLongerThanMonotoneInBound", spec := "fnLongerThanMonotoneInBound", apart := false }
def FnLongerThanMonotoneInBoundSaid : Prop := fnLongerThanMonotoneInBoundRow.holds Try.pinned (OpenSpec.ofChange fnLongerThanMonotoneInBoundSpec)

/-- ITS FALSE NEIGHBOUR: 'it returns false'. Refute it at one input. -/
def fnLongerThanMonotoneInBoundWrong : ChangeSpec := { name := "fnLongerThanMonotoneInBound", fn := fun _ => fun
  | [d1, d2, d3] => { results := [.lit (.bool false)], args := [d1, d2, d3] }
  | _ => none }
def FnLongerThanMonotoneInBoundWrongFalsely : Prop := fnLongerThanMonotoneInBoundRow.holds Try.pinned (OpenSpec.ofChange fnLongerThanMonotoneInBoundWrong)

/-- 'zzlaws_userstring_b1.FnLongerThanAsciiSuffixShiftsBound': WHATEVER THE INPUT: true; the input reads as it did. -/
def fnLongerThanAsciiSuffixShiftsBoundSpec : ChangeSpec := { name := "fnLongerThanAsciiSuffixShiftsBound", fn := fun _ => fun
  | [d1, d2, d3] => { results := [.lit (.bool true)], args := [d1, d2, d3] }
  | _ => none }
def fnLongerThanAsciiSuffixShiftsBoundRow : OpenClaim := { program := "qxb6600041a", sum := "5db7108b14ddf17b985e0bc7cd2c93c2f37c05c1057b8a3068ce1b16eafe0bf5", func := "example.com/moorage/moorage/zzlaws_userstring_b1.FnLongerThanAsciiSuffixShiftsBound", spec := "fnLongerThanAsciiSuffixShiftsBound", apart := false }
def FnLongerThanAsciiSuffixShiftsBoundSaid : Prop := fnLongerThanAsciiSuffixShiftsBoundRow.holds Try.pinned (OpenSpec.ofChange fnLongerThanAsciiSuffixShiftsBoundSpec)

/-- ITS FALSE NEIGHBOUR: 'it returns false'. Refute it at one input. -/
def fnLongerThanAsciiSuffixShiftsBoundWrong : ChangeSpec := { name := "fnLongerThanAsciiSuffixShiftsBound", fn := fun _ => fun
  | [d1, d2, d3] => { results := [.lit (.bool false)], args := [d1, d2, d3] }
  | _ => none }
def FnLongerThanAsciiSuffixShiftsBoundWrongFalsely : Prop := fnLongerThanAsciiSuffixShiftsBoundRow.holds Try.pinned (OpenSpec.ofChange fnLongerThanAsciiSuffixShiftsBoundWrong)

/-- 'zzlaws_userstring_b1.FnCanonicalKeyDependsOnlyOnWhatEntersIt': WHATEVER THE INPUT: true; the input reads as it did. -/
def fnCanonicalKeyDependsOnlyOnWhatEntersItSpec : ChangeSpec := { name := "fnCanonicalKeyDependsOnlyOnWhatEntersIt", fn := fun _ => fun
  | [d1, d2, d3, d4, d5, d6, d7, d8, d9, d10, d11] => { results := [.lit (.bool true)], args := [d1, d2, d3, d4, d5, d6, d7, d8, d9, d10, d11] }
  | _ => none }
def fnCanonicalKeyDependsOnlyOnWhatEntersItRow : OpenClaim := { program := "qxb6600041a", sum := "5db7108b14ddf17b985e0bc7cd2c93c2f37c05c1057b8a3068ce1b16eafe0bf5", func := "example.com/moorage/moorage/zzlaws_userstring_b1.FnCanonicalKeyDependsOnlyOnWhatEntersIt", spec := "fnCanonicalKeyDependsOnlyOnWhatEntersIt", inPlace := ["internal/abi.NoEscape"], apart := false }
def FnCanonicalKeyDependsOnlyOnWhatEntersItSaid : Prop := fnCanonicalKeyDependsOnlyOnWhatEntersItRow.holds Try.pinned (OpenSpec.ofChange fnCanonicalKeyDependsOnlyOnWhatEntersItSpec)

/-- ITS FALSE NEIGHBOUR: 'it returns false'. Refute it at one input. -/
def fnCanonicalKeyDependsOnlyOnWhatEntersItWrong : ChangeSpec := { name := "fnCanonicalKeyDependsOnlyOnWhatEntersIt", fn := fun _ => fun
  | [d1, d2, d3, d4, d5, d6, d7, d8, d9, d10, d11] => { results := [.lit (.bool false)], args := [d1, d2, d3, d4, d5, d6, d7, d8, d9, d10, d11] }
  | _ => none }
def FnCanonicalKeyDependsOnlyOnWhatEntersItWrongFalsely : Prop := fnCanonicalKeyDependsOnlyOnWhatEntersItRow.holds Try.pinned (OpenSpec.ofChange fnCanonicalKeyDependsOnlyOnWhatEntersItWrong)

/-- 'zzlaws_userstring_b1.FnCanonicalKeyTellsEveryOneFieldChange': WHATEVER THE INPUT: true; the input reads as it did. -/
def fnCanonicalKeyTellsEveryOneFieldChangeSpec : ChangeSpec := { name := "fnCanonicalKeyTellsEveryOneFieldChange", fn := fun _ => fun
  | [d1, d2, d3, d4, d5, d6, d7, d8, d9, d10, d11, d12] => { results := [.lit (.bool true)], args := [d1, d2, d3, d4, d5, d6, d7, d8, d9, d10, d11, d12] }
  | _ => none }
def fnCanonicalKeyTellsEveryOneFieldChangeRow : OpenClaim := { program := "qxb6600041a", sum := "5db7108b14ddf17b985e0bc7cd2c93c2f37c05c1057b8a3068ce1b16eafe0bf5", func := "example.com/moorage/moorage/zzlaws_userstring_b1.FnCanonicalKeyTellsEveryOneFieldChange", spec := "fnCanonicalKeyTellsEveryOneFieldChange", inPlace := ["internal/abi.NoEscape"], apart := false }
def FnCanonicalKeyTellsEveryOneFieldChangeSaid : Prop := fnCanonicalKeyTellsEveryOneFieldChangeRow.holds Try.pinned (OpenSpec.ofChange fnCanonicalKeyTellsEveryOneFieldChangeSpec)

/-- ITS FALSE NEIGHBOUR: 'it returns false'. Refute it at one input. -/
def fnCanonicalKeyTellsEveryOneFieldChangeWrong : ChangeSpec := { name := "fnCanonicalKeyTellsEveryOneFieldChange", fn := fun _ => fun
  | [d1, d2, d3, d4, d5, d6, d7, d8, d9, d10, d11, d12] => { results := [.lit (.bool false)], args := [d1, d2, d3, d4, d5, d6, d7, d8, d9, d10, d11, d12] }
  | _ => none }
def FnCanonicalKeyTellsEveryOneFieldChangeWrongFalsely : Prop := fnCanonicalKeyTellsEveryOneFieldChangeRow.holds Try.pinned (OpenSpec.ofChange fnCanonicalKeyTellsEveryOneFieldChangeWrong)

/-- 'zzlaws_userstring_b1.FnCanonicalKeyReadsBack': WHATEVER THE INPUT: true; the input reads as it did. -/
def fnCanonicalKeyReadsBackSpec : ChangeSpec := { name := "fnCanonicalKeyReadsBack", fn := fun _ => fun
  | [d1, d2, d3, d4, d5, d6, d7, d8, d9, d10, d11] => { results := [.lit (.bool true)], args := [d1, d2, d3, d4, d5, d6, d7, d8, d9, d10, d11] }
  | _ => none }
def fnCanonicalKeyReadsBackRow : OpenClaim := { program := "qxb6600041a", sum := "5db7108b14ddf17b985e0bc7cd2c93c2f37c05c1057b8a3068ce1b16eafe0bf5", func := "example.com/moorage/moorage/zzlaws_userstring_b1.FnCanonicalKeyReadsBack", spec := "fnCanonicalKeyReadsBack", inPlace := ["internal/abi.NoEscape"], apart := false }
def FnCanonicalKeyReadsBackSaid : Prop := fnCanonicalKeyReadsBackRow.holds Try.pinned (OpenSpec.ofChange fnCanonicalKeyReadsBackSpec)

/-- ITS FALSE NEIGHBOUR: 'it returns false'. Refute it at one input. -/
def fnCanonicalKeyReadsBackWrong : ChangeSpec := { name := "fnCanonicalKeyReadsBack", fn := fun _ => fun
  | [d1, d2, d3, d4, d5, d6, d7, d8, d9, d10, d11] => { results := [.lit (.bool false)], args := [d1, d2, d3, d4, d5, d6, d7, d8, d9, d10, d11] }
  | _ => none }
def FnCanonicalKeyReadsBackWrongFalsely : Prop := fnCanonicalKeyReadsBackRow.holds Try.pinned (OpenSpec.ofChange fnCanonicalKeyReadsBackWrong)

end Rows
end Go.Proofs.Qxb6600041a
