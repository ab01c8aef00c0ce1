/-
  No cell of these rows narrows 'for every input' (looked for: loops, veiled, ifaces, maps, wideKeys, modest, calm, conditions, laid).
  DERIVED. THE GIVEN ROWS OF THIS SEAT. 8 by the template 'for every input the law returns true; each argument reads behind the call as it read before'; 0 by the template 'total and deterministic' (their statements: Qxb6603406aTotals.lean).
  GIVEN WITH THE SEED: the statements are not yours to turn. If you find one false, say at which input.
  Laid BY PROGRAM, IN A SANDBOX (cutbox-rows.mjs): the forced cells as the released guide's own fill.sh prints them over the translation 487faf37c8f69c76… (all of the seat's roots in one cut). By AI agents, Wed Nov 11 2026. No macro, syntax, notation, axiom, sorry.
-/
import Derived.Test.Qxb6603406aChecked
import GoSem.Claim
import GoSem.ClaimJoined
import GoSem.ClaimMapViews
import Derived.JoinedTies
import Derived.KernelRfl
namespace Go.Proofs.Qxb6603406a
/- THE CELL 'sum', in the pinned program and in every row, IS THE sha256 OF THE DUMP (.gsa) THAT Qxb6603406aProg.lean LOADS. Nothing in Lean hashes anything: it is a label: what it is worth is what the hold of that sum in a sandbox is worth. -/
noncomputable def Try.pinned : Pinned := { name := "qxb6603406a", sum := "487faf37c8f69c769481b5637b0ffc09aca351380857004adaaa5361db37c062", checked := Try.checked }
namespace Rows
def none {H : Type} : Left H := { results := [], args := [] }

/-- 'zzlaws_internal_scheme_b1.FnHoldsOneOfMeetsSpec': WHATEVER THE INPUT: true; the input reads as it did. -/
def fnHoldsOneOfMeetsSpecSpec : ChangeSpec := { name := "fnHoldsOneOfMeetsSpec", fn := fun _ => fun
  | [d1, d2] => { results := [.lit (.bool true)], args := [d1, d2] }
  | _ => none }
def fnHoldsOneOfMeetsSpecRow : OpenClaim := { program := "qxb6603406a", sum := "487faf37c8f69c769481b5637b0ffc09aca351380857004adaaa5361db37c062", func := "example.com/serigraph/serigraph/zzlaws_internal_scheme_b1.FnHoldsOneOfMeetsSpec", spec := "fnHoldsOneOfMeetsSpec", recurses := true, apart := false }
def FnHoldsOneOfMeetsSpecSaid : Prop := fnHoldsOneOfMeetsSpecRow.holds Try.pinned (OpenSpec.ofChange fnHoldsOneOfMeetsSpecSpec)

/-- ITS FALSE NEIGHBOUR: 'it returns false'. Refute it at one input. -/
def fnHoldsOneOfMeetsSpecWrong : ChangeSpec := { name := "fnHoldsOneOfMeetsSpec", fn := fun _ => fun
  | [d1, d2] => { results := [.lit (.bool false)], args := [d1, d2] }
  | _ => none }
def FnHoldsOneOfMeetsSpecWrongFalsely : Prop := fnHoldsOneOfMeetsSpecRow.holds Try.pinned (OpenSpec.ofChange fnHoldsOneOfMeetsSpecWrong)

/-- 'zzlaws_internal_scheme_b1.FnHoldsOneOfSymmetric': WHATEVER THE INPUT: true; the input reads as it did. -/
def fnHoldsOneOfSymmetricSpec : ChangeSpec := { name := "fnHoldsOneOfSymmetric", fn := fun _ => fun
  | [d1, d2] => { results := [.lit (.bool true)], args := [d1, d2] }
  | _ => none }
def fnHoldsOneOfSymmetricRow : OpenClaim := { program := "qxb6603406a", sum := "487faf37c8f69c769481b5637b0ffc09aca351380857004adaaa5361db37c062", func := "example.com/serigraph/serigraph/zzlaws_internal_scheme_b1.FnHoldsOneOfSymmetric", spec := "fnHoldsOneOfSymmetric", apart := false }
def FnHoldsOneOfSymmetricSaid : Prop := fnHoldsOneOfSymmetricRow.holds Try.pinned (OpenSpec.ofChange fnHoldsOneOfSymmetricSpec)

/-- ITS FALSE NEIGHBOUR: 'it returns false'. Refute it at one input. -/
def fnHoldsOneOfSymmetricWrong : ChangeSpec := { name := "fnHoldsOneOfSymmetric", fn := fun _ => fun
  | [d1, d2] => { results := [.lit (.bool false)], args := [d1, d2] }
  | _ => none }
def FnHoldsOneOfSymmetricWrongFalsely : Prop := fnHoldsOneOfSymmetricRow.holds Try.pinned (OpenSpec.ofChange fnHoldsOneOfSymmetricWrong)

/-- 'zzlaws_internal_scheme_b1.FnHoldsOneOfSelf': WHATEVER THE INPUT: true; the input reads as it did. -/
def fnHoldsOneOfSelfSpec : ChangeSpec := { name := "fnHoldsOneOfSelf", fn := fun _ => fun
  | [d] => { results := [.lit (.bool true)], args := [d] }
  | _ => none }
def fnHoldsOneOfSelfRow : OpenClaim := { program := "qxb6603406a", sum := "487faf37c8f69c769481b5637b0ffc09aca351380857004adaaa5361db37c062", func := "example.com/serigraph/serigraph/zzlaws_internal_scheme_b1.FnHoldsOneOfSelf", spec := "fnHoldsOneOfSelf", apart := false }
def FnHoldsOneOfSelfSaid : Prop := fnHoldsOneOfSelfRow.holds Try.pinned (OpenSpec.ofChange fnHoldsOneOfSelfSpec)

/-- ITS FALSE NEIGHBOUR: 'it returns false'. Refute it at one input. -/
def fnHoldsOneOfSelfWrong : ChangeSpec := { name := "fnHoldsOneOfSelf", fn := fun _ => fun
  | [d] => { results := [.lit (.bool false)], args := [d] }
  | _ => none }
def FnHoldsOneOfSelfWrongFalsely : Prop := fnHoldsOneOfSelfRow.holds Try.pinned (OpenSpec.ofChange fnHoldsOneOfSelfWrong)

/-- 'zzlaws_internal_scheme_b1.FnObjectSetAddAnswersFirstOccurrence': WHATEVER THE INPUT: true; the input reads as it did. -/
def fnObjectSetAddAnswersFirstOccurrenceSpec : ChangeSpec := { name := "fnObjectSetAddAnswersFirstOccurrence", fn := fun _ => fun
  | [d] => { results := [.lit (.bool true)], args := [d] }
  | _ => none }
def fnObjectSetAddAnswersFirstOccurrenceRow : OpenClaim := { program := "qxb6603406a", sum := "487faf37c8f69c769481b5637b0ffc09aca351380857004adaaa5361db37c062", func := "example.com/serigraph/serigraph/zzlaws_internal_scheme_b1.FnObjectSetAddAnswersFirstOccurrence", spec := "fnObjectSetAddAnswersFirstOccurrence", recurses := true, apart := false }
def FnObjectSetAddAnswersFirstOccurrenceSaid : Prop := fnObjectSetAddAnswersFirstOccurrenceRow.holds Try.pinned (OpenSpec.ofChange fnObjectSetAddAnswersFirstOccurrenceSpec)

/-- ITS FALSE NEIGHBOUR: 'it returns false'. Refute it at one input. -/
def fnObjectSetAddAnswersFirstOccurrenceWrong : ChangeSpec := { name := "fnObjectSetAddAnswersFirstOccurrence", fn := fun _ => fun
  | [d] => { results := [.lit (.bool false)], args := [d] }
  | _ => none }
def FnObjectSetAddAnswersFirstOccurrenceWrongFalsely : Prop := fnObjectSetAddAnswersFirstOccurrenceRow.holds Try.pinned (OpenSpec.ofChange fnObjectSetAddAnswersFirstOccurrenceWrong)

/-- 'zzlaws_internal_scheme_b1.FnObjectSetHoldsExactlyWhatWasAdded': WHATEVER THE INPUT: true; the input reads as it did. -/
def fnObjectSetHoldsExactlyWhatWasAddedSpec : ChangeSpec := { name := "fnObjectSetHoldsExactlyWhatWasAdded", fn := fun _ => fun
  | [d1, d2] => { results := [.lit (.bool true)], args := [d1, d2] }
  | _ => none }
def fnObjectSetHoldsExactlyWhatWasAddedRow : OpenClaim := { program := "qxb6603406a", sum := "487faf37c8f69c769481b5637b0ffc09aca351380857004adaaa5361db37c062", func := "example.com/serigraph/serigraph/zzlaws_internal_scheme_b1.FnObjectSetHoldsExactlyWhatWasAdded", spec := "fnObjectSetHoldsExactlyWhatWasAdded", recurses := true, apart := false }
def FnObjectSetHoldsExactlyWhatWasAddedSaid : Prop := fnObjectSetHoldsExactlyWhatWasAddedRow.holds Try.pinned (OpenSpec.ofChange fnObjectSetHoldsExactlyWhatWasAddedSpec)

/-- ITS FALSE NEIGHBOUR: 'it returns false'. Refute it at one input. -/
def fnObjectSetHoldsExactlyWhatWasAddedWrong : ChangeSpec := { name := "fnObjectSetHoldsExactlyWhatWasAdded", fn := fun _ => fun
  | [d1, d2] => { results := [.lit (.bool false)], args := [d1, d2] }
  | _ => none }
def FnObjectSetHoldsExactlyWhatWasAddedWrongFalsely : Prop := fnObjectSetHoldsExactlyWhatWasAddedRow.holds Try.pinned (OpenSpec.ofChange fnObjectSetHoldsExactlyWhatWasAddedWrong)

/-- 'zzlaws_internal_scheme_b1.FnConflictsMatchesReadWriteRule': WHATEVER THE INPUT: true; the input reads as it did. -/
def fnConflictsMatchesReadWriteRuleSpec : ChangeSpec := { name := "fnConflictsMatchesReadWriteRule", fn := fun _ => fun
  | [d1, d2, d3, d4, d5, d6] => { results := [.lit (.bool true)], args := [d1, d2, d3, d4, d5, d6] }
  | _ => none }
def fnConflictsMatchesReadWriteRuleRow : OpenClaim := { program := "qxb6603406a", sum := "487faf37c8f69c769481b5637b0ffc09aca351380857004adaaa5361db37c062", func := "example.com/serigraph/serigraph/zzlaws_internal_scheme_b1.FnConflictsMatchesReadWriteRule", spec := "fnConflictsMatchesReadWriteRule", unfollowed := true, recurses := true, apart := false }
def FnConflictsMatchesReadWriteRuleSaid : Prop := fnConflictsMatchesReadWriteRuleRow.holds Try.pinned (OpenSpec.ofChange fnConflictsMatchesReadWriteRuleSpec)

/-- ITS FALSE NEIGHBOUR: 'it returns false'. Refute it at one input. -/
def fnConflictsMatchesReadWriteRuleWrong : ChangeSpec := { name := "fnConflictsMatchesReadWriteRule", fn := fun _ => fun
  | [d1, d2, d3, d4, d5, d6] => { results := [.lit (.bool false)], args := [d1, d2, d3, d4, d5, d6] }
  | _ => none }
def FnConflictsMatchesReadWriteRuleWrongFalsely : Prop := fnConflictsMatchesReadWriteRuleRow.holds Try.pinned (OpenSpec.ofChange fnConflictsMatchesReadWriteRuleWrong)

/-- 'zzlaws_internal_scheme_b1.FnConflictsSymmetric': WHATEVER THE INPUT: true; the input reads as it did. -/
def fnConflictsSymmetricSpec : ChangeSpec := { name := "fnConflictsSymmetric", fn := fun _ => fun
  | [d1, d2, d3, d4, d5, d6] => { results := [.lit (.bool true)], args := [d1, d2, d3, d4, d5, d6] }
  | _ => none }
def fnConflictsSymmetricRow : OpenClaim := { program := "qxb6603406a", sum := "487faf37c8f69c769481b5637b0ffc09aca351380857004adaaa5361db37c062", func := "example.com/serigraph/serigraph/zzlaws_internal_scheme_b1.FnConflictsSymmetric", spec := "fnConflictsSymmetric", unfollowed := true, recurses := true, apart := false }
def FnConflictsSymmetricSaid : Prop := fnConflictsSymmetricRow.holds Try.pinned (OpenSpec.ofChange fnConflictsSymmetricSpec)

/-- ITS FALSE NEIGHBOUR: 'it returns false'. Refute it at one input. -/
def fnConflictsSymmetricWrong : ChangeSpec := { name := "fnConflictsSymmetric", fn := fun _ => fun
  | [d1, d2, d3, d4, d5, d6] => { results := [.lit (.bool false)], args := [d1, d2, d3, d4, d5, d6] }
  | _ => none }
def FnConflictsSymmetricWrongFalsely : Prop := fnConflictsSymmetricRow.holds Try.pinned (OpenSpec.ofChange fnConflictsSymmetricWrong)

/-- 'zzlaws_internal_scheme_b1.FnConflictsMonotoneInObjects': WHATEVER THE INPUT: true; the input reads as it did. -/
def fnConflictsMonotoneInObjectsSpec : ChangeSpec := { name := "fnConflictsMonotoneInObjects", fn := fun _ => fun
  | [d1, d2, d3, d4, d5, d6, d7, d8] => { results := [.lit (.bool true)], args := [d1, d2, d3, d4, d5, d6, d7, d8] }
  | _ => none }
def fnConflictsMonotoneInObjectsRow : OpenClaim := { program := "qxb6603406a", sum := "487faf37c8f69c769481b5637b0ffc09aca351380857004adaaa5361db37c062", func := "example.com/serigraph/serigraph/zzlaws_internal_scheme_b1.FnConflictsMonotoneInObjects", spec := "fnConflictsMonotoneInObjects", unfollowed := true, recurses := true, apart := false }
def FnConflictsMonotoneInObjectsSaid : Prop := fnConflictsMonotoneInObjectsRow.holds Try.pinned (OpenSpec.ofChange fnConflictsMonotoneInObjectsSpec)

/-- ITS FALSE NEIGHBOUR: 'it returns false'. Refute it at one input. -/
def fnConflictsMonotoneInObjectsWrong : ChangeSpec := { name := "fnConflictsMonotoneInObjects", fn := fun _ => fun
  | [d1, d2, d3, d4, d5, d6, d7, d8] => { results := [.lit (.bool false)], args := [d1, d2, d3, d4, d5, d6, d7, d8] }
  | _ => none }
def FnConflictsMonotoneInObjectsWrongFalsely : Prop := fnConflictsMonotoneInObjectsRow.holds Try.pinned (OpenSpec.ofChange fnConflictsMonotoneInObjectsWrong)

end Rows
end Go.Proofs.Qxb6603406a
