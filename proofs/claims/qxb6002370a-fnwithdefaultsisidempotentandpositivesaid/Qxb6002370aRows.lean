/-
  No cell of these rows narrows 'for every input' (looked for: loops, veiled, ifaces, maps, wideKeys, modest, calm, conditions, laid).
  DERIVED. THE GIVEN ROWS OF THIS SEAT. 6 by the template 'for every input the law returns true; each argument reads behind the call as it read before'; 0 by the template 'total and deterministic' (their statements: Qxb6002370aTotals.lean).
  GIVEN WITH THE SEED: the statements are not yours to turn. If you find one false, say at which input.
  Laid BY PROGRAM, IN A SANDBOX (cutbox-rows.mjs): the forced cells as the released guide's own fill.sh prints them over the translation 697e96777e3c6ae1… (all of the seat's roots in one cut). By AI agents, Wed Nov 11 2026. No macro, syntax, notation, axiom, sorry.
-/
import Derived.Test.Qxb6002370aChecked
import GoSem.Claim
import GoSem.ClaimJoined
import GoSem.ClaimMapViews
import Derived.JoinedTies
import Derived.KernelRfl
namespace Go.Proofs.Qxb6002370a
/- THE CELL 'sum', in the pinned program and in every row, IS THE sha256 OF THE DUMP (.gsa) THAT Qxb6002370aProg.lean LOADS. Nothing in Lean hashes anything: it is a label: what it is worth is what the hold of that sum in a sandbox is worth. -/
noncomputable def Try.pinned : Pinned := { name := "qxb6002370a", sum := "697e96777e3c6ae12ea608b5c3981ca8efaf790e4acfc9f5a746870d77b126db", checked := Try.checked }
namespace Rows
def none {H : Type} : Left H := { results := [], args := [] }

/-- 'zzlaws_root_f1.FnOrDefaultIsAssociative': WHATEVER THE INPUT: true; the input reads as it did. -/
def fnOrDefaultIsAssociativeSpec : ChangeSpec := { name := "fnOrDefaultIsAssociative", fn := fun _ => fun
  | [d1, d2, d3] => { results := [.lit (.bool true)], args := [d1, d2, d3] }
  | _ => none }
def fnOrDefaultIsAssociativeRow : OpenClaim := { program := "qxb6002370a", sum := "697e96777e3c6ae12ea608b5c3981ca8efaf790e4acfc9f5a746870d77b126db", func := "example.com/fieldsieve/fieldsieve/zzlaws_root_f1.FnOrDefaultIsAssociative", spec := "fnOrDefaultIsAssociative", apart := false }
def FnOrDefaultIsAssociativeSaid : Prop := fnOrDefaultIsAssociativeRow.holds Try.pinned (OpenSpec.ofChange fnOrDefaultIsAssociativeSpec)

/-- ITS FALSE NEIGHBOUR: 'it returns false'. Refute it at one input. -/
def fnOrDefaultIsAssociativeWrong : ChangeSpec := { name := "fnOrDefaultIsAssociative", fn := fun _ => fun
  | [d1, d2, d3] => { results := [.lit (.bool false)], args := [d1, d2, d3] }
  | _ => none }
def FnOrDefaultIsAssociativeWrongFalsely : Prop := fnOrDefaultIsAssociativeRow.holds Try.pinned (OpenSpec.ofChange fnOrDefaultIsAssociativeWrong)

/-- 'zzlaws_root_f1.FnWithDefaultsIsIdempotentAndPositive': WHATEVER THE INPUT: true; the input reads as it did. -/
def fnWithDefaultsIsIdempotentAndPositiveSpec : ChangeSpec := { name := "fnWithDefaultsIsIdempotentAndPositive", fn := fun _ => fun
  | [d1, d2, d3, d4] => { results := [.lit (.bool true)], args := [d1, d2, d3, d4] }
  | _ => none }
def fnWithDefaultsIsIdempotentAndPositiveRow : OpenClaim := { program := "qxb6002370a", sum := "697e96777e3c6ae12ea608b5c3981ca8efaf790e4acfc9f5a746870d77b126db", func := "example.com/fieldsieve/fieldsieve/zzlaws_root_f1.FnWithDefaultsIsIdempotentAndPositive", spec := "fnWithDefaultsIsIdempotentAndPositive", apart := false }
def FnWithDefaultsIsIdempotentAndPositiveSaid : Prop := fnWithDefaultsIsIdempotentAndPositiveRow.holds Try.pinned (OpenSpec.ofChange fnWithDefaultsIsIdempotentAndPositiveSpec)

/-- ITS FALSE NEIGHBOUR: 'it returns false'. Refute it at one input. -/
def fnWithDefaultsIsIdempotentAndPositiveWrong : ChangeSpec := { name := "fnWithDefaultsIsIdempotentAndPositive", fn := fun _ => fun
  | [d1, d2, d3, d4] => { results := [.lit (.bool false)], args := [d1, d2, d3, d4] }
  | _ => none }
def FnWithDefaultsIsIdempotentAndPositiveWrongFalsely : Prop := fnWithDefaultsIsIdempotentAndPositiveRow.holds Try.pinned (OpenSpec.ofChange fnWithDefaultsIsIdempotentAndPositiveWrong)

/-- 'zzlaws_root_f1.FnPartsWordsAgreesWithTheBitTableOfWordCharacters': WHATEVER THE INPUT: true; the input reads as it did. -/
def fnPartsWordsAgreesWithTheBitTableOfWordCharactersSpec : ChangeSpec := { name := "fnPartsWordsAgreesWithTheBitTableOfWordCharacters", fn := fun _ => fun
  | [d] => { results := [.lit (.bool true)], args := [d] }
  | _ => none }
def fnPartsWordsAgreesWithTheBitTableOfWordCharactersRow : OpenClaim := { program := "qxb6002370a", sum := "697e96777e3c6ae12ea608b5c3981ca8efaf790e4acfc9f5a746870d77b126db", func := "example.com/fieldsieve/fieldsieve/zzlaws_root_f1.FnPartsWordsAgreesWithTheBitTableOfWordCharacters", spec := "fnPartsWordsAgreesWithTheBitTableOfWordCharacters", apart := false }
def FnPartsWordsAgreesWithTheBitTableOfWordCharactersSaid : Prop := fnPartsWordsAgreesWithTheBitTableOfWordCharactersRow.holds Try.pinned (OpenSpec.ofChange fnPartsWordsAgreesWithTheBitTableOfWordCharactersSpec)

/-- ITS FALSE NEIGHBOUR: 'it returns false'. Refute it at one input. -/
def fnPartsWordsAgreesWithTheBitTableOfWordCharactersWrong : ChangeSpec := { name := "fnPartsWordsAgreesWithTheBitTableOfWordCharacters", fn := fun _ => fun
  | [d] => { results := [.lit (.bool false)], args := [d] }
  | _ => none }
def FnPartsWordsAgreesWithTheBitTableOfWordCharactersWrongFalsely : Prop := fnPartsWordsAgreesWithTheBitTableOfWordCharactersRow.holds Try.pinned (OpenSpec.ofChange fnPartsWordsAgreesWithTheBitTableOfWordCharactersWrong)

/-- 'zzlaws_root_f1.FnSkipDigitsOfJoinedTexts': WHATEVER THE INPUT: true; the input reads as it did. -/
def fnSkipDigitsOfJoinedTextsSpec : ChangeSpec := { name := "fnSkipDigitsOfJoinedTexts", fn := fun _ => fun
  | [d1, d2] => { results := [.lit (.bool true)], args := [d1, d2] }
  | _ => none }
def fnSkipDigitsOfJoinedTextsRow : OpenClaim := { program := "qxb6002370a", sum := "697e96777e3c6ae12ea608b5c3981ca8efaf790e4acfc9f5a746870d77b126db", func := "example.com/fieldsieve/fieldsieve/zzlaws_root_f1.FnSkipDigitsOfJoinedTexts", spec := "fnSkipDigitsOfJoinedTexts", apart := false }
def FnSkipDigitsOfJoinedTextsSaid : Prop := fnSkipDigitsOfJoinedTextsRow.holds Try.pinned (OpenSpec.ofChange fnSkipDigitsOfJoinedTextsSpec)

/-- ITS FALSE NEIGHBOUR: 'it returns false'. Refute it at one input. -/
def fnSkipDigitsOfJoinedTextsWrong : ChangeSpec := { name := "fnSkipDigitsOfJoinedTexts", fn := fun _ => fun
  | [d1, d2] => { results := [.lit (.bool false)], args := [d1, d2] }
  | _ => none }
def FnSkipDigitsOfJoinedTextsWrongFalsely : Prop := fnSkipDigitsOfJoinedTextsRow.holds Try.pinned (OpenSpec.ofChange fnSkipDigitsOfJoinedTextsWrong)

/-- 'zzlaws_root_f1.FnTwoDigitsReadsBackWhatWasWritten': WHATEVER THE INPUT: true; the input reads as it did. -/
def fnTwoDigitsReadsBackWhatWasWrittenSpec : ChangeSpec := { name := "fnTwoDigitsReadsBackWhatWasWritten", fn := fun _ => fun
  | [d1, d2, d3, d4] => { results := [.lit (.bool true)], args := [d1, d2, d3, d4] }
  | _ => none }
def fnTwoDigitsReadsBackWhatWasWrittenRow : OpenClaim := { program := "qxb6002370a", sum := "697e96777e3c6ae12ea608b5c3981ca8efaf790e4acfc9f5a746870d77b126db", func := "example.com/fieldsieve/fieldsieve/zzlaws_root_f1.FnTwoDigitsReadsBackWhatWasWritten", spec := "fnTwoDigitsReadsBackWhatWasWritten", apart := false }
def FnTwoDigitsReadsBackWhatWasWrittenSaid : Prop := fnTwoDigitsReadsBackWhatWasWrittenRow.holds Try.pinned (OpenSpec.ofChange fnTwoDigitsReadsBackWhatWasWrittenSpec)

/-- ITS FALSE NEIGHBOUR: 'it returns false'. Refute it at one input. -/
def fnTwoDigitsReadsBackWhatWasWrittenWrong : ChangeSpec := { name := "fnTwoDigitsReadsBackWhatWasWritten", fn := fun _ => fun
  | [d1, d2, d3, d4] => { results := [.lit (.bool false)], args := [d1, d2, d3, d4] }
  | _ => none }
def FnTwoDigitsReadsBackWhatWasWrittenWrongFalsely : Prop := fnTwoDigitsReadsBackWhatWasWrittenRow.holds Try.pinned (OpenSpec.ofChange fnTwoDigitsReadsBackWhatWasWrittenWrong)

/-- 'zzlaws_root_f1.FnIsIntegerTextUnderASignAndAJoin': WHATEVER THE INPUT: true; the input reads as it did. -/
def fnIsIntegerTextUnderASignAndAJoinSpec : ChangeSpec := { name := "fnIsIntegerTextUnderASignAndAJoin", fn := fun _ => fun
  | [d1, d2] => { results := [.lit (.bool true)], args := [d1, d2] }
  | _ => none }
def fnIsIntegerTextUnderASignAndAJoinRow : OpenClaim := { program := "qxb6002370a", sum := "697e96777e3c6ae12ea608b5c3981ca8efaf790e4acfc9f5a746870d77b126db", func := "example.com/fieldsieve/fieldsieve/zzlaws_root_f1.FnIsIntegerTextUnderASignAndAJoin", spec := "fnIsIntegerTextUnderASignAndAJoin", apart := false }
def FnIsIntegerTextUnderASignAndAJoinSaid : Prop := fnIsIntegerTextUnderASignAndAJoinRow.holds Try.pinned (OpenSpec.ofChange fnIsIntegerTextUnderASignAndAJoinSpec)

/-- ITS FALSE NEIGHBOUR: 'it returns false'. Refute it at one input. -/
def fnIsIntegerTextUnderASignAndAJoinWrong : ChangeSpec := { name := "fnIsIntegerTextUnderASignAndAJoin", fn := fun _ => fun
  | [d1, d2] => { results := [.lit (.bool false)], args := [d1, d2] }
  | _ => none }
def FnIsIntegerTextUnderASignAndAJoinWrongFalsely : Prop := fnIsIntegerTextUnderASignAndAJoinRow.holds Try.pinned (OpenSpec.ofChange fnIsIntegerTextUnderASignAndAJoinWrong)

end Rows
end Go.Proofs.Qxb6002370a
