/-
  No cell of these rows narrows 'for every input' (looked for: loops, veiled, ifaces, maps, wideKeys, modest, calm, conditions, laid).
  DERIVED. THE GIVEN ROWS OF THIS SEAT. 5 by the template 'for every input the law returns true; each argument reads behind the call as it read before'; 0 by the template 'total and deterministic' (their statements: Qxb6601817aTotals.lean).
  GIVEN WITH THE SEED: the statements are not yours to turn. If you find one false, say at which input.
  Laid BY PROGRAM, IN A SANDBOX (cutbox-rows.mjs): the forced cells as the released guide's own fill.sh prints them over the translation 21df38533932f1ea… (all of the seat's roots in one cut). By AI agents, Wed Nov 11 2026. No macro, syntax, notation, axiom, sorry.
-/
import Derived.Test.Qxb6601817aChecked
import GoSem.Claim
import GoSem.ClaimJoined
import GoSem.ClaimMapViews
import Derived.JoinedTies
import Derived.KernelRfl
namespace Go.Proofs.Qxb6601817a
/- THE CELL 'sum', in the pinned program and in every row, IS THE sha256 OF THE DUMP (.gsa) THAT Qxb6601817aProg.lean LOADS. Nothing in Lean hashes anything: it is a label: what it is worth is what the hold of that sum in a sandbox is worth. -/
noncomputable def Try.pinned : Pinned := { name := "qxb6601817a", sum := "21df38533932f1ea6bd9b661db353da23475d1c7b017816d29c35870fb83b806", checked := Try.checked }
namespace Rows
def none {H : Type} : Left H := { results := [], args := [] }

/-- 'zzlaws_internal_sim_b1.FnJoinKeepsOursUnlessTheirsChangesTheVerdict': WHATEVER THE INPUT: true; the input reads as it did. -/
def fnJoinKeepsOursUnlessTheirsChangesTheVerdictSpec : ChangeSpec := { name := "fnJoinKeepsOursUnlessTheirsChangesTheVerdict", fn := fun _ => fun
  | [d1, d2] => { results := [.lit (.bool true)], args := [d1, d2] }
  | _ => none }
def fnJoinKeepsOursUnlessTheirsChangesTheVerdictRow : OpenClaim := { program := "qxb6601817a", sum := "21df38533932f1ea6bd9b661db353da23475d1c7b017816d29c35870fb83b806", func := "example.com/viewline/viewline/zzlaws_internal_sim_b1.FnJoinKeepsOursUnlessTheirsChangesTheVerdict", spec := "fnJoinKeepsOursUnlessTheirsChangesTheVerdict", apart := false }
def FnJoinKeepsOursUnlessTheirsChangesTheVerdictSaid : Prop := fnJoinKeepsOursUnlessTheirsChangesTheVerdictRow.holds Try.pinned (OpenSpec.ofChange fnJoinKeepsOursUnlessTheirsChangesTheVerdictSpec)

/-- ITS FALSE NEIGHBOUR: 'it returns false'. Refute it at one input. -/
def fnJoinKeepsOursUnlessTheirsChangesTheVerdictWrong : ChangeSpec := { name := "fnJoinKeepsOursUnlessTheirsChangesTheVerdict", fn := fun _ => fun
  | [d1, d2] => { results := [.lit (.bool false)], args := [d1, d2] }
  | _ => none }
def FnJoinKeepsOursUnlessTheirsChangesTheVerdictWrongFalsely : Prop := fnJoinKeepsOursUnlessTheirsChangesTheVerdictRow.holds Try.pinned (OpenSpec.ofChange fnJoinKeepsOursUnlessTheirsChangesTheVerdictWrong)

/-- 'zzlaws_internal_sim_b1.FnJoinFailsIffEitherFailed': WHATEVER THE INPUT: true; the input reads as it did. -/
def fnJoinFailsIffEitherFailedSpec : ChangeSpec := { name := "fnJoinFailsIffEitherFailed", fn := fun _ => fun
  | [d1, d2] => { results := [.lit (.bool true)], args := [d1, d2] }
  | _ => none }
def fnJoinFailsIffEitherFailedRow : OpenClaim := { program := "qxb6601817a", sum := "21df38533932f1ea6bd9b661db353da23475d1c7b017816d29c35870fb83b806", func := "example.com/viewline/viewline/zzlaws_internal_sim_b1.FnJoinFailsIffEitherFailed", spec := "fnJoinFailsIffEitherFailed", apart := false }
def FnJoinFailsIffEitherFailedSaid : Prop := fnJoinFailsIffEitherFailedRow.holds Try.pinned (OpenSpec.ofChange fnJoinFailsIffEitherFailedSpec)

/-- ITS FALSE NEIGHBOUR: 'it returns false'. Refute it at one input. -/
def fnJoinFailsIffEitherFailedWrong : ChangeSpec := { name := "fnJoinFailsIffEitherFailed", fn := fun _ => fun
  | [d1, d2] => { results := [.lit (.bool false)], args := [d1, d2] }
  | _ => none }
def FnJoinFailsIffEitherFailedWrongFalsely : Prop := fnJoinFailsIffEitherFailedRow.holds Try.pinned (OpenSpec.ofChange fnJoinFailsIffEitherFailedWrong)

/-- 'zzlaws_internal_sim_b1.FnJoinIdempotentSelfNeutralCommutative': WHATEVER THE INPUT: true; the input reads as it did. -/
def fnJoinIdempotentSelfNeutralCommutativeSpec : ChangeSpec := { name := "fnJoinIdempotentSelfNeutralCommutative", fn := fun _ => fun
  | [d1, d2] => { results := [.lit (.bool true)], args := [d1, d2] }
  | _ => none }
def fnJoinIdempotentSelfNeutralCommutativeRow : OpenClaim := { program := "qxb6601817a", sum := "21df38533932f1ea6bd9b661db353da23475d1c7b017816d29c35870fb83b806", func := "example.com/viewline/viewline/zzlaws_internal_sim_b1.FnJoinIdempotentSelfNeutralCommutative", spec := "fnJoinIdempotentSelfNeutralCommutative", apart := false }
def FnJoinIdempotentSelfNeutralCommutativeSaid : Prop := fnJoinIdempotentSelfNeutralCommutativeRow.holds Try.pinned (OpenSpec.ofChange fnJoinIdempotentSelfNeutralCommutativeSpec)

/-- ITS FALSE NEIGHBOUR: 'it returns false'. Refute it at one input. -/
def fnJoinIdempotentSelfNeutralCommutativeWrong : ChangeSpec := { name := "fnJoinIdempotentSelfNeutralCommutative", fn := fun _ => fun
  | [d1, d2] => { results := [.lit (.bool false)], args := [d1, d2] }
  | _ => none }
def FnJoinIdempotentSelfNeutralCommutativeWrongFalsely : Prop := fnJoinIdempotentSelfNeutralCommutativeRow.holds Try.pinned (OpenSpec.ofChange fnJoinIdempotentSelfNeutralCommutativeWrong)

/-- 'zzlaws_internal_sim_b1.FnIntnIsFirstAcceptedDrawModM': WHATEVER THE INPUT: true; the input reads as it did. -/
def fnIntnIsFirstAcceptedDrawModMSpec : ChangeSpec := { name := "fnIntnIsFirstAcceptedDrawModM", fn := fun _ => fun
  | [d1, d2] => { results := [.lit (.bool true)], args := [d1, d2] }
  | _ => none }
def fnIntnIsFirstAcceptedDrawModMRow : OpenClaim := { program := "qxb6601817a", sum := "21df38533932f1ea6bd9b661db353da23475d1c7b017816d29c35870fb83b806", func := "example.com/viewline/viewline/zzlaws_internal_sim_b1.FnIntnIsFirstAcceptedDrawModM", spec := "fnIntnIsFirstAcceptedDrawModM", apart := false }
def FnIntnIsFirstAcceptedDrawModMSaid : Prop := fnIntnIsFirstAcceptedDrawModMRow.holds Try.pinned (OpenSpec.ofChange fnIntnIsFirstAcceptedDrawModMSpec)

/-- ITS FALSE NEIGHBOUR: 'it returns false'. Refute it at one input. -/
def fnIntnIsFirstAcceptedDrawModMWrong : ChangeSpec := { name := "fnIntnIsFirstAcceptedDrawModM", fn := fun _ => fun
  | [d1, d2] => { results := [.lit (.bool false)], args := [d1, d2] }
  | _ => none }
def FnIntnIsFirstAcceptedDrawModMWrongFalsely : Prop := fnIntnIsFirstAcceptedDrawModMRow.holds Try.pinned (OpenSpec.ofChange fnIntnIsFirstAcceptedDrawModMWrong)

/-- 'zzlaws_internal_sim_b1.FnIntnPowerOfTwoIsOneDrawMasked': WHATEVER THE INPUT: true; the input reads as it did. -/
def fnIntnPowerOfTwoIsOneDrawMaskedSpec : ChangeSpec := { name := "fnIntnPowerOfTwoIsOneDrawMasked", fn := fun _ => fun
  | [d1, d2] => { results := [.lit (.bool true)], args := [d1, d2] }
  | _ => none }
def fnIntnPowerOfTwoIsOneDrawMaskedRow : OpenClaim := { program := "qxb6601817a", sum := "21df38533932f1ea6bd9b661db353da23475d1c7b017816d29c35870fb83b806", func := "example.com/viewline/viewline/zzlaws_internal_sim_b1.FnIntnPowerOfTwoIsOneDrawMasked", spec := "fnIntnPowerOfTwoIsOneDrawMasked", apart := false }
def FnIntnPowerOfTwoIsOneDrawMaskedSaid : Prop := fnIntnPowerOfTwoIsOneDrawMaskedRow.holds Try.pinned (OpenSpec.ofChange fnIntnPowerOfTwoIsOneDrawMaskedSpec)

/-- ITS FALSE NEIGHBOUR: 'it returns false'. Refute it at one input. -/
def fnIntnPowerOfTwoIsOneDrawMaskedWrong : ChangeSpec := { name := "fnIntnPowerOfTwoIsOneDrawMasked", fn := fun _ => fun
  | [d1, d2] => { results := [.lit (.bool false)], args := [d1, d2] }
  | _ => none }
def FnIntnPowerOfTwoIsOneDrawMaskedWrongFalsely : Prop := fnIntnPowerOfTwoIsOneDrawMaskedRow.holds Try.pinned (OpenSpec.ofChange fnIntnPowerOfTwoIsOneDrawMaskedWrong)

end Rows
end Go.Proofs.Qxb6601817a
