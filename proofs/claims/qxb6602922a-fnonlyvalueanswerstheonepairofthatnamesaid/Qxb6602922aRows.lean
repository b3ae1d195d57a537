/-
  No cell of these rows narrows 'for every input' (looked for: loops, veiled, ifaces, maps, wideKeys, modest, calm, conditions, laid).
  DERIVED. THE GIVEN ROWS OF THIS SEAT. 7 by the template 'for every input the law returns true; each argument reads behind the call as it read before'; 0 by the template 'total and deterministic' (their statements: Qxb6602922aTotals.lean).
  GIVEN WITH THE SEED: the statements are not yours to turn. If you find one false, say at which input.
  Laid BY PROGRAM, IN A SANDBOX (cutbox-rows.mjs): the forced cells as the released guide's own fill.sh prints them over the translation 90a10f0ae701e113… (all of the seat's roots in one cut). By AI agents, Wed Nov 11 2026. No macro, syntax, notation, axiom, sorry.
-/
import Derived.Test.Qxb6602922aChecked
import GoSem.Claim
import GoSem.ClaimJoined
import GoSem.ClaimMapViews
import Derived.JoinedTies
import Derived.KernelRfl
namespace Go.Proofs.Qxb6602922a
/- THE CELL 'sum', in the pinned program and in every row, IS THE sha256 OF THE DUMP (.gsa) THAT Qxb6602922aProg.lean LOADS. Nothing in Lean hashes anything: it is a label: what it is worth is what the hold of that sum in a sandbox is worth. -/
noncomputable def Try.pinned : Pinned := { name := "qxb6602922a", sum := "90a10f0ae701e1134f9131e1329e79828982257a1314a919a0a02e1ff5103c18", checked := Try.checked }
namespace Rows
def none {H : Type} : Left H := { results := [], args := [] }

/-- 'zzlaws_root_b1.FnSameDomainMatchesCaseFoldModel': WHATEVER THE INPUT: true; the input reads as it did. -/
def fnSameDomainMatchesCaseFoldModelSpec : ChangeSpec := { name := "fnSameDomainMatchesCaseFoldModel", fn := fun _ => fun
  | [d1, d2] => { results := [.lit (.bool true)], args := [d1, d2] }
  | _ => none }
def fnSameDomainMatchesCaseFoldModelRow : OpenClaim := { program := "qxb6602922a", sum := "90a10f0ae701e1134f9131e1329e79828982257a1314a919a0a02e1ff5103c18", func := "example.com/diogenes/diogenes/zzlaws_root_b1.FnSameDomainMatchesCaseFoldModel", spec := "fnSameDomainMatchesCaseFoldModel", apart := false }
def FnSameDomainMatchesCaseFoldModelSaid : Prop := fnSameDomainMatchesCaseFoldModelRow.holds Try.pinned (OpenSpec.ofChange fnSameDomainMatchesCaseFoldModelSpec)

/-- ITS FALSE NEIGHBOUR: 'it returns false'. Refute it at one input. -/
def fnSameDomainMatchesCaseFoldModelWrong : ChangeSpec := { name := "fnSameDomainMatchesCaseFoldModel", fn := fun _ => fun
  | [d1, d2] => { results := [.lit (.bool false)], args := [d1, d2] }
  | _ => none }
def FnSameDomainMatchesCaseFoldModelWrongFalsely : Prop := fnSameDomainMatchesCaseFoldModelRow.holds Try.pinned (OpenSpec.ofChange fnSameDomainMatchesCaseFoldModelWrong)

/-- 'zzlaws_root_b1.FnSameDomainIsEquivalence': WHATEVER THE INPUT: true; the input reads as it did. -/
def fnSameDomainIsEquivalenceSpec : ChangeSpec := { name := "fnSameDomainIsEquivalence", fn := fun _ => fun
  | [d1, d2, d3] => { results := [.lit (.bool true)], args := [d1, d2, d3] }
  | _ => none }
def fnSameDomainIsEquivalenceRow : OpenClaim := { program := "qxb6602922a", sum := "90a10f0ae701e1134f9131e1329e79828982257a1314a919a0a02e1ff5103c18", func := "example.com/diogenes/diogenes/zzlaws_root_b1.FnSameDomainIsEquivalence", spec := "fnSameDomainIsEquivalence", apart := false }
def FnSameDomainIsEquivalenceSaid : Prop := fnSameDomainIsEquivalenceRow.holds Try.pinned (OpenSpec.ofChange fnSameDomainIsEquivalenceSpec)

/-- ITS FALSE NEIGHBOUR: 'it returns false'. Refute it at one input. -/
def fnSameDomainIsEquivalenceWrong : ChangeSpec := { name := "fnSameDomainIsEquivalence", fn := fun _ => fun
  | [d1, d2, d3] => { results := [.lit (.bool false)], args := [d1, d2, d3] }
  | _ => none }
def FnSameDomainIsEquivalenceWrongFalsely : Prop := fnSameDomainIsEquivalenceRow.holds Try.pinned (OpenSpec.ofChange fnSameDomainIsEquivalenceWrong)

/-- 'zzlaws_root_b1.FnSameDomainIgnoresASCIICase': WHATEVER THE INPUT: true; the input reads as it did. -/
def fnSameDomainIgnoresASCIICaseSpec : ChangeSpec := { name := "fnSameDomainIgnoresASCIICase", fn := fun _ => fun
  | [d] => { results := [.lit (.bool true)], args := [d] }
  | _ => none }
def fnSameDomainIgnoresASCIICaseRow : OpenClaim := { program := "qxb6602922a", sum := "90a10f0ae701e1134f9131e1329e79828982257a1314a919a0a02e1ff5103c18", func := "example.com/diogenes/diogenes/zzlaws_root_b1.FnSameDomainIgnoresASCIICase", spec := "fnSameDomainIgnoresASCIICase", apart := false }
def FnSameDomainIgnoresASCIICaseSaid : Prop := fnSameDomainIgnoresASCIICaseRow.holds Try.pinned (OpenSpec.ofChange fnSameDomainIgnoresASCIICaseSpec)

/-- ITS FALSE NEIGHBOUR: 'it returns false'. Refute it at one input. -/
def fnSameDomainIgnoresASCIICaseWrong : ChangeSpec := { name := "fnSameDomainIgnoresASCIICase", fn := fun _ => fun
  | [d] => { results := [.lit (.bool false)], args := [d] }
  | _ => none }
def FnSameDomainIgnoresASCIICaseWrongFalsely : Prop := fnSameDomainIgnoresASCIICaseRow.holds Try.pinned (OpenSpec.ofChange fnSameDomainIgnoresASCIICaseWrong)

/-- 'zzlaws_root_b1.FnBeaconKeyIDMatchesUnreservedAlphabet': WHATEVER THE INPUT: true; the input reads as it did. -/
def fnBeaconKeyIDMatchesUnreservedAlphabetSpec : ChangeSpec := { name := "fnBeaconKeyIDMatchesUnreservedAlphabet", fn := fun _ => fun
  | [d] => { results := [.lit (.bool true)], args := [d] }
  | _ => none }
def fnBeaconKeyIDMatchesUnreservedAlphabetRow : OpenClaim := { program := "qxb6602922a", sum := "90a10f0ae701e1134f9131e1329e79828982257a1314a919a0a02e1ff5103c18", func := "example.com/diogenes/diogenes/zzlaws_root_b1.FnBeaconKeyIDMatchesUnreservedAlphabet", spec := "fnBeaconKeyIDMatchesUnreservedAlphabet", inPlace := ["internal/bytealg.IndexByteString"], apart := false }
def FnBeaconKeyIDMatchesUnreservedAlphabetSaid : Prop := fnBeaconKeyIDMatchesUnreservedAlphabetRow.holds Try.pinned (OpenSpec.ofChange fnBeaconKeyIDMatchesUnreservedAlphabetSpec)

/-- ITS FALSE NEIGHBOUR: 'it returns false'. Refute it at one input. -/
def fnBeaconKeyIDMatchesUnreservedAlphabetWrong : ChangeSpec := { name := "fnBeaconKeyIDMatchesUnreservedAlphabet", fn := fun _ => fun
  | [d] => { results := [.lit (.bool false)], args := [d] }
  | _ => none }
def FnBeaconKeyIDMatchesUnreservedAlphabetWrongFalsely : Prop := fnBeaconKeyIDMatchesUnreservedAlphabetRow.holds Try.pinned (OpenSpec.ofChange fnBeaconKeyIDMatchesUnreservedAlphabetWrong)

/-- 'zzlaws_root_b1.FnBeaconKeyIDConcatenation': WHATEVER THE INPUT: true; the input reads as it did. -/
def fnBeaconKeyIDConcatenationSpec : ChangeSpec := { name := "fnBeaconKeyIDConcatenation", fn := fun _ => fun
  | [d1, d2] => { results := [.lit (.bool true)], args := [d1, d2] }
  | _ => none }
def fnBeaconKeyIDConcatenationRow : OpenClaim := { program := "qxb6602922a", sum := "90a10f0ae701e1134f9131e1329e79828982257a1314a919a0a02e1ff5103c18", func := "example.com/diogenes/diogenes/zzlaws_root_b1.FnBeaconKeyIDConcatenation", spec := "fnBeaconKeyIDConcatenation", inPlace := ["internal/bytealg.IndexByteString"], apart := false }
def FnBeaconKeyIDConcatenationSaid : Prop := fnBeaconKeyIDConcatenationRow.holds Try.pinned (OpenSpec.ofChange fnBeaconKeyIDConcatenationSpec)

/-- ITS FALSE NEIGHBOUR: 'it returns false'. Refute it at one input. -/
def fnBeaconKeyIDConcatenationWrong : ChangeSpec := { name := "fnBeaconKeyIDConcatenation", fn := fun _ => fun
  | [d1, d2] => { results := [.lit (.bool false)], args := [d1, d2] }
  | _ => none }
def FnBeaconKeyIDConcatenationWrongFalsely : Prop := fnBeaconKeyIDConcatenationRow.holds Try.pinned (OpenSpec.ofChange fnBeaconKeyIDConcatenationWrong)

/-- 'zzlaws_root_b1.FnOnlyValueAnswersTheOnePairOfThatName': WHATEVER THE INPUT: true; the input reads as it did. -/
def fnOnlyValueAnswersTheOnePairOfThatNameSpec : ChangeSpec := { name := "fnOnlyValueAnswersTheOnePairOfThatName", fn := fun _ => fun
  | [d1, d2] => { results := [.lit (.bool true)], args := [d1, d2] }
  | _ => none }
def fnOnlyValueAnswersTheOnePairOfThatNameRow : OpenClaim := { program := "qxb6602922a", sum := "90a10f0ae701e1134f9131e1329e79828982257a1314a919a0a02e1ff5103c18", func := "example.com/diogenes/diogenes/zzlaws_root_b1.FnOnlyValueAnswersTheOnePairOfThatName", spec := "fnOnlyValueAnswersTheOnePairOfThatName", apart := false }
def FnOnlyValueAnswersTheOnePairOfThatNameSaid : Prop := fnOnlyValueAnswersTheOnePairOfThatNameRow.holds Try.pinned (OpenSpec.ofChange fnOnlyValueAnswersTheOnePairOfThatNameSpec)

/-- ITS FALSE NEIGHBOUR: 'it returns false'. Refute it at one input. -/
def fnOnlyValueAnswersTheOnePairOfThatNameWrong : ChangeSpec := { name := "fnOnlyValueAnswersTheOnePairOfThatName", fn := fun _ => fun
  | [d1, d2] => { results := [.lit (.bool false)], args := [d1, d2] }
  | _ => none }
def FnOnlyValueAnswersTheOnePairOfThatNameWrongFalsely : Prop := fnOnlyValueAnswersTheOnePairOfThatNameRow.holds Try.pinned (OpenSpec.ofChange fnOnlyValueAnswersTheOnePairOfThatNameWrong)

/-- 'zzlaws_root_b1.FnOnlyValueSingleOrAbsentNameAnyOrder': WHATEVER THE INPUT: true; the input reads as it did. -/
def fnOnlyValueSingleOrAbsentNameAnyOrderSpec : ChangeSpec := { name := "fnOnlyValueSingleOrAbsentNameAnyOrder", fn := fun _ => fun
  | [d1, d2] => { results := [.lit (.bool true)], args := [d1, d2] }
  | _ => none }
def fnOnlyValueSingleOrAbsentNameAnyOrderRow : OpenClaim := { program := "qxb6602922a", sum := "90a10f0ae701e1134f9131e1329e79828982257a1314a919a0a02e1ff5103c18", func := "example.com/diogenes/diogenes/zzlaws_root_b1.FnOnlyValueSingleOrAbsentNameAnyOrder", spec := "fnOnlyValueSingleOrAbsentNameAnyOrder", apart := false }
def FnOnlyValueSingleOrAbsentNameAnyOrderSaid : Prop := fnOnlyValueSingleOrAbsentNameAnyOrderRow.holds Try.pinned (OpenSpec.ofChange fnOnlyValueSingleOrAbsentNameAnyOrderSpec)

/-- ITS FALSE NEIGHBOUR: 'it returns false'. Refute it at one input. -/
def fnOnlyValueSingleOrAbsentNameAnyOrderWrong : ChangeSpec := { name := "fnOnlyValueSingleOrAbsentNameAnyOrder", fn := fun _ => fun
  | [d1, d2] => { results := [.lit (.bool false)], args := [d1, d2] }
  | _ => none }
def FnOnlyValueSingleOrAbsentNameAnyOrderWrongFalsely : Prop := fnOnlyValueSingleOrAbsentNameAnyOrderRow.holds Try.pinned (OpenSpec.ofChange fnOnlyValueSingleOrAbsentNameAnyOrderWrong)

end Rows
end Go.Proofs.Qxb6602922a
