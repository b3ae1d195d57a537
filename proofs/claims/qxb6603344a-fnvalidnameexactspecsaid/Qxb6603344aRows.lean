/-
  No cell of these rows narrows 'for every input' (looked for: loops, veiled, ifaces, maps, wideKeys, modest, calm, conditions, laid).
  DERIVED. THE GIVEN ROWS OF THIS SEAT. 5 by the template 'for every input the law returns true; each argument reads behind the call as it read before'; 0 by the template 'total and deterministic' (their statements: Qxb6603344aTotals.lean).
  GIVEN WITH THE SEED: the statements are not yours to turn. If you find one false, say at which input.
  Laid BY PROGRAM, IN A SANDBOX (cutbox-rows.mjs): the forced cells as the released guide's own fill.sh prints them over the translation ad5550155dd543e4… (all of the seat's roots in one cut). By AI agents, Wed Nov 11 2026. No macro, syntax, notation, axiom, sorry.
-/
import Derived.Test.Qxb6603344aChecked
import GoSem.Claim
import GoSem.ClaimJoined
import GoSem.ClaimMapViews
import Derived.JoinedTies
import Derived.KernelRfl
namespace Go.Proofs.Qxb6603344a
/- THE CELL 'sum', in the pinned program and in every row, IS THE sha256 OF THE DUMP (.gsa) THAT Qxb6603344aProg.lean LOADS. Nothing in Lean hashes anything: it is a label: what it is worth is what the hold of that sum in a sandbox is worth. -/
noncomputable def Try.pinned : Pinned := { name := "qxb6603344a", sum := "ad5550155dd543e4e8a3a3ff2eed6354ab1b177b874778e739c4fa74e246ffd6", checked := Try.checked }
namespace Rows
def none {H : Type} : Left H := { results := [], args := [] }

/-- 'zzlaws_internal_txlog_b1.FnValidNameExactSpec': WHATEVER THE INPUT: true; the input reads as it did. -/
def fnValidNameExactSpecSpec : ChangeSpec := { name := "fnValidNameExactSpec", fn := fun _ => fun
  | [d] => { results := [.lit (.bool true)], args := [d] }
  | _ => none }
def fnValidNameExactSpecRow : OpenClaim := { program := "qxb6603344a", sum := "ad5550155dd543e4e8a3a3ff2eed6354ab1b177b874778e739c4fa74e246ffd6", func := "example.com/pactum/pactum/zzlaws_internal_txlog_b1.FnValidNameExactSpec", spec := "fnValidNameExactSpec", apart := false }
def FnValidNameExactSpecSaid : Prop := fnValidNameExactSpecRow.holds Try.pinned (OpenSpec.ofChange fnValidNameExactSpecSpec)

/-- ITS FALSE NEIGHBOUR: 'it returns false'. Refute it at one input. -/
def fnValidNameExactSpecWrong : ChangeSpec := { name := "fnValidNameExactSpec", fn := fun _ => fun
  | [d] => { results := [.lit (.bool false)], args := [d] }
  | _ => none }
def FnValidNameExactSpecWrongFalsely : Prop := fnValidNameExactSpecRow.holds Try.pinned (OpenSpec.ofChange fnValidNameExactSpecWrong)

/-- 'zzlaws_internal_txlog_b1.FnValidNameConcat': WHATEVER THE INPUT: true; the input reads as it did. -/
def fnValidNameConcatSpec : ChangeSpec := { name := "fnValidNameConcat", fn := fun _ => fun
  | [d1, d2] => { results := [.lit (.bool true)], args := [d1, d2] }
  | _ => none }
def fnValidNameConcatRow : OpenClaim := { program := "qxb6603344a", sum := "ad5550155dd543e4e8a3a3ff2eed6354ab1b177b874778e739c4fa74e246ffd6", func := "example.com/pactum/pactum/zzlaws_internal_txlog_b1.FnValidNameConcat", spec := "fnValidNameConcat", apart := false }
def FnValidNameConcatSaid : Prop := fnValidNameConcatRow.holds Try.pinned (OpenSpec.ofChange fnValidNameConcatSpec)

/-- ITS FALSE NEIGHBOUR: 'it returns false'. Refute it at one input. -/
def fnValidNameConcatWrong : ChangeSpec := { name := "fnValidNameConcat", fn := fun _ => fun
  | [d1, d2] => { results := [.lit (.bool false)], args := [d1, d2] }
  | _ => none }
def FnValidNameConcatWrongFalsely : Prop := fnValidNameConcatRow.holds Try.pinned (OpenSpec.ofChange fnValidNameConcatWrong)

/-- 'zzlaws_internal_txlog_b1.FnValidNameImpliesValidAddress': WHATEVER THE INPUT: true; the input reads as it did. -/
def fnValidNameImpliesValidAddressSpec : ChangeSpec := { name := "fnValidNameImpliesValidAddress", fn := fun _ => fun
  | [d] => { results := [.lit (.bool true)], args := [d] }
  | _ => none }
def fnValidNameImpliesValidAddressRow : OpenClaim := { program := "qxb6603344a", sum := "ad5550155dd543e4e8a3a3ff2eed6354ab1b177b874778e739c4fa74e246ffd6", func := "example.com/pactum/pactum/zzlaws_internal_txlog_b1.FnValidNameImpliesValidAddress", spec := "fnValidNameImpliesValidAddress", apart := false }
def FnValidNameImpliesValidAddressSaid : Prop := fnValidNameImpliesValidAddressRow.holds Try.pinned (OpenSpec.ofChange fnValidNameImpliesValidAddressSpec)

/-- ITS FALSE NEIGHBOUR: 'it returns false'. Refute it at one input. -/
def fnValidNameImpliesValidAddressWrong : ChangeSpec := { name := "fnValidNameImpliesValidAddress", fn := fun _ => fun
  | [d] => { results := [.lit (.bool false)], args := [d] }
  | _ => none }
def FnValidNameImpliesValidAddressWrongFalsely : Prop := fnValidNameImpliesValidAddressRow.holds Try.pinned (OpenSpec.ofChange fnValidNameImpliesValidAddressWrong)

/-- 'zzlaws_internal_txlog_b1.FnValidAddressExactSpec': WHATEVER THE INPUT: true; the input reads as it did. -/
def fnValidAddressExactSpecSpec : ChangeSpec := { name := "fnValidAddressExactSpec", fn := fun _ => fun
  | [d] => { results := [.lit (.bool true)], args := [d] }
  | _ => none }
def fnValidAddressExactSpecRow : OpenClaim := { program := "qxb6603344a", sum := "ad5550155dd543e4e8a3a3ff2eed6354ab1b177b874778e739c4fa74e246ffd6", func := "example.com/pactum/pactum/zzlaws_internal_txlog_b1.FnValidAddressExactSpec", spec := "fnValidAddressExactSpec", apart := false }
def FnValidAddressExactSpecSaid : Prop := fnValidAddressExactSpecRow.holds Try.pinned (OpenSpec.ofChange fnValidAddressExactSpecSpec)

/-- ITS FALSE NEIGHBOUR: 'it returns false'. Refute it at one input. -/
def fnValidAddressExactSpecWrong : ChangeSpec := { name := "fnValidAddressExactSpec", fn := fun _ => fun
  | [d] => { results := [.lit (.bool false)], args := [d] }
  | _ => none }
def FnValidAddressExactSpecWrongFalsely : Prop := fnValidAddressExactSpecRow.holds Try.pinned (OpenSpec.ofChange fnValidAddressExactSpecWrong)

/-- 'zzlaws_internal_txlog_b1.FnValidAddressConcat': WHATEVER THE INPUT: true; the input reads as it did. -/
def fnValidAddressConcatSpec : ChangeSpec := { name := "fnValidAddressConcat", fn := fun _ => fun
  | [d1, d2] => { results := [.lit (.bool true)], args := [d1, d2] }
  | _ => none }
def fnValidAddressConcatRow : OpenClaim := { program := "qxb6603344a", sum := "ad5550155dd543e4e8a3a3ff2eed6354ab1b177b874778e739c4fa74e246ffd6", func := "example.com/pactum/pactum/zzlaws_internal_txlog_b1.FnValidAddressConcat", spec := "fnValidAddressConcat", apart := false }
def FnValidAddressConcatSaid : Prop := fnValidAddressConcatRow.holds Try.pinned (OpenSpec.ofChange fnValidAddressConcatSpec)

/-- ITS FALSE NEIGHBOUR: 'it returns false'. Refute it at one input. -/
def fnValidAddressConcatWrong : ChangeSpec := { name := "fnValidAddressConcat", fn := fun _ => fun
  | [d1, d2] => { results := [.lit (.bool false)], args := [d1, d2] }
  | _ => none }
def FnValidAddressConcatWrongFalsely : Prop := fnValidAddressConcatRow.holds Try.pinned (OpenSpec.ofChange fnValidAddressConcatWrong)

end Rows
end Go.Proofs.Qxb6603344a
