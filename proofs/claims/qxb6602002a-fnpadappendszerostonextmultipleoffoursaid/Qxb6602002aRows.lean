/-
  No cell of these rows narrows 'for every input' (looked for: loops, veiled, ifaces, maps, wideKeys, modest, calm, conditions, laid).
  DERIVED. THE GIVEN ROWS OF THIS SEAT. 4 by the template 'for every input the law returns true; each argument reads behind the call as it read before'; 0 by the template 'total and deterministic' (their statements: Qxb6602002aTotals.lean).
  GIVEN WITH THE SEED: the statements are not yours to turn. If you find one false, say at which input.
  Laid BY PROGRAM, IN A SANDBOX (cutbox-rows.mjs): the forced cells as the released guide's own fill.sh prints them over the translation 61c20e3b86cdb5ea… (all of the seat's roots in one cut). By AI agents, Wed Nov 11 2026. No macro, syntax, notation, axiom, sorry.
-/
import Derived.Test.Qxb6602002aChecked
import GoSem.Claim
import GoSem.ClaimJoined
import GoSem.ClaimMapViews
import Derived.JoinedTies
import Derived.KernelRfl
namespace Go.Proofs.Qxb6602002a
/- THE CELL 'sum', in the pinned program and in every row, IS THE sha256 OF THE DUMP (.gsa) THAT Qxb6602002aProg.lean LOADS. Nothing in Lean hashes anything: it is a label: what it is worth is what the hold of that sum in a sandbox is worth. -/
noncomputable def Try.pinned : Pinned := { name := "qxb6602002a", sum := "61c20e3b86cdb5ea68ebbb79f28c9596e34d18b7261c0161c31b99846ee9693e", checked := Try.checked }
namespace Rows
def none {H : Type} : Left H := { results := [], args := [] }

/-- 'zzlaws_internal_sctp_b1.FnPadAppendsZerosToNextMultipleOfFour': WHATEVER THE INPUT: true; the input reads as it did. -/
def fnPadAppendsZerosToNextMultipleOfFourSpec : ChangeSpec := { name := "fnPadAppendsZerosToNextMultipleOfFour", fn := fun _ => fun
  | [d1, d2] => { results := [.lit (.bool true)], args := [d1, d2] }
  | _ => none }
def fnPadAppendsZerosToNextMultipleOfFourRow : OpenClaim := { program := "qxb6602002a", sum := "61c20e3b86cdb5ea68ebbb79f28c9596e34d18b7261c0161c31b99846ee9693e", func := "example.com/sealstream/sealstream/zzlaws_internal_sctp_b1.FnPadAppendsZerosToNextMultipleOfFour", spec := "fnPadAppendsZerosToNextMultipleOfFour", apart := false }
def FnPadAppendsZerosToNextMultipleOfFourSaid : Prop := fnPadAppendsZerosToNextMultipleOfFourRow.holds Try.pinned (OpenSpec.ofChange fnPadAppendsZerosToNextMultipleOfFourSpec)

/-- ITS FALSE NEIGHBOUR: 'it returns false'. Refute it at one input. -/
def fnPadAppendsZerosToNextMultipleOfFourWrong : ChangeSpec := { name := "fnPadAppendsZerosToNextMultipleOfFour", fn := fun _ => fun
  | [d1, d2] => { results := [.lit (.bool false)], args := [d1, d2] }
  | _ => none }
def FnPadAppendsZerosToNextMultipleOfFourWrongFalsely : Prop := fnPadAppendsZerosToNextMultipleOfFourRow.holds Try.pinned (OpenSpec.ofChange fnPadAppendsZerosToNextMultipleOfFourWrong)

/-- 'zzlaws_internal_sctp_b1.FnPadAlignsAnAlignedItem': WHATEVER THE INPUT: true; the input reads as it did. -/
def fnPadAlignsAnAlignedItemSpec : ChangeSpec := { name := "fnPadAlignsAnAlignedItem", fn := fun _ => fun
  | [d1, d2] => { results := [.lit (.bool true)], args := [d1, d2] }
  | _ => none }
def fnPadAlignsAnAlignedItemRow : OpenClaim := { program := "qxb6602002a", sum := "61c20e3b86cdb5ea68ebbb79f28c9596e34d18b7261c0161c31b99846ee9693e", func := "example.com/sealstream/sealstream/zzlaws_internal_sctp_b1.FnPadAlignsAnAlignedItem", spec := "fnPadAlignsAnAlignedItem", apart := false }
def FnPadAlignsAnAlignedItemSaid : Prop := fnPadAlignsAnAlignedItemRow.holds Try.pinned (OpenSpec.ofChange fnPadAlignsAnAlignedItemSpec)

/-- ITS FALSE NEIGHBOUR: 'it returns false'. Refute it at one input. -/
def fnPadAlignsAnAlignedItemWrong : ChangeSpec := { name := "fnPadAlignsAnAlignedItem", fn := fun _ => fun
  | [d1, d2] => { results := [.lit (.bool false)], args := [d1, d2] }
  | _ => none }
def FnPadAlignsAnAlignedItemWrongFalsely : Prop := fnPadAlignsAnAlignedItemRow.holds Try.pinned (OpenSpec.ofChange fnPadAlignsAnAlignedItemWrong)

/-- 'zzlaws_internal_sctp_b1.FnCauseNameDefinedExactlyOnOneToThirteen': WHATEVER THE INPUT: true; the input reads as it did. -/
def fnCauseNameDefinedExactlyOnOneToThirteenSpec : ChangeSpec := { name := "fnCauseNameDefinedExactlyOnOneToThirteen", fn := fun _ => fun
  | [d] => { results := [.lit (.bool true)], args := [d] }
  | _ => none }
def fnCauseNameDefinedExactlyOnOneToThirteenRow : OpenClaim := { program := "qxb6602002a", sum := "61c20e3b86cdb5ea68ebbb79f28c9596e34d18b7261c0161c31b99846ee9693e", func := "example.com/sealstream/sealstream/zzlaws_internal_sctp_b1.FnCauseNameDefinedExactlyOnOneToThirteen", spec := "fnCauseNameDefinedExactlyOnOneToThirteen", apart := false }
def FnCauseNameDefinedExactlyOnOneToThirteenSaid : Prop := fnCauseNameDefinedExactlyOnOneToThirteenRow.holds Try.pinned (OpenSpec.ofChange fnCauseNameDefinedExactlyOnOneToThirteenSpec)

/-- ITS FALSE NEIGHBOUR: 'it returns false'. Refute it at one input. -/
def fnCauseNameDefinedExactlyOnOneToThirteenWrong : ChangeSpec := { name := "fnCauseNameDefinedExactlyOnOneToThirteen", fn := fun _ => fun
  | [d] => { results := [.lit (.bool false)], args := [d] }
  | _ => none }
def FnCauseNameDefinedExactlyOnOneToThirteenWrongFalsely : Prop := fnCauseNameDefinedExactlyOnOneToThirteenRow.holds Try.pinned (OpenSpec.ofChange fnCauseNameDefinedExactlyOnOneToThirteenWrong)

/-- 'zzlaws_internal_sctp_b1.FnCauseNameInjectiveOnDefinedCodes': WHATEVER THE INPUT: true; the input reads as it did. -/
def fnCauseNameInjectiveOnDefinedCodesSpec : ChangeSpec := { name := "fnCauseNameInjectiveOnDefinedCodes", fn := fun _ => fun
  | [d1, d2] => { results := [.lit (.bool true)], args := [d1, d2] }
  | _ => none }
def fnCauseNameInjectiveOnDefinedCodesRow : OpenClaim := { program := "qxb6602002a", sum := "61c20e3b86cdb5ea68ebbb79f28c9596e34d18b7261c0161c31b99846ee9693e", func := "example.com/sealstream/sealstream/zzlaws_internal_sctp_b1.FnCauseNameInjectiveOnDefinedCodes", spec := "fnCauseNameInjectiveOnDefinedCodes", apart := false }
def FnCauseNameInjectiveOnDefinedCodesSaid : Prop := fnCauseNameInjectiveOnDefinedCodesRow.holds Try.pinned (OpenSpec.ofChange fnCauseNameInjectiveOnDefinedCodesSpec)

/-- ITS FALSE NEIGHBOUR: 'it returns false'. Refute it at one input. -/
def fnCauseNameInjectiveOnDefinedCodesWrong : ChangeSpec := { name := "fnCauseNameInjectiveOnDefinedCodes", fn := fun _ => fun
  | [d1, d2] => { results := [.lit (.bool false)], args := [d1, d2] }
  | _ => none }
def FnCauseNameInjectiveOnDefinedCodesWrongFalsely : Prop := fnCauseNameInjectiveOnDefinedCodesRow.holds Try.pinned (OpenSpec.ofChange fnCauseNameInjectiveOnDefinedCodesWrong)

end Rows
end Go.Proofs.Qxb6602002a
