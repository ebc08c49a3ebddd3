/-
  No cell of these rows narrows 'for every input' (looked for: loops, veiled, ifaces, maps, wideKeys, modest, calm, conditions, laid).
  DERIVED. THE GIVEN ROWS OF THIS SEAT. 5 by the template 'for every input the law returns true; each argument reads behind the call as it read before'; 0 by the template 'total and deterministic' (their statements: Qxb6602978aTotals.lean).
  GIVEN WITH THE SEED: the statements are not yours to turn. If you find one false, say at which input.
  Laid BY PROGRAM, IN A SANDBOX (cutbox-rows.mjs): the forced cells as the released guide's own fill.sh prints them over the translation c447206fbd14df37… (all of the seat's roots in one cut). By AI agents, Wed Nov 11 2026. No macro, syntax, notation, axiom, sorry.
-/
import Derived.Test.Qxb6602978aChecked
import GoSem.Claim
import GoSem.ClaimJoined
import GoSem.ClaimMapViews
import Derived.JoinedTies
import Derived.KernelRfl
namespace Go.Proofs.Qxb6602978a
/- THE CELL 'sum', in the pinned program and in every row, IS THE sha256 OF THE DUMP (.gsa) THAT Qxb6602978aProg.lean LOADS. Nothing in Lean hashes anything: it is a label: what it is worth is what the hold of that sum in a sandbox is worth. -/
noncomputable def Try.pinned : Pinned := { name := "qxb6602978a", sum := "c447206fbd14df37973b2a296886fb9f497db833dc605e70661f0c358a792683", checked := Try.checked }
namespace Rows
def none {H : Type} : Left H := { results := [], args := [] }

/-- 'zzlaws_internal_ofd_b1.FnIsCodeSplit': WHATEVER THE INPUT: true; the input reads as it did. -/
def fnIsCodeSplitSpec : ChangeSpec := { name := "fnIsCodeSplit", fn := fun _ => fun
  | [d1, d2] => { results := [.lit (.bool true)], args := [d1, d2] }
  | _ => none }
def fnIsCodeSplitRow : OpenClaim := { program := "qxb6602978a", sum := "c447206fbd14df37973b2a296886fb9f497db833dc605e70661f0c358a792683", func := "example.com/longyear/longyear/zzlaws_internal_ofd_b1.FnIsCodeSplit", spec := "fnIsCodeSplit", apart := false }
def FnIsCodeSplitSaid : Prop := fnIsCodeSplitRow.holds Try.pinned (OpenSpec.ofChange fnIsCodeSplitSpec)

/-- ITS FALSE NEIGHBOUR: 'it returns false'. Refute it at one input. -/
def fnIsCodeSplitWrong : ChangeSpec := { name := "fnIsCodeSplit", fn := fun _ => fun
  | [d1, d2] => { results := [.lit (.bool false)], args := [d1, d2] }
  | _ => none }
def FnIsCodeSplitWrongFalsely : Prop := fnIsCodeSplitRow.holds Try.pinned (OpenSpec.ofChange fnIsCodeSplitWrong)

/-- 'zzlaws_internal_ofd_b1.FnAllDigitsSplit': WHATEVER THE INPUT: true; the input reads as it did. -/
def fnAllDigitsSplitSpec : ChangeSpec := { name := "fnAllDigitsSplit", fn := fun _ => fun
  | [d1, d2] => { results := [.lit (.bool true)], args := [d1, d2] }
  | _ => none }
def fnAllDigitsSplitRow : OpenClaim := { program := "qxb6602978a", sum := "c447206fbd14df37973b2a296886fb9f497db833dc605e70661f0c358a792683", func := "example.com/longyear/longyear/zzlaws_internal_ofd_b1.FnAllDigitsSplit", spec := "fnAllDigitsSplit", apart := false }
def FnAllDigitsSplitSaid : Prop := fnAllDigitsSplitRow.holds Try.pinned (OpenSpec.ofChange fnAllDigitsSplitSpec)

/-- ITS FALSE NEIGHBOUR: 'it returns false'. Refute it at one input. -/
def fnAllDigitsSplitWrong : ChangeSpec := { name := "fnAllDigitsSplit", fn := fun _ => fun
  | [d1, d2] => { results := [.lit (.bool false)], args := [d1, d2] }
  | _ => none }
def FnAllDigitsSplitWrongFalsely : Prop := fnAllDigitsSplitRow.holds Try.pinned (OpenSpec.ofChange fnAllDigitsSplitWrong)

/-- 'zzlaws_internal_ofd_b1.FnDigitStringsAreCodes': WHATEVER THE INPUT: true; the input reads as it did. -/
def fnDigitStringsAreCodesSpec : ChangeSpec := { name := "fnDigitStringsAreCodes", fn := fun _ => fun
  | [d] => { results := [.lit (.bool true)], args := [d] }
  | _ => none }
def fnDigitStringsAreCodesRow : OpenClaim := { program := "qxb6602978a", sum := "c447206fbd14df37973b2a296886fb9f497db833dc605e70661f0c358a792683", func := "example.com/longyear/longyear/zzlaws_internal_ofd_b1.FnDigitStringsAreCodes", spec := "fnDigitStringsAreCodes", apart := false }
def FnDigitStringsAreCodesSaid : Prop := fnDigitStringsAreCodesRow.holds Try.pinned (OpenSpec.ofChange fnDigitStringsAreCodesSpec)

/-- ITS FALSE NEIGHBOUR: 'it returns false'. Refute it at one input. -/
def fnDigitStringsAreCodesWrong : ChangeSpec := { name := "fnDigitStringsAreCodes", fn := fun _ => fun
  | [d] => { results := [.lit (.bool false)], args := [d] }
  | _ => none }
def FnDigitStringsAreCodesWrongFalsely : Prop := fnDigitStringsAreCodesRow.holds Try.pinned (OpenSpec.ofChange fnDigitStringsAreCodesWrong)

/-- 'zzlaws_internal_ofd_b1.FnLayoutAddScript': WHATEVER THE INPUT: true; the input reads as it did. -/
def fnLayoutAddScriptSpec : ChangeSpec := { name := "fnLayoutAddScript", fn := fun _ => fun
  | [d] => { results := [.lit (.bool true)], args := [d] }
  | _ => none }
def fnLayoutAddScriptRow : OpenClaim := { program := "qxb6602978a", sum := "c447206fbd14df37973b2a296886fb9f497db833dc605e70661f0c358a792683", func := "example.com/longyear/longyear/zzlaws_internal_ofd_b1.FnLayoutAddScript", spec := "fnLayoutAddScript", apart := false }
def FnLayoutAddScriptSaid : Prop := fnLayoutAddScriptRow.holds Try.pinned (OpenSpec.ofChange fnLayoutAddScriptSpec)

/-- ITS FALSE NEIGHBOUR: 'it returns false'. Refute it at one input. -/
def fnLayoutAddScriptWrong : ChangeSpec := { name := "fnLayoutAddScript", fn := fun _ => fun
  | [d] => { results := [.lit (.bool false)], args := [d] }
  | _ => none }
def FnLayoutAddScriptWrongFalsely : Prop := fnLayoutAddScriptRow.holds Try.pinned (OpenSpec.ofChange fnLayoutAddScriptWrong)

/-- 'zzlaws_internal_ofd_b1.FnLayoutTilesRecord': WHATEVER THE INPUT: true; the input reads as it did. -/
def fnLayoutTilesRecordSpec : ChangeSpec := { name := "fnLayoutTilesRecord", fn := fun _ => fun
  | [d] => { results := [.lit (.bool true)], args := [d] }
  | _ => none }
def fnLayoutTilesRecordRow : OpenClaim := { program := "qxb6602978a", sum := "c447206fbd14df37973b2a296886fb9f497db833dc605e70661f0c358a792683", func := "example.com/longyear/longyear/zzlaws_internal_ofd_b1.FnLayoutTilesRecord", spec := "fnLayoutTilesRecord", apart := false }
def FnLayoutTilesRecordSaid : Prop := fnLayoutTilesRecordRow.holds Try.pinned (OpenSpec.ofChange fnLayoutTilesRecordSpec)

/-- ITS FALSE NEIGHBOUR: 'it returns false'. Refute it at one input. -/
def fnLayoutTilesRecordWrong : ChangeSpec := { name := "fnLayoutTilesRecord", fn := fun _ => fun
  | [d] => { results := [.lit (.bool false)], args := [d] }
  | _ => none }
def FnLayoutTilesRecordWrongFalsely : Prop := fnLayoutTilesRecordRow.holds Try.pinned (OpenSpec.ofChange fnLayoutTilesRecordWrong)

end Rows
end Go.Proofs.Qxb6602978a
