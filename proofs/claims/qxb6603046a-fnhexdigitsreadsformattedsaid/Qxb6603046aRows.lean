/-
  No cell of these rows narrows 'for every input' (looked for: loops, veiled, ifaces, maps, wideKeys, modest, calm, conditions, laid).
  DERIVED. THE GIVEN ROWS OF THIS SEAT. 4 by the template 'for every input the law returns true; each argument reads behind the call as it read before'; 0 by the template 'total and deterministic' (their statements: Qxb6603046aTotals.lean).
  GIVEN WITH THE SEED: the statements are not yours to turn. If you find one false, say at which input.
  Laid BY PROGRAM, IN A SANDBOX (cutbox-rows.mjs): the forced cells as the released guide's own fill.sh prints them over the translation 39844b4e945c9225… (all of the seat's roots in one cut). By AI agents, Wed Nov 11 2026. No macro, syntax, notation, axiom, sorry.
-/
import Derived.Test.Qxb6603046aChecked
import GoSem.Claim
import GoSem.ClaimJoined
import GoSem.ClaimMapViews
import Derived.JoinedTies
import Derived.KernelRfl
namespace Go.Proofs.Qxb6603046a
/- THE CELL 'sum', in the pinned program and in every row, IS THE sha256 OF THE DUMP (.gsa) THAT Qxb6603046aProg.lean LOADS. Nothing in Lean hashes anything: it is a label: what it is worth is what the hold of that sum in a sandbox is worth. -/
noncomputable def Try.pinned : Pinned := { name := "qxb6603046a", sum := "39844b4e945c92252807665c1be8a92a26bb61bb2371e6cbe749595dbf53bc2b", checked := Try.checked }
namespace Rows
def none {H : Type} : Left H := { results := [], args := [] }

/-- 'zzlaws_internal_message_b1.FnHexDigitsExact': WHATEVER THE INPUT: true; the input reads as it did. -/
def fnHexDigitsExactSpec : ChangeSpec := { name := "fnHexDigitsExact", fn := fun _ => fun
  | [d] => { results := [.lit (.bool true)], args := [d] }
  | _ => none }
def fnHexDigitsExactRow : OpenClaim := { program := "qxb6603046a", sum := "39844b4e945c92252807665c1be8a92a26bb61bb2371e6cbe749595dbf53bc2b", func := "example.com/bubbleform/bubbleform/zzlaws_internal_message_b1.FnHexDigitsExact", spec := "fnHexDigitsExact", apart := false }
def FnHexDigitsExactSaid : Prop := fnHexDigitsExactRow.holds Try.pinned (OpenSpec.ofChange fnHexDigitsExactSpec)

/-- ITS FALSE NEIGHBOUR: 'it returns false'. Refute it at one input. -/
def fnHexDigitsExactWrong : ChangeSpec := { name := "fnHexDigitsExact", fn := fun _ => fun
  | [d] => { results := [.lit (.bool false)], args := [d] }
  | _ => none }
def FnHexDigitsExactWrongFalsely : Prop := fnHexDigitsExactRow.holds Try.pinned (OpenSpec.ofChange fnHexDigitsExactWrong)

/-- 'zzlaws_internal_message_b1.FnHexDigitsReadsFormatted': WHATEVER THE INPUT: true; the input reads as it did. -/
def fnHexDigitsReadsFormattedSpec : ChangeSpec := { name := "fnHexDigitsReadsFormatted", fn := fun _ => fun
  | [d1, d2, d3, d4] => { results := [.lit (.bool true)], args := [d1, d2, d3, d4] }
  | _ => none }
def fnHexDigitsReadsFormattedRow : OpenClaim := { program := "qxb6603046a", sum := "39844b4e945c92252807665c1be8a92a26bb61bb2371e6cbe749595dbf53bc2b", func := "example.com/bubbleform/bubbleform/zzlaws_internal_message_b1.FnHexDigitsReadsFormatted", spec := "fnHexDigitsReadsFormatted", apart := false }
def FnHexDigitsReadsFormattedSaid : Prop := fnHexDigitsReadsFormattedRow.holds Try.pinned (OpenSpec.ofChange fnHexDigitsReadsFormattedSpec)

/-- ITS FALSE NEIGHBOUR: 'it returns false'. Refute it at one input. -/
def fnHexDigitsReadsFormattedWrong : ChangeSpec := { name := "fnHexDigitsReadsFormatted", fn := fun _ => fun
  | [d1, d2, d3, d4] => { results := [.lit (.bool false)], args := [d1, d2, d3, d4] }
  | _ => none }
def FnHexDigitsReadsFormattedWrongFalsely : Prop := fnHexDigitsReadsFormattedRow.holds Try.pinned (OpenSpec.ofChange fnHexDigitsReadsFormattedWrong)

/-- 'zzlaws_internal_message_b1.FnUnescapeSeparatorsExact': WHATEVER THE INPUT: true; the input reads as it did. -/
def fnUnescapeSeparatorsExactSpec : ChangeSpec := { name := "fnUnescapeSeparatorsExact", fn := fun _ => fun
  | [d] => { results := [.lit (.bool true)], args := [d] }
  | _ => none }
def fnUnescapeSeparatorsExactRow : OpenClaim := { program := "qxb6603046a", sum := "39844b4e945c92252807665c1be8a92a26bb61bb2371e6cbe749595dbf53bc2b", func := "example.com/bubbleform/bubbleform/zzlaws_internal_message_b1.FnUnescapeSeparatorsExact", spec := "fnUnescapeSeparatorsExact", inPlace := ["internal/bytealg.IndexByte", "internal/bytealg.Index"], named := ["internal/bytealg.MaxLen"], apart := false }
def FnUnescapeSeparatorsExactSaid : Prop := fnUnescapeSeparatorsExactRow.holds Try.pinned (OpenSpec.ofChange fnUnescapeSeparatorsExactSpec)

/-- ITS FALSE NEIGHBOUR: 'it returns false'. Refute it at one input. -/
def fnUnescapeSeparatorsExactWrong : ChangeSpec := { name := "fnUnescapeSeparatorsExact", fn := fun _ => fun
  | [d] => { results := [.lit (.bool false)], args := [d] }
  | _ => none }
def FnUnescapeSeparatorsExactWrongFalsely : Prop := fnUnescapeSeparatorsExactRow.holds Try.pinned (OpenSpec.ofChange fnUnescapeSeparatorsExactWrong)

/-- 'zzlaws_internal_message_b1.FnUnescapeSeparatorsIdempotent': WHATEVER THE INPUT: true; the input reads as it did. -/
def fnUnescapeSeparatorsIdempotentSpec : ChangeSpec := { name := "fnUnescapeSeparatorsIdempotent", fn := fun _ => fun
  | [d] => { results := [.lit (.bool true)], args := [d] }
  | _ => none }
def fnUnescapeSeparatorsIdempotentRow : OpenClaim := { program := "qxb6603046a", sum := "39844b4e945c92252807665c1be8a92a26bb61bb2371e6cbe749595dbf53bc2b", func := "example.com/bubbleform/bubbleform/zzlaws_internal_message_b1.FnUnescapeSeparatorsIdempotent", spec := "fnUnescapeSeparatorsIdempotent", inPlace := ["internal/bytealg.IndexByte", "internal/bytealg.Index"], named := ["internal/bytealg.MaxLen"], apart := false }
def FnUnescapeSeparatorsIdempotentSaid : Prop := fnUnescapeSeparatorsIdempotentRow.holds Try.pinned (OpenSpec.ofChange fnUnescapeSeparatorsIdempotentSpec)

/-- ITS FALSE NEIGHBOUR: 'it returns false'. Refute it at one input. -/
def fnUnescapeSeparatorsIdempotentWrong : ChangeSpec := { name := "fnUnescapeSeparatorsIdempotent", fn := fun _ => fun
  | [d] => { results := [.lit (.bool false)], args := [d] }
  | _ => none }
def FnUnescapeSeparatorsIdempotentWrongFalsely : Prop := fnUnescapeSeparatorsIdempotentRow.holds Try.pinned (OpenSpec.ofChange fnUnescapeSeparatorsIdempotentWrong)

end Rows
end Go.Proofs.Qxb6603046a
