/-
  No cell of these rows narrows 'for every input' (looked for: loops, veiled, ifaces, maps, wideKeys, modest, calm, conditions, laid).
  DERIVED. THE GIVEN ROWS OF THIS SEAT. 1 by the template 'for every input the law returns true; each argument reads behind the call as it read before'; 0 by the template 'total and deterministic' (their statements: Qxb6603009aTotals.lean).
  GIVEN WITH THE SEED: the statements are not yours to turn. If you find one false, say at which input.
  Laid BY PROGRAM, IN A SANDBOX (cutbox-rows.mjs): the forced cells as the released guide's own fill.sh prints them over the translation 070189f3dd4ada56… (all of the seat's roots in one cut). By AI agents, Wed Nov 11 2026. No macro, syntax, notation, axiom, sorry.
-/
import Derived.Test.Qxb6603009aChecked
import GoSem.Claim
import GoSem.ClaimJoined
import GoSem.ClaimMapViews
import Derived.JoinedTies
import Derived.KernelRfl
namespace Go.Proofs.Qxb6603009a
/- THE CELL 'sum', in the pinned program and in every row, IS THE sha256 OF THE DUMP (.gsa) THAT Qxb6603009aProg.lean LOADS. Nothing in Lean hashes anything: it is a label: what it is worth is what the hold of that sum in a sandbox is worth. -/
noncomputable def Try.pinned : Pinned := { name := "qxb6603009a", sum := "070189f3dd4ada565f14e02566f553a1f4a3e9c031863616256afca5ff8ee669", checked := Try.checked }
namespace Rows
def none {H : Type} : Left H := { results := [], args := [] }

/-- 'zzlaws_root_b1.FnKeepsRFC3339MatchesStrictGrammar': WHATEVER THE INPUT: true; the input reads as it did. -/
def fnKeepsRFC3339MatchesStrictGrammarSpec : ChangeSpec := { name := "fnKeepsRFC3339MatchesStrictGrammar", fn := fun _ => fun
  | [d] => { results := [.lit (.bool true)], args := [d] }
  | _ => none }
def fnKeepsRFC3339MatchesStrictGrammarRow : OpenClaim := { program := "qxb6603009a", sum := "070189f3dd4ada565f14e02566f553a1f4a3e9c031863616256afca5ff8ee669", func := "example.com/tenon/tenon/zzlaws_root_b1.FnKeepsRFC3339MatchesStrictGrammar", spec := "fnKeepsRFC3339MatchesStrictGrammar", apart := false }
def FnKeepsRFC3339MatchesStrictGrammarSaid : Prop := fnKeepsRFC3339MatchesStrictGrammarRow.holds Try.pinned (OpenSpec.ofChange fnKeepsRFC3339MatchesStrictGrammarSpec)

/-- ITS FALSE NEIGHBOUR: 'it returns false'. Refute it at one input. -/
def fnKeepsRFC3339MatchesStrictGrammarWrong : ChangeSpec := { name := "fnKeepsRFC3339MatchesStrictGrammar", fn := fun _ => fun
  | [d] => { results := [.lit (.bool false)], args := [d] }
  | _ => none }
def FnKeepsRFC3339MatchesStrictGrammarWrongFalsely : Prop := fnKeepsRFC3339MatchesStrictGrammarRow.holds Try.pinned (OpenSpec.ofChange fnKeepsRFC3339MatchesStrictGrammarWrong)

end Rows
end Go.Proofs.Qxb6603009a
