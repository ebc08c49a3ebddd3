/-
  No cell of these rows narrows 'for every input' (looked for: loops, veiled, ifaces, maps, wideKeys, modest, calm, conditions, laid).
  DERIVED. THE GIVEN ROWS OF THIS SEAT. 3 by the template 'for every input the law returns true; each argument reads behind the call as it read before'; 0 by the template 'total and deterministic' (their statements: Qxb6603010aTotals.lean).
  GIVEN WITH THE SEED: the statements are not yours to turn. If you find one false, say at which input.
  Laid BY PROGRAM, IN A SANDBOX (cutbox-rows.mjs): the forced cells as the released guide's own fill.sh prints them over the translation f5338d2b1fb580fc… (all of the seat's roots in one cut). By AI agents, Wed Nov 11 2026. No macro, syntax, notation, axiom, sorry.
-/
import Derived.Test.Qxb6603010aChecked
import GoSem.Claim
import GoSem.ClaimJoined
import GoSem.ClaimMapViews
import Derived.JoinedTies
import Derived.KernelRfl
namespace Go.Proofs.Qxb6603010a
/- THE CELL 'sum', in the pinned program and in every row, IS THE sha256 OF THE DUMP (.gsa) THAT Qxb6603010aProg.lean LOADS. Nothing in Lean hashes anything: it is a label: what it is worth is what the hold of that sum in a sandbox is worth. -/
noncomputable def Try.pinned : Pinned := { name := "qxb6603010a", sum := "f5338d2b1fb580fccc1181ef3a4da3a4598dcebdc160ee3303e4364d41b9f0f0", checked := Try.checked }
namespace Rows
def none {H : Type} : Left H := { results := [], args := [] }

/-- 'zzlaws_pkg_peer_b1.FnPeerIndexOfWhole': WHATEVER THE INPUT: true; the input reads as it did. -/
def fnPeerIndexOfWholeSpec : ChangeSpec := { name := "fnPeerIndexOfWhole", fn := fun _ => fun
  | [d] => { results := [.lit (.bool true)], args := [d] }
  | _ => none }
def fnPeerIndexOfWholeRow : OpenClaim := { program := "qxb6603010a", sum := "f5338d2b1fb580fccc1181ef3a4da3a4598dcebdc160ee3303e4364d41b9f0f0", func := "example.com/unfenced/unfenced/zzlaws_pkg_peer_b1.FnPeerIndexOfWhole", spec := "fnPeerIndexOfWhole", apart := false }
def FnPeerIndexOfWholeSaid : Prop := fnPeerIndexOfWholeRow.holds Try.pinned (OpenSpec.ofChange fnPeerIndexOfWholeSpec)

/-- ITS FALSE NEIGHBOUR: 'it returns false'. Refute it at one input. -/
def fnPeerIndexOfWholeWrong : ChangeSpec := { name := "fnPeerIndexOfWhole", fn := fun _ => fun
  | [d] => { results := [.lit (.bool false)], args := [d] }
  | _ => none }
def FnPeerIndexOfWholeWrongFalsely : Prop := fnPeerIndexOfWholeRow.holds Try.pinned (OpenSpec.ofChange fnPeerIndexOfWholeWrong)

/-- 'zzlaws_pkg_peer_b1.FnPeerIndexOfChain': WHATEVER THE INPUT: true; the input reads as it did. -/
def fnPeerIndexOfChainSpec : ChangeSpec := { name := "fnPeerIndexOfChain", fn := fun _ => fun
  | [d1, d2] => { results := [.lit (.bool true)], args := [d1, d2] }
  | _ => none }
def fnPeerIndexOfChainRow : OpenClaim := { program := "qxb6603010a", sum := "f5338d2b1fb580fccc1181ef3a4da3a4598dcebdc160ee3303e4364d41b9f0f0", func := "example.com/unfenced/unfenced/zzlaws_pkg_peer_b1.FnPeerIndexOfChain", spec := "fnPeerIndexOfChain", apart := false }
def FnPeerIndexOfChainSaid : Prop := fnPeerIndexOfChainRow.holds Try.pinned (OpenSpec.ofChange fnPeerIndexOfChainSpec)

/-- ITS FALSE NEIGHBOUR: 'it returns false'. Refute it at one input. -/
def fnPeerIndexOfChainWrong : ChangeSpec := { name := "fnPeerIndexOfChain", fn := fun _ => fun
  | [d1, d2] => { results := [.lit (.bool false)], args := [d1, d2] }
  | _ => none }
def FnPeerIndexOfChainWrongFalsely : Prop := fnPeerIndexOfChainRow.holds Try.pinned (OpenSpec.ofChange fnPeerIndexOfChainWrong)

/-- 'zzlaws_pkg_peer_b1.FnPeerStampSetAddScript': WHATEVER THE INPUT: true; the input reads as it did. -/
def fnPeerStampSetAddScriptSpec : ChangeSpec := { name := "fnPeerStampSetAddScript", fn := fun _ => fun
  | [d1, d2] => { results := [.lit (.bool true)], args := [d1, d2] }
  | _ => none }
def fnPeerStampSetAddScriptRow : OpenClaim := { program := "qxb6603010a", sum := "f5338d2b1fb580fccc1181ef3a4da3a4598dcebdc160ee3303e4364d41b9f0f0", func := "example.com/unfenced/unfenced/zzlaws_pkg_peer_b1.FnPeerStampSetAddScript", spec := "fnPeerStampSetAddScript", apart := false }
def FnPeerStampSetAddScriptSaid : Prop := fnPeerStampSetAddScriptRow.holds Try.pinned (OpenSpec.ofChange fnPeerStampSetAddScriptSpec)

/-- ITS FALSE NEIGHBOUR: 'it returns false'. Refute it at one input. -/
def fnPeerStampSetAddScriptWrong : ChangeSpec := { name := "fnPeerStampSetAddScript", fn := fun _ => fun
  | [d1, d2] => { results := [.lit (.bool false)], args := [d1, d2] }
  | _ => none }
def FnPeerStampSetAddScriptWrongFalsely : Prop := fnPeerStampSetAddScriptRow.holds Try.pinned (OpenSpec.ofChange fnPeerStampSetAddScriptWrong)

end Rows
end Go.Proofs.Qxb6603010a
