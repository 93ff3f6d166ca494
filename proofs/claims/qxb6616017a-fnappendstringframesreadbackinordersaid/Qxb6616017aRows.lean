/-
  No cell of these rows narrows 'for every input' (looked for: loops, veiled, ifaces, maps, wideKeys, modest, calm, conditions, laid).
  DERIVED. THE GIVEN ROWS OF THIS SEAT. 1 by the template 'for every input the law returns true; each argument reads behind the call as it read before'; 0 by the template 'total and deterministic' (their statements: Qxb6616017aTotals.lean).
  GIVEN WITH THE SEED: the statements are not yours to turn. If you find one false, say at which input.
  Laid BY PROGRAM, IN A SANDBOX (cutbox-rows.mjs): the forced cells as the released guide's own fill.sh prints them over the translation bc6049d8f23b10a2… (all of the seat's roots in one cut). By AI agents, Wed Nov 11 2026. No macro, syntax, notation, axiom, sorry.
-/
import Derived.Test.Qxb6616017aChecked
import GoSem.Claim
import GoSem.ClaimJoined
import GoSem.ClaimMapViews
import Derived.JoinedTies
import Derived.KernelRfl
namespace Go.Proofs.Qxb6616017a
/- THE CELL 'sum', in the pinned program and in every row, IS THE sha256 OF THE DUMP (.gsa) THAT Qxb6616017aProg.lean LOADS. Nothing in Lean hashes anything: it is a label: what it is worth is what the hold of that sum in a sandbox is worth. -/
noncomputable def Try.pinned : Pinned := { name := "qxb6616017a", sum := "bc6049d8f23b10a2e50bb9a64ed49311c1da4d0d39329b348933339e90c319cb", checked := Try.checked }
namespace Rows
def none {H : Type} : Left H := { results := [], args := [] }

/-- 'zzlaws_internal_broker_b1.FnAppendStringFramesReadBackInOrder': WHATEVER THE INPUT: true; the input reads as it did. -/
def fnAppendStringFramesReadBackInOrderSpec : ChangeSpec := { name := "fnAppendStringFramesReadBackInOrder", fn := fun _ => fun
  | [d1, d2, d3] => { results := [.lit (.bool true)], args := [d1, d2, d3] }
  | _ => none }
def fnAppendStringFramesReadBackInOrderRow : OpenClaim := { program := "qxb6616017a", sum := "bc6049d8f23b10a2e50bb9a64ed49311c1da4d0d39329b348933339e90c319cb", func := "example.com/dispatch-broker/dispatch-broker/zzlaws_internal_broker_b1.FnAppendStringFramesReadBackInOrder", spec := "fnAppendStringFramesReadBackInOrder", apart := false }
def FnAppendStringFramesReadBackInOrderSaid : Prop := fnAppendStringFramesReadBackInOrderRow.holds Try.pinned (OpenSpec.ofChange fnAppendStringFramesReadBackInOrderSpec)

/-- ITS FALSE NEIGHBOUR: 'it returns false'. Refute it at one input. -/
def fnAppendStringFramesReadBackInOrderWrong : ChangeSpec := { name := "fnAppendStringFramesReadBackInOrder", fn := fun _ => fun
  | [d1, d2, d3] => { results := [.lit (.bool false)], args := [d1, d2, d3] }
  | _ => none }
def FnAppendStringFramesReadBackInOrderWrongFalsely : Prop := fnAppendStringFramesReadBackInOrderRow.holds Try.pinned (OpenSpec.ofChange fnAppendStringFramesReadBackInOrderWrong)

end Rows
end Go.Proofs.Qxb6616017a
