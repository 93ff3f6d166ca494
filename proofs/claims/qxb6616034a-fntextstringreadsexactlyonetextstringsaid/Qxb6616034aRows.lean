/-
  No cell of these rows narrows 'for every input' (looked for: loops, veiled, ifaces, maps, wideKeys, modest, calm, conditions, laid).
  DERIVED. THE GIVEN ROWS OF THIS SEAT. 2 by the template 'for every input the law returns true; each argument reads behind the call as it read before'; 0 by the template 'total and deterministic' (their statements: Qxb6616034aTotals.lean).
  GIVEN WITH THE SEED: the statements are not yours to turn. If you find one false, say at which input.
  Laid BY PROGRAM, IN A SANDBOX (cutbox-rows.mjs): the forced cells as the released guide's own fill.sh prints them over the translation d41873c83c24a2af… (all of the seat's roots in one cut). By AI agents, Wed Nov 11 2026. No macro, syntax, notation, axiom, sorry.
-/
import Derived.Test.Qxb6616034aChecked
import GoSem.Claim
import GoSem.ClaimJoined
import GoSem.ClaimMapViews
import Derived.JoinedTies
import Derived.KernelRfl
namespace Go.Proofs.Qxb6616034a
/- THE CELL 'sum', in the pinned program and in every row, IS THE sha256 OF THE DUMP (.gsa) THAT Qxb6616034aProg.lean LOADS. Nothing in Lean hashes anything: it is a label: what it is worth is what the hold of that sum in a sandbox is worth. -/
noncomputable def Try.pinned : Pinned := { name := "qxb6616034a", sum := "d41873c83c24a2af8b233bf9fefed5d4b6cbc99a35fe80cdf5c1222cb7add2c6", checked := Try.checked }
namespace Rows
def none {H : Type} : Left H := { results := [], args := [] }

/-- 'zzlaws_internal_ledger_b1.FnTextStringReadsExactlyOneTextString': WHATEVER THE INPUT: true; the input reads as it did. -/
def fnTextStringReadsExactlyOneTextStringSpec : ChangeSpec := { name := "fnTextStringReadsExactlyOneTextString", fn := fun _ => fun
  | [d1, d2] => { results := [.lit (.bool true)], args := [d1, d2] }
  | _ => none }
def fnTextStringReadsExactlyOneTextStringRow : OpenClaim := { program := "qxb6616034a", sum := "d41873c83c24a2af8b233bf9fefed5d4b6cbc99a35fe80cdf5c1222cb7add2c6", func := "example.com/rootstamp/rootstamp/zzlaws_internal_ledger_b1.FnTextStringReadsExactlyOneTextString", spec := "fnTextStringReadsExactlyOneTextString", apart := false }
def FnTextStringReadsExactlyOneTextStringSaid : Prop := fnTextStringReadsExactlyOneTextStringRow.holds Try.pinned (OpenSpec.ofChange fnTextStringReadsExactlyOneTextStringSpec)

/-- ITS FALSE NEIGHBOUR: 'it returns false'. Refute it at one input. -/
def fnTextStringReadsExactlyOneTextStringWrong : ChangeSpec := { name := "fnTextStringReadsExactlyOneTextString", fn := fun _ => fun
  | [d1, d2] => { results := [.lit (.bool false)], args := [d1, d2] }
  | _ => none }
def FnTextStringReadsExactlyOneTextStringWrongFalsely : Prop := fnTextStringReadsExactlyOneTextStringRow.holds Try.pinned (OpenSpec.ofChange fnTextStringReadsExactlyOneTextStringWrong)

/-- 'zzlaws_internal_ledger_b1.FnTextStringIgnoresWhatFollowsAndStaysFailed': WHATEVER THE INPUT: true; the input reads as it did. -/
def fnTextStringIgnoresWhatFollowsAndStaysFailedSpec : ChangeSpec := { name := "fnTextStringIgnoresWhatFollowsAndStaysFailed", fn := fun _ => fun
  | [d1, d2, d3] => { results := [.lit (.bool true)], args := [d1, d2, d3] }
  | _ => none }
def fnTextStringIgnoresWhatFollowsAndStaysFailedRow : OpenClaim := { program := "qxb6616034a", sum := "d41873c83c24a2af8b233bf9fefed5d4b6cbc99a35fe80cdf5c1222cb7add2c6", func := "example.com/rootstamp/rootstamp/zzlaws_internal_ledger_b1.FnTextStringIgnoresWhatFollowsAndStaysFailed", spec := "fnTextStringIgnoresWhatFollowsAndStaysFailed", apart := false }
def FnTextStringIgnoresWhatFollowsAndStaysFailedSaid : Prop := fnTextStringIgnoresWhatFollowsAndStaysFailedRow.holds Try.pinned (OpenSpec.ofChange fnTextStringIgnoresWhatFollowsAndStaysFailedSpec)

/-- ITS FALSE NEIGHBOUR: 'it returns false'. Refute it at one input. -/
def fnTextStringIgnoresWhatFollowsAndStaysFailedWrong : ChangeSpec := { name := "fnTextStringIgnoresWhatFollowsAndStaysFailed", fn := fun _ => fun
  | [d1, d2, d3] => { results := [.lit (.bool false)], args := [d1, d2, d3] }
  | _ => none }
def FnTextStringIgnoresWhatFollowsAndStaysFailedWrongFalsely : Prop := fnTextStringIgnoresWhatFollowsAndStaysFailedRow.holds Try.pinned (OpenSpec.ofChange fnTextStringIgnoresWhatFollowsAndStaysFailedWrong)

end Rows
end Go.Proofs.Qxb6616034a
