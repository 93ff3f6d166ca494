/-
  No cell of these rows narrows 'for every input' (looked for: loops, veiled, ifaces, maps, wideKeys, modest, calm, conditions, laid).
  DERIVED. THE GIVEN ROWS OF THIS SEAT. 2 by the template 'for every input the law returns true; each argument reads behind the call as it read before'; 0 by the template 'total and deterministic' (their statements: Qxb6614700aTotals.lean).
  GIVEN WITH THE SEED: the statements are not yours to turn. If you find one false, say at which input.
  Laid BY PROGRAM, IN A SANDBOX (cutbox-rows.mjs): the forced cells as the released guide's own fill.sh prints them over the translation 3662b4383bd42906… (all of the seat's roots in one cut). By AI agents, Wed Nov 11 2026. No macro, syntax, notation, axiom, sorry.
-/
import Derived.Test.Qxb6614700aChecked
import GoSem.Claim
import GoSem.ClaimJoined
import GoSem.ClaimMapViews
import Derived.JoinedTies
import Derived.KernelRfl
namespace Go.Proofs.Qxb6614700a
/- THE CELL 'sum', in the pinned program and in every row, IS THE sha256 OF THE DUMP (.gsa) THAT Qxb6614700aProg.lean LOADS. Nothing in Lean hashes anything: it is a label: what it is worth is what the hold of that sum in a sandbox is worth. -/
noncomputable def Try.pinned : Pinned := { name := "qxb6614700a", sum := "3662b4383bd42906fbbc3c193bd31d63ecddcb28e2705dd1815fc8873fd9458e", checked := Try.checked }
namespace Rows
def none {H : Type} : Left H := { results := [], args := [] }

/-- 'zzlaws_root_b1.FnNamedSplitAndInsert': WHATEVER THE INPUT: true; the input reads as it did. -/
def fnNamedSplitAndInsertSpec : ChangeSpec := { name := "fnNamedSplitAndInsert", fn := fun _ => fun
  | [d1, d2, d3, d4] => { results := [.lit (.bool true)], args := [d1, d2, d3, d4] }
  | _ => none }
def fnNamedSplitAndInsertRow : OpenClaim := { program := "qxb6614700a", sum := "3662b4383bd42906fbbc3c193bd31d63ecddcb28e2705dd1815fc8873fd9458e", func := "example.com/kairos-commit/kairos-commit/zzlaws_root_b1.FnNamedSplitAndInsert", spec := "fnNamedSplitAndInsert", unfollowed := true, recurses := true, apart := false }
def FnNamedSplitAndInsertSaid : Prop := fnNamedSplitAndInsertRow.holds Try.pinned (OpenSpec.ofChange fnNamedSplitAndInsertSpec)

/-- ITS FALSE NEIGHBOUR: 'it returns false'. Refute it at one input. -/
def fnNamedSplitAndInsertWrong : ChangeSpec := { name := "fnNamedSplitAndInsert", fn := fun _ => fun
  | [d1, d2, d3, d4] => { results := [.lit (.bool false)], args := [d1, d2, d3, d4] }
  | _ => none }
def FnNamedSplitAndInsertWrongFalsely : Prop := fnNamedSplitAndInsertRow.holds Try.pinned (OpenSpec.ofChange fnNamedSplitAndInsertWrong)

/-- 'zzlaws_root_b1.FnNamedExactlyWhenRemovalShrinks': WHATEVER THE INPUT: true; the input reads as it did. -/
def fnNamedExactlyWhenRemovalShrinksSpec : ChangeSpec := { name := "fnNamedExactlyWhenRemovalShrinks", fn := fun _ => fun
  | [d1, d2, d3] => { results := [.lit (.bool true)], args := [d1, d2, d3] }
  | _ => none }
def fnNamedExactlyWhenRemovalShrinksRow : OpenClaim := { program := "qxb6614700a", sum := "3662b4383bd42906fbbc3c193bd31d63ecddcb28e2705dd1815fc8873fd9458e", func := "example.com/kairos-commit/kairos-commit/zzlaws_root_b1.FnNamedExactlyWhenRemovalShrinks", spec := "fnNamedExactlyWhenRemovalShrinks", unfollowed := true, recurses := true, apart := false }
def FnNamedExactlyWhenRemovalShrinksSaid : Prop := fnNamedExactlyWhenRemovalShrinksRow.holds Try.pinned (OpenSpec.ofChange fnNamedExactlyWhenRemovalShrinksSpec)

/-- ITS FALSE NEIGHBOUR: 'it returns false'. Refute it at one input. -/
def fnNamedExactlyWhenRemovalShrinksWrong : ChangeSpec := { name := "fnNamedExactlyWhenRemovalShrinks", fn := fun _ => fun
  | [d1, d2, d3] => { results := [.lit (.bool false)], args := [d1, d2, d3] }
  | _ => none }
def FnNamedExactlyWhenRemovalShrinksWrongFalsely : Prop := fnNamedExactlyWhenRemovalShrinksRow.holds Try.pinned (OpenSpec.ofChange fnNamedExactlyWhenRemovalShrinksWrong)

end Rows
end Go.Proofs.Qxb6614700a
