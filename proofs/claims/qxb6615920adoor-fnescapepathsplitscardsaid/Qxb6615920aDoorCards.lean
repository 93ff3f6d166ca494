/-
  DERIVED. GIVEN WITH THE SEED: THE CARDS: each row of Qxb6615920aDoorRows.lean that lists a variable, with what it lists TIED to the program's text (the seventh form; the later family's looks); each row that meets fmt, with fmt's text TOLD by the authors' own Lean function (tested against real Go, not proved from fmt's source: count such statements apart). THE CARD IS WHAT COUNTS. Prove the row's statement (the work); the ties are given (Qxb6615920aDoorTie.lean); close each card by the builder's one call (the guide's Derived/Test/ToyasCard.lean, 'card_holds'). Laid BY PROGRAM, IN A SANDBOX (cutbox-door.mjs). By AI agents, Wed Nov 11 2026. No macro, syntax, notation, axiom, sorry.
-/
import Derived.Test.Qxb6615920aDoorRows
import GoSem.ClaimSeven
namespace Go.Proofs.Qxb6615920aDoor
namespace Rows

/-- THE TIED CARD OF 'zzlaws_internal_proxy_b1.FnEscapePathSplits'. -/
def fnEscapePathSplitsCard : Claim7 := { stood := { row := fnEscapePathSplitsRow, standIns := [], harness := (true, "47059b0c34d4715f8ab92ae4dc6df9f1e7c35d4a65d2cc35f37f08843756c516"), looks := false }, kinds := [], alts := [], laidByText := true, laidKinds := [.data], laidTests := true, laidLooks := .later }
def FnEscapePathSplitsCardSaid : Prop := Claim7.holds Tryd.pinned (.plain (OpenSpec.ofChange fnEscapePathSplitsSpec)) fnEscapePathSplitsCard

/-- THE TIED CARD OF 'zzlaws_internal_proxy_b1.FnEscapePathInjective'. -/
def fnEscapePathInjectiveCard : Claim7 := { stood := { row := fnEscapePathInjectiveRow, standIns := [], harness := (true, "47059b0c34d4715f8ab92ae4dc6df9f1e7c35d4a65d2cc35f37f08843756c516"), looks := false }, kinds := [], alts := [], laidByText := true, laidKinds := [.data], laidTests := true, laidLooks := .later }
def FnEscapePathInjectiveCardSaid : Prop := Claim7.holds Tryd.pinned (.plain (OpenSpec.ofChange fnEscapePathInjectiveSpec)) fnEscapePathInjectiveCard
end Rows
end Go.Proofs.Qxb6615920aDoor
