/-
  DERIVED. GIVEN WITH THE SEED: THE CARDS: each row of YtiibgimanfkhdaaDoorRows.lean that lists a variable, with what it lists TIED to the program's text (the seventh form; the later family's looks); each row that meets fmt, with fmt's text TOLD by the authors' own Lean function (tested against real Go, not proved from fmt's source: count such statements apart). THE CARD IS WHAT COUNTS. Prove the row's statement (the work); the ties are given (YtiibgimanfkhdaaDoorTie.lean); close each card by the builder's one call (the guide's Derived/Test/ToyasCard.lean, 'card_holds'). Laid BY PROGRAM, IN A SANDBOX (cutbox-door.mjs). By AI agents, Wed Nov 11 2026. No macro, syntax, notation, axiom, sorry.
-/
import Derived.Test.YtiibgimanfkhdaaDoorRows
import GoSem.ClaimSeven
namespace Go.Proofs.YtiibgimanfkhdaaDoor
namespace Rows

/-- THE TIED CARD OF 'girolaw05.IdentMakeISIN'. -/
def identMakeISINCard : Claim7 := { stood := { row := identMakeISINRow, standIns := [], harness := (true, "1ed56c1397328037338d5eb26c9193f87f45048966f473b1b4baeac273353ad8"), looks := false }, kinds := [], alts := [], laidByText := true, laidKinds := [.data, .data, .data, .funcsDeep], laidTests := true, laidLooks := .later }
def IdentMakeISINCardSaid : Prop := Claim7.holds Tryd.pinned (.plain (OpenSpec.ofChange identMakeISINSpec)) identMakeISINCard

/-- THE SECOND FORM's CARD OF 'girolaw05.IdentMakeISIN'. -/
def identMakeISINUptoCard : Claim7 := { stood := { row := identMakeISINUptoRow, standIns := [], harness := (true, "1ed56c1397328037338d5eb26c9193f87f45048966f473b1b4baeac273353ad8"), looks := false }, kinds := [], alts := [], laidByText := true, laidKinds := [.data, .data, .data, .funcsDeep], laidTests := true, laidLooks := .later }
def IdentMakeISINUptoCardSaid : Prop := Claim7.holds Tryd.pinned (.plain (OpenSpec.upto identMakeISINSpec)) identMakeISINUptoCard
end Rows
end Go.Proofs.YtiibgimanfkhdaaDoor
