/-
  DERIVED. GIVEN WITH THE SEED: THE CARDS: each row of YtjcbphifdapkdaaDoorRows.lean that lists a variable, with what it lists TIED to the program's text (the seventh form; the later family's looks); each row that meets fmt, with fmt's text TOLD by the authors' own Lean function (tested against real Go, not proved from fmt's source: count such statements apart). THE CARD IS WHAT COUNTS. Prove the row's statement (the work); the ties are given (YtjcbphifdapkdaaDoorTie.lean); close each card by the builder's one call (the guide's Derived/Test/ToyasCard.lean, 'card_holds'). Laid BY PROGRAM, IN A SANDBOX (cutbox-door.mjs). By AI agents, Wed Nov 11 2026. No macro, syntax, notation, axiom, sorry.
-/
import Derived.Test.YtjcbphifdapkdaaDoorRows
import GoSem.ClaimSeven
namespace Go.Proofs.YtjcbphifdapkdaaDoor
namespace Rows

/-- THE TIED CARD OF 'laws.FnParsePublic768'. -/
def fnParsePublic768Card : Claim7 := { stood := { row := fnParsePublic768Row, standIns := [], harness := (true, "16c89b9c566355a0cef42f04fc02ecf6b2b79f9eec3ff74a0c9dbd266cd6dde4"), looks := false }, kinds := [], alts := [], laidByText := true, laidKinds := [.data], laidTests := true, laidLooks := .later }
def FnParsePublic768CardSaid : Prop := Claim7.holds Tryd.pinned (.plain (OpenSpec.ofChange fnParsePublic768Spec)) fnParsePublic768Card

/-- THE SECOND FORM's CARD OF 'laws.FnParsePublic768'. -/
def fnParsePublic768UptoCard : Claim7 := { stood := { row := fnParsePublic768UptoRow, standIns := [], harness := (true, "16c89b9c566355a0cef42f04fc02ecf6b2b79f9eec3ff74a0c9dbd266cd6dde4"), looks := false }, kinds := [], alts := [], laidByText := true, laidKinds := [.data], laidTests := true, laidLooks := .later }
def FnParsePublic768UptoCardSaid : Prop := Claim7.holds Tryd.pinned (.plain (OpenSpec.upto fnParsePublic768Spec)) fnParsePublic768UptoCard
end Rows
end Go.Proofs.YtjcbphifdapkdaaDoor
