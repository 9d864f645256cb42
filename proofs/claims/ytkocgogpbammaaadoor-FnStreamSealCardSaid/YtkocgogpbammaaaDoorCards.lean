/-
  DERIVED. GIVEN WITH THE SEED: THE CARDS: each row of YtkocgogpbammaaaDoorRows.lean that lists a variable, with what it lists TIED to the program's text (the seventh form; the later family's looks); each row that meets fmt, with fmt's text TOLD by the authors' own Lean function (tested against real Go, not proved from fmt's source: count such statements apart). THE CARD IS WHAT COUNTS. Prove the row's statement (the work); the ties are given (YtkocgogpbammaaaDoorTie.lean); close each card by the builder's one call (the guide's Derived/Test/ToyasCard.lean, 'card_holds'). Laid BY PROGRAM, IN A SANDBOX (cutbox-door.mjs). By AI agents, Wed Nov 11 2026. No macro, syntax, notation, axiom, sorry.
-/
import Derived.Test.YtkocgogpbammaaaDoorRows
import GoSem.ClaimSeven
namespace Go.Proofs.YtkocgogpbammaaaDoor
namespace Rows

/-- THE TIED CARD OF 'laws.FnStreamSeal'. -/
def fnStreamSealCard : Claim7 := { stood := { row := fnStreamSealRow, standIns := [], harness := (true, "73aa0f108ee0999549c303d8ae9030c6df7e97c710e577b5dab62d677edf8c5a"), looks := false }, kinds := [], alts := [], laidByText := true, laidKinds := [.sentinel], laidTests := true, laidLooks := .later }
def FnStreamSealCardSaid : Prop := Claim7.holds Tryd.pinned (.plain (OpenSpec.ofChange fnStreamSealSpec)) fnStreamSealCard

/-- THE SECOND FORM's CARD OF 'laws.FnStreamSeal'. -/
def fnStreamSealUptoCard : Claim7 := { stood := { row := fnStreamSealUptoRow, standIns := [], harness := (true, "73aa0f108ee0999549c303d8ae9030c6df7e97c710e577b5dab62d677edf8c5a"), looks := false }, kinds := [], alts := [], laidByText := true, laidKinds := [.sentinel], laidTests := true, laidLooks := .later }
def FnStreamSealUptoCardSaid : Prop := Claim7.holds Tryd.pinned (.plain (OpenSpec.upto fnStreamSealSpec)) fnStreamSealUptoCard
end Rows
end Go.Proofs.YtkocgogpbammaaaDoor
