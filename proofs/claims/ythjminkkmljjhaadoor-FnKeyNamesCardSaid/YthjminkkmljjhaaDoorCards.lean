/-
  DERIVED. GIVEN WITH THE SEED: THE CARDS: each row of YthjminkkmljjhaaDoorRows.lean that lists a variable, with what it lists TIED to the program's text (the seventh form; the later family's looks); each row that meets fmt, with fmt's text TOLD by the authors' own Lean function (tested against real Go, not proved from fmt's source: count such statements apart). THE CARD IS WHAT COUNTS. Prove the row's statement (the work); the ties are given (YthjminkkmljjhaaDoorTie.lean); close each card by the builder's one call (the guide's Derived/Test/ToyasCard.lean, 'card_holds'). Laid BY PROGRAM, IN A SANDBOX (cutbox-door.mjs). By AI agents, Wed Nov 11 2026. No macro, syntax, notation, axiom, sorry.
-/
import Derived.Test.YthjminkkmljjhaaDoorRows
import GoSem.ClaimSeven
namespace Go.Proofs.YthjminkkmljjhaaDoor
namespace Rows

/-- THE TIED CARD OF 'laws.FnBech32Turned'. -/
def fnBech32TurnedCard : Claim7 := { stood := { row := fnBech32TurnedRow, standIns := [], harness := (true, "da89a886023f7151eb24a67de58464ca793b5349d9555abd9c4679c39fbaeaad"), looks := false }, kinds := [], alts := [], laidByText := true, laidKinds := [.data, .data, .pinned, .pinned], laidTests := true, laidLooks := .later }
def FnBech32TurnedCardSaid : Prop := Claim7.holds Tryd.pinned (.plain (OpenSpec.ofChange fnBech32TurnedSpec)) fnBech32TurnedCard

/-- THE TIED CARD OF 'laws.FnBech32'. -/
def fnBech32Card : Claim7 := { stood := { row := fnBech32Row, standIns := [], harness := (true, "da89a886023f7151eb24a67de58464ca793b5349d9555abd9c4679c39fbaeaad"), looks := false }, kinds := [], alts := [], laidByText := true, laidKinds := [.data, .data, .pinned, .pinned], laidTests := true, laidLooks := .later }
def FnBech32CardSaid : Prop := Claim7.holds Tryd.pinned (.plain (OpenSpec.ofChange fnBech32Spec)) fnBech32Card

/-- THE TIED CARD OF 'laws.FnRecipient'. -/
def fnRecipientCard : Claim7 := { stood := { row := fnRecipientRow, standIns := [], harness := (true, "da89a886023f7151eb24a67de58464ca793b5349d9555abd9c4679c39fbaeaad"), looks := false }, kinds := [], alts := [], laidByText := true, laidKinds := [.data, .data, .pinned, .pinned], laidTests := true, laidLooks := .later }
def FnRecipientCardSaid : Prop := Claim7.holds Tryd.pinned (.plain (OpenSpec.ofChange fnRecipientSpec)) fnRecipientCard

/-- THE TIED CARD OF 'laws.FnKeyNames'. -/
def fnKeyNamesCard : Claim7 := { stood := { row := fnKeyNamesRow, standIns := [], harness := (true, "da89a886023f7151eb24a67de58464ca793b5349d9555abd9c4679c39fbaeaad"), looks := false }, kinds := [], alts := [], laidByText := true, laidKinds := [.data, .widerDeep, .data, .pinned, .pinned], laidTests := true, laidLooks := .later }
def FnKeyNamesCardSaid : Prop := Claim7.holds Tryd.pinned (.plain (OpenSpec.ofChange fnKeyNamesSpec)) fnKeyNamesCard

/-- THE SECOND FORM's CARD OF 'laws.FnBech32Turned'. -/
def fnBech32TurnedUptoCard : Claim7 := { stood := { row := fnBech32TurnedUptoRow, standIns := [], harness := (true, "da89a886023f7151eb24a67de58464ca793b5349d9555abd9c4679c39fbaeaad"), looks := false }, kinds := [], alts := [], laidByText := true, laidKinds := [.data, .data, .pinned, .pinned], laidTests := true, laidLooks := .later }
def FnBech32TurnedUptoCardSaid : Prop := Claim7.holds Tryd.pinned (.plain (OpenSpec.upto fnBech32TurnedSpec)) fnBech32TurnedUptoCard

/-- THE SECOND FORM's CARD OF 'laws.FnBech32'. -/
def fnBech32UptoCard : Claim7 := { stood := { row := fnBech32UptoRow, standIns := [], harness := (true, "da89a886023f7151eb24a67de58464ca793b5349d9555abd9c4679c39fbaeaad"), looks := false }, kinds := [], alts := [], laidByText := true, laidKinds := [.data, .data, .pinned, .pinned], laidTests := true, laidLooks := .later }
def FnBech32UptoCardSaid : Prop := Claim7.holds Tryd.pinned (.plain (OpenSpec.upto fnBech32Spec)) fnBech32UptoCard

/-- THE SECOND FORM's CARD OF 'laws.FnRecipient'. -/
def fnRecipientUptoCard : Claim7 := { stood := { row := fnRecipientUptoRow, standIns := [], harness := (true, "da89a886023f7151eb24a67de58464ca793b5349d9555abd9c4679c39fbaeaad"), looks := false }, kinds := [], alts := [], laidByText := true, laidKinds := [.data, .data, .pinned, .pinned], laidTests := true, laidLooks := .later }
def FnRecipientUptoCardSaid : Prop := Claim7.holds Tryd.pinned (.plain (OpenSpec.upto fnRecipientSpec)) fnRecipientUptoCard

/-- THE SECOND FORM's CARD OF 'laws.FnKeyNames'. -/
def fnKeyNamesUptoCard : Claim7 := { stood := { row := fnKeyNamesUptoRow, standIns := [], harness := (true, "da89a886023f7151eb24a67de58464ca793b5349d9555abd9c4679c39fbaeaad"), looks := false }, kinds := [], alts := [], laidByText := true, laidKinds := [.data, .widerDeep, .data, .pinned, .pinned], laidTests := true, laidLooks := .later }
def FnKeyNamesUptoCardSaid : Prop := Claim7.holds Tryd.pinned (.plain (OpenSpec.upto fnKeyNamesSpec)) fnKeyNamesUptoCard
end Rows
end Go.Proofs.YthjminkkmljjhaaDoor
