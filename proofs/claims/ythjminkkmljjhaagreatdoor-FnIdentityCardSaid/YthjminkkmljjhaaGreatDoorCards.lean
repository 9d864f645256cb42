/-
  DERIVED. GIVEN WITH THE SEED: THE CARDS: each row of YthjminkkmljjhaaGreatDoorRows.lean that lists a variable, with what it lists TIED to the program's text (the seventh form; the later family's looks); each row that meets fmt, with fmt's text TOLD by the authors' own Lean function (tested against real Go, not proved from fmt's source: count such statements apart). THE CARD IS WHAT COUNTS. Prove the row's statement (the work); the ties are given (YthjminkkmljjhaaGreatDoorTie.lean); close each card by the builder's one call (the guide's Derived/Test/ToyasCard.lean, 'card_holds'). Laid BY PROGRAM, IN A SANDBOX (cutbox-door.mjs). By AI agents, Wed Nov 11 2026. No macro, syntax, notation, axiom, sorry.
-/
import Derived.Test.YthjminkkmljjhaaGreatDoorRows
import GoSem.ClaimSeven
namespace Go.Proofs.YthjminkkmljjhaaGreatDoor
namespace Rows

/-- THE TIED CARD OF 'laws.FnIdentity'. -/
def fnIdentityCard : Claim7 := { stood := { row := fnIdentityRow, standIns := [], harness := (true, "c8932f3ec58645bd50dd48ab4e5d9f6433e431f8def6f7fa53cb30acfc71e455"), looks := false }, kinds := [], alts := [], laidByText := true, laidKinds := [.data, .widerDeep, .data, .pinned, .pinned], laidTests := true, laidLooks := .later }
def FnIdentityCardSaid : Prop := Claim7.holds Tryz.pinned (.plain (OpenSpec.ofChange fnIdentitySpec)) fnIdentityCard

/-- THE SECOND FORM's CARD OF 'laws.FnIdentity'. -/
def fnIdentityUptoCard : Claim7 := { stood := { row := fnIdentityUptoRow, standIns := [], harness := (true, "c8932f3ec58645bd50dd48ab4e5d9f6433e431f8def6f7fa53cb30acfc71e455"), looks := false }, kinds := [], alts := [], laidByText := true, laidKinds := [.data, .widerDeep, .data, .pinned, .pinned], laidTests := true, laidLooks := .later }
def FnIdentityUptoCardSaid : Prop := Claim7.holds Tryz.pinned (.plain (OpenSpec.upto fnIdentitySpec)) fnIdentityUptoCard
end Rows
end Go.Proofs.YthjminkkmljjhaaGreatDoor
