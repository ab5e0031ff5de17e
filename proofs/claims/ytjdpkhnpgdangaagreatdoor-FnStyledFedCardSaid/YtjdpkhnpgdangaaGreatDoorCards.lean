/-
  DERIVED. GIVEN WITH THE SEED: THE CARDS: each row of YtjdpkhnpgdangaaGreatDoorRows.lean that lists a variable, with what it lists TIED to the program's text (the seventh form; the later family's looks); each row that meets fmt, with fmt's text TOLD by the authors' own Lean function (tested against real Go, not proved from fmt's source: count such statements apart). THE CARD IS WHAT COUNTS. Prove the row's statement (the work); the ties are given (YtjdpkhnpgdangaaGreatDoorTie.lean); close each card by the builder's one call (the guide's Derived/Test/ToyasCard.lean, 'card_holds'). Laid BY PROGRAM, IN A SANDBOX (cutbox-door.mjs). By AI agents, Wed Nov 11 2026. No macro, syntax, notation, axiom, sorry.
-/
import Derived.Test.YtjdpkhnpgdangaaGreatDoorRows
import GoSem.ClaimSeven
namespace Go.Proofs.YtjdpkhnpgdangaaGreatDoor
namespace Rows

/-- THE TIED CARD OF 'laws.FnStyledFed'. -/
def fnStyledFedCard : Claim7 := { stood := { row := fnStyledFedRow, standIns := [], harness := (true, "8a1c6b2d97e62ca7625037f3ff949ff8401103cefbc542edb4e739a7ead3800d"), looks := true }, kinds := [], alts := [], laidByText := true, laidKinds := [.data, .data, .data, .data, .pinned], laidTests := true, laidLooks := .later }
def FnStyledFedCardSaid : Prop := Claim7.holds Tryz.pinned (.plain (OpenSpec.ofChange fnStyledFedSpec)) fnStyledFedCard

/-- THE SECOND FORM's CARD OF 'laws.FnStyledFed'. -/
def fnStyledFedUptoCard : Claim7 := { stood := { row := fnStyledFedUptoRow, standIns := [], harness := (true, "8a1c6b2d97e62ca7625037f3ff949ff8401103cefbc542edb4e739a7ead3800d"), looks := true }, kinds := [], alts := [], laidByText := true, laidKinds := [.data, .data, .data, .data, .pinned], laidTests := true, laidLooks := .later }
def FnStyledFedUptoCardSaid : Prop := Claim7.holds Tryz.pinned (.plain (OpenSpec.upto fnStyledFedSpec)) fnStyledFedUptoCard
end Rows
end Go.Proofs.YtjdpkhnpgdangaaGreatDoor
