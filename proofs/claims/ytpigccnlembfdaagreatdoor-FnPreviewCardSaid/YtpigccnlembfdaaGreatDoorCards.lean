/-
  DERIVED. GIVEN WITH THE SEED: THE CARDS: each row of YtpigccnlembfdaaGreatDoorRows.lean that lists a variable, with what it lists TIED to the program's text (the seventh form; the later family's looks); each row that meets fmt, with fmt's text TOLD by the authors' own Lean function (tested against real Go, not proved from fmt's source: count such statements apart). THE CARD IS WHAT COUNTS. Prove the row's statement (the work); the ties are given (YtpigccnlembfdaaGreatDoorTie.lean); close each card by the builder's one call (the guide's Derived/Test/ToyasCard.lean, 'card_holds'). Laid BY PROGRAM, IN A SANDBOX (cutbox-door.mjs). By AI agents, Wed Nov 11 2026. No macro, syntax, notation, axiom, sorry.
-/
import Derived.Test.YtpigccnlembfdaaGreatDoorRows
import GoSem.ClaimSeven
namespace Go.Proofs.YtpigccnlembfdaaGreatDoor
namespace Rows

/-- THE TIED CARD OF 'laws.FnPreview'. -/
def fnPreviewCard : Claim7 := { stood := { row := fnPreviewRow, standIns := [], harness := (true, "3ab9c57c110960ee564e03e26008453dfd7e1a430dbd5dc0b160a4400e85bbff"), looks := true }, kinds := [], alts := [], laidByText := true, laidKinds := [.data, .pinned], laidTests := true, laidLooks := .later }
def FnPreviewCardSaid : Prop := Claim7.holds Tryz.pinned (.plain (OpenSpec.ofChange fnPreviewSpec)) fnPreviewCard

/-- THE TIED CARD OF 'laws.FnFormatSh'. -/
def fnFormatShCard : Claim7 := { stood := { row := fnFormatShRow, standIns := [], harness := (true, "3ab9c57c110960ee564e03e26008453dfd7e1a430dbd5dc0b160a4400e85bbff"), looks := true }, kinds := [], alts := [], laidByText := true, laidKinds := [.data, .pinned], laidTests := true, laidLooks := .later }
def FnFormatShCardSaid : Prop := Claim7.holds Tryz.pinned (.plain (OpenSpec.ofChange fnFormatShSpec)) fnFormatShCard

/-- THE TIED CARD OF 'laws.FnShBack'. -/
def fnShBackCard : Claim7 := { stood := { row := fnShBackRow, standIns := [], harness := (true, "3ab9c57c110960ee564e03e26008453dfd7e1a430dbd5dc0b160a4400e85bbff"), looks := true }, kinds := [], alts := [], laidByText := true, laidKinds := [.data, .pinned], laidTests := true, laidLooks := .later }
def FnShBackCardSaid : Prop := Claim7.holds Tryz.pinned (.plain (OpenSpec.ofChange fnShBackSpec)) fnShBackCard

/-- THE SECOND FORM's CARD OF 'laws.FnPreview'. -/
def fnPreviewUptoCard : Claim7 := { stood := { row := fnPreviewUptoRow, standIns := [], harness := (true, "3ab9c57c110960ee564e03e26008453dfd7e1a430dbd5dc0b160a4400e85bbff"), looks := true }, kinds := [], alts := [], laidByText := true, laidKinds := [.data, .pinned], laidTests := true, laidLooks := .later }
def FnPreviewUptoCardSaid : Prop := Claim7.holds Tryz.pinned (.plain (OpenSpec.upto fnPreviewSpec)) fnPreviewUptoCard

/-- THE SECOND FORM's CARD OF 'laws.FnFormatSh'. -/
def fnFormatShUptoCard : Claim7 := { stood := { row := fnFormatShUptoRow, standIns := [], harness := (true, "3ab9c57c110960ee564e03e26008453dfd7e1a430dbd5dc0b160a4400e85bbff"), looks := true }, kinds := [], alts := [], laidByText := true, laidKinds := [.data, .pinned], laidTests := true, laidLooks := .later }
def FnFormatShUptoCardSaid : Prop := Claim7.holds Tryz.pinned (.plain (OpenSpec.upto fnFormatShSpec)) fnFormatShUptoCard

/-- THE SECOND FORM's CARD OF 'laws.FnShBack'. -/
def fnShBackUptoCard : Claim7 := { stood := { row := fnShBackUptoRow, standIns := [], harness := (true, "3ab9c57c110960ee564e03e26008453dfd7e1a430dbd5dc0b160a4400e85bbff"), looks := true }, kinds := [], alts := [], laidByText := true, laidKinds := [.data, .pinned], laidTests := true, laidLooks := .later }
def FnShBackUptoCardSaid : Prop := Claim7.holds Tryz.pinned (.plain (OpenSpec.upto fnShBackSpec)) fnShBackUptoCard
end Rows
end Go.Proofs.YtpigccnlembfdaaGreatDoor
