/-
  DERIVED. GIVEN WITH THE SEED: THE CARDS: each row of YtpigccnlembfdaaDoorRows.lean that lists a variable, with what it lists TIED to the program's text (the seventh form; the later family's looks); each row that meets fmt, with fmt's text TOLD by the authors' own Lean function (tested against real Go, not proved from fmt's source: count such statements apart). THE CARD IS WHAT COUNTS. Prove the row's statement (the work); the ties are given (YtpigccnlembfdaaDoorTie.lean); close each card by the builder's one call (the guide's Derived/Test/ToyasCard.lean, 'card_holds'). Laid BY PROGRAM, IN A SANDBOX (cutbox-door.mjs). By AI agents, Wed Nov 11 2026. No macro, syntax, notation, axiom, sorry.
-/
import Derived.Test.YtpigccnlembfdaaDoorRows
import GoSem.ClaimSeven
namespace Go.Proofs.YtpigccnlembfdaaDoor
namespace Rows

/-- THE TIED CARD OF 'laws.FnToBoolean'. -/
def fnToBooleanCard : Claim7 := { stood := { row := fnToBooleanRow, standIns := [], harness := (true, "835322c94384f8292af80cdd364588110bb2d8b3282c2992ad2d05b95ea9f6ca"), looks := true }, kinds := [], alts := [], laidByText := true, laidKinds := [.data, .pinned], laidTests := true, laidLooks := .later }
def FnToBooleanCardSaid : Prop := Claim7.holds Tryd.pinned (.plain (OpenSpec.ofChange fnToBooleanSpec)) fnToBooleanCard

/-- THE TIED CARD OF 'laws.FnMergeAgain'. -/
def fnMergeAgainCard : Claim7 := { stood := { row := fnMergeAgainRow, standIns := [], harness := (true, "835322c94384f8292af80cdd364588110bb2d8b3282c2992ad2d05b95ea9f6ca"), looks := true }, kinds := [], alts := [], laidByText := true, laidKinds := [.data, .pinned], laidTests := true, laidLooks := .later }
def FnMergeAgainCardSaid : Prop := Claim7.holds Tryd.pinned (.plain (OpenSpec.ofChange fnMergeAgainSpec)) fnMergeAgainCard

/-- THE SECOND FORM's CARD OF 'laws.FnToBoolean'. -/
def fnToBooleanUptoCard : Claim7 := { stood := { row := fnToBooleanUptoRow, standIns := [], harness := (true, "835322c94384f8292af80cdd364588110bb2d8b3282c2992ad2d05b95ea9f6ca"), looks := true }, kinds := [], alts := [], laidByText := true, laidKinds := [.data, .pinned], laidTests := true, laidLooks := .later }
def FnToBooleanUptoCardSaid : Prop := Claim7.holds Tryd.pinned (.plain (OpenSpec.upto fnToBooleanSpec)) fnToBooleanUptoCard

/-- THE SECOND FORM's CARD OF 'laws.FnMergeAgain'. -/
def fnMergeAgainUptoCard : Claim7 := { stood := { row := fnMergeAgainUptoRow, standIns := [], harness := (true, "835322c94384f8292af80cdd364588110bb2d8b3282c2992ad2d05b95ea9f6ca"), looks := true }, kinds := [], alts := [], laidByText := true, laidKinds := [.data, .pinned], laidTests := true, laidLooks := .later }
def FnMergeAgainUptoCardSaid : Prop := Claim7.holds Tryd.pinned (.plain (OpenSpec.upto fnMergeAgainSpec)) fnMergeAgainUptoCard
end Rows
end Go.Proofs.YtpigccnlembfdaaDoor
