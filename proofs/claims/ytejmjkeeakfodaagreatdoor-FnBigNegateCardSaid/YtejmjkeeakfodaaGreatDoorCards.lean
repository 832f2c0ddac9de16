/-
  DERIVED. GIVEN WITH THE SEED: THE CARDS: each row of YtejmjkeeakfodaaGreatDoorRows.lean that lists a variable, with what it lists TIED to the program's text (the seventh form; the later family's looks); each row that meets fmt, with fmt's text TOLD by the authors' own Lean function (tested against real Go, not proved from fmt's source: count such statements apart). THE CARD IS WHAT COUNTS. Prove the row's statement (the work); the ties are given (YtejmjkeeakfodaaGreatDoorTie.lean); close each card by the builder's one call (the guide's Derived/Test/ToyasCard.lean, 'card_holds'). Laid BY PROGRAM, IN A SANDBOX (cutbox-door.mjs). By AI agents, Wed Nov 11 2026. No macro, syntax, notation, axiom, sorry.
-/
import Derived.Test.YtejmjkeeakfodaaGreatDoorRows
import GoSem.ClaimSeven
namespace Go.Proofs.YtejmjkeeakfodaaGreatDoor
namespace Rows

/-- THE TIED CARD OF 'laws.FnBigNegate'. -/
def fnBigNegateCard : Claim7 := { stood := { row := fnBigNegateRow, standIns := [], harness := (true, "5bfa2a2c46b5c7d5748d24cf20e9a77a81a91257baf308113efaae5f0bf92919"), looks := true }, kinds := [], alts := [], laidByText := true, laidKinds := [.data, .data, .widerDeep, .widerDeep, .data, .data, .data, .data, .data, .sentinel, .sentinel, .pinned, .pinned], laidTests := true, laidLooks := .later }
def FnBigNegateCardSaid : Prop := Claim7.holds Tryz.pinned (.plain (OpenSpec.ofChange fnBigNegateSpec)) fnBigNegateCard

/-- THE SECOND FORM's CARD OF 'laws.FnBigNegate'. -/
def fnBigNegateUptoCard : Claim7 := { stood := { row := fnBigNegateUptoRow, standIns := [], harness := (true, "5bfa2a2c46b5c7d5748d24cf20e9a77a81a91257baf308113efaae5f0bf92919"), looks := true }, kinds := [], alts := [], laidByText := true, laidKinds := [.data, .data, .widerDeep, .widerDeep, .data, .data, .data, .data, .data, .sentinel, .sentinel, .pinned, .pinned], laidTests := true, laidLooks := .later }
def FnBigNegateUptoCardSaid : Prop := Claim7.holds Tryz.pinned (.plain (OpenSpec.upto fnBigNegateSpec)) fnBigNegateUptoCard
end Rows
end Go.Proofs.YtejmjkeeakfodaaGreatDoor
