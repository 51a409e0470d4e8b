/-
  DERIVED. GIVEN WITH THE SEED: THE CARDS: each row of YtcebfkhfnjbfjaaGreatDoorRows.lean that lists a variable, with what it lists TIED to the program's text (the seventh form; the later family's looks); each row that meets fmt, with fmt's text TOLD by the authors' own Lean function (tested against real Go, not proved from fmt's source: count such statements apart). THE CARD IS WHAT COUNTS. Prove the row's statement (the work); the ties are given (YtcebfkhfnjbfjaaGreatDoorTie.lean); close each card by the builder's one call (the guide's Derived/Test/ToyasCard.lean, 'card_holds'). Laid BY PROGRAM, IN A SANDBOX (cutbox-door.mjs). By AI agents, Wed Nov 11 2026. No macro, syntax, notation, axiom, sorry.
-/
import Derived.Test.YtcebfkhfnjbfjaaGreatDoorRows
import GoSem.ClaimSeven
namespace Go.Proofs.YtcebfkhfnjbfjaaGreatDoor
namespace Rows

/-- THE TIED CARD OF 'laws.FnLRecords'. -/
def fnLRecordsCard : Claim7 := { stood := { row := fnLRecordsRow, standIns := [], harness := (true, "136e5d92288f522ae9e5ddef67c82efd4683f37efce0d5b73609dacdea3d0c11"), looks := true }, kinds := [], alts := [], laidByText := true, laidKinds := [.data, .data, .data], laidTests := true, laidLooks := .later }
def FnLRecordsCardSaid : Prop := Claim7.holds Tryz.pinned (.plain (OpenSpec.ofChange fnLRecordsSpec)) fnLRecordsCard

/-- THE SECOND FORM's CARD OF 'laws.FnLRecords'. -/
def fnLRecordsUptoCard : Claim7 := { stood := { row := fnLRecordsUptoRow, standIns := [], harness := (true, "136e5d92288f522ae9e5ddef67c82efd4683f37efce0d5b73609dacdea3d0c11"), looks := true }, kinds := [], alts := [], laidByText := true, laidKinds := [.data, .data, .data], laidTests := true, laidLooks := .later }
def FnLRecordsUptoCardSaid : Prop := Claim7.holds Tryz.pinned (.plain (OpenSpec.upto fnLRecordsSpec)) fnLRecordsUptoCard
end Rows
end Go.Proofs.YtcebfkhfnjbfjaaGreatDoor
