/-
  DERIVED. GIVEN WITH THE SEED: THE CARDS: each row of YtllikhbafaohgaaGreatDoorRows.lean that lists a variable, with what it lists TIED to the program's text (the seventh form; the later family's looks); each row that meets fmt, with fmt's text TOLD by the authors' own Lean function (tested against real Go, not proved from fmt's source: count such statements apart). THE CARD IS WHAT COUNTS. Prove the row's statement (the work); the ties are given (YtllikhbafaohgaaGreatDoorTie.lean); close each card by the builder's one call (the guide's Derived/Test/ToyasCard.lean, 'card_holds'). Laid BY PROGRAM, IN A SANDBOX (cutbox-door.mjs). By AI agents, Wed Nov 11 2026. No macro, syntax, notation, axiom, sorry.
-/
import Derived.Test.YtllikhbafaohgaaGreatDoorRows
import GoSem.ClaimSeven
namespace Go.Proofs.YtllikhbafaohgaaGreatDoor
namespace Rows

/-- THE TIED CARD OF 'laws.FnIdxSum'. -/
def fnIdxSumCard : Claim7 := { stood := { row := fnIdxSumRow, standIns := [], harness := (true, "0311d81f5baaf43a2f8177786b6a5d34ae26eab18a516fc7fde08e1ca956bf98"), looks := true }, kinds := [], alts := [], laidByText := true, laidKinds := [.data, .data, .data, .sentinel, .sentinel, .sentinel, .sentinel, .sentinel, .sentinel, .sentinel, .sentinel, .sentinel, .sentinel, .sentinel, .sentinel, .sentinel, .sentinel, .sentinel, .sentinel, .sentinel], laidTests := true, laidLooks := .later }
def FnIdxSumCardSaid : Prop := Claim7.holds Tryz.pinned (.plain (OpenSpec.ofChange fnIdxSumSpec)) fnIdxSumCard

/-- THE SECOND FORM's CARD OF 'laws.FnIdxSum'. -/
def fnIdxSumUptoCard : Claim7 := { stood := { row := fnIdxSumUptoRow, standIns := [], harness := (true, "0311d81f5baaf43a2f8177786b6a5d34ae26eab18a516fc7fde08e1ca956bf98"), looks := true }, kinds := [], alts := [], laidByText := true, laidKinds := [.data, .data, .data, .sentinel, .sentinel, .sentinel, .sentinel, .sentinel, .sentinel, .sentinel, .sentinel, .sentinel, .sentinel, .sentinel, .sentinel, .sentinel, .sentinel, .sentinel, .sentinel, .sentinel], laidTests := true, laidLooks := .later }
def FnIdxSumUptoCardSaid : Prop := Claim7.holds Tryz.pinned (.plain (OpenSpec.upto fnIdxSumSpec)) fnIdxSumUptoCard
end Rows
end Go.Proofs.YtllikhbafaohgaaGreatDoor
