/-
  DERIVED. GIVEN WITH THE SEED: THE CARDS: each row of YtomdhahnfejfpaaDoorRows.lean that lists a variable, with what it lists TIED to the program's text (the seventh form; the later family's looks); each row that meets fmt, with fmt's text TOLD by the authors' own Lean function (tested against real Go, not proved from fmt's source: count such statements apart). THE CARD IS WHAT COUNTS. Prove the row's statement (the work); the ties are given (YtomdhahnfejfpaaDoorTie.lean); close each card by the builder's one call (the guide's Derived/Test/ToyasCard.lean, 'card_holds'). Laid BY PROGRAM, IN A SANDBOX (cutbox-door.mjs). By AI agents, Wed Nov 11 2026. No macro, syntax, notation, axiom, sorry.
-/
import Derived.Test.YtomdhahnfejfpaaDoorRows
import GoSem.ClaimSeven
namespace Go.Proofs.YtomdhahnfejfpaaDoor
namespace Rows

/-- THE TIED CARD OF 'laws.FnProtoNak'. -/
def fnProtoNakCard : Claim7 := { stood := { row := fnProtoNakRow, standIns := [], harness := (true, "7154a9c60f0a417f52705e9d61365416816acc8a98be1ec19ceb0aa0cfd4a2f4"), looks := true }, kinds := [], alts := [], laidByText := true, laidKinds := [.data, .sentinel, .sentinel, .sentinel, .sentinel, .listed, .data, .sentinel, .sentinel, .sentinel, .sentinel, .sentinel, .pinned], laidTests := true, laidLooks := .later }
def FnProtoNakCardSaid : Prop := Claim7.holds Tryd.pinned (.plain (OpenSpec.ofChange fnProtoNakSpec)) fnProtoNakCard

/-- THE SECOND FORM's CARD OF 'laws.FnProtoNak'. -/
def fnProtoNakUptoCard : Claim7 := { stood := { row := fnProtoNakUptoRow, standIns := [], harness := (true, "7154a9c60f0a417f52705e9d61365416816acc8a98be1ec19ceb0aa0cfd4a2f4"), looks := true }, kinds := [], alts := [], laidByText := true, laidKinds := [.data, .sentinel, .sentinel, .sentinel, .sentinel, .listed, .data, .sentinel, .sentinel, .sentinel, .sentinel, .sentinel, .pinned], laidTests := true, laidLooks := .later }
def FnProtoNakUptoCardSaid : Prop := Claim7.holds Tryd.pinned (.plain (OpenSpec.upto fnProtoNakSpec)) fnProtoNakUptoCard
end Rows
end Go.Proofs.YtomdhahnfejfpaaDoor
