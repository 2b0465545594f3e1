/-
  DERIVED. GIVEN WITH THE SEED: THE CARDS: each row of YtkknoionjppegaaDoorRows.lean that lists a variable, with what it lists TIED to the program's text (the seventh form; the later family's looks); each row that meets fmt, with fmt's text TOLD by the authors' own Lean function (tested against real Go, not proved from fmt's source: count such statements apart). THE CARD IS WHAT COUNTS. Prove the row's statement (the work); the ties are given (YtkknoionjppegaaDoorTie.lean); close each card by the builder's one call (the guide's Derived/Test/ToyasCard.lean, 'card_holds'). Laid BY PROGRAM, IN A SANDBOX (cutbox-door.mjs). By AI agents, Wed Nov 11 2026. No macro, syntax, notation, axiom, sorry.
-/
import Derived.Test.YtkknoionjppegaaDoorRows
import GoSem.ClaimSeven
namespace Go.Proofs.YtkknoionjppegaaDoor
namespace Rows

/-- THE TIED CARD OF 'laws.FnDeltaDiffEdit'. -/
def fnDeltaDiffEditCard : Claim7 := { stood := { row := fnDeltaDiffEditRow, standIns := [], harness := (true, "f3df69715a2df2a81e48941930cbb3e69efbbd1aea8ff29091378231c406696c"), looks := false }, kinds := [], alts := [], laidByText := true, laidKinds := [.sentinel, .data, .data, .sentinel, .sentinel, .data, .data, .sentinel], laidTests := true, laidLooks := .later }
def FnDeltaDiffEditCardSaid : Prop := Claim7.holds Tryd.pinned (.plain (OpenSpec.ofChange fnDeltaDiffEditSpec)) fnDeltaDiffEditCard

/-- THE TIED CARD OF 'laws.FnDeltaDiffRead'. -/
def fnDeltaDiffReadCard : Claim7 := { stood := { row := fnDeltaDiffReadRow, standIns := [], harness := (true, "f3df69715a2df2a81e48941930cbb3e69efbbd1aea8ff29091378231c406696c"), looks := false }, kinds := [], alts := [], laidByText := true, laidKinds := [.sentinel, .data, .data, .sentinel, .sentinel, .data, .data, .sentinel], laidTests := true, laidLooks := .later }
def FnDeltaDiffReadCardSaid : Prop := Claim7.holds Tryd.pinned (.plain (OpenSpec.ofChange fnDeltaDiffReadSpec)) fnDeltaDiffReadCard

/-- THE SECOND FORM's CARD OF 'laws.FnDeltaDiffEdit'. -/
def fnDeltaDiffEditUptoCard : Claim7 := { stood := { row := fnDeltaDiffEditUptoRow, standIns := [], harness := (true, "f3df69715a2df2a81e48941930cbb3e69efbbd1aea8ff29091378231c406696c"), looks := false }, kinds := [], alts := [], laidByText := true, laidKinds := [.sentinel, .data, .data, .sentinel, .sentinel, .data, .data, .sentinel], laidTests := true, laidLooks := .later }
def FnDeltaDiffEditUptoCardSaid : Prop := Claim7.holds Tryd.pinned (.plain (OpenSpec.upto fnDeltaDiffEditSpec)) fnDeltaDiffEditUptoCard

/-- THE SECOND FORM's CARD OF 'laws.FnDeltaDiffRead'. -/
def fnDeltaDiffReadUptoCard : Claim7 := { stood := { row := fnDeltaDiffReadUptoRow, standIns := [], harness := (true, "f3df69715a2df2a81e48941930cbb3e69efbbd1aea8ff29091378231c406696c"), looks := false }, kinds := [], alts := [], laidByText := true, laidKinds := [.sentinel, .data, .data, .sentinel, .sentinel, .data, .data, .sentinel], laidTests := true, laidLooks := .later }
def FnDeltaDiffReadUptoCardSaid : Prop := Claim7.holds Tryd.pinned (.plain (OpenSpec.upto fnDeltaDiffReadSpec)) fnDeltaDiffReadUptoCard
end Rows
end Go.Proofs.YtkknoionjppegaaDoor
