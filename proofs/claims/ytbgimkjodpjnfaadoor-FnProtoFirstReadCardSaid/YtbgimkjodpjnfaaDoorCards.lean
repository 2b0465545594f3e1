/-
  DERIVED. GIVEN WITH THE SEED: THE CARDS: each row of YtbgimkjodpjnfaaDoorRows.lean that lists a variable, with what it lists TIED to the program's text (the seventh form; the later family's looks); each row that meets fmt, with fmt's text TOLD by the authors' own Lean function (tested against real Go, not proved from fmt's source: count such statements apart). THE CARD IS WHAT COUNTS. Prove the row's statement (the work); the ties are given (YtbgimkjodpjnfaaDoorTie.lean); close each card by the builder's one call (the guide's Derived/Test/ToyasCard.lean, 'card_holds'). Laid BY PROGRAM, IN A SANDBOX (cutbox-door.mjs). By AI agents, Wed Nov 11 2026. No macro, syntax, notation, axiom, sorry.
-/
import Derived.Test.YtbgimkjodpjnfaaDoorRows
import GoSem.ClaimSeven
namespace Go.Proofs.YtbgimkjodpjnfaaDoor
namespace Rows

/-- THE TIED CARD OF 'laws.FnConfSet'. -/
def fnConfSetCard : Claim7 := { stood := { row := fnConfSetRow, standIns := [], harness := (true, "bb1fecfba009565e4652cda59581865bf3b4e99e0417c5f04467a0ff0a217b50"), looks := true }, kinds := [], alts := [], laidByText := true, laidKinds := [.data, .data, .data, .pinned, .pinned], laidTests := true, laidLooks := .later }
def FnConfSetCardSaid : Prop := Claim7.holds Tryd.pinned (.plain (OpenSpec.ofChange fnConfSetSpec)) fnConfSetCard

/-- THE TIED CARD OF 'laws.FnProtoFirstRead'. -/
def fnProtoFirstReadCard : Claim7 := { stood := { row := fnProtoFirstReadRow, standIns := [], harness := (true, "bb1fecfba009565e4652cda59581865bf3b4e99e0417c5f04467a0ff0a217b50"), looks := true }, kinds := [], alts := [], laidByText := true, laidKinds := [.data, .sentinel, .sentinel, .sentinel, .listed, .data, .sentinel, .sentinel, .pinned], laidTests := true, laidLooks := .later }
def FnProtoFirstReadCardSaid : Prop := Claim7.holds Tryd.pinned (.plain (OpenSpec.ofChange fnProtoFirstReadSpec)) fnProtoFirstReadCard

/-- THE SECOND FORM's CARD OF 'laws.FnConfSet'. -/
def fnConfSetUptoCard : Claim7 := { stood := { row := fnConfSetUptoRow, standIns := [], harness := (true, "bb1fecfba009565e4652cda59581865bf3b4e99e0417c5f04467a0ff0a217b50"), looks := true }, kinds := [], alts := [], laidByText := true, laidKinds := [.data, .data, .data, .pinned, .pinned], laidTests := true, laidLooks := .later }
def FnConfSetUptoCardSaid : Prop := Claim7.holds Tryd.pinned (.plain (OpenSpec.upto fnConfSetSpec)) fnConfSetUptoCard

/-- THE SECOND FORM's CARD OF 'laws.FnProtoFirstRead'. -/
def fnProtoFirstReadUptoCard : Claim7 := { stood := { row := fnProtoFirstReadUptoRow, standIns := [], harness := (true, "bb1fecfba009565e4652cda59581865bf3b4e99e0417c5f04467a0ff0a217b50"), looks := true }, kinds := [], alts := [], laidByText := true, laidKinds := [.data, .sentinel, .sentinel, .sentinel, .listed, .data, .sentinel, .sentinel, .pinned], laidTests := true, laidLooks := .later }
def FnProtoFirstReadUptoCardSaid : Prop := Claim7.holds Tryd.pinned (.plain (OpenSpec.upto fnProtoFirstReadSpec)) fnProtoFirstReadUptoCard
end Rows
end Go.Proofs.YtbgimkjodpjnfaaDoor
