/-
  DERIVED. GIVEN WITH THE SEED: THE CARDS: each row of YtdfehaonngccjaaGreatDoorRows.lean that lists a variable, with what it lists TIED to the program's text (the seventh form; the later family's looks); each row that meets fmt, with fmt's text TOLD by the authors' own Lean function (tested against real Go, not proved from fmt's source: count such statements apart). THE CARD IS WHAT COUNTS. Prove the row's statement (the work); the ties are given (YtdfehaonngccjaaGreatDoorTie.lean); close each card by the builder's one call (the guide's Derived/Test/ToyasCard.lean, 'card_holds'). Laid BY PROGRAM, IN A SANDBOX (cutbox-door.mjs). By AI agents, Wed Nov 11 2026. No macro, syntax, notation, axiom, sorry.
-/
import Derived.Test.YtdfehaonngccjaaGreatDoorRows
import GoSem.ClaimSeven
namespace Go.Proofs.YtdfehaonngccjaaGreatDoor
namespace Rows

/-- THE TIED CARD OF 'laws.FnResultTold'. -/
def fnResultToldCard : Claim7 := { stood := { row := fnResultToldRow, standIns := [], harness := (true, "c1341ce7ad287ef91cded774fcda5b1c11a3f10c9829a6c9ff3a4512771dd91b"), looks := true }, kinds := [], alts := [], laidByText := true, laidKinds := [.data, .data, .data, .data, .sentinel, .sentinel, .sentinel, .sentinel, .sentinel, .pinned], laidTests := true, laidLooks := .later }
def FnResultToldCardSaid : Prop := Claim7.holds Tryz.pinned (.plain (OpenSpec.ofChange fnResultToldSpec)) fnResultToldCard

/-- THE SECOND FORM's CARD OF 'laws.FnResultTold'. -/
def fnResultToldUptoCard : Claim7 := { stood := { row := fnResultToldUptoRow, standIns := [], harness := (true, "c1341ce7ad287ef91cded774fcda5b1c11a3f10c9829a6c9ff3a4512771dd91b"), looks := true }, kinds := [], alts := [], laidByText := true, laidKinds := [.data, .data, .data, .data, .sentinel, .sentinel, .sentinel, .sentinel, .sentinel, .pinned], laidTests := true, laidLooks := .later }
def FnResultToldUptoCardSaid : Prop := Claim7.holds Tryz.pinned (.plain (OpenSpec.upto fnResultToldSpec)) fnResultToldUptoCard
end Rows
end Go.Proofs.YtdfehaonngccjaaGreatDoor
