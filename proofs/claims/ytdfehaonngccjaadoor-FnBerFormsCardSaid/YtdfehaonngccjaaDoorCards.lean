/-
  DERIVED. GIVEN WITH THE SEED: THE CARDS: each row of YtdfehaonngccjaaDoorRows.lean that lists a variable, with what it lists TIED to the program's text (the seventh form; the later family's looks); each row that meets fmt, with fmt's text TOLD by the authors' own Lean function (tested against real Go, not proved from fmt's source: count such statements apart). THE CARD IS WHAT COUNTS. Prove the row's statement (the work); the ties are given (YtdfehaonngccjaaDoorTie.lean); close each card by the builder's one call (the guide's Derived/Test/ToyasCard.lean, 'card_holds'). Laid BY PROGRAM, IN A SANDBOX (cutbox-door.mjs). By AI agents, Wed Nov 11 2026. No macro, syntax, notation, axiom, sorry.
-/
import Derived.Test.YtdfehaonngccjaaDoorRows
import GoSem.ClaimSeven
namespace Go.Proofs.YtdfehaonngccjaaDoor
namespace Rows

/-- THE TIED CARD OF 'laws.FnBerAny'. -/
def fnBerAnyCard : Claim7 := { stood := { row := fnBerAnyRow, standIns := [], harness := (true, "53c0cdb1aec2bcd89100c401ddf9daa5913a6389ca32353a9e2260c739d86d21"), looks := true }, kinds := [], alts := [], laidByText := true, laidKinds := [.data, .data, .data, .data, .sentinel, .sentinel, .sentinel, .sentinel, .pinned], laidTests := true, laidLooks := .later }
def FnBerAnyCardSaid : Prop := Claim7.holds Tryd.pinned (.plain (OpenSpec.ofChange fnBerAnySpec)) fnBerAnyCard

/-- THE TIED CARD OF 'laws.FnBerStream'. -/
def fnBerStreamCard : Claim7 := { stood := { row := fnBerStreamRow, standIns := [], harness := (true, "53c0cdb1aec2bcd89100c401ddf9daa5913a6389ca32353a9e2260c739d86d21"), looks := true }, kinds := [], alts := [], laidByText := true, laidKinds := [.data, .data, .data, .data, .sentinel, .sentinel, .sentinel, .sentinel, .pinned], laidTests := true, laidLooks := .later }
def FnBerStreamCardSaid : Prop := Claim7.holds Tryd.pinned (.plain (OpenSpec.ofChange fnBerStreamSpec)) fnBerStreamCard

/-- THE TIED CARD OF 'laws.FnBerValues'. -/
def fnBerValuesCard : Claim7 := { stood := { row := fnBerValuesRow, standIns := [], harness := (true, "53c0cdb1aec2bcd89100c401ddf9daa5913a6389ca32353a9e2260c739d86d21"), looks := true }, kinds := [], alts := [], laidByText := true, laidKinds := [.data, .data, .data, .data, .sentinel, .sentinel, .sentinel, .sentinel, .pinned], laidTests := true, laidLooks := .later }
def FnBerValuesCardSaid : Prop := Claim7.holds Tryd.pinned (.plain (OpenSpec.ofChange fnBerValuesSpec)) fnBerValuesCard

/-- THE TIED CARD OF 'laws.FnBerForms'. -/
def fnBerFormsCard : Claim7 := { stood := { row := fnBerFormsRow, standIns := [], harness := (true, "53c0cdb1aec2bcd89100c401ddf9daa5913a6389ca32353a9e2260c739d86d21"), looks := true }, kinds := [], alts := [], laidByText := true, laidKinds := [.data, .data, .data, .data, .sentinel, .sentinel, .sentinel, .sentinel, .pinned], laidTests := true, laidLooks := .later }
def FnBerFormsCardSaid : Prop := Claim7.holds Tryd.pinned (.plain (OpenSpec.ofChange fnBerFormsSpec)) fnBerFormsCard

/-- THE SECOND FORM's CARD OF 'laws.FnBerAny'. -/
def fnBerAnyUptoCard : Claim7 := { stood := { row := fnBerAnyUptoRow, standIns := [], harness := (true, "53c0cdb1aec2bcd89100c401ddf9daa5913a6389ca32353a9e2260c739d86d21"), looks := true }, kinds := [], alts := [], laidByText := true, laidKinds := [.data, .data, .data, .data, .sentinel, .sentinel, .sentinel, .sentinel, .pinned], laidTests := true, laidLooks := .later }
def FnBerAnyUptoCardSaid : Prop := Claim7.holds Tryd.pinned (.plain (OpenSpec.upto fnBerAnySpec)) fnBerAnyUptoCard

/-- THE SECOND FORM's CARD OF 'laws.FnBerStream'. -/
def fnBerStreamUptoCard : Claim7 := { stood := { row := fnBerStreamUptoRow, standIns := [], harness := (true, "53c0cdb1aec2bcd89100c401ddf9daa5913a6389ca32353a9e2260c739d86d21"), looks := true }, kinds := [], alts := [], laidByText := true, laidKinds := [.data, .data, .data, .data, .sentinel, .sentinel, .sentinel, .sentinel, .pinned], laidTests := true, laidLooks := .later }
def FnBerStreamUptoCardSaid : Prop := Claim7.holds Tryd.pinned (.plain (OpenSpec.upto fnBerStreamSpec)) fnBerStreamUptoCard

/-- THE SECOND FORM's CARD OF 'laws.FnBerValues'. -/
def fnBerValuesUptoCard : Claim7 := { stood := { row := fnBerValuesUptoRow, standIns := [], harness := (true, "53c0cdb1aec2bcd89100c401ddf9daa5913a6389ca32353a9e2260c739d86d21"), looks := true }, kinds := [], alts := [], laidByText := true, laidKinds := [.data, .data, .data, .data, .sentinel, .sentinel, .sentinel, .sentinel, .pinned], laidTests := true, laidLooks := .later }
def FnBerValuesUptoCardSaid : Prop := Claim7.holds Tryd.pinned (.plain (OpenSpec.upto fnBerValuesSpec)) fnBerValuesUptoCard

/-- THE SECOND FORM's CARD OF 'laws.FnBerForms'. -/
def fnBerFormsUptoCard : Claim7 := { stood := { row := fnBerFormsUptoRow, standIns := [], harness := (true, "53c0cdb1aec2bcd89100c401ddf9daa5913a6389ca32353a9e2260c739d86d21"), looks := true }, kinds := [], alts := [], laidByText := true, laidKinds := [.data, .data, .data, .data, .sentinel, .sentinel, .sentinel, .sentinel, .pinned], laidTests := true, laidLooks := .later }
def FnBerFormsUptoCardSaid : Prop := Claim7.holds Tryd.pinned (.plain (OpenSpec.upto fnBerFormsSpec)) fnBerFormsUptoCard
end Rows
end Go.Proofs.YtdfehaonngccjaaDoor
