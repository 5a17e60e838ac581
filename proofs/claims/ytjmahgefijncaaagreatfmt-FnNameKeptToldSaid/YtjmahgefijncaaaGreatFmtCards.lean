/-
  DERIVED. GIVEN WITH THE SEED: THE CARDS: each row of YtjmahgefijncaaaGreatFmtRows.lean that lists a variable, with what it lists TIED to the program's text (the seventh form; the later family's looks); each row that meets fmt, with fmt's text TOLD by the authors' own Lean function (tested against real Go, not proved from fmt's source: count such statements apart). THE CARD IS WHAT COUNTS. Prove the row's statement (the work); the ties are given (YtjmahgefijncaaaGreatFmtTie.lean); close each card by the builder's one call (the guide's Derived/Test/ToyasCard.lean, 'card_holds'). Laid BY PROGRAM, IN A SANDBOX (cutbox-door.mjs). By AI agents, Wed Nov 11 2026. No macro, syntax, notation, axiom, sorry.
-/
import Derived.Test.YtjmahgefijncaaaGreatFmtRows
import GoSem.ClaimSeven
namespace Go.Proofs.YtjmahgefijncaaaGreatFmt
namespace Rows

/-- THE TOLD AND TIED CARD OF 'laws.FnNameAny'. -/
def fnNameAnyCard : Claim7 := { stood := { row := fnNameAnyRow, standIns := [], harness := (true, "d689398e97229e2c593e3c78e7ab4ec20acaecceff5114518eb629e6c7605b62"), looks := true }, told := true, laidByText := true, laidKinds := [.data, .data, .data, .data, .sentinel, .sentinel, .sentinel, .sentinel, .sentinel, .pinned], laidTests := true, laidLooks := .later, goes := false }
def FnNameAnyToldSaid : Prop := Claim7.holds Tryz.pinned (.plain (OpenSpec.ofChange fnNameAnySpec)) fnNameAnyCard
/-- ITS FALSE NEIGHBOUR. Refute it at one input. -/
def FnNameAnyToldWrongFalsely : Prop := Claim7.holds Tryz.pinned (.plain (OpenSpec.ofChange fnNameAnyWrong)) fnNameAnyCard

/-- THE TOLD AND TIED CARD OF 'laws.FnEntryValues'. -/
def fnEntryValuesCard : Claim7 := { stood := { row := fnEntryValuesRow, standIns := [], harness := (true, "d689398e97229e2c593e3c78e7ab4ec20acaecceff5114518eb629e6c7605b62"), looks := true }, told := true, laidByText := true, laidKinds := [.data, .data, .data, .data, .sentinel, .sentinel, .sentinel, .sentinel, .sentinel, .pinned], laidTests := true, laidLooks := .later, goes := false }
def FnEntryValuesToldSaid : Prop := Claim7.holds Tryz.pinned (.plain (OpenSpec.ofChange fnEntryValuesSpec)) fnEntryValuesCard
/-- ITS FALSE NEIGHBOUR. Refute it at one input. -/
def FnEntryValuesToldWrongFalsely : Prop := Claim7.holds Tryz.pinned (.plain (OpenSpec.ofChange fnEntryValuesWrong)) fnEntryValuesCard

/-- THE TOLD AND TIED CARD OF 'laws.FnPostal'. -/
def fnPostalCard : Claim7 := { stood := { row := fnPostalRow, standIns := [], harness := (true, "d689398e97229e2c593e3c78e7ab4ec20acaecceff5114518eb629e6c7605b62"), looks := true }, told := true, laidByText := true, laidKinds := [.data, .data, .data, .data, .sentinel, .sentinel, .sentinel, .sentinel, .sentinel, .sentinel, .pinned], laidTests := true, laidLooks := .later, goes := false }
def FnPostalToldSaid : Prop := Claim7.holds Tryz.pinned (.plain (OpenSpec.ofChange fnPostalSpec)) fnPostalCard
/-- ITS FALSE NEIGHBOUR. Refute it at one input. -/
def FnPostalToldWrongFalsely : Prop := Claim7.holds Tryz.pinned (.plain (OpenSpec.ofChange fnPostalWrong)) fnPostalCard

/-- THE TOLD AND TIED CARD OF 'laws.FnNameJoined'. -/
def fnNameJoinedCard : Claim7 := { stood := { row := fnNameJoinedRow, standIns := [], harness := (true, "d689398e97229e2c593e3c78e7ab4ec20acaecceff5114518eb629e6c7605b62"), looks := true }, told := true, laidByText := true, laidKinds := [.data, .data, .data, .data, .sentinel, .sentinel, .sentinel, .sentinel, .sentinel, .pinned], laidTests := true, laidLooks := .later, goes := false }
def FnNameJoinedToldSaid : Prop := Claim7.holds Tryz.pinned (.plain (OpenSpec.ofChange fnNameJoinedSpec)) fnNameJoinedCard
/-- ITS FALSE NEIGHBOUR. Refute it at one input. -/
def FnNameJoinedToldWrongFalsely : Prop := Claim7.holds Tryz.pinned (.plain (OpenSpec.ofChange fnNameJoinedWrong)) fnNameJoinedCard

/-- THE TOLD AND TIED CARD OF 'laws.FnNameOrder'. -/
def fnNameOrderCard : Claim7 := { stood := { row := fnNameOrderRow, standIns := [], harness := (true, "d689398e97229e2c593e3c78e7ab4ec20acaecceff5114518eb629e6c7605b62"), looks := true }, told := true, laidByText := true, laidKinds := [.data, .data, .data, .data, .sentinel, .sentinel, .sentinel, .sentinel, .sentinel, .pinned], laidTests := true, laidLooks := .later, goes := false }
def FnNameOrderToldSaid : Prop := Claim7.holds Tryz.pinned (.plain (OpenSpec.ofChange fnNameOrderSpec)) fnNameOrderCard
/-- ITS FALSE NEIGHBOUR. Refute it at one input. -/
def FnNameOrderToldWrongFalsely : Prop := Claim7.holds Tryz.pinned (.plain (OpenSpec.ofChange fnNameOrderWrong)) fnNameOrderCard

/-- THE TOLD AND TIED CARD OF 'laws.FnNameScopes'. -/
def fnNameScopesCard : Claim7 := { stood := { row := fnNameScopesRow, standIns := [], harness := (true, "d689398e97229e2c593e3c78e7ab4ec20acaecceff5114518eb629e6c7605b62"), looks := true }, told := true, laidByText := true, laidKinds := [.data, .data, .data, .data, .sentinel, .sentinel, .sentinel, .sentinel, .sentinel, .pinned], laidTests := true, laidLooks := .later, goes := false }
def FnNameScopesToldSaid : Prop := Claim7.holds Tryz.pinned (.plain (OpenSpec.ofChange fnNameScopesSpec)) fnNameScopesCard
/-- ITS FALSE NEIGHBOUR. Refute it at one input. -/
def FnNameScopesToldWrongFalsely : Prop := Claim7.holds Tryz.pinned (.plain (OpenSpec.ofChange fnNameScopesWrong)) fnNameScopesCard

/-- THE TOLD AND TIED CARD OF 'laws.FnNameTails'. -/
def fnNameTailsCard : Claim7 := { stood := { row := fnNameTailsRow, standIns := [], harness := (true, "d689398e97229e2c593e3c78e7ab4ec20acaecceff5114518eb629e6c7605b62"), looks := true }, told := true, laidByText := true, laidKinds := [.data, .data, .data, .data, .sentinel, .sentinel, .sentinel, .sentinel, .sentinel, .pinned], laidTests := true, laidLooks := .later, goes := false }
def FnNameTailsToldSaid : Prop := Claim7.holds Tryz.pinned (.plain (OpenSpec.ofChange fnNameTailsSpec)) fnNameTailsCard
/-- ITS FALSE NEIGHBOUR. Refute it at one input. -/
def FnNameTailsToldWrongFalsely : Prop := Claim7.holds Tryz.pinned (.plain (OpenSpec.ofChange fnNameTailsWrong)) fnNameTailsCard

/-- THE TOLD AND TIED CARD OF 'laws.FnNameKept'. -/
def fnNameKeptCard : Claim7 := { stood := { row := fnNameKeptRow, standIns := [], harness := (true, "d689398e97229e2c593e3c78e7ab4ec20acaecceff5114518eb629e6c7605b62"), looks := true }, told := true, laidByText := true, laidKinds := [.data, .data, .data, .data, .sentinel, .sentinel, .sentinel, .sentinel, .sentinel, .pinned], laidTests := true, laidLooks := .later, goes := false }
def FnNameKeptToldSaid : Prop := Claim7.holds Tryz.pinned (.plain (OpenSpec.ofChange fnNameKeptSpec)) fnNameKeptCard
/-- ITS FALSE NEIGHBOUR. Refute it at one input. -/
def FnNameKeptToldWrongFalsely : Prop := Claim7.holds Tryz.pinned (.plain (OpenSpec.ofChange fnNameKeptWrong)) fnNameKeptCard
end Rows
end Go.Proofs.YtjmahgefijncaaaGreatFmt
