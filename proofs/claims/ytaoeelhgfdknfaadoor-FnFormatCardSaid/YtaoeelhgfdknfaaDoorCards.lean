/-
  DERIVED. GIVEN WITH THE SEED: THE CARDS: each row of YtaoeelhgfdknfaaDoorRows.lean that lists a variable, with what it lists TIED to the program's text (the seventh form; the later family's looks); each row that meets fmt, with fmt's text TOLD by the authors' own Lean function (tested against real Go, not proved from fmt's source: count such statements apart). THE CARD IS WHAT COUNTS. Prove the row's statement (the work); the ties are given (YtaoeelhgfdknfaaDoorTie.lean); close each card by the builder's one call (the guide's Derived/Test/ToyasCard.lean, 'card_holds'). Laid BY PROGRAM, IN A SANDBOX (cutbox-door.mjs). By AI agents, Wed Nov 11 2026. No macro, syntax, notation, axiom, sorry.
-/
import Derived.Test.YtaoeelhgfdknfaaDoorRows
import GoSem.ClaimSeven
namespace Go.Proofs.YtaoeelhgfdknfaaDoor
namespace Rows

/-- THE TIED CARD OF 'laws.FnCompare'. -/
def fnCompareCard : Claim7 := { stood := { row := fnCompareRow, standIns := [], harness := (true, "fbc21a5dc4c55e15094041056c2211a81511ced61528d4c0e7912638cf189483"), looks := true }, kinds := [], alts := [], laidByText := true, laidKinds := [.data, .data, .data, .sentinel, .sentinel], laidTests := true, laidLooks := .later }
def FnCompareCardSaid : Prop := Claim7.holds Tryd.pinned (.plain (OpenSpec.ofChange fnCompareSpec)) fnCompareCard

/-- THE TIED CARD OF 'laws.FnParse'. -/
def fnParseCard : Claim7 := { stood := { row := fnParseRow, standIns := [], harness := (true, "fbc21a5dc4c55e15094041056c2211a81511ced61528d4c0e7912638cf189483"), looks := true }, kinds := [], alts := [], laidByText := true, laidKinds := [.data, .data, .data, .sentinel, .sentinel], laidTests := true, laidLooks := .later }
def FnParseCardSaid : Prop := Claim7.holds Tryd.pinned (.plain (OpenSpec.ofChange fnParseSpec)) fnParseCard

/-- THE TIED CARD OF 'laws.FnFormat'. -/
def fnFormatCard : Claim7 := { stood := { row := fnFormatRow, standIns := [], harness := (true, "fbc21a5dc4c55e15094041056c2211a81511ced61528d4c0e7912638cf189483"), looks := true }, kinds := [], alts := [], laidByText := true, laidKinds := [.data, .data, .data, .sentinel, .sentinel], laidTests := true, laidLooks := .later }
def FnFormatCardSaid : Prop := Claim7.holds Tryd.pinned (.plain (OpenSpec.ofChange fnFormatSpec)) fnFormatCard

/-- THE TIED CARD OF 'laws.FnCompareTexts'. -/
def fnCompareTextsCard : Claim7 := { stood := { row := fnCompareTextsRow, standIns := [], harness := (true, "fbc21a5dc4c55e15094041056c2211a81511ced61528d4c0e7912638cf189483"), looks := true }, kinds := [], alts := [], laidByText := true, laidKinds := [.data, .data, .data, .sentinel, .sentinel], laidTests := true, laidLooks := .later }
def FnCompareTextsCardSaid : Prop := Claim7.holds Tryd.pinned (.plain (OpenSpec.ofChange fnCompareTextsSpec)) fnCompareTextsCard

/-- THE SECOND FORM's CARD OF 'laws.FnCompare'. -/
def fnCompareUptoCard : Claim7 := { stood := { row := fnCompareUptoRow, standIns := [], harness := (true, "fbc21a5dc4c55e15094041056c2211a81511ced61528d4c0e7912638cf189483"), looks := true }, kinds := [], alts := [], laidByText := true, laidKinds := [.data, .data, .data, .sentinel, .sentinel], laidTests := true, laidLooks := .later }
def FnCompareUptoCardSaid : Prop := Claim7.holds Tryd.pinned (.plain (OpenSpec.upto fnCompareSpec)) fnCompareUptoCard

/-- THE SECOND FORM's CARD OF 'laws.FnParse'. -/
def fnParseUptoCard : Claim7 := { stood := { row := fnParseUptoRow, standIns := [], harness := (true, "fbc21a5dc4c55e15094041056c2211a81511ced61528d4c0e7912638cf189483"), looks := true }, kinds := [], alts := [], laidByText := true, laidKinds := [.data, .data, .data, .sentinel, .sentinel], laidTests := true, laidLooks := .later }
def FnParseUptoCardSaid : Prop := Claim7.holds Tryd.pinned (.plain (OpenSpec.upto fnParseSpec)) fnParseUptoCard

/-- THE SECOND FORM's CARD OF 'laws.FnFormat'. -/
def fnFormatUptoCard : Claim7 := { stood := { row := fnFormatUptoRow, standIns := [], harness := (true, "fbc21a5dc4c55e15094041056c2211a81511ced61528d4c0e7912638cf189483"), looks := true }, kinds := [], alts := [], laidByText := true, laidKinds := [.data, .data, .data, .sentinel, .sentinel], laidTests := true, laidLooks := .later }
def FnFormatUptoCardSaid : Prop := Claim7.holds Tryd.pinned (.plain (OpenSpec.upto fnFormatSpec)) fnFormatUptoCard

/-- THE SECOND FORM's CARD OF 'laws.FnCompareTexts'. -/
def fnCompareTextsUptoCard : Claim7 := { stood := { row := fnCompareTextsUptoRow, standIns := [], harness := (true, "fbc21a5dc4c55e15094041056c2211a81511ced61528d4c0e7912638cf189483"), looks := true }, kinds := [], alts := [], laidByText := true, laidKinds := [.data, .data, .data, .sentinel, .sentinel], laidTests := true, laidLooks := .later }
def FnCompareTextsUptoCardSaid : Prop := Claim7.holds Tryd.pinned (.plain (OpenSpec.upto fnCompareTextsSpec)) fnCompareTextsUptoCard
end Rows
end Go.Proofs.YtaoeelhgfdknfaaDoor
