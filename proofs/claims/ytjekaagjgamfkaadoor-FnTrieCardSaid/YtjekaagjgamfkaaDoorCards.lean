/-
  DERIVED. GIVEN WITH THE SEED: THE CARDS: each row of YtjekaagjgamfkaaDoorRows.lean that lists a variable, with what it lists TIED to the program's text (the seventh form; the later family's looks); each row that meets fmt, with fmt's text TOLD by the authors' own Lean function (tested against real Go, not proved from fmt's source: count such statements apart). THE CARD IS WHAT COUNTS. Prove the row's statement (the work); the ties are given (YtjekaagjgamfkaaDoorTie.lean); close each card by the builder's one call (the guide's Derived/Test/ToyasCard.lean, 'card_holds'). Laid BY PROGRAM, IN A SANDBOX (cutbox-door.mjs). By AI agents, Wed Nov 11 2026. No macro, syntax, notation, axiom, sorry.
-/
import Derived.Test.YtjekaagjgamfkaaDoorRows
import GoSem.ClaimSeven
namespace Go.Proofs.YtjekaagjgamfkaaDoor
namespace Rows

/-- THE TIED CARD OF 'laws.FnTrie'. -/
def fnTrieCard : Claim7 := { stood := { row := fnTrieRow, standIns := [], harness := (true, "44b1ddeb54a5872ef095a91359eaee5313d0e52cea0b933e2d2c5d40062b5258"), looks := false }, kinds := [], alts := [], laidByText := true, laidKinds := [.sentinel], laidTests := true, laidLooks := .later }
def FnTrieCardSaid : Prop := Claim7.holds Tryd.pinned (.plain (OpenSpec.ofChange fnTrieSpec)) fnTrieCard

/-- THE TIED CARD OF 'laws.FnBackwards'. -/
def fnBackwardsCard : Claim7 := { stood := { row := fnBackwardsRow, standIns := [], harness := (true, "44b1ddeb54a5872ef095a91359eaee5313d0e52cea0b933e2d2c5d40062b5258"), looks := false }, kinds := [], alts := [], laidByText := true, laidKinds := [.sentinel], laidTests := true, laidLooks := .later }
def FnBackwardsCardSaid : Prop := Claim7.holds Tryd.pinned (.plain (OpenSpec.ofChange fnBackwardsSpec)) fnBackwardsCard

/-- THE SECOND FORM's CARD OF 'laws.FnTrie'. -/
def fnTrieUptoCard : Claim7 := { stood := { row := fnTrieUptoRow, standIns := [], harness := (true, "44b1ddeb54a5872ef095a91359eaee5313d0e52cea0b933e2d2c5d40062b5258"), looks := false }, kinds := [], alts := [], laidByText := true, laidKinds := [.sentinel], laidTests := true, laidLooks := .later }
def FnTrieUptoCardSaid : Prop := Claim7.holds Tryd.pinned (.plain (OpenSpec.upto fnTrieSpec)) fnTrieUptoCard

/-- THE SECOND FORM's CARD OF 'laws.FnBackwards'. -/
def fnBackwardsUptoCard : Claim7 := { stood := { row := fnBackwardsUptoRow, standIns := [], harness := (true, "44b1ddeb54a5872ef095a91359eaee5313d0e52cea0b933e2d2c5d40062b5258"), looks := false }, kinds := [], alts := [], laidByText := true, laidKinds := [.sentinel], laidTests := true, laidLooks := .later }
def FnBackwardsUptoCardSaid : Prop := Claim7.holds Tryd.pinned (.plain (OpenSpec.upto fnBackwardsSpec)) fnBackwardsUptoCard
end Rows
end Go.Proofs.YtjekaagjgamfkaaDoor
