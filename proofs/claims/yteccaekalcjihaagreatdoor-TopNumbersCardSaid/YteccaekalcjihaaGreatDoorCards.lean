/-
  DERIVED. GIVEN WITH THE SEED: THE CARDS: each row of YteccaekalcjihaaGreatDoorRows.lean that lists a variable, with what it lists TIED to the program's text (the seventh form; the later family's looks); each row that meets fmt, with fmt's text TOLD by the authors' own Lean function (tested against real Go, not proved from fmt's source: count such statements apart). THE CARD IS WHAT COUNTS. Prove the row's statement (the work); the ties are given (YteccaekalcjihaaGreatDoorTie.lean); close each card by the builder's one call (the guide's Derived/Test/ToyasCard.lean, 'card_holds'). Laid BY PROGRAM, IN A SANDBOX (cutbox-door.mjs). By AI agents, Wed Nov 11 2026. No macro, syntax, notation, axiom, sorry.
-/
import Derived.Test.YteccaekalcjihaaGreatDoorRows
import GoSem.ClaimSeven
namespace Go.Proofs.YteccaekalcjihaaGreatDoor
namespace Rows

/-- THE TIED CARD OF 'flailtop.TopExtract'. -/
def topExtractCard : Claim7 := { stood := { row := topExtractRow, standIns := [], harness := (true, "ede803efa337447c1f5b747b43fb2ac8954107614d461966f148573580d1ef50"), looks := true }, kinds := [], alts := [], laidByText := true, laidKinds := [.data, .data, .data, .data, .sentinel, .sentinel, .pinned], laidTests := true, laidLooks := .later }
def TopExtractCardSaid : Prop := Claim7.holds Tryz.pinned (.plain (OpenSpec.ofChange topExtractSpec)) topExtractCard

/-- THE TIED CARD OF 'flailtop.TopNumbers'. -/
def topNumbersCard : Claim7 := { stood := { row := topNumbersRow, standIns := [], harness := (true, "ede803efa337447c1f5b747b43fb2ac8954107614d461966f148573580d1ef50"), looks := true }, kinds := [], alts := [], laidByText := true, laidKinds := [.data, .data, .data, .data, .sentinel, .sentinel, .pinned], laidTests := true, laidLooks := .later }
def TopNumbersCardSaid : Prop := Claim7.holds Tryz.pinned (.plain (OpenSpec.ofChange topNumbersSpec)) topNumbersCard

/-- THE SECOND FORM's CARD OF 'flailtop.TopExtract'. -/
def topExtractUptoCard : Claim7 := { stood := { row := topExtractUptoRow, standIns := [], harness := (true, "ede803efa337447c1f5b747b43fb2ac8954107614d461966f148573580d1ef50"), looks := true }, kinds := [], alts := [], laidByText := true, laidKinds := [.data, .data, .data, .data, .sentinel, .sentinel, .pinned], laidTests := true, laidLooks := .later }
def TopExtractUptoCardSaid : Prop := Claim7.holds Tryz.pinned (.plain (OpenSpec.upto topExtractSpec)) topExtractUptoCard

/-- THE SECOND FORM's CARD OF 'flailtop.TopNumbers'. -/
def topNumbersUptoCard : Claim7 := { stood := { row := topNumbersUptoRow, standIns := [], harness := (true, "ede803efa337447c1f5b747b43fb2ac8954107614d461966f148573580d1ef50"), looks := true }, kinds := [], alts := [], laidByText := true, laidKinds := [.data, .data, .data, .data, .sentinel, .sentinel, .pinned], laidTests := true, laidLooks := .later }
def TopNumbersUptoCardSaid : Prop := Claim7.holds Tryz.pinned (.plain (OpenSpec.upto topNumbersSpec)) topNumbersUptoCard
end Rows
end Go.Proofs.YteccaekalcjihaaGreatDoor
