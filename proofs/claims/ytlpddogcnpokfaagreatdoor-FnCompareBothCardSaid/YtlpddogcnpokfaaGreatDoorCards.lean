/-
  DERIVED. GIVEN WITH THE SEED: THE CARDS: each row of YtlpddogcnpokfaaGreatDoorRows.lean that lists a variable, with what it lists TIED to the program's text (the seventh form; the later family's looks); each row that meets fmt, with fmt's text TOLD by the authors' own Lean function (tested against real Go, not proved from fmt's source: count such statements apart). THE CARD IS WHAT COUNTS. Prove the row's statement (the work); the ties are given (YtlpddogcnpokfaaGreatDoorTie.lean); close each card by the builder's one call (the guide's Derived/Test/ToyasCard.lean, 'card_holds'). Laid BY PROGRAM, IN A SANDBOX (cutbox-door.mjs). By AI agents, Wed Nov 11 2026. No macro, syntax, notation, axiom, sorry.
-/
import Derived.Test.YtlpddogcnpokfaaGreatDoorRows
import GoSem.ClaimSeven
namespace Go.Proofs.YtlpddogcnpokfaaGreatDoor
namespace Rows

/-- THE TIED CARD OF 'laws.FnCompareBoth'. -/
def fnCompareBothCard : Claim7 := { stood := { row := fnCompareBothRow, standIns := [], harness := (true, "b2541eade320b339736fa390ee2067b6974f873953a03ecaa97123cff4181fad"), looks := true }, kinds := [], alts := [], laidByText := true, laidKinds := [.data, .data, .data, .data, .data, .pinned, .pinned, .pinned], laidTests := true, laidLooks := .later }
def FnCompareBothCardSaid : Prop := Claim7.holds Tryz.pinned (.plain (OpenSpec.ofChange fnCompareBothSpec)) fnCompareBothCard

/-- THE TIED CARD OF 'laws.FnCompareTurned'. -/
def fnCompareTurnedCard : Claim7 := { stood := { row := fnCompareTurnedRow, standIns := [], harness := (true, "b2541eade320b339736fa390ee2067b6974f873953a03ecaa97123cff4181fad"), looks := true }, kinds := [], alts := [], laidByText := true, laidKinds := [.data, .data, .data, .data, .data, .pinned, .pinned, .pinned], laidTests := true, laidLooks := .later }
def FnCompareTurnedCardSaid : Prop := Claim7.holds Tryz.pinned (.plain (OpenSpec.ofChange fnCompareTurnedSpec)) fnCompareTurnedCard

/-- THE TIED CARD OF 'laws.FnCompare'. -/
def fnCompareCard : Claim7 := { stood := { row := fnCompareRow, standIns := [], harness := (true, "b2541eade320b339736fa390ee2067b6974f873953a03ecaa97123cff4181fad"), looks := true }, kinds := [], alts := [], laidByText := true, laidKinds := [.data, .data, .data, .data, .data, .pinned, .pinned, .pinned], laidTests := true, laidLooks := .later }
def FnCompareCardSaid : Prop := Claim7.holds Tryz.pinned (.plain (OpenSpec.ofChange fnCompareSpec)) fnCompareCard

/-- THE SECOND FORM's CARD OF 'laws.FnCompareBoth'. -/
def fnCompareBothUptoCard : Claim7 := { stood := { row := fnCompareBothUptoRow, standIns := [], harness := (true, "b2541eade320b339736fa390ee2067b6974f873953a03ecaa97123cff4181fad"), looks := true }, kinds := [], alts := [], laidByText := true, laidKinds := [.data, .data, .data, .data, .data, .pinned, .pinned, .pinned], laidTests := true, laidLooks := .later }
def FnCompareBothUptoCardSaid : Prop := Claim7.holds Tryz.pinned (.plain (OpenSpec.upto fnCompareBothSpec)) fnCompareBothUptoCard

/-- THE SECOND FORM's CARD OF 'laws.FnCompareTurned'. -/
def fnCompareTurnedUptoCard : Claim7 := { stood := { row := fnCompareTurnedUptoRow, standIns := [], harness := (true, "b2541eade320b339736fa390ee2067b6974f873953a03ecaa97123cff4181fad"), looks := true }, kinds := [], alts := [], laidByText := true, laidKinds := [.data, .data, .data, .data, .data, .pinned, .pinned, .pinned], laidTests := true, laidLooks := .later }
def FnCompareTurnedUptoCardSaid : Prop := Claim7.holds Tryz.pinned (.plain (OpenSpec.upto fnCompareTurnedSpec)) fnCompareTurnedUptoCard

/-- THE SECOND FORM's CARD OF 'laws.FnCompare'. -/
def fnCompareUptoCard : Claim7 := { stood := { row := fnCompareUptoRow, standIns := [], harness := (true, "b2541eade320b339736fa390ee2067b6974f873953a03ecaa97123cff4181fad"), looks := true }, kinds := [], alts := [], laidByText := true, laidKinds := [.data, .data, .data, .data, .data, .pinned, .pinned, .pinned], laidTests := true, laidLooks := .later }
def FnCompareUptoCardSaid : Prop := Claim7.holds Tryz.pinned (.plain (OpenSpec.upto fnCompareSpec)) fnCompareUptoCard
end Rows
end Go.Proofs.YtlpddogcnpokfaaGreatDoor
