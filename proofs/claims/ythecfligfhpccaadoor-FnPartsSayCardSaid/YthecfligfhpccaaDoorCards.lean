/-
  DERIVED. GIVEN WITH THE SEED: THE CARDS: each row of YthecfligfhpccaaDoorRows.lean that lists a variable, with what it lists TIED to the program's text (the seventh form; the later family's looks); each row that meets fmt, with fmt's text TOLD by the authors' own Lean function (tested against real Go, not proved from fmt's source: count such statements apart). THE CARD IS WHAT COUNTS. Prove the row's statement (the work); the ties are given (YthecfligfhpccaaDoorTie.lean); close each card by the builder's one call (the guide's Derived/Test/ToyasCard.lean, 'card_holds'). Laid BY PROGRAM, IN A SANDBOX (cutbox-door.mjs). By AI agents, Wed Nov 11 2026. No macro, syntax, notation, axiom, sorry.
-/
import Derived.Test.YthecfligfhpccaaDoorRows
import GoSem.ClaimSeven
namespace Go.Proofs.YthecfligfhpccaaDoor
namespace Rows

/-- THE TIED CARD OF 'laws.FnPartsAgain'. -/
def fnPartsAgainCard : Claim7 := { stood := { row := fnPartsAgainRow, standIns := [], harness := (true, "7157493148f102a96a6b6bc447528c4fa5cfcbaaf71af8ac0310441884e71961"), looks := false }, kinds := [], alts := [], laidByText := true, laidKinds := [.data, .data, .pinned, .pinned, .pinned], laidTests := true, laidLooks := .later }
def FnPartsAgainCardSaid : Prop := Claim7.holds Tryd.pinned (.plain (OpenSpec.ofChange fnPartsAgainSpec)) fnPartsAgainCard

/-- THE TIED CARD OF 'laws.FnPartsJoin'. -/
def fnPartsJoinCard : Claim7 := { stood := { row := fnPartsJoinRow, standIns := [], harness := (true, "7157493148f102a96a6b6bc447528c4fa5cfcbaaf71af8ac0310441884e71961"), looks := false }, kinds := [], alts := [], laidByText := true, laidKinds := [.data, .data, .pinned, .pinned, .pinned], laidTests := true, laidLooks := .later }
def FnPartsJoinCardSaid : Prop := Claim7.holds Tryd.pinned (.plain (OpenSpec.ofChange fnPartsJoinSpec)) fnPartsJoinCard

/-- THE TIED CARD OF 'laws.FnPartsSay'. -/
def fnPartsSayCard : Claim7 := { stood := { row := fnPartsSayRow, standIns := [], harness := (true, "7157493148f102a96a6b6bc447528c4fa5cfcbaaf71af8ac0310441884e71961"), looks := false }, kinds := [], alts := [], laidByText := true, laidKinds := [.data, .data, .pinned, .pinned, .pinned], laidTests := true, laidLooks := .later }
def FnPartsSayCardSaid : Prop := Claim7.holds Tryd.pinned (.plain (OpenSpec.ofChange fnPartsSaySpec)) fnPartsSayCard

/-- THE SECOND FORM's CARD OF 'laws.FnPartsAgain'. -/
def fnPartsAgainUptoCard : Claim7 := { stood := { row := fnPartsAgainUptoRow, standIns := [], harness := (true, "7157493148f102a96a6b6bc447528c4fa5cfcbaaf71af8ac0310441884e71961"), looks := false }, kinds := [], alts := [], laidByText := true, laidKinds := [.data, .data, .pinned, .pinned, .pinned], laidTests := true, laidLooks := .later }
def FnPartsAgainUptoCardSaid : Prop := Claim7.holds Tryd.pinned (.plain (OpenSpec.upto fnPartsAgainSpec)) fnPartsAgainUptoCard

/-- THE SECOND FORM's CARD OF 'laws.FnPartsJoin'. -/
def fnPartsJoinUptoCard : Claim7 := { stood := { row := fnPartsJoinUptoRow, standIns := [], harness := (true, "7157493148f102a96a6b6bc447528c4fa5cfcbaaf71af8ac0310441884e71961"), looks := false }, kinds := [], alts := [], laidByText := true, laidKinds := [.data, .data, .pinned, .pinned, .pinned], laidTests := true, laidLooks := .later }
def FnPartsJoinUptoCardSaid : Prop := Claim7.holds Tryd.pinned (.plain (OpenSpec.upto fnPartsJoinSpec)) fnPartsJoinUptoCard

/-- THE SECOND FORM's CARD OF 'laws.FnPartsSay'. -/
def fnPartsSayUptoCard : Claim7 := { stood := { row := fnPartsSayUptoRow, standIns := [], harness := (true, "7157493148f102a96a6b6bc447528c4fa5cfcbaaf71af8ac0310441884e71961"), looks := false }, kinds := [], alts := [], laidByText := true, laidKinds := [.data, .data, .pinned, .pinned, .pinned], laidTests := true, laidLooks := .later }
def FnPartsSayUptoCardSaid : Prop := Claim7.holds Tryd.pinned (.plain (OpenSpec.upto fnPartsSaySpec)) fnPartsSayUptoCard
end Rows
end Go.Proofs.YthecfligfhpccaaDoor
