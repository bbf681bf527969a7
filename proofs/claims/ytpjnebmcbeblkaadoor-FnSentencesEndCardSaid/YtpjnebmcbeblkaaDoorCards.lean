/-
  DERIVED. GIVEN WITH THE SEED: THE CARDS: each row of YtpjnebmcbeblkaaDoorRows.lean that lists a variable, with what it lists TIED to the program's text (the seventh form; the later family's looks); each row that meets fmt, with fmt's text TOLD by the authors' own Lean function (tested against real Go, not proved from fmt's source: count such statements apart). THE CARD IS WHAT COUNTS. Prove the row's statement (the work); the ties are given (YtpjnebmcbeblkaaDoorTie.lean); close each card by the builder's one call (the guide's Derived/Test/ToyasCard.lean, 'card_holds'). Laid BY PROGRAM, IN A SANDBOX (cutbox-door.mjs). By AI agents, Wed Nov 11 2026. No macro, syntax, notation, axiom, sorry.
-/
import Derived.Test.YtpjnebmcbeblkaaDoorRows
import GoSem.ClaimSeven
namespace Go.Proofs.YtpjnebmcbeblkaaDoor
namespace Rows

/-- THE TIED CARD OF 'laws.FnSentenceTaken'. -/
def fnSentenceTakenCard : Claim7 := { stood := { row := fnSentenceTakenRow, standIns := [], harness := (true, "71196e2d22d7c6587d6a13a40ba7bf22b50d18c0ec4455a82085068d2e6b2c77"), looks := true }, kinds := [], alts := [], laidByText := true, laidKinds := [.data, .listed, .pinned], laidTests := true, laidLooks := .later }
def FnSentenceTakenCardSaid : Prop := Claim7.holds Tryd.pinned (.plain (OpenSpec.ofChange fnSentenceTakenSpec)) fnSentenceTakenCard

/-- THE TIED CARD OF 'laws.FnSentencesUsual'. -/
def fnSentencesUsualCard : Claim7 := { stood := { row := fnSentencesUsualRow, standIns := [], harness := (true, "71196e2d22d7c6587d6a13a40ba7bf22b50d18c0ec4455a82085068d2e6b2c77"), looks := true }, kinds := [], alts := [], laidByText := true, laidKinds := [.data, .sentinel, .sentinel, .listed, .sentinel, .sentinel, .sentinel, .sentinel, .sentinel, .pinned], laidTests := true, laidLooks := .later }
def FnSentencesUsualCardSaid : Prop := Claim7.holds Tryd.pinned (.plain (OpenSpec.ofChange fnSentencesUsualSpec)) fnSentencesUsualCard

/-- THE TIED CARD OF 'laws.FnSentencesEnd'. -/
def fnSentencesEndCard : Claim7 := { stood := { row := fnSentencesEndRow, standIns := [], harness := (true, "71196e2d22d7c6587d6a13a40ba7bf22b50d18c0ec4455a82085068d2e6b2c77"), looks := true }, kinds := [], alts := [], laidByText := true, laidKinds := [.data, .sentinel, .sentinel, .listed, .sentinel, .sentinel, .sentinel, .sentinel, .sentinel, .pinned], laidTests := true, laidLooks := .later }
def FnSentencesEndCardSaid : Prop := Claim7.holds Tryd.pinned (.plain (OpenSpec.ofChange fnSentencesEndSpec)) fnSentencesEndCard

/-- THE TIED CARD OF 'laws.FnSentencesJoin'. -/
def fnSentencesJoinCard : Claim7 := { stood := { row := fnSentencesJoinRow, standIns := [], harness := (true, "71196e2d22d7c6587d6a13a40ba7bf22b50d18c0ec4455a82085068d2e6b2c77"), looks := true }, kinds := [], alts := [], laidByText := true, laidKinds := [.data, .sentinel, .sentinel, .listed, .sentinel, .sentinel, .sentinel, .sentinel, .sentinel, .pinned], laidTests := true, laidLooks := .later }
def FnSentencesJoinCardSaid : Prop := Claim7.holds Tryd.pinned (.plain (OpenSpec.ofChange fnSentencesJoinSpec)) fnSentencesJoinCard

/-- THE TIED CARD OF 'laws.FnSentencesSay'. -/
def fnSentencesSayCard : Claim7 := { stood := { row := fnSentencesSayRow, standIns := [], harness := (true, "71196e2d22d7c6587d6a13a40ba7bf22b50d18c0ec4455a82085068d2e6b2c77"), looks := true }, kinds := [], alts := [], laidByText := true, laidKinds := [.data, .sentinel, .sentinel, .listed, .sentinel, .sentinel, .sentinel, .sentinel, .sentinel, .pinned], laidTests := true, laidLooks := .later }
def FnSentencesSayCardSaid : Prop := Claim7.holds Tryd.pinned (.plain (OpenSpec.ofChange fnSentencesSaySpec)) fnSentencesSayCard

/-- THE SECOND FORM's CARD OF 'laws.FnSentenceTaken'. -/
def fnSentenceTakenUptoCard : Claim7 := { stood := { row := fnSentenceTakenUptoRow, standIns := [], harness := (true, "71196e2d22d7c6587d6a13a40ba7bf22b50d18c0ec4455a82085068d2e6b2c77"), looks := true }, kinds := [], alts := [], laidByText := true, laidKinds := [.data, .listed, .pinned], laidTests := true, laidLooks := .later }
def FnSentenceTakenUptoCardSaid : Prop := Claim7.holds Tryd.pinned (.plain (OpenSpec.upto fnSentenceTakenSpec)) fnSentenceTakenUptoCard

/-- THE SECOND FORM's CARD OF 'laws.FnSentencesUsual'. -/
def fnSentencesUsualUptoCard : Claim7 := { stood := { row := fnSentencesUsualUptoRow, standIns := [], harness := (true, "71196e2d22d7c6587d6a13a40ba7bf22b50d18c0ec4455a82085068d2e6b2c77"), looks := true }, kinds := [], alts := [], laidByText := true, laidKinds := [.data, .sentinel, .sentinel, .listed, .sentinel, .sentinel, .sentinel, .sentinel, .sentinel, .pinned], laidTests := true, laidLooks := .later }
def FnSentencesUsualUptoCardSaid : Prop := Claim7.holds Tryd.pinned (.plain (OpenSpec.upto fnSentencesUsualSpec)) fnSentencesUsualUptoCard

/-- THE SECOND FORM's CARD OF 'laws.FnSentencesEnd'. -/
def fnSentencesEndUptoCard : Claim7 := { stood := { row := fnSentencesEndUptoRow, standIns := [], harness := (true, "71196e2d22d7c6587d6a13a40ba7bf22b50d18c0ec4455a82085068d2e6b2c77"), looks := true }, kinds := [], alts := [], laidByText := true, laidKinds := [.data, .sentinel, .sentinel, .listed, .sentinel, .sentinel, .sentinel, .sentinel, .sentinel, .pinned], laidTests := true, laidLooks := .later }
def FnSentencesEndUptoCardSaid : Prop := Claim7.holds Tryd.pinned (.plain (OpenSpec.upto fnSentencesEndSpec)) fnSentencesEndUptoCard

/-- THE SECOND FORM's CARD OF 'laws.FnSentencesJoin'. -/
def fnSentencesJoinUptoCard : Claim7 := { stood := { row := fnSentencesJoinUptoRow, standIns := [], harness := (true, "71196e2d22d7c6587d6a13a40ba7bf22b50d18c0ec4455a82085068d2e6b2c77"), looks := true }, kinds := [], alts := [], laidByText := true, laidKinds := [.data, .sentinel, .sentinel, .listed, .sentinel, .sentinel, .sentinel, .sentinel, .sentinel, .pinned], laidTests := true, laidLooks := .later }
def FnSentencesJoinUptoCardSaid : Prop := Claim7.holds Tryd.pinned (.plain (OpenSpec.upto fnSentencesJoinSpec)) fnSentencesJoinUptoCard

/-- THE SECOND FORM's CARD OF 'laws.FnSentencesSay'. -/
def fnSentencesSayUptoCard : Claim7 := { stood := { row := fnSentencesSayUptoRow, standIns := [], harness := (true, "71196e2d22d7c6587d6a13a40ba7bf22b50d18c0ec4455a82085068d2e6b2c77"), looks := true }, kinds := [], alts := [], laidByText := true, laidKinds := [.data, .sentinel, .sentinel, .listed, .sentinel, .sentinel, .sentinel, .sentinel, .sentinel, .pinned], laidTests := true, laidLooks := .later }
def FnSentencesSayUptoCardSaid : Prop := Claim7.holds Tryd.pinned (.plain (OpenSpec.upto fnSentencesSaySpec)) fnSentencesSayUptoCard
end Rows
end Go.Proofs.YtpjnebmcbeblkaaDoor
