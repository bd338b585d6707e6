/-
  DERIVED. GIVEN WITH THE SEED: THE CARDS: each row of YtgmjaggkiifdjaaDoorRows.lean that lists a variable, with what it lists TIED to the program's text (the seventh form; the later family's looks); each row that meets fmt, with fmt's text TOLD by the authors' own Lean function (tested against real Go, not proved from fmt's source: count such statements apart). THE CARD IS WHAT COUNTS. Prove the row's statement (the work); the ties are given (YtgmjaggkiifdjaaDoorTie.lean); close each card by the builder's one call (the guide's Derived/Test/ToyasCard.lean, 'card_holds'). Laid BY PROGRAM, IN A SANDBOX (cutbox-door.mjs). By AI agents, Wed Nov 11 2026. No macro, syntax, notation, axiom, sorry.
-/
import Derived.Test.YtgmjaggkiifdjaaDoorRows
import GoSem.ClaimSeven
namespace Go.Proofs.YtgmjaggkiifdjaaDoor
namespace Rows

/-- THE TIED CARD OF 'laws.FnStatusLines'. -/
def fnStatusLinesCard : Claim7 := { stood := { row := fnStatusLinesRow, standIns := [], harness := (true, "0f41279945b348a552a9bed98e151662918a1d8aeae1838ff59062c89c7712c0"), looks := false }, kinds := [], alts := [], laidByText := true, laidKinds := [.data, .data, .data], laidTests := true, laidLooks := .later }
def FnStatusLinesCardSaid : Prop := Claim7.holds Tryd.pinned (.plain (OpenSpec.ofChange fnStatusLinesSpec)) fnStatusLinesCard

/-- THE TIED CARD OF 'laws.FnTrueTexts'. -/
def fnTrueTextsCard : Claim7 := { stood := { row := fnTrueTextsRow, standIns := [], harness := (true, "0f41279945b348a552a9bed98e151662918a1d8aeae1838ff59062c89c7712c0"), looks := false }, kinds := [], alts := [], laidByText := true, laidKinds := [.data, .pinned, .pinned], laidTests := true, laidLooks := .later }
def FnTrueTextsCardSaid : Prop := Claim7.holds Tryd.pinned (.plain (OpenSpec.ofChange fnTrueTextsSpec)) fnTrueTextsCard

/-- THE TIED CARD OF 'laws.FnSmallSays'. -/
def fnSmallSaysCard : Claim7 := { stood := { row := fnSmallSaysRow, standIns := [], harness := (true, "0f41279945b348a552a9bed98e151662918a1d8aeae1838ff59062c89c7712c0"), looks := false }, kinds := [], alts := [], laidByText := true, laidKinds := [.sentinel], laidTests := true, laidLooks := .later }
def FnSmallSaysCardSaid : Prop := Claim7.holds Tryd.pinned (.plain (OpenSpec.ofChange fnSmallSaysSpec)) fnSmallSaysCard

/-- THE TIED CARD OF 'laws.FnWordsSay'. -/
def fnWordsSayCard : Claim7 := { stood := { row := fnWordsSayRow, standIns := [], harness := (true, "0f41279945b348a552a9bed98e151662918a1d8aeae1838ff59062c89c7712c0"), looks := false }, kinds := [], alts := [], laidByText := true, laidKinds := [.data, .pinned, .pinned], laidTests := true, laidLooks := .later }
def FnWordsSayCardSaid : Prop := Claim7.holds Tryd.pinned (.plain (OpenSpec.ofChange fnWordsSaySpec)) fnWordsSayCard

/-- THE SECOND FORM's CARD OF 'laws.FnStatusLines'. -/
def fnStatusLinesUptoCard : Claim7 := { stood := { row := fnStatusLinesUptoRow, standIns := [], harness := (true, "0f41279945b348a552a9bed98e151662918a1d8aeae1838ff59062c89c7712c0"), looks := false }, kinds := [], alts := [], laidByText := true, laidKinds := [.data, .data, .data], laidTests := true, laidLooks := .later }
def FnStatusLinesUptoCardSaid : Prop := Claim7.holds Tryd.pinned (.plain (OpenSpec.upto fnStatusLinesSpec)) fnStatusLinesUptoCard

/-- THE SECOND FORM's CARD OF 'laws.FnTrueTexts'. -/
def fnTrueTextsUptoCard : Claim7 := { stood := { row := fnTrueTextsUptoRow, standIns := [], harness := (true, "0f41279945b348a552a9bed98e151662918a1d8aeae1838ff59062c89c7712c0"), looks := false }, kinds := [], alts := [], laidByText := true, laidKinds := [.data, .pinned, .pinned], laidTests := true, laidLooks := .later }
def FnTrueTextsUptoCardSaid : Prop := Claim7.holds Tryd.pinned (.plain (OpenSpec.upto fnTrueTextsSpec)) fnTrueTextsUptoCard

/-- THE SECOND FORM's CARD OF 'laws.FnSmallSays'. -/
def fnSmallSaysUptoCard : Claim7 := { stood := { row := fnSmallSaysUptoRow, standIns := [], harness := (true, "0f41279945b348a552a9bed98e151662918a1d8aeae1838ff59062c89c7712c0"), looks := false }, kinds := [], alts := [], laidByText := true, laidKinds := [.sentinel], laidTests := true, laidLooks := .later }
def FnSmallSaysUptoCardSaid : Prop := Claim7.holds Tryd.pinned (.plain (OpenSpec.upto fnSmallSaysSpec)) fnSmallSaysUptoCard

/-- THE SECOND FORM's CARD OF 'laws.FnWordsSay'. -/
def fnWordsSayUptoCard : Claim7 := { stood := { row := fnWordsSayUptoRow, standIns := [], harness := (true, "0f41279945b348a552a9bed98e151662918a1d8aeae1838ff59062c89c7712c0"), looks := false }, kinds := [], alts := [], laidByText := true, laidKinds := [.data, .pinned, .pinned], laidTests := true, laidLooks := .later }
def FnWordsSayUptoCardSaid : Prop := Claim7.holds Tryd.pinned (.plain (OpenSpec.upto fnWordsSaySpec)) fnWordsSayUptoCard
end Rows
end Go.Proofs.YtgmjaggkiifdjaaDoor
