/-
  DERIVED. GIVEN WITH THE SEED: THE CARDS: each row of YtcbpbmflgcgmaaaDoorRows.lean that lists a variable, with what it lists TIED to the program's text (the seventh form; the later family's looks); each row that meets fmt, with fmt's text TOLD by the authors' own Lean function (tested against real Go, not proved from fmt's source: count such statements apart). THE CARD IS WHAT COUNTS. Prove the row's statement (the work); the ties are given (YtcbpbmflgcgmaaaDoorTie.lean); close each card by the builder's one call (the guide's Derived/Test/ToyasCard.lean, 'card_holds'). Laid BY PROGRAM, IN A SANDBOX (cutbox-door.mjs). By AI agents, Wed Nov 11 2026. No macro, syntax, notation, axiom, sorry.
-/
import Derived.Test.YtcbpbmflgcgmaaaDoorRows
import GoSem.ClaimSeven
namespace Go.Proofs.YtcbpbmflgcgmaaaDoor
namespace Rows

/-- THE TIED CARD OF 'laws.FnAcceptsEncoding'. -/
def fnAcceptsEncodingCard : Claim7 := { stood := { row := fnAcceptsEncodingRow, standIns := [], harness := (true, "601420a3b7741df875a45732d30581ef9e4a349f6c1322ef961cdc622d00e486"), looks := false }, kinds := [], alts := [], laidByText := true, laidKinds := [.sentinel, .sentinel, .sentinel], laidTests := true, laidLooks := .later }
def FnAcceptsEncodingCardSaid : Prop := Claim7.holds Tryd.pinned (.plain (OpenSpec.ofChange fnAcceptsEncodingSpec)) fnAcceptsEncodingCard

/-- THE TIED CARD OF 'laws.FnCookieBack'. -/
def fnCookieBackCard : Claim7 := { stood := { row := fnCookieBackRow, standIns := [], harness := (true, "601420a3b7741df875a45732d30581ef9e4a349f6c1322ef961cdc622d00e486"), looks := false }, kinds := [], alts := [], laidByText := true, laidKinds := [.sentinel, .sentinel, .sentinel, .sentinel, .sentinel], laidTests := true, laidLooks := .later }
def FnCookieBackCardSaid : Prop := Claim7.holds Tryd.pinned (.plain (OpenSpec.ofChange fnCookieBackSpec)) fnCookieBackCard

/-- THE TIED CARD OF 'laws.FnCookieSays'. -/
def fnCookieSaysCard : Claim7 := { stood := { row := fnCookieSaysRow, standIns := [], harness := (true, "601420a3b7741df875a45732d30581ef9e4a349f6c1322ef961cdc622d00e486"), looks := false }, kinds := [], alts := [], laidByText := true, laidKinds := [.sentinel, .sentinel, .sentinel, .sentinel, .sentinel], laidTests := true, laidLooks := .later }
def FnCookieSaysCardSaid : Prop := Claim7.holds Tryd.pinned (.plain (OpenSpec.ofChange fnCookieSaysSpec)) fnCookieSaysCard

/-- THE TIED CARD OF 'laws.FnRanges'. -/
def fnRangesCard : Claim7 := { stood := { row := fnRangesRow, standIns := [], harness := (true, "601420a3b7741df875a45732d30581ef9e4a349f6c1322ef961cdc622d00e486"), looks := false }, kinds := [], alts := [], laidByText := true, laidKinds := [.sentinel, .sentinel, .sentinel], laidTests := true, laidLooks := .later }
def FnRangesCardSaid : Prop := Claim7.holds Tryd.pinned (.plain (OpenSpec.ofChange fnRangesSpec)) fnRangesCard

/-- THE SECOND FORM's CARD OF 'laws.FnAcceptsEncoding'. -/
def fnAcceptsEncodingUptoCard : Claim7 := { stood := { row := fnAcceptsEncodingUptoRow, standIns := [], harness := (true, "601420a3b7741df875a45732d30581ef9e4a349f6c1322ef961cdc622d00e486"), looks := false }, kinds := [], alts := [], laidByText := true, laidKinds := [.sentinel, .sentinel, .sentinel], laidTests := true, laidLooks := .later }
def FnAcceptsEncodingUptoCardSaid : Prop := Claim7.holds Tryd.pinned (.plain (OpenSpec.upto fnAcceptsEncodingSpec)) fnAcceptsEncodingUptoCard

/-- THE SECOND FORM's CARD OF 'laws.FnCookieBack'. -/
def fnCookieBackUptoCard : Claim7 := { stood := { row := fnCookieBackUptoRow, standIns := [], harness := (true, "601420a3b7741df875a45732d30581ef9e4a349f6c1322ef961cdc622d00e486"), looks := false }, kinds := [], alts := [], laidByText := true, laidKinds := [.sentinel, .sentinel, .sentinel, .sentinel, .sentinel], laidTests := true, laidLooks := .later }
def FnCookieBackUptoCardSaid : Prop := Claim7.holds Tryd.pinned (.plain (OpenSpec.upto fnCookieBackSpec)) fnCookieBackUptoCard

/-- THE SECOND FORM's CARD OF 'laws.FnCookieSays'. -/
def fnCookieSaysUptoCard : Claim7 := { stood := { row := fnCookieSaysUptoRow, standIns := [], harness := (true, "601420a3b7741df875a45732d30581ef9e4a349f6c1322ef961cdc622d00e486"), looks := false }, kinds := [], alts := [], laidByText := true, laidKinds := [.sentinel, .sentinel, .sentinel, .sentinel, .sentinel], laidTests := true, laidLooks := .later }
def FnCookieSaysUptoCardSaid : Prop := Claim7.holds Tryd.pinned (.plain (OpenSpec.upto fnCookieSaysSpec)) fnCookieSaysUptoCard

/-- THE SECOND FORM's CARD OF 'laws.FnRanges'. -/
def fnRangesUptoCard : Claim7 := { stood := { row := fnRangesUptoRow, standIns := [], harness := (true, "601420a3b7741df875a45732d30581ef9e4a349f6c1322ef961cdc622d00e486"), looks := false }, kinds := [], alts := [], laidByText := true, laidKinds := [.sentinel, .sentinel, .sentinel], laidTests := true, laidLooks := .later }
def FnRangesUptoCardSaid : Prop := Claim7.holds Tryd.pinned (.plain (OpenSpec.upto fnRangesSpec)) fnRangesUptoCard
end Rows
end Go.Proofs.YtcbpbmflgcgmaaaDoor
