/-
  DERIVED. GIVEN WITH THE SEED: THE CARDS: each row of YtdfeojkombmiaaaDoorRows.lean that lists a variable, with what it lists TIED to the program's text (the seventh form; the later family's looks); each row that meets fmt, with fmt's text TOLD by the authors' own Lean function (tested against real Go, not proved from fmt's source: count such statements apart). THE CARD IS WHAT COUNTS. Prove the row's statement (the work); the ties are given (YtdfeojkombmiaaaDoorTie.lean); close each card by the builder's one call (the guide's Derived/Test/ToyasCard.lean, 'card_holds'). Laid BY PROGRAM, IN A SANDBOX (cutbox-door.mjs). By AI agents, Wed Nov 11 2026. No macro, syntax, notation, axiom, sorry.
-/
import Derived.Test.YtdfeojkombmiaaaDoorRows
import GoSem.ClaimSeven
namespace Go.Proofs.YtdfeojkombmiaaaDoor
namespace Rows

/-- THE TIED CARD OF 'laws.FnLines'. -/
def fnLinesCard : Claim7 := { stood := { row := fnLinesRow, standIns := [], harness := (true, "b242269821256ce76b9ace6a10098c4a357cb61695d94e2d58b385cf10f0564a"), looks := false }, kinds := [], alts := [], laidByText := true, laidKinds := [.sentinel], laidTests := true, laidLooks := .later }
def FnLinesCardSaid : Prop := Claim7.holds Tryd.pinned (.plain (OpenSpec.ofChange fnLinesSpec)) fnLinesCard

/-- THE TIED CARD OF 'laws.FnLengthBack'. -/
def fnLengthBackCard : Claim7 := { stood := { row := fnLengthBackRow, standIns := [], harness := (true, "b242269821256ce76b9ace6a10098c4a357cb61695d94e2d58b385cf10f0564a"), looks := false }, kinds := [], alts := [], laidByText := true, laidKinds := [.sentinel, .sentinel, .sentinel], laidTests := true, laidLooks := .later }
def FnLengthBackCardSaid : Prop := Claim7.holds Tryd.pinned (.plain (OpenSpec.ofChange fnLengthBackSpec)) fnLengthBackCard

/-- THE SECOND FORM's CARD OF 'laws.FnLines'. -/
def fnLinesUptoCard : Claim7 := { stood := { row := fnLinesUptoRow, standIns := [], harness := (true, "b242269821256ce76b9ace6a10098c4a357cb61695d94e2d58b385cf10f0564a"), looks := false }, kinds := [], alts := [], laidByText := true, laidKinds := [.sentinel], laidTests := true, laidLooks := .later }
def FnLinesUptoCardSaid : Prop := Claim7.holds Tryd.pinned (.plain (OpenSpec.upto fnLinesSpec)) fnLinesUptoCard

/-- THE SECOND FORM's CARD OF 'laws.FnLengthBack'. -/
def fnLengthBackUptoCard : Claim7 := { stood := { row := fnLengthBackUptoRow, standIns := [], harness := (true, "b242269821256ce76b9ace6a10098c4a357cb61695d94e2d58b385cf10f0564a"), looks := false }, kinds := [], alts := [], laidByText := true, laidKinds := [.sentinel, .sentinel, .sentinel], laidTests := true, laidLooks := .later }
def FnLengthBackUptoCardSaid : Prop := Claim7.holds Tryd.pinned (.plain (OpenSpec.upto fnLengthBackSpec)) fnLengthBackUptoCard
end Rows
end Go.Proofs.YtdfeojkombmiaaaDoor
