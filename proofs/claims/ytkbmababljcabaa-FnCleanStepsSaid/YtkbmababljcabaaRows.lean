/-
  No cell of these rows narrows 'for every input' (looked for: loops, veiled, ifaces, maps, wideKeys, modest, calm, conditions, laid).
  DERIVED. THE GIVEN ROWS OF THIS SEAT. 10 by the template 'for every input the law returns true; each argument reads behind the call as it read before'; 0 by the template 'total and deterministic' (their statements: YtkbmababljcabaaTotals.lean).
  GIVEN WITH THE SEED: the statements are not yours to turn. If you find one false, say at which input.
  Laid BY PROGRAM, IN A SANDBOX (cutbox-rows.mjs): the forced cells as the released guide's own fill.sh prints them over the translation f57b11324d261deb… (all of the seat's roots in one cut). By AI agents, Wed Nov 11 2026. No macro, syntax, notation, axiom, sorry.
-/
import Derived.Test.YtkbmababljcabaaChecked
import GoSem.Claim
import GoSem.ClaimJoined
import GoSem.ClaimMapViews
import Derived.JoinedTies
import Derived.KernelRfl
namespace Go.Proofs.Ytkbmababljcabaa
/- THE CELL 'sum', in the pinned program and in every row, IS THE sha256 OF THE DUMP (.gsa) THAT YtkbmababljcabaaProg.lean LOADS. Nothing in Lean hashes anything: it is a label: what it is worth is what the hold of that sum in a sandbox is worth. -/
noncomputable def Try.pinned : Pinned := { name := "ytkbmababljcabaa", sum := "f57b11324d261deb3e925ae87267ddf22acbee3b52ccae993a0893ed8f1155bb", checked := Try.checked }
namespace Rows
def none {H : Type} : Left H := { results := [], args := [] }

/-- 'laws.FnSortedAll': WHATEVER THE INPUT: true; the input reads as it did. -/
def fnSortedAllSpec : ChangeSpec := { name := "fnSortedAll", fn := fun _ => fun
  | [d] => { results := [.lit (.bool true)], args := [d] }
  | _ => none }
def fnSortedAllRow : OpenClaim := { program := "ytkbmababljcabaa", sum := "f57b11324d261deb3e925ae87267ddf22acbee3b52ccae993a0893ed8f1155bb", func := "pub-headstall/laws.FnSortedAll", spec := "fnSortedAll", apart := false }
def FnSortedAllSaid : Prop := fnSortedAllRow.holds Try.pinned (OpenSpec.ofChange fnSortedAllSpec)

/-- ITS FALSE NEIGHBOUR: 'it returns false'. Refute it at one input. -/
def fnSortedAllWrong : ChangeSpec := { name := "fnSortedAll", fn := fun _ => fun
  | [d] => { results := [.lit (.bool false)], args := [d] }
  | _ => none }
def FnSortedAllWrongFalsely : Prop := fnSortedAllRow.holds Try.pinned (OpenSpec.ofChange fnSortedAllWrong)

/-- 'laws.FnRangesJoin': WHATEVER THE INPUT: true; the input reads as it did. -/
def fnRangesJoinSpec : ChangeSpec := { name := "fnRangesJoin", fn := fun _ => fun
  | [d1, d2] => { results := [.lit (.bool true)], args := [d1, d2] }
  | _ => none }
def fnRangesJoinRow : OpenClaim := { program := "ytkbmababljcabaa", sum := "f57b11324d261deb3e925ae87267ddf22acbee3b52ccae993a0893ed8f1155bb", func := "pub-headstall/laws.FnRangesJoin", spec := "fnRangesJoin", inPlace := ["internal/bytealg.IndexByteString"], unfollowed := true, recurses := true, apart := false }
def FnRangesJoinSaid : Prop := fnRangesJoinRow.holds Try.pinned (OpenSpec.ofChange fnRangesJoinSpec)

/-- ITS FALSE NEIGHBOUR: 'it returns false'. Refute it at one input. -/
def fnRangesJoinWrong : ChangeSpec := { name := "fnRangesJoin", fn := fun _ => fun
  | [d1, d2] => { results := [.lit (.bool false)], args := [d1, d2] }
  | _ => none }
def FnRangesJoinWrongFalsely : Prop := fnRangesJoinRow.holds Try.pinned (OpenSpec.ofChange fnRangesJoinWrong)

/-- 'laws.FnAddrParts': WHATEVER THE INPUT: true; the input reads as it did. -/
def fnAddrPartsSpec : ChangeSpec := { name := "fnAddrParts", fn := fun _ => fun
  | [d1, d2] => { results := [.lit (.bool true)], args := [d1, d2] }
  | _ => none }
def fnAddrPartsRow : OpenClaim := { program := "ytkbmababljcabaa", sum := "f57b11324d261deb3e925ae87267ddf22acbee3b52ccae993a0893ed8f1155bb", func := "pub-headstall/laws.FnAddrParts", spec := "fnAddrParts", apart := false }
def FnAddrPartsSaid : Prop := fnAddrPartsRow.holds Try.pinned (OpenSpec.ofChange fnAddrPartsSpec)

/-- ITS FALSE NEIGHBOUR: 'it returns false'. Refute it at one input. -/
def fnAddrPartsWrong : ChangeSpec := { name := "fnAddrParts", fn := fun _ => fun
  | [d1, d2] => { results := [.lit (.bool false)], args := [d1, d2] }
  | _ => none }
def FnAddrPartsWrongFalsely : Prop := fnAddrPartsRow.holds Try.pinned (OpenSpec.ofChange fnAddrPartsWrong)

/-- 'laws.FnBracketsPoints': WHATEVER THE INPUT: true; the input reads as it did. -/
def fnBracketsPointsSpec : ChangeSpec := { name := "fnBracketsPoints", fn := fun _ => fun
  | [d1, d2] => { results := [.lit (.bool true)], args := [d1, d2] }
  | _ => none }
def fnBracketsPointsRow : OpenClaim := { program := "ytkbmababljcabaa", sum := "f57b11324d261deb3e925ae87267ddf22acbee3b52ccae993a0893ed8f1155bb", func := "pub-headstall/laws.FnBracketsPoints", spec := "fnBracketsPoints", inPlace := ["internal/abi.NoEscape"], apart := false }
def FnBracketsPointsSaid : Prop := fnBracketsPointsRow.holds Try.pinned (OpenSpec.ofChange fnBracketsPointsSpec)

/-- ITS FALSE NEIGHBOUR: 'it returns false'. Refute it at one input. -/
def fnBracketsPointsWrong : ChangeSpec := { name := "fnBracketsPoints", fn := fun _ => fun
  | [d1, d2] => { results := [.lit (.bool false)], args := [d1, d2] }
  | _ => none }
def FnBracketsPointsWrongFalsely : Prop := fnBracketsPointsRow.holds Try.pinned (OpenSpec.ofChange fnBracketsPointsWrong)

/-- 'laws.FnParamsBack': WHATEVER THE INPUT: true; the input reads as it did. -/
def fnParamsBackSpec : ChangeSpec := { name := "fnParamsBack", fn := fun _ => fun
  | [d1, d2, d3] => { results := [.lit (.bool true)], args := [d1, d2, d3] }
  | _ => none }
def fnParamsBackRow : OpenClaim := { program := "ytkbmababljcabaa", sum := "f57b11324d261deb3e925ae87267ddf22acbee3b52ccae993a0893ed8f1155bb", func := "pub-headstall/laws.FnParamsBack", spec := "fnParamsBack", unfollowed := true, recurses := true, apart := false }
def FnParamsBackSaid : Prop := fnParamsBackRow.holds Try.pinned (OpenSpec.ofChange fnParamsBackSpec)

/-- ITS FALSE NEIGHBOUR: 'it returns false'. Refute it at one input. -/
def fnParamsBackWrong : ChangeSpec := { name := "fnParamsBack", fn := fun _ => fun
  | [d1, d2, d3] => { results := [.lit (.bool false)], args := [d1, d2, d3] }
  | _ => none }
def FnParamsBackWrongFalsely : Prop := fnParamsBackRow.holds Try.pinned (OpenSpec.ofChange fnParamsBackWrong)

/-- 'laws.FnCleanSteps': WHATEVER THE INPUT: true; the input reads as it did. -/
def fnCleanStepsSpec : ChangeSpec := { name := "fnCleanSteps", fn := fun _ => fun
  | [d1, d2, d3, d4] => { results := [.lit (.bool true)], args := [d1, d2, d3, d4] }
  | _ => none }
def fnCleanStepsRow : OpenClaim := { program := "ytkbmababljcabaa", sum := "f57b11324d261deb3e925ae87267ddf22acbee3b52ccae993a0893ed8f1155bb", func := "pub-headstall/laws.FnCleanSteps", spec := "fnCleanSteps", unfollowed := true, recurses := true, apart := false }
def FnCleanStepsSaid : Prop := fnCleanStepsRow.holds Try.pinned (OpenSpec.ofChange fnCleanStepsSpec)

/-- ITS FALSE NEIGHBOUR: 'it returns false'. Refute it at one input. -/
def fnCleanStepsWrong : ChangeSpec := { name := "fnCleanSteps", fn := fun _ => fun
  | [d1, d2, d3, d4] => { results := [.lit (.bool false)], args := [d1, d2, d3, d4] }
  | _ => none }
def FnCleanStepsWrongFalsely : Prop := fnCleanStepsRow.holds Try.pinned (OpenSpec.ofChange fnCleanStepsWrong)

/-- 'laws.FnParamsAll': WHATEVER THE INPUT: true; the input reads as it did. -/
def fnParamsAllSpec : ChangeSpec := { name := "fnParamsAll", fn := fun _ => fun
  | [d1, d2] => { results := [.lit (.bool true)], args := [d1, d2] }
  | _ => none }
def fnParamsAllRow : OpenClaim := { program := "ytkbmababljcabaa", sum := "f57b11324d261deb3e925ae87267ddf22acbee3b52ccae993a0893ed8f1155bb", func := "pub-headstall/laws.FnParamsAll", spec := "fnParamsAll", unfollowed := true, recurses := true, apart := false }
def FnParamsAllSaid : Prop := fnParamsAllRow.holds Try.pinned (OpenSpec.ofChange fnParamsAllSpec)

/-- ITS FALSE NEIGHBOUR: 'it returns false'. Refute it at one input. -/
def fnParamsAllWrong : ChangeSpec := { name := "fnParamsAll", fn := fun _ => fun
  | [d1, d2] => { results := [.lit (.bool false)], args := [d1, d2] }
  | _ => none }
def FnParamsAllWrongFalsely : Prop := fnParamsAllRow.holds Try.pinned (OpenSpec.ofChange fnParamsAllWrong)

/-- 'laws.FnTypeAccepted': WHATEVER THE INPUT: true; the input reads as it did. -/
def fnTypeAcceptedSpec : ChangeSpec := { name := "fnTypeAccepted", fn := fun _ => fun
  | [d1, d2, d3, d4, d5, d6] => { results := [.lit (.bool true)], args := [d1, d2, d3, d4, d5, d6] }
  | _ => none }
def fnTypeAcceptedRow : OpenClaim := { program := "ytkbmababljcabaa", sum := "f57b11324d261deb3e925ae87267ddf22acbee3b52ccae993a0893ed8f1155bb", func := "pub-headstall/laws.FnTypeAccepted", spec := "fnTypeAccepted", inPlace := ["internal/bytealg.IndexByteString"], unfollowed := true, recurses := true, apart := false }
def FnTypeAcceptedSaid : Prop := fnTypeAcceptedRow.holds Try.pinned (OpenSpec.ofChange fnTypeAcceptedSpec)

/-- ITS FALSE NEIGHBOUR: 'it returns false'. Refute it at one input. -/
def fnTypeAcceptedWrong : ChangeSpec := { name := "fnTypeAccepted", fn := fun _ => fun
  | [d1, d2, d3, d4, d5, d6] => { results := [.lit (.bool false)], args := [d1, d2, d3, d4, d5, d6] }
  | _ => none }
def FnTypeAcceptedWrongFalsely : Prop := fnTypeAcceptedRow.holds Try.pinned (OpenSpec.ofChange fnTypeAcceptedWrong)

/-- 'laws.FnNegotiationSays': WHATEVER THE INPUT: true; the input reads as it did. -/
def fnNegotiationSaysSpec : ChangeSpec := { name := "fnNegotiationSays", fn := fun _ => fun
  | [d1, d2, d3, d4] => { results := [.lit (.bool true)], args := [d1, d2, d3, d4] }
  | _ => none }
def fnNegotiationSaysRow : OpenClaim := { program := "ytkbmababljcabaa", sum := "f57b11324d261deb3e925ae87267ddf22acbee3b52ccae993a0893ed8f1155bb", func := "pub-headstall/laws.FnNegotiationSays", spec := "fnNegotiationSays", inPlace := ["internal/bytealg.IndexByteString"], unfollowed := true, recurses := true, apart := false }
def FnNegotiationSaysSaid : Prop := fnNegotiationSaysRow.holds Try.pinned (OpenSpec.ofChange fnNegotiationSaysSpec)

/-- ITS FALSE NEIGHBOUR: 'it returns false'. Refute it at one input. -/
def fnNegotiationSaysWrong : ChangeSpec := { name := "fnNegotiationSays", fn := fun _ => fun
  | [d1, d2, d3, d4] => { results := [.lit (.bool false)], args := [d1, d2, d3, d4] }
  | _ => none }
def FnNegotiationSaysWrongFalsely : Prop := fnNegotiationSaysRow.holds Try.pinned (OpenSpec.ofChange fnNegotiationSaysWrong)

/-- 'laws.FnTypesSay': WHATEVER THE INPUT: true; the input reads as it did. -/
def fnTypesSaySpec : ChangeSpec := { name := "fnTypesSay", fn := fun _ => fun
  | [d1, d2, d3, d4] => { results := [.lit (.bool true)], args := [d1, d2, d3, d4] }
  | _ => none }
def fnTypesSayRow : OpenClaim := { program := "ytkbmababljcabaa", sum := "f57b11324d261deb3e925ae87267ddf22acbee3b52ccae993a0893ed8f1155bb", func := "pub-headstall/laws.FnTypesSay", spec := "fnTypesSay", inPlace := ["internal/bytealg.IndexByteString"], unfollowed := true, recurses := true, apart := false }
def FnTypesSaySaid : Prop := fnTypesSayRow.holds Try.pinned (OpenSpec.ofChange fnTypesSaySpec)

/-- ITS FALSE NEIGHBOUR: 'it returns false'. Refute it at one input. -/
def fnTypesSayWrong : ChangeSpec := { name := "fnTypesSay", fn := fun _ => fun
  | [d1, d2, d3, d4] => { results := [.lit (.bool false)], args := [d1, d2, d3, d4] }
  | _ => none }
def FnTypesSayWrongFalsely : Prop := fnTypesSayRow.holds Try.pinned (OpenSpec.ofChange fnTypesSayWrong)

/- THE SECOND FORM. 'bulk': how many values and letters a reading holds, each counted each time it is reached (what is shared counts as often as it is met; a slice's spare places count too). A statement '..UptoSaid' is the law's where the arguments, and the package variables that the reading takes, are together of bulk at most 1048576: NARROWER than '..Said'. Prove '..Said' where nothing that the law and all that it calls make is longer than what came in: it says more and counts as full. Else prove '..UptoSaid'. A law counts once. -/
mutual
def uptoBulk {H : Type} : DataW H → Nat
  | .lit (.string bytes) => bytes.length + 1
  | .lit _ => 1
  | .nil => 1
  | .ptr d => uptoBulk d + 1
  | .slice elems spare => uptoBulkAll elems + uptoBulkAll spare + 1
  | .agg parts => uptoBulkAll parts + 1
  | .iface _ d => uptoBulk d + 1
  | .map entries => uptoBulkEntries entries + 1
  | .held _ => 1
def uptoBulkAll {H : Type} : List (DataW H) → Nat
  | [] => 0
  | d :: r => uptoBulk d + uptoBulkAll r
def uptoBulkEntries {H : Type} : List (Lit × DataW H) → Nat
  | [] => 0
  | x :: r => uptoBulkEntry x + uptoBulkEntries r
def uptoBulkEntry {H : Type} : Lit × DataW H → Nat
  | (.string bytes, d) => bytes.length + uptoBulk d + 1
  | (_, d) => uptoBulk d + 1
 end
def uptoSmall : (H : Type) → List (DataW H) → Bool := fun _ ds => decide (uptoBulkAll ds ≤ 1048576)
def OpenSpec.upto (s : _root_.Go.ChangeSpec) : _root_.Go.OpenSpec := { _root_.Go.OpenSpec.ofChange s with cond := some uptoSmall }

/-- 'laws.FnSortedAll', WHERE WHAT IT READS IS OF BULK AT MOST 1048576: true; the input reads as it did. -/
def fnSortedAllUptoRow : OpenClaim := { program := "ytkbmababljcabaa", sum := "f57b11324d261deb3e925ae87267ddf22acbee3b52ccae993a0893ed8f1155bb", func := "pub-headstall/laws.FnSortedAll", spec := "fnSortedAll", apart := false, narrowed := true }
def FnSortedAllUptoSaid : Prop := fnSortedAllUptoRow.holds Try.pinned (OpenSpec.upto fnSortedAllSpec)

/-- 'laws.FnRangesJoin', WHERE WHAT IT READS IS OF BULK AT MOST 1048576: true; the input reads as it did. -/
def fnRangesJoinUptoRow : OpenClaim := { program := "ytkbmababljcabaa", sum := "f57b11324d261deb3e925ae87267ddf22acbee3b52ccae993a0893ed8f1155bb", func := "pub-headstall/laws.FnRangesJoin", spec := "fnRangesJoin", inPlace := ["internal/bytealg.IndexByteString"], unfollowed := true, recurses := true, apart := false, narrowed := true }
def FnRangesJoinUptoSaid : Prop := fnRangesJoinUptoRow.holds Try.pinned (OpenSpec.upto fnRangesJoinSpec)

/-- 'laws.FnAddrParts', WHERE WHAT IT READS IS OF BULK AT MOST 1048576: true; the input reads as it did. -/
def fnAddrPartsUptoRow : OpenClaim := { program := "ytkbmababljcabaa", sum := "f57b11324d261deb3e925ae87267ddf22acbee3b52ccae993a0893ed8f1155bb", func := "pub-headstall/laws.FnAddrParts", spec := "fnAddrParts", apart := false, narrowed := true }
def FnAddrPartsUptoSaid : Prop := fnAddrPartsUptoRow.holds Try.pinned (OpenSpec.upto fnAddrPartsSpec)

/-- 'laws.FnBracketsPoints', WHERE WHAT IT READS IS OF BULK AT MOST 1048576: true; the input reads as it did. -/
def fnBracketsPointsUptoRow : OpenClaim := { program := "ytkbmababljcabaa", sum := "f57b11324d261deb3e925ae87267ddf22acbee3b52ccae993a0893ed8f1155bb", func := "pub-headstall/laws.FnBracketsPoints", spec := "fnBracketsPoints", inPlace := ["internal/abi.NoEscape"], apart := false, narrowed := true }
def FnBracketsPointsUptoSaid : Prop := fnBracketsPointsUptoRow.holds Try.pinned (OpenSpec.upto fnBracketsPointsSpec)

/-- 'laws.FnParamsBack', WHERE WHAT IT READS IS OF BULK AT MOST 1048576: true; the input reads as it did. -/
def fnParamsBackUptoRow : OpenClaim := { program := "ytkbmababljcabaa", sum := "f57b11324d261deb3e925ae87267ddf22acbee3b52ccae993a0893ed8f1155bb", func := "pub-headstall/laws.FnParamsBack", spec := "fnParamsBack", unfollowed := true, recurses := true, apart := false, narrowed := true }
def FnParamsBackUptoSaid : Prop := fnParamsBackUptoRow.holds Try.pinned (OpenSpec.upto fnParamsBackSpec)

/-- 'laws.FnCleanSteps', WHERE WHAT IT READS IS OF BULK AT MOST 1048576: true; the input reads as it did. -/
def fnCleanStepsUptoRow : OpenClaim := { program := "ytkbmababljcabaa", sum := "f57b11324d261deb3e925ae87267ddf22acbee3b52ccae993a0893ed8f1155bb", func := "pub-headstall/laws.FnCleanSteps", spec := "fnCleanSteps", unfollowed := true, recurses := true, apart := false, narrowed := true }
def FnCleanStepsUptoSaid : Prop := fnCleanStepsUptoRow.holds Try.pinned (OpenSpec.upto fnCleanStepsSpec)

/-- 'laws.FnParamsAll', WHERE WHAT IT READS IS OF BULK AT MOST 1048576: true; the input reads as it did. -/
def fnParamsAllUptoRow : OpenClaim := { program := "ytkbmababljcabaa", sum := "f57b11324d261deb3e925ae87267ddf22acbee3b52ccae993a0893ed8f1155bb", func := "pub-headstall/laws.FnParamsAll", spec := "fnParamsAll", unfollowed := true, recurses := true, apart := false, narrowed := true }
def FnParamsAllUptoSaid : Prop := fnParamsAllUptoRow.holds Try.pinned (OpenSpec.upto fnParamsAllSpec)

/-- 'laws.FnTypeAccepted', WHERE WHAT IT READS IS OF BULK AT MOST 1048576: true; the input reads as it did. -/
def fnTypeAcceptedUptoRow : OpenClaim := { program := "ytkbmababljcabaa", sum := "f57b11324d261deb3e925ae87267ddf22acbee3b52ccae993a0893ed8f1155bb", func := "pub-headstall/laws.FnTypeAccepted", spec := "fnTypeAccepted", inPlace := ["internal/bytealg.IndexByteString"], unfollowed := true, recurses := true, apart := false, narrowed := true }
def FnTypeAcceptedUptoSaid : Prop := fnTypeAcceptedUptoRow.holds Try.pinned (OpenSpec.upto fnTypeAcceptedSpec)

/-- 'laws.FnNegotiationSays', WHERE WHAT IT READS IS OF BULK AT MOST 1048576: true; the input reads as it did. -/
def fnNegotiationSaysUptoRow : OpenClaim := { program := "ytkbmababljcabaa", sum := "f57b11324d261deb3e925ae87267ddf22acbee3b52ccae993a0893ed8f1155bb", func := "pub-headstall/laws.FnNegotiationSays", spec := "fnNegotiationSays", inPlace := ["internal/bytealg.IndexByteString"], unfollowed := true, recurses := true, apart := false, narrowed := true }
def FnNegotiationSaysUptoSaid : Prop := fnNegotiationSaysUptoRow.holds Try.pinned (OpenSpec.upto fnNegotiationSaysSpec)

/-- 'laws.FnTypesSay', WHERE WHAT IT READS IS OF BULK AT MOST 1048576: true; the input reads as it did. -/
def fnTypesSayUptoRow : OpenClaim := { program := "ytkbmababljcabaa", sum := "f57b11324d261deb3e925ae87267ddf22acbee3b52ccae993a0893ed8f1155bb", func := "pub-headstall/laws.FnTypesSay", spec := "fnTypesSay", inPlace := ["internal/bytealg.IndexByteString"], unfollowed := true, recurses := true, apart := false, narrowed := true }
def FnTypesSayUptoSaid : Prop := fnTypesSayUptoRow.holds Try.pinned (OpenSpec.upto fnTypesSaySpec)

end Rows
end Go.Proofs.Ytkbmababljcabaa
