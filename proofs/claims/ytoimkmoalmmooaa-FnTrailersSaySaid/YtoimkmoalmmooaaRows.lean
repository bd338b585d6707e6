/-
  No cell of these rows narrows 'for every input' (looked for: loops, veiled, ifaces, maps, wideKeys, modest, calm, conditions, laid).
  DERIVED. THE GIVEN ROWS OF THIS SEAT. 5 by the template 'for every input the law returns true; each argument reads behind the call as it read before'; 0 by the template 'total and deterministic' (their statements: YtoimkmoalmmooaaTotals.lean).
  GIVEN WITH THE SEED: the statements are not yours to turn. If you find one false, say at which input.
  Laid BY PROGRAM, IN A SANDBOX (cutbox-rows.mjs): the forced cells as the released guide's own fill.sh prints them over the translation 1c0042a015b8bf86… (all of the seat's roots in one cut). By AI agents, Wed Nov 11 2026. No macro, syntax, notation, axiom, sorry.
-/
import Derived.Test.YtoimkmoalmmooaaChecked
import GoSem.Claim
import GoSem.ClaimJoined
import GoSem.ClaimMapViews
import Derived.JoinedTies
import Derived.KernelRfl
namespace Go.Proofs.Ytoimkmoalmmooaa
/- THE CELL 'sum', in the pinned program and in every row, IS THE sha256 OF THE DUMP (.gsa) THAT YtoimkmoalmmooaaProg.lean LOADS. Nothing in Lean hashes anything: it is a label: what it is worth is what the hold of that sum in a sandbox is worth. -/
noncomputable def Try.pinned : Pinned := { name := "ytoimkmoalmmooaa", sum := "1c0042a015b8bf86a0cb945f33ea5dd5cec13235e2b992dfcf8517c1a0d6574d", checked := Try.checked }
namespace Rows
def none {H : Type} : Left H := { results := [], args := [] }

/-- 'laws.FnTrailerNames': WHATEVER THE INPUT: true; the input reads as it did. -/
def fnTrailerNamesSpec : ChangeSpec := { name := "fnTrailerNames", fn := fun _ => fun
  | [d] => { results := [.lit (.bool true)], args := [d] }
  | _ => none }
def fnTrailerNamesRow : OpenClaim := { program := "ytoimkmoalmmooaa", sum := "1c0042a015b8bf86a0cb945f33ea5dd5cec13235e2b992dfcf8517c1a0d6574d", func := "pub-headstall/laws.FnTrailerNames", spec := "fnTrailerNames", inPlace := ["internal/bytealg.IndexByte"], unfollowed := true, recurses := true, apart := false }
def FnTrailerNamesSaid : Prop := fnTrailerNamesRow.holds Try.pinned (OpenSpec.ofChange fnTrailerNamesSpec)

/-- ITS FALSE NEIGHBOUR: 'it returns false'. Refute it at one input. -/
def fnTrailerNamesWrong : ChangeSpec := { name := "fnTrailerNames", fn := fun _ => fun
  | [d] => { results := [.lit (.bool false)], args := [d] }
  | _ => none }
def FnTrailerNamesWrongFalsely : Prop := fnTrailerNamesRow.holds Try.pinned (OpenSpec.ofChange fnTrailerNamesWrong)

/-- 'laws.FnTrailerUpdates': WHATEVER THE INPUT: true; the input reads as it did. -/
def fnTrailerUpdatesSpec : ChangeSpec := { name := "fnTrailerUpdates", fn := fun _ => fun
  | [d1, d2, d3, d4] => { results := [.lit (.bool true)], args := [d1, d2, d3, d4] }
  | _ => none }
def fnTrailerUpdatesRow : OpenClaim := { program := "ytoimkmoalmmooaa", sum := "1c0042a015b8bf86a0cb945f33ea5dd5cec13235e2b992dfcf8517c1a0d6574d", func := "pub-headstall/laws.FnTrailerUpdates", spec := "fnTrailerUpdates", inPlace := ["internal/bytealg.IndexByte"], unfollowed := true, recurses := true, apart := false }
def FnTrailerUpdatesSaid : Prop := fnTrailerUpdatesRow.holds Try.pinned (OpenSpec.ofChange fnTrailerUpdatesSpec)

/-- ITS FALSE NEIGHBOUR: 'it returns false'. Refute it at one input. -/
def fnTrailerUpdatesWrong : ChangeSpec := { name := "fnTrailerUpdates", fn := fun _ => fun
  | [d1, d2, d3, d4] => { results := [.lit (.bool false)], args := [d1, d2, d3, d4] }
  | _ => none }
def FnTrailerUpdatesWrongFalsely : Prop := fnTrailerUpdatesRow.holds Try.pinned (OpenSpec.ofChange fnTrailerUpdatesWrong)

/-- 'laws.FnTrailersAhead': WHATEVER THE INPUT: true; the input reads as it did. -/
def fnTrailersAheadSpec : ChangeSpec := { name := "fnTrailersAhead", fn := fun _ => fun
  | [d1, d2] => { results := [.lit (.bool true)], args := [d1, d2] }
  | _ => none }
def fnTrailersAheadRow : OpenClaim := { program := "ytoimkmoalmmooaa", sum := "1c0042a015b8bf86a0cb945f33ea5dd5cec13235e2b992dfcf8517c1a0d6574d", func := "pub-headstall/laws.FnTrailersAhead", spec := "fnTrailersAhead", inPlace := ["internal/bytealg.IndexByte"], unfollowed := true, recurses := true, apart := false }
def FnTrailersAheadSaid : Prop := fnTrailersAheadRow.holds Try.pinned (OpenSpec.ofChange fnTrailersAheadSpec)

/-- ITS FALSE NEIGHBOUR: 'it returns false'. Refute it at one input. -/
def fnTrailersAheadWrong : ChangeSpec := { name := "fnTrailersAhead", fn := fun _ => fun
  | [d1, d2] => { results := [.lit (.bool false)], args := [d1, d2] }
  | _ => none }
def FnTrailersAheadWrongFalsely : Prop := fnTrailersAheadRow.holds Try.pinned (OpenSpec.ofChange fnTrailersAheadWrong)

/-- 'laws.FnTrailersPlayed': WHATEVER THE INPUT: true; the input reads as it did. -/
def fnTrailersPlayedSpec : ChangeSpec := { name := "fnTrailersPlayed", fn := fun _ => fun
  | [d] => { results := [.lit (.bool true)], args := [d] }
  | _ => none }
def fnTrailersPlayedRow : OpenClaim := { program := "ytoimkmoalmmooaa", sum := "1c0042a015b8bf86a0cb945f33ea5dd5cec13235e2b992dfcf8517c1a0d6574d", func := "pub-headstall/laws.FnTrailersPlayed", spec := "fnTrailersPlayed", inPlace := ["internal/bytealg.IndexByte"], unfollowed := true, recurses := true, apart := false }
def FnTrailersPlayedSaid : Prop := fnTrailersPlayedRow.holds Try.pinned (OpenSpec.ofChange fnTrailersPlayedSpec)

/-- ITS FALSE NEIGHBOUR: 'it returns false'. Refute it at one input. -/
def fnTrailersPlayedWrong : ChangeSpec := { name := "fnTrailersPlayed", fn := fun _ => fun
  | [d] => { results := [.lit (.bool false)], args := [d] }
  | _ => none }
def FnTrailersPlayedWrongFalsely : Prop := fnTrailersPlayedRow.holds Try.pinned (OpenSpec.ofChange fnTrailersPlayedWrong)

/-- 'laws.FnTrailersSay': WHATEVER THE INPUT: true; the input reads as it did. -/
def fnTrailersSaySpec : ChangeSpec := { name := "fnTrailersSay", fn := fun _ => fun
  | [d] => { results := [.lit (.bool true)], args := [d] }
  | _ => none }
def fnTrailersSayRow : OpenClaim := { program := "ytoimkmoalmmooaa", sum := "1c0042a015b8bf86a0cb945f33ea5dd5cec13235e2b992dfcf8517c1a0d6574d", func := "pub-headstall/laws.FnTrailersSay", spec := "fnTrailersSay", inPlace := ["internal/bytealg.IndexByte"], unfollowed := true, recurses := true, apart := false }
def FnTrailersSaySaid : Prop := fnTrailersSayRow.holds Try.pinned (OpenSpec.ofChange fnTrailersSaySpec)

/-- ITS FALSE NEIGHBOUR: 'it returns false'. Refute it at one input. -/
def fnTrailersSayWrong : ChangeSpec := { name := "fnTrailersSay", fn := fun _ => fun
  | [d] => { results := [.lit (.bool false)], args := [d] }
  | _ => none }
def FnTrailersSayWrongFalsely : Prop := fnTrailersSayRow.holds Try.pinned (OpenSpec.ofChange fnTrailersSayWrong)

/- THE SECOND FORM. 'bulk': how many values and letters a reading holds, each counted each time it is reached (what is shared counts as often as it is met; a slice's spare places count too). A statement '..UptoSaid' is the law's where the arguments, and the package variables that the reading takes, are together of bulk at most 1048576: NARROWER than '..Said'. Prove '..Said' where nothing that the law and all that it calls make is longer than what came in: it says more and counts as full. Else prove '..UptoSaid'. A law counts once. -/
mutual
def uptoBulk {H : Type} : DataW H → Nat
  | .lit (.string bytes) => bytes.length + 1
  | .lit _ => 1
  | .nil => 1
  | .ptr d => uptoBulk d + 1
  | .slice elems spare => uptoBulkAll elems + uptoBulkAll spare + 1
  | .agg parts => uptoBulkAll parts + 1
  | .iface _ d => uptoBulk d + 1
  | .map entries => uptoBulkEntries entries + 1
  | .held _ => 1
def uptoBulkAll {H : Type} : List (DataW H) → Nat
  | [] => 0
  | d :: r => uptoBulk d + uptoBulkAll r
def uptoBulkEntries {H : Type} : List (Lit × DataW H) → Nat
  | [] => 0
  | x :: r => uptoBulkEntry x + uptoBulkEntries r
def uptoBulkEntry {H : Type} : Lit × DataW H → Nat
  | (.string bytes, d) => bytes.length + uptoBulk d + 1
  | (_, d) => uptoBulk d + 1
 end
def uptoSmall : (H : Type) → List (DataW H) → Bool := fun _ ds => decide (uptoBulkAll ds ≤ 1048576)
def OpenSpec.upto (s : _root_.Go.ChangeSpec) : _root_.Go.OpenSpec := { _root_.Go.OpenSpec.ofChange s with cond := some uptoSmall }

/-- 'laws.FnTrailerNames', WHERE WHAT IT READS IS OF BULK AT MOST 1048576: true; the input reads as it did. -/
def fnTrailerNamesUptoRow : OpenClaim := { program := "ytoimkmoalmmooaa", sum := "1c0042a015b8bf86a0cb945f33ea5dd5cec13235e2b992dfcf8517c1a0d6574d", func := "pub-headstall/laws.FnTrailerNames", spec := "fnTrailerNames", inPlace := ["internal/bytealg.IndexByte"], unfollowed := true, recurses := true, apart := false, narrowed := true }
def FnTrailerNamesUptoSaid : Prop := fnTrailerNamesUptoRow.holds Try.pinned (OpenSpec.upto fnTrailerNamesSpec)

/-- 'laws.FnTrailerUpdates', WHERE WHAT IT READS IS OF BULK AT MOST 1048576: true; the input reads as it did. -/
def fnTrailerUpdatesUptoRow : OpenClaim := { program := "ytoimkmoalmmooaa", sum := "1c0042a015b8bf86a0cb945f33ea5dd5cec13235e2b992dfcf8517c1a0d6574d", func := "pub-headstall/laws.FnTrailerUpdates", spec := "fnTrailerUpdates", inPlace := ["internal/bytealg.IndexByte"], unfollowed := true, recurses := true, apart := false, narrowed := true }
def FnTrailerUpdatesUptoSaid : Prop := fnTrailerUpdatesUptoRow.holds Try.pinned (OpenSpec.upto fnTrailerUpdatesSpec)

/-- 'laws.FnTrailersAhead', WHERE WHAT IT READS IS OF BULK AT MOST 1048576: true; the input reads as it did. -/
def fnTrailersAheadUptoRow : OpenClaim := { program := "ytoimkmoalmmooaa", sum := "1c0042a015b8bf86a0cb945f33ea5dd5cec13235e2b992dfcf8517c1a0d6574d", func := "pub-headstall/laws.FnTrailersAhead", spec := "fnTrailersAhead", inPlace := ["internal/bytealg.IndexByte"], unfollowed := true, recurses := true, apart := false, narrowed := true }
def FnTrailersAheadUptoSaid : Prop := fnTrailersAheadUptoRow.holds Try.pinned (OpenSpec.upto fnTrailersAheadSpec)

/-- 'laws.FnTrailersPlayed', WHERE WHAT IT READS IS OF BULK AT MOST 1048576: true; the input reads as it did. -/
def fnTrailersPlayedUptoRow : OpenClaim := { program := "ytoimkmoalmmooaa", sum := "1c0042a015b8bf86a0cb945f33ea5dd5cec13235e2b992dfcf8517c1a0d6574d", func := "pub-headstall/laws.FnTrailersPlayed", spec := "fnTrailersPlayed", inPlace := ["internal/bytealg.IndexByte"], unfollowed := true, recurses := true, apart := false, narrowed := true }
def FnTrailersPlayedUptoSaid : Prop := fnTrailersPlayedUptoRow.holds Try.pinned (OpenSpec.upto fnTrailersPlayedSpec)

/-- 'laws.FnTrailersSay', WHERE WHAT IT READS IS OF BULK AT MOST 1048576: true; the input reads as it did. -/
def fnTrailersSayUptoRow : OpenClaim := { program := "ytoimkmoalmmooaa", sum := "1c0042a015b8bf86a0cb945f33ea5dd5cec13235e2b992dfcf8517c1a0d6574d", func := "pub-headstall/laws.FnTrailersSay", spec := "fnTrailersSay", inPlace := ["internal/bytealg.IndexByte"], unfollowed := true, recurses := true, apart := false, narrowed := true }
def FnTrailersSayUptoSaid : Prop := fnTrailersSayUptoRow.holds Try.pinned (OpenSpec.upto fnTrailersSaySpec)

end Rows
end Go.Proofs.Ytoimkmoalmmooaa
