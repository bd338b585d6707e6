/-
  No cell of these rows narrows 'for every input' (looked for: loops, veiled, ifaces, maps, wideKeys, modest, calm, conditions, laid).
  DERIVED. THE GIVEN ROWS OF THIS SEAT. 10 by the template 'for every input the law returns true; each argument reads behind the call as it read before'; 0 by the template 'total and deterministic' (their statements: YtdfeojkombmiaaaTotals.lean).
  GIVEN WITH THE SEED: the statements are not yours to turn. If you find one false, say at which input.
  Laid BY PROGRAM, IN A SANDBOX (cutbox-rows.mjs): the forced cells as the released guide's own fill.sh prints them over the translation 8e196b9b1a166515… (all of the seat's roots in one cut). By AI agents, Wed Nov 11 2026. No macro, syntax, notation, axiom, sorry.
-/
import Derived.Test.YtdfeojkombmiaaaChecked
import GoSem.Claim
import GoSem.ClaimJoined
import GoSem.ClaimMapViews
import Derived.JoinedTies
import Derived.KernelRfl
namespace Go.Proofs.Ytdfeojkombmiaaa
/- THE CELL 'sum', in the pinned program and in every row, IS THE sha256 OF THE DUMP (.gsa) THAT YtdfeojkombmiaaaProg.lean LOADS. Nothing in Lean hashes anything: it is a label: what it is worth is what the hold of that sum in a sandbox is worth. -/
noncomputable def Try.pinned : Pinned := { name := "ytdfeojkombmiaaa", sum := "8e196b9b1a166515daddc9fca2ceb25eea843d2edd507e7c82d7966a8d0613f2", checked := Try.checked }
namespace Rows
def none {H : Type} : Left H := { results := [], args := [] }

/-- 'laws.FnTypeAhead': WHATEVER THE INPUT: true; the input reads as it did. -/
def fnTypeAheadSpec : ChangeSpec := { name := "fnTypeAhead", fn := fun _ => fun
  | [d1, d2, d3] => { results := [.lit (.bool true)], args := [d1, d2, d3] }
  | _ => none }
def fnTypeAheadRow : OpenClaim := { program := "ytdfeojkombmiaaa", sum := "8e196b9b1a166515daddc9fca2ceb25eea843d2edd507e7c82d7966a8d0613f2", func := "pub-headstall/laws.FnTypeAhead", spec := "fnTypeAhead", apart := false }
def FnTypeAheadSaid : Prop := fnTypeAheadRow.holds Try.pinned (OpenSpec.ofChange fnTypeAheadSpec)

/-- ITS FALSE NEIGHBOUR: 'it returns false'. Refute it at one input. -/
def fnTypeAheadWrong : ChangeSpec := { name := "fnTypeAhead", fn := fun _ => fun
  | [d1, d2, d3] => { results := [.lit (.bool false)], args := [d1, d2, d3] }
  | _ => none }
def FnTypeAheadWrongFalsely : Prop := fnTypeAheadRow.holds Try.pinned (OpenSpec.ofChange fnTypeAheadWrong)

/-- 'laws.FnOfferAccepted': WHATEVER THE INPUT: true; the input reads as it did. -/
def fnOfferAcceptedSpec : ChangeSpec := { name := "fnOfferAccepted", fn := fun _ => fun
  | [d1, d2] => { results := [.lit (.bool true)], args := [d1, d2] }
  | _ => none }
def fnOfferAcceptedRow : OpenClaim := { program := "ytdfeojkombmiaaa", sum := "8e196b9b1a166515daddc9fca2ceb25eea843d2edd507e7c82d7966a8d0613f2", func := "pub-headstall/laws.FnOfferAccepted", spec := "fnOfferAccepted", apart := false }
def FnOfferAcceptedSaid : Prop := fnOfferAcceptedRow.holds Try.pinned (OpenSpec.ofChange fnOfferAcceptedSpec)

/-- ITS FALSE NEIGHBOUR: 'it returns false'. Refute it at one input. -/
def fnOfferAcceptedWrong : ChangeSpec := { name := "fnOfferAccepted", fn := fun _ => fun
  | [d1, d2] => { results := [.lit (.bool false)], args := [d1, d2] }
  | _ => none }
def FnOfferAcceptedWrongFalsely : Prop := fnOfferAcceptedRow.holds Try.pinned (OpenSpec.ofChange fnOfferAcceptedWrong)

/-- 'laws.FnGroupPaths': WHATEVER THE INPUT: true; the input reads as it did. -/
def fnGroupPathsSpec : ChangeSpec := { name := "fnGroupPaths", fn := fun _ => fun
  | [d1, d2, d3, d4, d5] => { results := [.lit (.bool true)], args := [d1, d2, d3, d4, d5] }
  | _ => none }
def fnGroupPathsRow : OpenClaim := { program := "ytdfeojkombmiaaa", sum := "8e196b9b1a166515daddc9fca2ceb25eea843d2edd507e7c82d7966a8d0613f2", func := "pub-headstall/laws.FnGroupPaths", spec := "fnGroupPaths", apart := false }
def FnGroupPathsSaid : Prop := fnGroupPathsRow.holds Try.pinned (OpenSpec.ofChange fnGroupPathsSpec)

/-- ITS FALSE NEIGHBOUR: 'it returns false'. Refute it at one input. -/
def fnGroupPathsWrong : ChangeSpec := { name := "fnGroupPaths", fn := fun _ => fun
  | [d1, d2, d3, d4, d5] => { results := [.lit (.bool false)], args := [d1, d2, d3, d4, d5] }
  | _ => none }
def FnGroupPathsWrongFalsely : Prop := fnGroupPathsRow.holds Try.pinned (OpenSpec.ofChange fnGroupPathsWrong)

/-- 'laws.FnWithPort': WHATEVER THE INPUT: true; the input reads as it did. -/
def fnWithPortSpec : ChangeSpec := { name := "fnWithPort", fn := fun _ => fun
  | [d1, d2, d3] => { results := [.lit (.bool true)], args := [d1, d2, d3] }
  | _ => none }
def fnWithPortRow : OpenClaim := { program := "ytdfeojkombmiaaa", sum := "8e196b9b1a166515daddc9fca2ceb25eea843d2edd507e7c82d7966a8d0613f2", func := "pub-headstall/laws.FnWithPort", spec := "fnWithPort", inPlace := ["internal/bytealg.IndexByteString"], recurses := true, apart := false }
def FnWithPortSaid : Prop := fnWithPortRow.holds Try.pinned (OpenSpec.ofChange fnWithPortSpec)

/-- ITS FALSE NEIGHBOUR: 'it returns false'. Refute it at one input. -/
def fnWithPortWrong : ChangeSpec := { name := "fnWithPort", fn := fun _ => fun
  | [d1, d2, d3] => { results := [.lit (.bool false)], args := [d1, d2, d3] }
  | _ => none }
def FnWithPortWrongFalsely : Prop := fnWithPortRow.holds Try.pinned (OpenSpec.ofChange fnWithPortWrong)

/-- 'laws.FnMethods': WHATEVER THE INPUT: true; the input reads as it did. -/
def fnMethodsSpec : ChangeSpec := { name := "fnMethods", fn := fun _ => fun
  | [d] => { results := [.lit (.bool true)], args := [d] }
  | _ => none }
def fnMethodsRow : OpenClaim := { program := "ytdfeojkombmiaaa", sum := "8e196b9b1a166515daddc9fca2ceb25eea843d2edd507e7c82d7966a8d0613f2", func := "pub-headstall/laws.FnMethods", spec := "fnMethods", apart := false }
def FnMethodsSaid : Prop := fnMethodsRow.holds Try.pinned (OpenSpec.ofChange fnMethodsSpec)

/-- ITS FALSE NEIGHBOUR: 'it returns false'. Refute it at one input. -/
def fnMethodsWrong : ChangeSpec := { name := "fnMethods", fn := fun _ => fun
  | [d] => { results := [.lit (.bool false)], args := [d] }
  | _ => none }
def FnMethodsWrongFalsely : Prop := fnMethodsRow.holds Try.pinned (OpenSpec.ofChange fnMethodsWrong)

/-- 'laws.FnTokenBytes': WHATEVER THE INPUT: true; the input reads as it did. -/
def fnTokenBytesSpec : ChangeSpec := { name := "fnTokenBytes", fn := fun _ => fun
  | [d] => { results := [.lit (.bool true)], args := [d] }
  | _ => none }
def fnTokenBytesRow : OpenClaim := { program := "ytdfeojkombmiaaa", sum := "8e196b9b1a166515daddc9fca2ceb25eea843d2edd507e7c82d7966a8d0613f2", func := "pub-headstall/laws.FnTokenBytes", spec := "fnTokenBytes", apart := false }
def FnTokenBytesSaid : Prop := fnTokenBytesRow.holds Try.pinned (OpenSpec.ofChange fnTokenBytesSpec)

/-- ITS FALSE NEIGHBOUR: 'it returns false'. Refute it at one input. -/
def fnTokenBytesWrong : ChangeSpec := { name := "fnTokenBytes", fn := fun _ => fun
  | [d] => { results := [.lit (.bool false)], args := [d] }
  | _ => none }
def FnTokenBytesWrongFalsely : Prop := fnTokenBytesRow.holds Try.pinned (OpenSpec.ofChange fnTokenBytesWrong)

/-- 'laws.FnNoCacheWord': WHATEVER THE INPUT: true; the input reads as it did. -/
def fnNoCacheWordSpec : ChangeSpec := { name := "fnNoCacheWord", fn := fun _ => fun
  | [d1, d2] => { results := [.lit (.bool true)], args := [d1, d2] }
  | _ => none }
def fnNoCacheWordRow : OpenClaim := { program := "ytdfeojkombmiaaa", sum := "8e196b9b1a166515daddc9fca2ceb25eea843d2edd507e7c82d7966a8d0613f2", func := "pub-headstall/laws.FnNoCacheWord", spec := "fnNoCacheWord", apart := false }
def FnNoCacheWordSaid : Prop := fnNoCacheWordRow.holds Try.pinned (OpenSpec.ofChange fnNoCacheWordSpec)

/-- ITS FALSE NEIGHBOUR: 'it returns false'. Refute it at one input. -/
def fnNoCacheWordWrong : ChangeSpec := { name := "fnNoCacheWord", fn := fun _ => fun
  | [d1, d2] => { results := [.lit (.bool false)], args := [d1, d2] }
  | _ => none }
def FnNoCacheWordWrongFalsely : Prop := fnNoCacheWordRow.holds Try.pinned (OpenSpec.ofChange fnNoCacheWordWrong)

/-- 'laws.FnEtags': WHATEVER THE INPUT: true; the input reads as it did. -/
def fnEtagsSpec : ChangeSpec := { name := "fnEtags", fn := fun _ => fun
  | [d1, d2, d3, d4] => { results := [.lit (.bool true)], args := [d1, d2, d3, d4] }
  | _ => none }
def fnEtagsRow : OpenClaim := { program := "ytdfeojkombmiaaa", sum := "8e196b9b1a166515daddc9fca2ceb25eea843d2edd507e7c82d7966a8d0613f2", func := "pub-headstall/laws.FnEtags", spec := "fnEtags", apart := false }
def FnEtagsSaid : Prop := fnEtagsRow.holds Try.pinned (OpenSpec.ofChange fnEtagsSpec)

/-- ITS FALSE NEIGHBOUR: 'it returns false'. Refute it at one input. -/
def fnEtagsWrong : ChangeSpec := { name := "fnEtags", fn := fun _ => fun
  | [d1, d2, d3, d4] => { results := [.lit (.bool false)], args := [d1, d2, d3, d4] }
  | _ => none }
def FnEtagsWrongFalsely : Prop := fnEtagsRow.holds Try.pinned (OpenSpec.ofChange fnEtagsWrong)

/-- 'laws.FnKeysNormal': WHATEVER THE INPUT: true; the input reads as it did. -/
def fnKeysNormalSpec : ChangeSpec := { name := "fnKeysNormal", fn := fun _ => fun
  | [d1, d2] => { results := [.lit (.bool true)], args := [d1, d2] }
  | _ => none }
def fnKeysNormalRow : OpenClaim := { program := "ytdfeojkombmiaaa", sum := "8e196b9b1a166515daddc9fca2ceb25eea843d2edd507e7c82d7966a8d0613f2", func := "pub-headstall/laws.FnKeysNormal", spec := "fnKeysNormal", apart := false }
def FnKeysNormalSaid : Prop := fnKeysNormalRow.holds Try.pinned (OpenSpec.ofChange fnKeysNormalSpec)

/-- ITS FALSE NEIGHBOUR: 'it returns false'. Refute it at one input. -/
def fnKeysNormalWrong : ChangeSpec := { name := "fnKeysNormal", fn := fun _ => fun
  | [d1, d2] => { results := [.lit (.bool false)], args := [d1, d2] }
  | _ => none }
def FnKeysNormalWrongFalsely : Prop := fnKeysNormalRow.holds Try.pinned (OpenSpec.ofChange fnKeysNormalWrong)

/-- 'laws.FnSplicedJoin': WHATEVER THE INPUT: true; the input reads as it did. -/
def fnSplicedJoinSpec : ChangeSpec := { name := "fnSplicedJoin", fn := fun _ => fun
  | [d] => { results := [.lit (.bool true)], args := [d] }
  | _ => none }
def fnSplicedJoinRow : OpenClaim := { program := "ytdfeojkombmiaaa", sum := "8e196b9b1a166515daddc9fca2ceb25eea843d2edd507e7c82d7966a8d0613f2", func := "pub-headstall/laws.FnSplicedJoin", spec := "fnSplicedJoin", unfollowed := true, recurses := true, apart := false }
def FnSplicedJoinSaid : Prop := fnSplicedJoinRow.holds Try.pinned (OpenSpec.ofChange fnSplicedJoinSpec)

/-- ITS FALSE NEIGHBOUR: 'it returns false'. Refute it at one input. -/
def fnSplicedJoinWrong : ChangeSpec := { name := "fnSplicedJoin", fn := fun _ => fun
  | [d] => { results := [.lit (.bool false)], args := [d] }
  | _ => none }
def FnSplicedJoinWrongFalsely : Prop := fnSplicedJoinRow.holds Try.pinned (OpenSpec.ofChange fnSplicedJoinWrong)

/- THE SECOND FORM. 'bulk': how many values and letters a reading holds, each counted each time it is reached (what is shared counts as often as it is met; a slice's spare places count too). A statement '..UptoSaid' is the law's where the arguments, and the package variables that the reading takes, are together of bulk at most 1048576: NARROWER than '..Said'. Prove '..Said' where nothing that the law and all that it calls make is longer than what came in: it says more and counts as full. Else prove '..UptoSaid'. A law counts once. -/
mutual
def uptoBulk {H : Type} : DataW H → Nat
  | .lit (.string bytes) => bytes.length + 1
  | .lit _ => 1
  | .nil => 1
  | .ptr d => uptoBulk d + 1
  | .slice elems spare => uptoBulkAll elems + uptoBulkAll spare + 1
  | .agg parts => uptoBulkAll parts + 1
  | .iface _ d => uptoBulk d + 1
  | .map entries => uptoBulkEntries entries + 1
  | .held _ => 1
def uptoBulkAll {H : Type} : List (DataW H) → Nat
  | [] => 0
  | d :: r => uptoBulk d + uptoBulkAll r
def uptoBulkEntries {H : Type} : List (Lit × DataW H) → Nat
  | [] => 0
  | x :: r => uptoBulkEntry x + uptoBulkEntries r
def uptoBulkEntry {H : Type} : Lit × DataW H → Nat
  | (.string bytes, d) => bytes.length + uptoBulk d + 1
  | (_, d) => uptoBulk d + 1
 end
def uptoSmall : (H : Type) → List (DataW H) → Bool := fun _ ds => decide (uptoBulkAll ds ≤ 1048576)
def OpenSpec.upto (s : _root_.Go.ChangeSpec) : _root_.Go.OpenSpec := { _root_.Go.OpenSpec.ofChange s with cond := some uptoSmall }

/-- 'laws.FnTypeAhead', WHERE WHAT IT READS IS OF BULK AT MOST 1048576: true; the input reads as it did. -/
def fnTypeAheadUptoRow : OpenClaim := { program := "ytdfeojkombmiaaa", sum := "8e196b9b1a166515daddc9fca2ceb25eea843d2edd507e7c82d7966a8d0613f2", func := "pub-headstall/laws.FnTypeAhead", spec := "fnTypeAhead", apart := false, narrowed := true }
def FnTypeAheadUptoSaid : Prop := fnTypeAheadUptoRow.holds Try.pinned (OpenSpec.upto fnTypeAheadSpec)

/-- 'laws.FnOfferAccepted', WHERE WHAT IT READS IS OF BULK AT MOST 1048576: true; the input reads as it did. -/
def fnOfferAcceptedUptoRow : OpenClaim := { program := "ytdfeojkombmiaaa", sum := "8e196b9b1a166515daddc9fca2ceb25eea843d2edd507e7c82d7966a8d0613f2", func := "pub-headstall/laws.FnOfferAccepted", spec := "fnOfferAccepted", apart := false, narrowed := true }
def FnOfferAcceptedUptoSaid : Prop := fnOfferAcceptedUptoRow.holds Try.pinned (OpenSpec.upto fnOfferAcceptedSpec)

/-- 'laws.FnGroupPaths', WHERE WHAT IT READS IS OF BULK AT MOST 1048576: true; the input reads as it did. -/
def fnGroupPathsUptoRow : OpenClaim := { program := "ytdfeojkombmiaaa", sum := "8e196b9b1a166515daddc9fca2ceb25eea843d2edd507e7c82d7966a8d0613f2", func := "pub-headstall/laws.FnGroupPaths", spec := "fnGroupPaths", apart := false, narrowed := true }
def FnGroupPathsUptoSaid : Prop := fnGroupPathsUptoRow.holds Try.pinned (OpenSpec.upto fnGroupPathsSpec)

/-- 'laws.FnWithPort', WHERE WHAT IT READS IS OF BULK AT MOST 1048576: true; the input reads as it did. -/
def fnWithPortUptoRow : OpenClaim := { program := "ytdfeojkombmiaaa", sum := "8e196b9b1a166515daddc9fca2ceb25eea843d2edd507e7c82d7966a8d0613f2", func := "pub-headstall/laws.FnWithPort", spec := "fnWithPort", inPlace := ["internal/bytealg.IndexByteString"], recurses := true, apart := false, narrowed := true }
def FnWithPortUptoSaid : Prop := fnWithPortUptoRow.holds Try.pinned (OpenSpec.upto fnWithPortSpec)

/-- 'laws.FnMethods', WHERE WHAT IT READS IS OF BULK AT MOST 1048576: true; the input reads as it did. -/
def fnMethodsUptoRow : OpenClaim := { program := "ytdfeojkombmiaaa", sum := "8e196b9b1a166515daddc9fca2ceb25eea843d2edd507e7c82d7966a8d0613f2", func := "pub-headstall/laws.FnMethods", spec := "fnMethods", apart := false, narrowed := true }
def FnMethodsUptoSaid : Prop := fnMethodsUptoRow.holds Try.pinned (OpenSpec.upto fnMethodsSpec)

/-- 'laws.FnTokenBytes', WHERE WHAT IT READS IS OF BULK AT MOST 1048576: true; the input reads as it did. -/
def fnTokenBytesUptoRow : OpenClaim := { program := "ytdfeojkombmiaaa", sum := "8e196b9b1a166515daddc9fca2ceb25eea843d2edd507e7c82d7966a8d0613f2", func := "pub-headstall/laws.FnTokenBytes", spec := "fnTokenBytes", apart := false, narrowed := true }
def FnTokenBytesUptoSaid : Prop := fnTokenBytesUptoRow.holds Try.pinned (OpenSpec.upto fnTokenBytesSpec)

/-- 'laws.FnNoCacheWord', WHERE WHAT IT READS IS OF BULK AT MOST 1048576: true; the input reads as it did. -/
def fnNoCacheWordUptoRow : OpenClaim := { program := "ytdfeojkombmiaaa", sum := "8e196b9b1a166515daddc9fca2ceb25eea843d2edd507e7c82d7966a8d0613f2", func := "pub-headstall/laws.FnNoCacheWord", spec := "fnNoCacheWord", apart := false, narrowed := true }
def FnNoCacheWordUptoSaid : Prop := fnNoCacheWordUptoRow.holds Try.pinned (OpenSpec.upto fnNoCacheWordSpec)

/-- 'laws.FnEtags', WHERE WHAT IT READS IS OF BULK AT MOST 1048576: true; the input reads as it did. -/
def fnEtagsUptoRow : OpenClaim := { program := "ytdfeojkombmiaaa", sum := "8e196b9b1a166515daddc9fca2ceb25eea843d2edd507e7c82d7966a8d0613f2", func := "pub-headstall/laws.FnEtags", spec := "fnEtags", apart := false, narrowed := true }
def FnEtagsUptoSaid : Prop := fnEtagsUptoRow.holds Try.pinned (OpenSpec.upto fnEtagsSpec)

/-- 'laws.FnKeysNormal', WHERE WHAT IT READS IS OF BULK AT MOST 1048576: true; the input reads as it did. -/
def fnKeysNormalUptoRow : OpenClaim := { program := "ytdfeojkombmiaaa", sum := "8e196b9b1a166515daddc9fca2ceb25eea843d2edd507e7c82d7966a8d0613f2", func := "pub-headstall/laws.FnKeysNormal", spec := "fnKeysNormal", apart := false, narrowed := true }
def FnKeysNormalUptoSaid : Prop := fnKeysNormalUptoRow.holds Try.pinned (OpenSpec.upto fnKeysNormalSpec)

/-- 'laws.FnSplicedJoin', WHERE WHAT IT READS IS OF BULK AT MOST 1048576: true; the input reads as it did. -/
def fnSplicedJoinUptoRow : OpenClaim := { program := "ytdfeojkombmiaaa", sum := "8e196b9b1a166515daddc9fca2ceb25eea843d2edd507e7c82d7966a8d0613f2", func := "pub-headstall/laws.FnSplicedJoin", spec := "fnSplicedJoin", unfollowed := true, recurses := true, apart := false, narrowed := true }
def FnSplicedJoinUptoSaid : Prop := fnSplicedJoinUptoRow.holds Try.pinned (OpenSpec.upto fnSplicedJoinSpec)

end Rows
end Go.Proofs.Ytdfeojkombmiaaa
