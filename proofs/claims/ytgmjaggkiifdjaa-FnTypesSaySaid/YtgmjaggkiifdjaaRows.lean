/-
  No cell of these rows narrows 'for every input' (looked for: loops, veiled, ifaces, maps, wideKeys, modest, calm, conditions, laid).
  DERIVED. THE GIVEN ROWS OF THIS SEAT. 2 by the template 'for every input the law returns true; each argument reads behind the call as it read before'; 0 by the template 'total and deterministic' (their statements: YtgmjaggkiifdjaaTotals.lean).
  GIVEN WITH THE SEED: the statements are not yours to turn. If you find one false, say at which input.
  Laid BY PROGRAM, IN A SANDBOX (cutbox-rows.mjs): the forced cells as the released guide's own fill.sh prints them over the translation 8d8c91cb138d4965… (all of the seat's roots in one cut). By AI agents, Wed Nov 11 2026. No macro, syntax, notation, axiom, sorry.
-/
import Derived.Test.YtgmjaggkiifdjaaChecked
import GoSem.Claim
import GoSem.ClaimJoined
import GoSem.ClaimMapViews
import Derived.JoinedTies
import Derived.KernelRfl
namespace Go.Proofs.Ytgmjaggkiifdjaa
/- THE CELL 'sum', in the pinned program and in every row, IS THE sha256 OF THE DUMP (.gsa) THAT YtgmjaggkiifdjaaProg.lean LOADS. Nothing in Lean hashes anything: it is a label: what it is worth is what the hold of that sum in a sandbox is worth. -/
noncomputable def Try.pinned : Pinned := { name := "ytgmjaggkiifdjaa", sum := "8d8c91cb138d49650f938295b12ab188971dff7c0536731599245322e7e16e70", checked := Try.checked }
namespace Rows
def none {H : Type} : Left H := { results := [], args := [] }

/-- 'laws.FnNegotiationSays': WHATEVER THE INPUT: true; the input reads as it did. -/
def fnNegotiationSaysSpec : ChangeSpec := { name := "fnNegotiationSays", fn := fun _ => fun
  | [d1, d2, d3, d4] => { results := [.lit (.bool true)], args := [d1, d2, d3, d4] }
  | _ => none }
def fnNegotiationSaysRow : OpenClaim := { program := "ytgmjaggkiifdjaa", sum := "8d8c91cb138d49650f938295b12ab188971dff7c0536731599245322e7e16e70", func := "pub-headstall/laws.FnNegotiationSays", spec := "fnNegotiationSays", inPlace := ["internal/bytealg.IndexByteString"], unfollowed := true, recurses := true, apart := false }
def FnNegotiationSaysSaid : Prop := fnNegotiationSaysRow.holds Try.pinned (OpenSpec.ofChange fnNegotiationSaysSpec)

/-- ITS FALSE NEIGHBOUR: 'it returns false'. Refute it at one input. -/
def fnNegotiationSaysWrong : ChangeSpec := { name := "fnNegotiationSays", fn := fun _ => fun
  | [d1, d2, d3, d4] => { results := [.lit (.bool false)], args := [d1, d2, d3, d4] }
  | _ => none }
def FnNegotiationSaysWrongFalsely : Prop := fnNegotiationSaysRow.holds Try.pinned (OpenSpec.ofChange fnNegotiationSaysWrong)

/-- 'laws.FnTypesSay': WHATEVER THE INPUT: true; the input reads as it did. -/
def fnTypesSaySpec : ChangeSpec := { name := "fnTypesSay", fn := fun _ => fun
  | [d1, d2, d3, d4] => { results := [.lit (.bool true)], args := [d1, d2, d3, d4] }
  | _ => none }
def fnTypesSayRow : OpenClaim := { program := "ytgmjaggkiifdjaa", sum := "8d8c91cb138d49650f938295b12ab188971dff7c0536731599245322e7e16e70", func := "pub-headstall/laws.FnTypesSay", spec := "fnTypesSay", inPlace := ["internal/bytealg.IndexByteString"], unfollowed := true, recurses := true, apart := false }
def FnTypesSaySaid : Prop := fnTypesSayRow.holds Try.pinned (OpenSpec.ofChange fnTypesSaySpec)

/-- ITS FALSE NEIGHBOUR: 'it returns false'. Refute it at one input. -/
def fnTypesSayWrong : ChangeSpec := { name := "fnTypesSay", fn := fun _ => fun
  | [d1, d2, d3, d4] => { results := [.lit (.bool false)], args := [d1, d2, d3, d4] }
  | _ => none }
def FnTypesSayWrongFalsely : Prop := fnTypesSayRow.holds Try.pinned (OpenSpec.ofChange fnTypesSayWrong)

/- THE SECOND FORM. 'bulk': how many values and letters a reading holds, each counted each time it is reached (what is shared counts as often as it is met; a slice's spare places count too). A statement '..UptoSaid' is the law's where the arguments, and the package variables that the reading takes, are together of bulk at most 1048576: NARROWER than '..Said'. Prove '..Said' where nothing that the law and all that it calls make is longer than what came in: it says more and counts as full. Else prove '..UptoSaid'. A law counts once. -/
mutual
def uptoBulk {H : Type} : DataW H → Nat
  | .lit (.string bytes) => bytes.length + 1
  | .lit _ => 1
  | .nil => 1
  | .ptr d => uptoBulk d + 1
  | .slice elems spare => uptoBulkAll elems + uptoBulkAll spare + 1
  | .agg parts => uptoBulkAll parts + 1
  | .iface _ d => uptoBulk d + 1
  | .map entries => uptoBulkEntries entries + 1
  | .held _ => 1
def uptoBulkAll {H : Type} : List (DataW H) → Nat
  | [] => 0
  | d :: r => uptoBulk d + uptoBulkAll r
def uptoBulkEntries {H : Type} : List (Lit × DataW H) → Nat
  | [] => 0
  | x :: r => uptoBulkEntry x + uptoBulkEntries r
def uptoBulkEntry {H : Type} : Lit × DataW H → Nat
  | (.string bytes, d) => bytes.length + uptoBulk d + 1
  | (_, d) => uptoBulk d + 1
 end
def uptoSmall : (H : Type) → List (DataW H) → Bool := fun _ ds => decide (uptoBulkAll ds ≤ 1048576)
def OpenSpec.upto (s : _root_.Go.ChangeSpec) : _root_.Go.OpenSpec := { _root_.Go.OpenSpec.ofChange s with cond := some uptoSmall }

/-- 'laws.FnNegotiationSays', WHERE WHAT IT READS IS OF BULK AT MOST 1048576: true; the input reads as it did. -/
def fnNegotiationSaysUptoRow : OpenClaim := { program := "ytgmjaggkiifdjaa", sum := "8d8c91cb138d49650f938295b12ab188971dff7c0536731599245322e7e16e70", func := "pub-headstall/laws.FnNegotiationSays", spec := "fnNegotiationSays", inPlace := ["internal/bytealg.IndexByteString"], unfollowed := true, recurses := true, apart := false, narrowed := true }
def FnNegotiationSaysUptoSaid : Prop := fnNegotiationSaysUptoRow.holds Try.pinned (OpenSpec.upto fnNegotiationSaysSpec)

/-- 'laws.FnTypesSay', WHERE WHAT IT READS IS OF BULK AT MOST 1048576: true; the input reads as it did. -/
def fnTypesSayUptoRow : OpenClaim := { program := "ytgmjaggkiifdjaa", sum := "8d8c91cb138d49650f938295b12ab188971dff7c0536731599245322e7e16e70", func := "pub-headstall/laws.FnTypesSay", spec := "fnTypesSay", inPlace := ["internal/bytealg.IndexByteString"], unfollowed := true, recurses := true, apart := false, narrowed := true }
def FnTypesSayUptoSaid : Prop := fnTypesSayUptoRow.holds Try.pinned (OpenSpec.upto fnTypesSaySpec)

end Rows
end Go.Proofs.Ytgmjaggkiifdjaa
