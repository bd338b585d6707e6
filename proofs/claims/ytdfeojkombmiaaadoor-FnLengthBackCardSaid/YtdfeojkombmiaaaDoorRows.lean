/-
  NARROWER THAN 'FOR EVERY INPUT', by the rows' own cells (each row's printed sentence says how): FnLines: laid · FnLengthBack: laid.
  DERIVED. THE GIVEN ROWS OF THIS SEAT. 2 by the template 'for every input the law returns true; each argument reads behind the call as it read before'; 0 by the template 'total and deterministic' (their statements: YtdfeojkombmiaaaDoorTotals.lean).
  GIVEN WITH THE SEED: the statements are not yours to turn. If you find one false, say at which input.
  Laid BY PROGRAM, IN A SANDBOX (cutbox-rows.mjs): the forced cells as the released guide's own fill.sh prints them over the translation 770b610aff89759a… (all of the seat's roots in one cut). By AI agents, Wed Nov 11 2026. No macro, syntax, notation, axiom, sorry.
-/
import Derived.Test.YtdfeojkombmiaaaDoorChecked
import GoSem.Claim
import GoSem.ClaimJoined
import GoSem.ClaimMapViews
import Derived.JoinedTies
import Derived.KernelRfl
namespace Go.Proofs.YtdfeojkombmiaaaDoor
/- THE CELL 'sum', in the pinned program and in every row, IS THE sha256 OF THE DUMP (.gsa) THAT YtdfeojkombmiaaaDoorProg.lean LOADS. Nothing in Lean hashes anything: it is a label: what it is worth is what the hold of that sum in a sandbox is worth. -/
noncomputable def Tryd.pinned : Pinned := { name := "ytdfeojkombmiaaadoor", sum := "770b610aff89759af5c6091a7554442fd0bdac5ffda4178fc366ccdab52f085c", checked := Tryd.checked }
namespace Rows
def none {H : Type} : Left H := { results := [], args := [] }

/- WHAT THE LISTED PACKAGE-LEVEL VARIABLES READ AS WHEN THE CALL BEGINS. Each datum BY PROGRAM (the guide's laid-datum.mjs) off the statement by which the dump's own 'gosem.cut.vars' lays the variable. In a bare row this is a premise. The card (YtdfeojkombmiaaaDoorCards.lean) ties it to the program's text. -/
def laid_pub_headstall_pub_hertzutils_errNeedMore {H : Type} : DataW H := .iface "*errors.errorString" (.ptr (.agg [.lit (.string [99, 97, 110, 110, 111, 116, 32, 102, 105, 110, 100, 32, 116, 114, 97, 105, 108, 105, 110, 103, 32, 108, 102])]))
def laid_pub_headstall_pub_hertzconv_errEmptyInt {H : Type} : DataW H := .iface "*errors.errorString" (.ptr (.agg [.lit (.string [101, 109, 112, 116, 121, 32, 105, 110, 116, 101, 103, 101, 114])]))
def laid_pub_headstall_pub_hertzconv_errUnexpectedFirstChar {H : Type} : DataW H := .iface "*errors.errorString" (.ptr (.agg [.lit (.string [117, 110, 101, 120, 112, 101, 99, 116, 101, 100, 32, 102, 105, 114, 115, 116, 32, 99, 104, 97, 114, 32, 102, 111, 117, 110, 100, 46, 32, 69, 120, 112, 101, 99, 116, 105, 110, 103, 32, 48, 45, 57])]))
def laid_pub_headstall_pub_hertzconv_errTooLongInt {H : Type} : DataW H := .iface "*errors.errorString" (.ptr (.agg [.lit (.string [116, 111, 111, 32, 108, 111, 110, 103, 32, 105, 110, 116])]))

/-- 'laws.FnLines': WHATEVER THE INPUT: true; the input reads as it did. -/
def fnLinesSpec : ChangeSpec := { name := "fnLines", fn := fun _ => fun
  | [d1, d2] => { results := [.lit (.bool true)], args := [d1, d2] }
  | _ => none }
def fnLinesRow : OpenClaim := { program := "ytdfeojkombmiaaadoor", sum := "770b610aff89759af5c6091a7554442fd0bdac5ffda4178fc366ccdab52f085c", func := "pub-headstall/laws.FnLines", spec := "fnLines", inPlace := ["internal/bytealg.IndexByte"], named := ["pub-headstall/pub/hertzutils.errNeedMore"], apart := false, laid := [("pub-headstall/pub/hertzutils.errNeedMore", laid_pub_headstall_pub_hertzutils_errNeedMore)] }
def FnLinesSaid : Prop := fnLinesRow.holds Tryd.pinned (OpenSpec.ofChange fnLinesSpec)

/-- ITS FALSE NEIGHBOUR: 'it returns false'. Refute it at one input. -/
def fnLinesWrong : ChangeSpec := { name := "fnLines", fn := fun _ => fun
  | [d1, d2] => { results := [.lit (.bool false)], args := [d1, d2] }
  | _ => none }
def FnLinesWrongFalsely : Prop := fnLinesRow.holds Tryd.pinned (OpenSpec.ofChange fnLinesWrong)

/-- 'laws.FnLengthBack': WHATEVER THE INPUT: true; the input reads as it did. -/
def fnLengthBackSpec : ChangeSpec := { name := "fnLengthBack", fn := fun _ => fun
  | [d1, d2] => { results := [.lit (.bool true)], args := [d1, d2] }
  | _ => none }
def fnLengthBackRow : OpenClaim := { program := "ytdfeojkombmiaaadoor", sum := "770b610aff89759af5c6091a7554442fd0bdac5ffda4178fc366ccdab52f085c", func := "pub-headstall/laws.FnLengthBack", spec := "fnLengthBack", recurses := true, named := ["pub-headstall/pub/hertzconv.errEmptyInt", "pub-headstall/pub/hertzconv.errUnexpectedFirstChar", "pub-headstall/pub/hertzconv.errTooLongInt"], apart := false, laid := [("pub-headstall/pub/hertzconv.errEmptyInt", laid_pub_headstall_pub_hertzconv_errEmptyInt), ("pub-headstall/pub/hertzconv.errUnexpectedFirstChar", laid_pub_headstall_pub_hertzconv_errUnexpectedFirstChar), ("pub-headstall/pub/hertzconv.errTooLongInt", laid_pub_headstall_pub_hertzconv_errTooLongInt)] }
def FnLengthBackSaid : Prop := fnLengthBackRow.holds Tryd.pinned (OpenSpec.ofChange fnLengthBackSpec)

/-- ITS FALSE NEIGHBOUR: 'it returns false'. Refute it at one input. -/
def fnLengthBackWrong : ChangeSpec := { name := "fnLengthBack", fn := fun _ => fun
  | [d1, d2] => { results := [.lit (.bool false)], args := [d1, d2] }
  | _ => none }
def FnLengthBackWrongFalsely : Prop := fnLengthBackRow.holds Tryd.pinned (OpenSpec.ofChange fnLengthBackWrong)

/- THE SECOND FORM. 'bulk': how many values and letters a reading holds, each counted each time it is reached (what is shared counts as often as it is met; a slice's spare places count too). A statement '..UptoSaid' is the law's where the arguments, and the package variables that the reading takes, are together of bulk at most 1048576: NARROWER than '..Said'. Prove '..Said' where nothing that the law and all that it calls make is longer than what came in: it says more and counts as full. Else prove '..UptoSaid'. A law counts once. -/
mutual
def uptoBulk {H : Type} : DataW H → Nat
  | .lit (.string bytes) => bytes.length + 1
  | .lit _ => 1
  | .nil => 1
  | .ptr d => uptoBulk d + 1
  | .slice elems spare => uptoBulkAll elems + uptoBulkAll spare + 1
  | .agg parts => uptoBulkAll parts + 1
  | .iface _ d => uptoBulk d + 1
  | .map entries => uptoBulkEntries entries + 1
  | .held _ => 1
def uptoBulkAll {H : Type} : List (DataW H) → Nat
  | [] => 0
  | d :: r => uptoBulk d + uptoBulkAll r
def uptoBulkEntries {H : Type} : List (Lit × DataW H) → Nat
  | [] => 0
  | x :: r => uptoBulkEntry x + uptoBulkEntries r
def uptoBulkEntry {H : Type} : Lit × DataW H → Nat
  | (.string bytes, d) => bytes.length + uptoBulk d + 1
  | (_, d) => uptoBulk d + 1
 end
def uptoSmall : (H : Type) → List (DataW H) → Bool := fun _ ds => decide (uptoBulkAll ds ≤ 1048576)
def OpenSpec.upto (s : _root_.Go.ChangeSpec) : _root_.Go.OpenSpec := { _root_.Go.OpenSpec.ofChange s with cond := some uptoSmall }

/-- 'laws.FnLines', WHERE WHAT IT READS IS OF BULK AT MOST 1048576: true; the input reads as it did. -/
def fnLinesUptoRow : OpenClaim := { program := "ytdfeojkombmiaaadoor", sum := "770b610aff89759af5c6091a7554442fd0bdac5ffda4178fc366ccdab52f085c", func := "pub-headstall/laws.FnLines", spec := "fnLines", inPlace := ["internal/bytealg.IndexByte"], named := ["pub-headstall/pub/hertzutils.errNeedMore"], apart := false, laid := [("pub-headstall/pub/hertzutils.errNeedMore", laid_pub_headstall_pub_hertzutils_errNeedMore)], narrowed := true }
def FnLinesUptoSaid : Prop := fnLinesUptoRow.holds Tryd.pinned (OpenSpec.upto fnLinesSpec)

/-- 'laws.FnLengthBack', WHERE WHAT IT READS IS OF BULK AT MOST 1048576: true; the input reads as it did. -/
def fnLengthBackUptoRow : OpenClaim := { program := "ytdfeojkombmiaaadoor", sum := "770b610aff89759af5c6091a7554442fd0bdac5ffda4178fc366ccdab52f085c", func := "pub-headstall/laws.FnLengthBack", spec := "fnLengthBack", recurses := true, named := ["pub-headstall/pub/hertzconv.errEmptyInt", "pub-headstall/pub/hertzconv.errUnexpectedFirstChar", "pub-headstall/pub/hertzconv.errTooLongInt"], apart := false, laid := [("pub-headstall/pub/hertzconv.errEmptyInt", laid_pub_headstall_pub_hertzconv_errEmptyInt), ("pub-headstall/pub/hertzconv.errUnexpectedFirstChar", laid_pub_headstall_pub_hertzconv_errUnexpectedFirstChar), ("pub-headstall/pub/hertzconv.errTooLongInt", laid_pub_headstall_pub_hertzconv_errTooLongInt)], narrowed := true }
def FnLengthBackUptoSaid : Prop := fnLengthBackUptoRow.holds Tryd.pinned (OpenSpec.upto fnLengthBackSpec)

end Rows
end Go.Proofs.YtdfeojkombmiaaaDoor
