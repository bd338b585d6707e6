/-
  NARROWER THAN 'FOR EVERY INPUT', by the rows' own cells (each row's printed sentence says how): FnAcceptsEncoding: laid · FnCookieBack: laid · FnCookieSays: laid · FnRanges: laid.
  DERIVED. THE GIVEN ROWS OF THIS SEAT. 4 by the template 'for every input the law returns true; each argument reads behind the call as it read before'; 0 by the template 'total and deterministic' (their statements: YtcbpbmflgcgmaaaDoorTotals.lean).
  GIVEN WITH THE SEED: the statements are not yours to turn. If you find one false, say at which input.
  Laid BY PROGRAM, IN A SANDBOX (cutbox-rows.mjs): the forced cells as the released guide's own fill.sh prints them over the translation 758eaf861fb04d72… (all of the seat's roots in one cut). By AI agents, Wed Nov 11 2026. No macro, syntax, notation, axiom, sorry.
-/
import Derived.Test.YtcbpbmflgcgmaaaDoorChecked
import GoSem.Claim
import GoSem.ClaimJoined
import GoSem.ClaimMapViews
import Derived.JoinedTies
import Derived.KernelRfl
namespace Go.Proofs.YtcbpbmflgcgmaaaDoor
/- THE CELL 'sum', in the pinned program and in every row, IS THE sha256 OF THE DUMP (.gsa) THAT YtcbpbmflgcgmaaaDoorProg.lean LOADS. Nothing in Lean hashes anything: it is a label: what it is worth is what the hold of that sum in a sandbox is worth. -/
noncomputable def Tryd.pinned : Pinned := { name := "ytcbpbmflgcgmaaadoor", sum := "758eaf861fb04d72ae18e96920de445410076ac874a185b3ecad5480f8d40a1a", checked := Tryd.checked }
namespace Rows
def none {H : Type} : Left H := { results := [], args := [] }

/- WHAT THE LISTED PACKAGE-LEVEL VARIABLES READ AS WHEN THE CALL BEGINS. Each datum BY PROGRAM (the guide's laid-datum.mjs) off the statement by which the dump's own 'gosem.cut.vars' lays the variable. In a bare row this is a premise. The card (YtcbpbmflgcgmaaaDoorCards.lean) ties it to the program's text. -/
def laid_pub_headstall_pub_hertzconv_errEmptyInt {H : Type} : DataW H := .iface "*errors.errorString" (.ptr (.agg [.lit (.string [101, 109, 112, 116, 121, 32, 105, 110, 116, 101, 103, 101, 114])]))
def laid_pub_headstall_pub_hertzconv_errUnexpectedFirstChar {H : Type} : DataW H := .iface "*errors.errorString" (.ptr (.agg [.lit (.string [117, 110, 101, 120, 112, 101, 99, 116, 101, 100, 32, 102, 105, 114, 115, 116, 32, 99, 104, 97, 114, 32, 102, 111, 117, 110, 100, 46, 32, 69, 120, 112, 101, 99, 116, 105, 110, 103, 32, 48, 45, 57])]))
def laid_pub_headstall_pub_hertzconv_errTooLongInt {H : Type} : DataW H := .iface "*errors.errorString" (.ptr (.agg [.lit (.string [116, 111, 111, 32, 108, 111, 110, 103, 32, 105, 110, 116])]))
def laid_pub_headstall_pub_hertzconv_errUnexpectedTrailingChar {H : Type} : DataW H := .iface "*errors.errorString" (.ptr (.agg [.lit (.string [117, 110, 101, 120, 112, 101, 99, 116, 101, 100, 32, 116, 114, 97, 105, 108, 105, 110, 103, 32, 99, 104, 97, 114, 32, 102, 111, 117, 110, 100, 46, 32, 69, 120, 112, 101, 99, 116, 105, 110, 103, 32, 48, 45, 57])]))
def laid_pub_headstall_pub_hertzproto_errNoCookies {H : Type} : DataW H := .iface "*errors.errorString" (.ptr (.agg [.lit (.string [110, 111, 32, 99, 111, 111, 107, 105, 101, 115, 32, 102, 111, 117, 110, 100])]))

/-- 'laws.FnAcceptsEncoding': WHATEVER THE INPUT: true; the input reads as it did. -/
def fnAcceptsEncodingSpec : ChangeSpec := { name := "fnAcceptsEncoding", fn := fun _ => fun
  | [d1, d2] => { results := [.lit (.bool true)], args := [d1, d2] }
  | _ => none }
def fnAcceptsEncodingRow : OpenClaim := { program := "ytcbpbmflgcgmaaadoor", sum := "758eaf861fb04d72ae18e96920de445410076ac874a185b3ecad5480f8d40a1a", func := "pub-headstall/laws.FnAcceptsEncoding", spec := "fnAcceptsEncoding", inPlace := ["internal/bytealg.IndexByte"], named := ["pub-headstall/pub/hertzconv.errEmptyInt", "pub-headstall/pub/hertzconv.errUnexpectedFirstChar", "pub-headstall/pub/hertzconv.errTooLongInt"], apart := false, laid := [("pub-headstall/pub/hertzconv.errEmptyInt", laid_pub_headstall_pub_hertzconv_errEmptyInt), ("pub-headstall/pub/hertzconv.errUnexpectedFirstChar", laid_pub_headstall_pub_hertzconv_errUnexpectedFirstChar), ("pub-headstall/pub/hertzconv.errTooLongInt", laid_pub_headstall_pub_hertzconv_errTooLongInt)] }
def FnAcceptsEncodingSaid : Prop := fnAcceptsEncodingRow.holds Tryd.pinned (OpenSpec.ofChange fnAcceptsEncodingSpec)

/-- ITS FALSE NEIGHBOUR: 'it returns false'. Refute it at one input. -/
def fnAcceptsEncodingWrong : ChangeSpec := { name := "fnAcceptsEncoding", fn := fun _ => fun
  | [d1, d2] => { results := [.lit (.bool false)], args := [d1, d2] }
  | _ => none }
def FnAcceptsEncodingWrongFalsely : Prop := fnAcceptsEncodingRow.holds Tryd.pinned (OpenSpec.ofChange fnAcceptsEncodingWrong)

/-- 'laws.FnCookieBack': WHATEVER THE INPUT: true; the input reads as it did. -/
def fnCookieBackSpec : ChangeSpec := { name := "fnCookieBack", fn := fun _ => fun
  | [d] => { results := [.lit (.bool true)], args := [d] }
  | _ => none }
def fnCookieBackRow : OpenClaim := { program := "ytcbpbmflgcgmaaadoor", sum := "758eaf861fb04d72ae18e96920de445410076ac874a185b3ecad5480f8d40a1a", func := "pub-headstall/laws.FnCookieBack", spec := "fnCookieBack", inPlace := ["internal/bytealg.IndexByte"], unfollowed := true, recurses := true, named := ["pub-headstall/pub/hertzproto.errNoCookies", "pub-headstall/pub/hertzconv.errUnexpectedTrailingChar", "pub-headstall/pub/hertzconv.errEmptyInt", "pub-headstall/pub/hertzconv.errUnexpectedFirstChar", "pub-headstall/pub/hertzconv.errTooLongInt"], apart := false, laid := [("pub-headstall/pub/hertzconv.errEmptyInt", laid_pub_headstall_pub_hertzconv_errEmptyInt), ("pub-headstall/pub/hertzconv.errUnexpectedFirstChar", laid_pub_headstall_pub_hertzconv_errUnexpectedFirstChar), ("pub-headstall/pub/hertzconv.errUnexpectedTrailingChar", laid_pub_headstall_pub_hertzconv_errUnexpectedTrailingChar), ("pub-headstall/pub/hertzconv.errTooLongInt", laid_pub_headstall_pub_hertzconv_errTooLongInt), ("pub-headstall/pub/hertzproto.errNoCookies", laid_pub_headstall_pub_hertzproto_errNoCookies)] }
def FnCookieBackSaid : Prop := fnCookieBackRow.holds Tryd.pinned (OpenSpec.ofChange fnCookieBackSpec)

/-- ITS FALSE NEIGHBOUR: 'it returns false'. Refute it at one input. -/
def fnCookieBackWrong : ChangeSpec := { name := "fnCookieBack", fn := fun _ => fun
  | [d] => { results := [.lit (.bool false)], args := [d] }
  | _ => none }
def FnCookieBackWrongFalsely : Prop := fnCookieBackRow.holds Tryd.pinned (OpenSpec.ofChange fnCookieBackWrong)

/-- 'laws.FnCookieSays': WHATEVER THE INPUT: true; the input reads as it did. -/
def fnCookieSaysSpec : ChangeSpec := { name := "fnCookieSays", fn := fun _ => fun
  | [d1, d2] => { results := [.lit (.bool true)], args := [d1, d2] }
  | _ => none }
def fnCookieSaysRow : OpenClaim := { program := "ytcbpbmflgcgmaaadoor", sum := "758eaf861fb04d72ae18e96920de445410076ac874a185b3ecad5480f8d40a1a", func := "pub-headstall/laws.FnCookieSays", spec := "fnCookieSays", inPlace := ["internal/bytealg.IndexByte"], unfollowed := true, recurses := true, named := ["pub-headstall/pub/hertzproto.errNoCookies", "pub-headstall/pub/hertzconv.errUnexpectedTrailingChar", "pub-headstall/pub/hertzconv.errEmptyInt", "pub-headstall/pub/hertzconv.errUnexpectedFirstChar", "pub-headstall/pub/hertzconv.errTooLongInt"], apart := false, laid := [("pub-headstall/pub/hertzconv.errEmptyInt", laid_pub_headstall_pub_hertzconv_errEmptyInt), ("pub-headstall/pub/hertzconv.errUnexpectedFirstChar", laid_pub_headstall_pub_hertzconv_errUnexpectedFirstChar), ("pub-headstall/pub/hertzconv.errUnexpectedTrailingChar", laid_pub_headstall_pub_hertzconv_errUnexpectedTrailingChar), ("pub-headstall/pub/hertzconv.errTooLongInt", laid_pub_headstall_pub_hertzconv_errTooLongInt), ("pub-headstall/pub/hertzproto.errNoCookies", laid_pub_headstall_pub_hertzproto_errNoCookies)] }
def FnCookieSaysSaid : Prop := fnCookieSaysRow.holds Tryd.pinned (OpenSpec.ofChange fnCookieSaysSpec)

/-- ITS FALSE NEIGHBOUR: 'it returns false'. Refute it at one input. -/
def fnCookieSaysWrong : ChangeSpec := { name := "fnCookieSays", fn := fun _ => fun
  | [d1, d2] => { results := [.lit (.bool false)], args := [d1, d2] }
  | _ => none }
def FnCookieSaysWrongFalsely : Prop := fnCookieSaysRow.holds Tryd.pinned (OpenSpec.ofChange fnCookieSaysWrong)

/-- 'laws.FnRanges': WHATEVER THE INPUT: true; the input reads as it did. -/
def fnRangesSpec : ChangeSpec := { name := "fnRanges", fn := fun _ => fun
  | [d1, d2, d3] => { results := [.lit (.bool true)], args := [d1, d2, d3] }
  | _ => none }
def fnRangesRow : OpenClaim := { program := "ytcbpbmflgcgmaaadoor", sum := "758eaf861fb04d72ae18e96920de445410076ac874a185b3ecad5480f8d40a1a", func := "pub-headstall/laws.FnRanges", spec := "fnRanges", inPlace := ["internal/bytealg.IndexByte"], unfollowed := true, recurses := true, named := ["pub-headstall/pub/hertzconv.errEmptyInt", "pub-headstall/pub/hertzconv.errUnexpectedFirstChar", "pub-headstall/pub/hertzconv.errTooLongInt"], apart := false, laid := [("pub-headstall/pub/hertzconv.errEmptyInt", laid_pub_headstall_pub_hertzconv_errEmptyInt), ("pub-headstall/pub/hertzconv.errUnexpectedFirstChar", laid_pub_headstall_pub_hertzconv_errUnexpectedFirstChar), ("pub-headstall/pub/hertzconv.errTooLongInt", laid_pub_headstall_pub_hertzconv_errTooLongInt)] }
def FnRangesSaid : Prop := fnRangesRow.holds Tryd.pinned (OpenSpec.ofChange fnRangesSpec)

/-- ITS FALSE NEIGHBOUR: 'it returns false'. Refute it at one input. -/
def fnRangesWrong : ChangeSpec := { name := "fnRanges", fn := fun _ => fun
  | [d1, d2, d3] => { results := [.lit (.bool false)], args := [d1, d2, d3] }
  | _ => none }
def FnRangesWrongFalsely : Prop := fnRangesRow.holds Tryd.pinned (OpenSpec.ofChange fnRangesWrong)

/- THE SECOND FORM. 'bulk': how many values and letters a reading holds, each counted each time it is reached (what is shared counts as often as it is met; a slice's spare places count too). A statement '..UptoSaid' is the law's where the arguments, and the package variables that the reading takes, are together of bulk at most 1048576: NARROWER than '..Said'. Prove '..Said' where nothing that the law and all that it calls make is longer than what came in: it says more and counts as full. Else prove '..UptoSaid'. A law counts once. -/
mutual
def uptoBulk {H : Type} : DataW H → Nat
  | .lit (.string bytes) => bytes.length + 1
  | .lit _ => 1
  | .nil => 1
  | .ptr d => uptoBulk d + 1
  | .slice elems spare => uptoBulkAll elems + uptoBulkAll spare + 1
  | .agg parts => uptoBulkAll parts + 1
  | .iface _ d => uptoBulk d + 1
  | .map entries => uptoBulkEntries entries + 1
  | .held _ => 1
def uptoBulkAll {H : Type} : List (DataW H) → Nat
  | [] => 0
  | d :: r => uptoBulk d + uptoBulkAll r
def uptoBulkEntries {H : Type} : List (Lit × DataW H) → Nat
  | [] => 0
  | x :: r => uptoBulkEntry x + uptoBulkEntries r
def uptoBulkEntry {H : Type} : Lit × DataW H → Nat
  | (.string bytes, d) => bytes.length + uptoBulk d + 1
  | (_, d) => uptoBulk d + 1
 end
def uptoSmall : (H : Type) → List (DataW H) → Bool := fun _ ds => decide (uptoBulkAll ds ≤ 1048576)
def OpenSpec.upto (s : _root_.Go.ChangeSpec) : _root_.Go.OpenSpec := { _root_.Go.OpenSpec.ofChange s with cond := some uptoSmall }

/-- 'laws.FnAcceptsEncoding', WHERE WHAT IT READS IS OF BULK AT MOST 1048576: true; the input reads as it did. -/
def fnAcceptsEncodingUptoRow : OpenClaim := { program := "ytcbpbmflgcgmaaadoor", sum := "758eaf861fb04d72ae18e96920de445410076ac874a185b3ecad5480f8d40a1a", func := "pub-headstall/laws.FnAcceptsEncoding", spec := "fnAcceptsEncoding", inPlace := ["internal/bytealg.IndexByte"], named := ["pub-headstall/pub/hertzconv.errEmptyInt", "pub-headstall/pub/hertzconv.errUnexpectedFirstChar", "pub-headstall/pub/hertzconv.errTooLongInt"], apart := false, laid := [("pub-headstall/pub/hertzconv.errEmptyInt", laid_pub_headstall_pub_hertzconv_errEmptyInt), ("pub-headstall/pub/hertzconv.errUnexpectedFirstChar", laid_pub_headstall_pub_hertzconv_errUnexpectedFirstChar), ("pub-headstall/pub/hertzconv.errTooLongInt", laid_pub_headstall_pub_hertzconv_errTooLongInt)], narrowed := true }
def FnAcceptsEncodingUptoSaid : Prop := fnAcceptsEncodingUptoRow.holds Tryd.pinned (OpenSpec.upto fnAcceptsEncodingSpec)

/-- 'laws.FnCookieBack', WHERE WHAT IT READS IS OF BULK AT MOST 1048576: true; the input reads as it did. -/
def fnCookieBackUptoRow : OpenClaim := { program := "ytcbpbmflgcgmaaadoor", sum := "758eaf861fb04d72ae18e96920de445410076ac874a185b3ecad5480f8d40a1a", func := "pub-headstall/laws.FnCookieBack", spec := "fnCookieBack", inPlace := ["internal/bytealg.IndexByte"], unfollowed := true, recurses := true, named := ["pub-headstall/pub/hertzproto.errNoCookies", "pub-headstall/pub/hertzconv.errUnexpectedTrailingChar", "pub-headstall/pub/hertzconv.errEmptyInt", "pub-headstall/pub/hertzconv.errUnexpectedFirstChar", "pub-headstall/pub/hertzconv.errTooLongInt"], apart := false, laid := [("pub-headstall/pub/hertzconv.errEmptyInt", laid_pub_headstall_pub_hertzconv_errEmptyInt), ("pub-headstall/pub/hertzconv.errUnexpectedFirstChar", laid_pub_headstall_pub_hertzconv_errUnexpectedFirstChar), ("pub-headstall/pub/hertzconv.errUnexpectedTrailingChar", laid_pub_headstall_pub_hertzconv_errUnexpectedTrailingChar), ("pub-headstall/pub/hertzconv.errTooLongInt", laid_pub_headstall_pub_hertzconv_errTooLongInt), ("pub-headstall/pub/hertzproto.errNoCookies", laid_pub_headstall_pub_hertzproto_errNoCookies)], narrowed := true }
def FnCookieBackUptoSaid : Prop := fnCookieBackUptoRow.holds Tryd.pinned (OpenSpec.upto fnCookieBackSpec)

/-- 'laws.FnCookieSays', WHERE WHAT IT READS IS OF BULK AT MOST 1048576: true; the input reads as it did. -/
def fnCookieSaysUptoRow : OpenClaim := { program := "ytcbpbmflgcgmaaadoor", sum := "758eaf861fb04d72ae18e96920de445410076ac874a185b3ecad5480f8d40a1a", func := "pub-headstall/laws.FnCookieSays", spec := "fnCookieSays", inPlace := ["internal/bytealg.IndexByte"], unfollowed := true, recurses := true, named := ["pub-headstall/pub/hertzproto.errNoCookies", "pub-headstall/pub/hertzconv.errUnexpectedTrailingChar", "pub-headstall/pub/hertzconv.errEmptyInt", "pub-headstall/pub/hertzconv.errUnexpectedFirstChar", "pub-headstall/pub/hertzconv.errTooLongInt"], apart := false, laid := [("pub-headstall/pub/hertzconv.errEmptyInt", laid_pub_headstall_pub_hertzconv_errEmptyInt), ("pub-headstall/pub/hertzconv.errUnexpectedFirstChar", laid_pub_headstall_pub_hertzconv_errUnexpectedFirstChar), ("pub-headstall/pub/hertzconv.errUnexpectedTrailingChar", laid_pub_headstall_pub_hertzconv_errUnexpectedTrailingChar), ("pub-headstall/pub/hertzconv.errTooLongInt", laid_pub_headstall_pub_hertzconv_errTooLongInt), ("pub-headstall/pub/hertzproto.errNoCookies", laid_pub_headstall_pub_hertzproto_errNoCookies)], narrowed := true }
def FnCookieSaysUptoSaid : Prop := fnCookieSaysUptoRow.holds Tryd.pinned (OpenSpec.upto fnCookieSaysSpec)

/-- 'laws.FnRanges', WHERE WHAT IT READS IS OF BULK AT MOST 1048576: true; the input reads as it did. -/
def fnRangesUptoRow : OpenClaim := { program := "ytcbpbmflgcgmaaadoor", sum := "758eaf861fb04d72ae18e96920de445410076ac874a185b3ecad5480f8d40a1a", func := "pub-headstall/laws.FnRanges", spec := "fnRanges", inPlace := ["internal/bytealg.IndexByte"], unfollowed := true, recurses := true, named := ["pub-headstall/pub/hertzconv.errEmptyInt", "pub-headstall/pub/hertzconv.errUnexpectedFirstChar", "pub-headstall/pub/hertzconv.errTooLongInt"], apart := false, laid := [("pub-headstall/pub/hertzconv.errEmptyInt", laid_pub_headstall_pub_hertzconv_errEmptyInt), ("pub-headstall/pub/hertzconv.errUnexpectedFirstChar", laid_pub_headstall_pub_hertzconv_errUnexpectedFirstChar), ("pub-headstall/pub/hertzconv.errTooLongInt", laid_pub_headstall_pub_hertzconv_errTooLongInt)], narrowed := true }
def FnRangesUptoSaid : Prop := fnRangesUptoRow.holds Tryd.pinned (OpenSpec.upto fnRangesSpec)

end Rows
end Go.Proofs.YtcbpbmflgcgmaaaDoor
