/-
  DERIVED. GIVEN WITH THE SEED: THE PROGRAM's TIES (one call each: nine closed facts by the kernel) AND EACH ROW's TIE, after the 31st guide's Derived/Test/Toyas{Tie, Card}.lean. No idea stands in it: it is a product of the set-up. Laid BY PROGRAM, IN A SANDBOX (cutbox-door.mjs). By AI agents, Wed Nov 11 2026. No macro, syntax, notation, axiom, sorry.
-/
import Derived.Test.YtdfeojkombmiaaaDoorRows
import Derived.LaidByTextLater
import Derived.SevenTiedAt
import Derived.LaidSub
import Derived.LaidOnce
namespace Go.Proofs.YtdfeojkombmiaaaDoor
open Go
set_option maxRecDepth 100000
theorem seatTie1 : Tryd.prog.laidByTextLater [("pub-headstall/pub/hertzconv.errEmptyInt", Rows.laid_pub_headstall_pub_hertzconv_errEmptyInt), ("pub-headstall/pub/hertzconv.errUnexpectedFirstChar", Rows.laid_pub_headstall_pub_hertzconv_errUnexpectedFirstChar), ("pub-headstall/pub/hertzconv.errTooLongInt", Rows.laid_pub_headstall_pub_hertzconv_errTooLongInt), ("pub-headstall/pub/hertzutils.errNeedMore", Rows.laid_pub_headstall_pub_hertzutils_errNeedMore)] [.sentinel, .sentinel, .sentinel, .sentinel] true :=
  Program.laidByTextLater_by_one 85 8 2 (by kernel_rfl) (by kernel_rfl) (by kernel_rfl) (by kernel_rfl) (by kernel_rfl) (by kernel_rfl) (fun _ _ => by kernel_rfl)
theorem noOwnUnsafe : Tryd.pinned.checked.prog.headLifts.contains "ownunsafe" = false := by kernel_rfl
theorem tie : Tryd.prog.laidByTextLater [("pub-headstall/pub/hertzutils.errNeedMore", Rows.laid_pub_headstall_pub_hertzutils_errNeedMore)] [.sentinel] true :=
  Program.laidByTextLater.sub seatTie1 ["pub-headstall/pub/hertzutils.errNeedMore"] (by kernel_rfl) (by kernel_rfl)
theorem fnLines_row_tie : Rows.fnLinesRow.laidByTextAt .later Tryd.pinned [.sentinel] true :=
  OpenClaim.laidByTextAt_later rfl rfl tie noOwnUnsafe
theorem tie2 : Tryd.prog.laidByTextLater [("pub-headstall/pub/hertzconv.errEmptyInt", Rows.laid_pub_headstall_pub_hertzconv_errEmptyInt), ("pub-headstall/pub/hertzconv.errUnexpectedFirstChar", Rows.laid_pub_headstall_pub_hertzconv_errUnexpectedFirstChar), ("pub-headstall/pub/hertzconv.errTooLongInt", Rows.laid_pub_headstall_pub_hertzconv_errTooLongInt)] [.sentinel, .sentinel, .sentinel] true :=
  Program.laidByTextLater.sub seatTie1 ["pub-headstall/pub/hertzconv.errEmptyInt", "pub-headstall/pub/hertzconv.errUnexpectedFirstChar", "pub-headstall/pub/hertzconv.errTooLongInt"] (by kernel_rfl) (by kernel_rfl)
theorem fnLengthBack_row_tie : Rows.fnLengthBackRow.laidByTextAt .later Tryd.pinned [.sentinel, .sentinel, .sentinel] true :=
  OpenClaim.laidByTextAt_later rfl rfl tie2 noOwnUnsafe
theorem fnLinesUpto_row_tie : Rows.fnLinesUptoRow.laidByTextAt .later Tryd.pinned [.sentinel] true :=
  OpenClaim.laidByTextAt_later rfl rfl tie noOwnUnsafe
theorem fnLengthBackUpto_row_tie : Rows.fnLengthBackUptoRow.laidByTextAt .later Tryd.pinned [.sentinel, .sentinel, .sentinel] true :=
  OpenClaim.laidByTextAt_later rfl rfl tie2 noOwnUnsafe
end Go.Proofs.YtdfeojkombmiaaaDoor
