/-
  DERIVED. GIVEN WITH THE SEED: THE PROGRAM's TIES (one call each: nine closed facts by the kernel) AND EACH ROW's TIE, after the 31st guide's Derived/Test/Toyas{Tie, Card}.lean. No idea stands in it: it is a product of the set-up. Laid BY PROGRAM, IN A SANDBOX (cutbox-door.mjs). By AI agents, Wed Nov 11 2026. No macro, syntax, notation, axiom, sorry.
-/
import Derived.Test.YtcbpbmflgcgmaaaDoorRows
import Derived.LaidByTextLater
import Derived.SevenTiedAt
import Derived.LaidSub
import Derived.LaidOnce
namespace Go.Proofs.YtcbpbmflgcgmaaaDoor
open Go
set_option maxRecDepth 100000
theorem seatTie1 : Tryd.prog.laidByTextLater [("pub-headstall/pub/hertzconv.errEmptyInt", Rows.laid_pub_headstall_pub_hertzconv_errEmptyInt), ("pub-headstall/pub/hertzconv.errUnexpectedFirstChar", Rows.laid_pub_headstall_pub_hertzconv_errUnexpectedFirstChar), ("pub-headstall/pub/hertzconv.errUnexpectedTrailingChar", Rows.laid_pub_headstall_pub_hertzconv_errUnexpectedTrailingChar), ("pub-headstall/pub/hertzconv.errTooLongInt", Rows.laid_pub_headstall_pub_hertzconv_errTooLongInt), ("pub-headstall/pub/hertzproto.errNoCookies", Rows.laid_pub_headstall_pub_hertzproto_errNoCookies)] [.sentinel, .sentinel, .sentinel, .sentinel, .sentinel] true :=
  Program.laidByTextLater_by_one 104 8 2 (by kernel_rfl) (by kernel_rfl) (by kernel_rfl) (by kernel_rfl) (by kernel_rfl) (by kernel_rfl) (fun _ _ => by kernel_rfl)
theorem noOwnUnsafe : Tryd.pinned.checked.prog.headLifts.contains "ownunsafe" = false := by kernel_rfl
theorem tie : Tryd.prog.laidByTextLater [("pub-headstall/pub/hertzconv.errEmptyInt", Rows.laid_pub_headstall_pub_hertzconv_errEmptyInt), ("pub-headstall/pub/hertzconv.errUnexpectedFirstChar", Rows.laid_pub_headstall_pub_hertzconv_errUnexpectedFirstChar), ("pub-headstall/pub/hertzconv.errTooLongInt", Rows.laid_pub_headstall_pub_hertzconv_errTooLongInt)] [.sentinel, .sentinel, .sentinel] true :=
  Program.laidByTextLater.sub seatTie1 ["pub-headstall/pub/hertzconv.errEmptyInt", "pub-headstall/pub/hertzconv.errUnexpectedFirstChar", "pub-headstall/pub/hertzconv.errTooLongInt"] (by kernel_rfl) (by kernel_rfl)
theorem fnAcceptsEncoding_row_tie : Rows.fnAcceptsEncodingRow.laidByTextAt .later Tryd.pinned [.sentinel, .sentinel, .sentinel] true :=
  OpenClaim.laidByTextAt_later rfl rfl tie noOwnUnsafe
theorem fnRanges_row_tie : Rows.fnRangesRow.laidByTextAt .later Tryd.pinned [.sentinel, .sentinel, .sentinel] true :=
  OpenClaim.laidByTextAt_later rfl rfl tie noOwnUnsafe
theorem tie2 : Tryd.prog.laidByTextLater [("pub-headstall/pub/hertzconv.errEmptyInt", Rows.laid_pub_headstall_pub_hertzconv_errEmptyInt), ("pub-headstall/pub/hertzconv.errUnexpectedFirstChar", Rows.laid_pub_headstall_pub_hertzconv_errUnexpectedFirstChar), ("pub-headstall/pub/hertzconv.errUnexpectedTrailingChar", Rows.laid_pub_headstall_pub_hertzconv_errUnexpectedTrailingChar), ("pub-headstall/pub/hertzconv.errTooLongInt", Rows.laid_pub_headstall_pub_hertzconv_errTooLongInt), ("pub-headstall/pub/hertzproto.errNoCookies", Rows.laid_pub_headstall_pub_hertzproto_errNoCookies)] [.sentinel, .sentinel, .sentinel, .sentinel, .sentinel] true :=
  Program.laidByTextLater.sub seatTie1 ["pub-headstall/pub/hertzconv.errEmptyInt", "pub-headstall/pub/hertzconv.errUnexpectedFirstChar", "pub-headstall/pub/hertzconv.errUnexpectedTrailingChar", "pub-headstall/pub/hertzconv.errTooLongInt", "pub-headstall/pub/hertzproto.errNoCookies"] (by kernel_rfl) (by kernel_rfl)
theorem fnCookieBack_row_tie : Rows.fnCookieBackRow.laidByTextAt .later Tryd.pinned [.sentinel, .sentinel, .sentinel, .sentinel, .sentinel] true :=
  OpenClaim.laidByTextAt_later rfl rfl tie2 noOwnUnsafe
theorem fnCookieSays_row_tie : Rows.fnCookieSaysRow.laidByTextAt .later Tryd.pinned [.sentinel, .sentinel, .sentinel, .sentinel, .sentinel] true :=
  OpenClaim.laidByTextAt_later rfl rfl tie2 noOwnUnsafe
theorem fnAcceptsEncodingUpto_row_tie : Rows.fnAcceptsEncodingUptoRow.laidByTextAt .later Tryd.pinned [.sentinel, .sentinel, .sentinel] true :=
  OpenClaim.laidByTextAt_later rfl rfl tie noOwnUnsafe
theorem fnCookieBackUpto_row_tie : Rows.fnCookieBackUptoRow.laidByTextAt .later Tryd.pinned [.sentinel, .sentinel, .sentinel, .sentinel, .sentinel] true :=
  OpenClaim.laidByTextAt_later rfl rfl tie2 noOwnUnsafe
theorem fnCookieSaysUpto_row_tie : Rows.fnCookieSaysUptoRow.laidByTextAt .later Tryd.pinned [.sentinel, .sentinel, .sentinel, .sentinel, .sentinel] true :=
  OpenClaim.laidByTextAt_later rfl rfl tie2 noOwnUnsafe
theorem fnRangesUpto_row_tie : Rows.fnRangesUptoRow.laidByTextAt .later Tryd.pinned [.sentinel, .sentinel, .sentinel] true :=
  OpenClaim.laidByTextAt_later rfl rfl tie noOwnUnsafe
end Go.Proofs.YtcbpbmflgcgmaaaDoor
