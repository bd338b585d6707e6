/- Two small facts that the printed walks close with: a list of bytes is not empty. -/
import Derived.RowKit
import Derived.Test.YtkbmababljcabaaWWords
namespace Go.Proofs.Ytkbmababljcabaa.PrX
open Go.RowKit Go.Proofs.YtkbmababljcabaaW.PrintWords
theorem prx_ne (l : List UInt8) : (l != []) = !l.isEmpty := by cases l <;> rfl
theorem prx_sz (l : List UInt8) : (ByteArray.mk l.toArray).size = l.length := by simp [ByteArray.size]
theorem prx_mid (xs : List Int) (m k : Nat) (h : m ≤ xs.length) : ((xs.take m).drop k).length = m - k := by simp; omega
theorem prx_ne2 (l : List UInt8) : l.isEmpty = !(l != []) := by cases l <;> rfl
/-- A row of bytes of one's own as a text, orders having been drawn since. -/
theorem prx_strd {P : Program} {w : World} {base n : Nat} {e' src dst e : TypeId} {v : Value} {xs : List Int} (hs : P.underlying src = some (.slice e)) (he : P.underlying e = some (.int .u8)) (hd : P.underlying dst = some .string)
    (h : w.ownsRow base e' 1 v n (nums .u8 xs)) : ∀ nq : Nat, (convert src dst v).run P (w.drewN nq) = .ok (.string (strOfNums xs)) (w.drewN nq) := fun nq => own_string (w := w.drewN nq) hs he hd h
end Go.Proofs.Ytkbmababljcabaa.PrX
namespace Go.Proofs.Ytkbmababljcabaa.Given
theorem given_here : True := trivial
end Go.Proofs.Ytkbmababljcabaa.Given
