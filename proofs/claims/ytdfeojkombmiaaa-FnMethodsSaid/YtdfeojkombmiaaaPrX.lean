/- Two small facts that the printed walks close with: a list of bytes is not empty. -/
import Derived.RowKit
namespace Go.Proofs.Ytdfeojkombmiaaa.PrX
theorem prx_ne (l : List UInt8) : (l != []) = !l.isEmpty := by cases l <;> rfl
theorem prx_ne2 (l : List UInt8) : l.isEmpty = !(l != []) := by cases l <;> rfl
end Go.Proofs.Ytdfeojkombmiaaa.PrX
