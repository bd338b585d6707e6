/- The law FnAddrParts answers true at every two texts: an address is parted at its last colon; one without a colon has no port. No condition beyond the row's own. -/
import Derived.Test.YtkbmababljcabaaQA8
import Derived.Test.YtkbmababljcabaaLAddr
import Derived.Test.YtkbmababljcabaaLShort
import Derived.Test.YtkbmababljcabaaLHolds
set_option linter.unusedVariables false
namespace Go.Proofs.Ytkbmababljcabaa.Pure
open Go.RowKit Go.Proofs.Ytkbmababljcabaa.QA Go.Proofs.YtkbmababljcabaaW.PrintWords Go.Proofs.YtkbmababljcabaaW.PrintLast Go.Proofs.Ytkbmababljcabaa.Base

theorem FnAddrParts : laws_FnAddrParts.Pure := by
  intro host port h1 h2
  refine Ev.rounds ?_
  simp only [laws_FnAddrParts.f]
  have o0 : Ev (fun k => laws_FnAddrParts.j0 k host port true) true := Ev.step (f := fun _ => some true) (fun k => by simp only [laws_FnAddrParts.j0]; rw [if_pos trivial]) (Ev.now _)
  have o2 : Ev (fun k => laws_FnAddrParts.j2 k host port true) true := Ev.step (f := fun _ => some true) (fun k => by simp only [laws_FnAddrParts.j2]; rw [if_pos trivial]) (Ev.now _)
  refine Ev.ite (fun _ => o0) (fun z1 => ?_)
  by_cases z2 : (port.size : Int) > 2147483647
  · rw [decide_eq_true z2]; exact o0
  rw [decide_eq_false z2]
  refine Ev.step (f := fun k => (impl_Addr.f k (⟨#[97, 58, 49]⟩ : ByteArray)).bind fun bt111 => (if bt111.1.toList = ([97] : List UInt8) then (laws_FnAddrParts.j1 k host port (bt111.2.toList != ([49] : List UInt8))) else (laws_FnAddrParts.j1 k host port true))) (fun k => by simp only [laws_FnAddrParts.j0]; rw [if_neg (by simp)]) ?_
  refine Ev.bind (addr_ends _ (by decide)) ?_
  have ea : addrOf (⟨#[97, 58, 49]⟩ : ByteArray) = (⟨#[97]⟩, ⟨#[49]⟩) := addr_at _ _ _ (by decide) (by decide)
  rw [ea]
  refine Ev.if_true (by decide +kernel) ?_
  rw [show (((⟨#[97]⟩ : ByteArray), (⟨#[49]⟩ : ByteArray)).2.toList != ([49] : List UInt8)) = false by decide +kernel]
  refine Ev.step (f := fun k => (laws_short.f k (([host, port] : List ByteArray))).bind fun t116 => (if t116 = true then ((laws_holds.f k port 58).bind fun t117 => (laws_FnAddrParts.j2 k host port t117)) else (laws_FnAddrParts.j2 k host port true))) (fun k => by simp only [laws_FnAddrParts.j1]; rw [if_neg (by simp)]) ?_
  refine Ev.bind (short_ends [host, port] (by simp)) ?_
  refine Ev.ite (fun hsh => ?_) (fun _ => o2)
  refine Ev.bind (holds_ends port 58 h2) ?_
  cases hh : (ns port).any (fun x => decide (x = 58)) with
  | true => exact o2
  | false =>
    have hno : (58 : Int) ∉ ns port := by
      intro hm
      have : (ns port).any (fun x => decide (x = 58)) = true := List.any_eq_true.2 ⟨58, hm, by decide⟩
      rw [hh] at this; cases this
    have z3 : (host ++ (⟨#[58]⟩ : ByteArray)).size = host.size + 1 := by rw [ByteArray.size_append]; rfl
    refine Ev.step (f := fun k => (impl_Addr.f k ((host ++ (⟨#[58]⟩ : ByteArray)) ++ port)).bind fun bt118 => ((impl_Addr.f k port).bind fun bt120 => (if bt118.1.toList = host.toList then (if bt118.2.toList = port.toList then (if bt120.1.toList = port.toList then (some (bt120.2.toList == ([] : List UInt8))) else (some false)) else (some false)) else (some false)))) (fun k => by simp only [laws_FnAddrParts.j2]; rw [if_neg (by simp), if_pos (by omega), if_pos (by omega)]) ?_
    refine Ev.bind (addr_ends _ (by rw [ByteArray.size_append, z3]; omega)) ?_
    refine Ev.bind (addr_ends _ (by omega)) ?_
    have e58 : ns (⟨#[58]⟩ : ByteArray) = [58] := by decide
    rw [addr_none port hno, addr_at ((host ++ (⟨#[58]⟩ : ByteArray)) ++ port) host port (by rw [ns_append, ns_append, e58]; simp) hno]
    refine Ev.if_true rfl (Ev.if_true rfl (Ev.if_true rfl (Ev.val ?_)))
    exact (show ((⟨#[]⟩ : ByteArray).toList == ([] : List UInt8)) = true by decide +kernel)
end Go.Proofs.Ytkbmababljcabaa.Pure
