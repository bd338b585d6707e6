/- IsBadTrailer's answer hangs on the key's bytes but for the bit 32. -/
import Derived.Test.YtjnnadpecendpaaQA2
import Derived.Test.YtjnnadpecendpaaLCic
namespace Go.Proofs.Ytjnnadpecendpaa.Base
open Go.RowKit Go.Proofs.Ytjnnadpecendpaa.QA Go.Proofs.YtjnnadpecendpaaW.PrintWords Go.Proofs.YtjnnadpecendpaaW.PrintLast Go.Proofs.Ytjnnadpecendpaa.Given Go.Proofs.Ytjnnadpecendpaa.Gv

def cAuthorization : List Int := [65, 117, 116, 104, 111, 114, 105, 122, 97, 116, 105, 111, 110]
def cContentType : List Int := [67, 111, 110, 116, 101, 110, 116, 45, 84, 121, 112, 101]
def cContentEncoding : List Int := [67, 111, 110, 116, 101, 110, 116, 45, 69, 110, 99, 111, 100, 105, 110, 103]
def cContentLength : List Int := [67, 111, 110, 116, 101, 110, 116, 45, 76, 101, 110, 103, 116, 104]
def cContentRange : List Int := [67, 111, 110, 116, 101, 110, 116, 45, 82, 97, 110, 103, 101]
def cConnection : List Int := [67, 111, 110, 110, 101, 99, 116, 105, 111, 110]
def cExpect : List Int := [69, 120, 112, 101, 99, 116]
def cHost : List Int := [72, 111, 115, 116]
def cKeepAlive : List Int := [107, 101, 101, 112, 45, 97, 108, 105, 118, 101]
def cMaxForwards : List Int := [77, 97, 120, 45, 70, 111, 114, 119, 97, 114, 100, 115]
def cProxyConnection : List Int := [80, 114, 111, 120, 121, 45, 67, 111, 110, 110, 101, 99, 116, 105, 111, 110]
def cProxyAuthenticate : List Int := [80, 114, 111, 120, 121, 45, 65, 117, 116, 104, 101, 110, 116, 105, 99, 97, 116, 101]
def cProxyAuthorization : List Int := [80, 114, 111, 120, 121, 45, 65, 117, 116, 104, 111, 114, 105, 122, 97, 116, 105, 111, 110]
def cRange : List Int := [82, 97, 110, 103, 101]
def cTE : List Int := [84, 69]
def cTrailer : List Int := [84, 114, 97, 105, 108, 101, 114]
def cTransferEncoding : List Int := [84, 114, 97, 110, 115, 102, 101, 114, 45, 69, 110, 99, 111, 100, 105, 110, 103]
def cWWWAuthenticate : List Int := [87, 87, 87, 45, 65, 117, 116, 104, 101, 110, 116, 105, 99, 97, 116, 101]
def eqM (m c : List Int) : Bool := decide (m = c.map o32)
/-- The case of the first letter c. -/
def badC (m : List Int) : Bool := if decide (12 ≤ m.length) && eqM (m.take 8) (cContentType.take 8) then eqM (m.drop 8) (cContentEncoding.drop 8) || (eqM (m.drop 8) (cContentLength.drop 8) || (eqM (m.drop 8) (cContentType.drop 8) || eqM (m.drop 8) (cContentRange.drop 8))) else eqM m cConnection
/-- The case of the first letter p. -/
def badP (m : List Int) : Bool := if decide (16 ≤ m.length) && eqM (m.take 6) (cProxyConnection.take 6) then eqM (m.drop 6) (cProxyConnection.drop 6) || (eqM (m.drop 6) (cProxyAuthenticate.drop 6) || eqM (m.drop 6) (cProxyAuthorization.drop 6)) else false
/-- Whether a key whose bytes are these, but for the bit 32, may not be a trailer. -/
def badM (m : List Int) : Bool :=
  if m.headD 0 = 97 then eqM m cAuthorization else if m.headD 0 = 99 then badC m else if m.headD 0 = 101 then eqM m cExpect else if m.headD 0 = 104 then eqM m cHost else if m.headD 0 = 107 then eqM m cKeepAlive else if m.headD 0 = 109 then eqM m cMaxForwards else if m.headD 0 = 112 then badP m else if m.headD 0 = 114 then eqM m cRange else if m.headD 0 = 116 then eqM m cTE || (eqM m cTrailer || eqM m cTransferEncoding) else if m.headD 0 = 119 then eqM m cWWWAuthenticate else false
theorem eqM_ends (l c : List Int) (hs : l.length ≤ 140737488351232) : Ev (fun k => hertzutils_CaseInsensitiveCompare.f k l c) (eqM (l.map o32) c) := cic_ends l c hs
theorem eqM_take (l c : List Int) (n : Nat) (hs : l.length ≤ 140737488351232) : Ev (fun k => hertzutils_CaseInsensitiveCompare.f k (l.take n) c) (eqM ((l.map o32).take n) c) := by
  rw [← List.map_take]
  exact cic_ends _ c (by rw [List.length_take]; omega)
theorem eqM_drop (l c : List Int) (n : Nat) (hs : l.length ≤ 140737488351232) : Ev (fun k => hertzutils_CaseInsensitiveCompare.f k (l.drop n) c) (eqM ((l.map o32).drop n) c) := by
  rw [← List.map_drop]
  exact cic_ends _ c (by rw [List.length_drop]; omega)
theorem Ev.orv {f g : Nat → Option Bool} {a b : Bool} (h1 : Ev f a) (h2 : Ev g b) : Ev (fun k => (f k).bind fun t => if t = true then some true else g k) (a || b) := by
  refine Ev.bind h1 ?_
  cases a
  · exact Ev.if_false (by simp) h2
  · exact Ev.if_true rfl (Ev.now _)
theorem Ev.one {f : Nat → Option Bool} {a : Bool} (h1 : Ev f a) : Ev (fun k => (f k).bind fun t => some t) a := Ev.bind h1 (Ev.now _)
theorem len_of (l : List Int) (n : Nat) (h : n ≤ l.length) : (n : Int) ≤ (l.length : Int) := by omega
theorem bad_j0_false (l : List Int) (hs : l.length ≤ 140737488351232) : Ev (fun k => hertzproto_IsBadTrailer.j0 k l false) (eqM (l.map o32) cConnection) := by
  refine Ev.step (f := _) (fun k => by simp only [hertzproto_IsBadTrailer.j0]; rw [if_neg (by simp)]) ?_
  exact Ev.call (a := cConnection) rfl (Ev.one (eqM_ends l _ hs))
theorem bad_j0_true (l : List Int) (hs : l.length ≤ 140737488351232) (h8 : 8 ≤ l.length) : Ev (fun k => hertzproto_IsBadTrailer.j0 k l true) (eqM ((l.map o32).drop 8) (cContentEncoding.drop 8) || (eqM ((l.map o32).drop 8) (cContentLength.drop 8) || (eqM ((l.map o32).drop 8) (cContentType.drop 8) || eqM ((l.map o32).drop 8) (cContentRange.drop 8)))) := by
  refine Ev.step (f := _) (fun k => by simp only [hertzproto_IsBadTrailer.j0]; rw [if_pos trivial]) ?_
  refine Ev.if_true (by omega) ?_
  refine Ev.call (a := cContentEncoding) rfl (Ev.if_true (by decide) (Ev.orv (eqM_drop l _ 8 hs) ?_))
  refine Ev.call (a := cContentLength) rfl (Ev.if_true (by decide) (Ev.orv (eqM_drop l _ 8 hs) ?_))
  refine Ev.call (a := cContentType) rfl (Ev.if_true (by decide) (Ev.orv (eqM_drop l _ 8 hs) ?_))
  exact Ev.call (a := cContentRange) rfl (Ev.if_true (by decide) (Ev.one (eqM_drop l _ 8 hs)))
theorem bad_j1_false (l : List Int) : Ev (fun k => hertzproto_IsBadTrailer.j1 k l false) false := by
  refine Ev.step (f := fun _ => some false) (fun k => by simp only [hertzproto_IsBadTrailer.j1]; rw [if_neg (by simp)]) (Ev.now _)
theorem bad_j1_true (l : List Int) (hs : l.length ≤ 140737488351232) (h6 : 6 ≤ l.length) : Ev (fun k => hertzproto_IsBadTrailer.j1 k l true) (eqM ((l.map o32).drop 6) (cProxyConnection.drop 6) || (eqM ((l.map o32).drop 6) (cProxyAuthenticate.drop 6) || eqM ((l.map o32).drop 6) (cProxyAuthorization.drop 6))) := by
  refine Ev.step (f := _) (fun k => by simp only [hertzproto_IsBadTrailer.j1]; rw [if_pos trivial]) ?_
  refine Ev.if_true (by omega) ?_
  refine Ev.call (a := cProxyConnection) rfl (Ev.if_true (by decide) (Ev.orv (eqM_drop l _ 6 hs) ?_))
  refine Ev.call (a := cProxyAuthenticate) rfl (Ev.if_true (by decide) (Ev.orv (eqM_drop l _ 6 hs) ?_))
  exact Ev.call (a := cProxyAuthorization) rfl (Ev.if_true (by decide) (Ev.one (eqM_drop l _ 6 hs)))
theorem badC_ends (l : List Int) (hs : l.length ≤ 140737488351232) : Ev (fun k => if (l.length : Int) ≥ 12 then (if 8 ≤ (l.length : Int) then ((hertzstr_StrContentType.f).bind fun t109 => (if 8 ≤ (t109.length : Int) then ((hertzutils_CaseInsensitiveCompare.f k (l.take 8) (t109.take 8)).bind fun t116 => (hertzproto_IsBadTrailer.j0 k l t116)) else (none))) else (none)) else (hertzproto_IsBadTrailer.j0 k l false)) (badC (l.map o32)) := by
  unfold badC
  rw [List.length_map]
  refine Ev.ite (fun h => Ev.if_true (by omega) ?_) (fun h => ?_)
  · refine Ev.call (a := cContentType) rfl (Ev.if_true (by decide) (Ev.bind (eqM_take l _ 8 hs) ?_))
    rw [decide_eq_true (show 12 ≤ l.length by omega), Bool.true_and]
    cases eqM ((l.map o32).take 8) (cContentType.take 8)
    · rw [if_neg (by simp)]; exact bad_j0_false l hs
    · rw [if_pos rfl]; exact bad_j0_true l hs (by omega)
  · rw [decide_eq_false (show ¬ 12 ≤ l.length by omega), Bool.false_and, if_neg (by simp)]
    exact bad_j0_false l hs
theorem badP_ends (l : List Int) (hs : l.length ≤ 140737488351232) : Ev (fun k => if (l.length : Int) ≥ 16 then (if 6 ≤ (l.length : Int) then ((hertzstr_StrProxyConnection.f).bind fun t174 => (if 6 ≤ (t174.length : Int) then ((hertzutils_CaseInsensitiveCompare.f k (l.take 6) (t174.take 6)).bind fun t181 => (hertzproto_IsBadTrailer.j1 k l t181)) else (none))) else (none)) else (hertzproto_IsBadTrailer.j1 k l false)) (badP (l.map o32)) := by
  unfold badP
  rw [List.length_map]
  refine Ev.ite (fun h => Ev.if_true (by omega) ?_) (fun h => ?_)
  · refine Ev.call (a := cProxyConnection) rfl (Ev.if_true (by decide) (Ev.bind (eqM_take l _ 6 hs) ?_))
    rw [decide_eq_true (show 16 ≤ l.length by omega), Bool.true_and]
    cases eqM ((l.map o32).take 6) (cProxyConnection.take 6)
    · rw [if_neg (by simp)]; exact bad_j1_false l
    · rw [if_pos rfl]; exact bad_j1_true l hs (by omega)
  · rw [decide_eq_false (show ¬ 16 ≤ l.length by omega), Bool.false_and, if_neg (by simp)]
    exact bad_j1_false l
theorem ite_r {c : Prop} [Decidable c] {f g : Nat → Option Bool} {a b : Bool} (h : c → Ev f a) (k : ¬ c → Ev g b) : Ev (fun n => if c then f n else g n) (if c then a else b) := by
  by_cases hc : c
  · rw [if_pos hc]; exact Ev.if_true hc (h hc)
  · rw [if_neg hc]; exact Ev.if_false hc (k hc)
theorem head_o32 (l : List Int) (h : 0 < l.length) : Go.bits .or .u8 (rd l 0) 32 = (l.map o32).headD 0 := by
  cases l with
  | nil => simp at h
  | cons a t => rfl
theorem bad_ends (l : List Int) (h0 : 0 < l.length) (hs : l.length ≤ 140737488351232) : Ev (fun k => hertzproto_IsBadTrailer.f k l) (badM (l.map o32)) := by
  unfold hertzproto_IsBadTrailer.f badM
  rw [head_o32 l h0]
  refine Ev.if_true (by omega) ?_
  refine ite_r (fun _ => Ev.call (a := cAuthorization) rfl (Ev.one (eqM_ends l _ hs))) (fun _ => ?_)
  refine ite_r (fun _ => badC_ends l hs) (fun _ => ?_)
  refine ite_r (fun _ => Ev.call (a := cExpect) rfl (Ev.one (eqM_ends l _ hs))) (fun _ => ?_)
  refine ite_r (fun _ => Ev.call (a := cHost) rfl (Ev.one (eqM_ends l _ hs))) (fun _ => ?_)
  refine ite_r (fun _ => Ev.call (a := cKeepAlive) rfl (Ev.one (eqM_ends l _ hs))) (fun _ => ?_)
  refine ite_r (fun _ => Ev.call (a := cMaxForwards) rfl (Ev.one (eqM_ends l _ hs))) (fun _ => ?_)
  refine ite_r (fun _ => badP_ends l hs) (fun _ => ?_)
  refine ite_r (fun _ => Ev.call (a := cRange) rfl (Ev.one (eqM_ends l _ hs))) (fun _ => ?_)
  refine ite_r (fun _ => Ev.call (a := cTE) rfl (Ev.orv (eqM_ends l _ hs) (Ev.call (a := cTrailer) rfl (Ev.orv (eqM_ends l _ hs) (Ev.call (a := cTransferEncoding) rfl (Ev.one (eqM_ends l _ hs))))))) (fun _ => ?_)
  exact ite_r (fun _ => Ev.call (a := cWWWAuthenticate) rfl (Ev.one (eqM_ends l _ hs))) (fun _ => Ev.now _)
theorem bad_x (m : List Int) (h : m.headD 0 = 120) : badM m = false := by
  unfold badM
  rw [h]
  rfl
end Go.Proofs.Ytjnnadpecendpaa.Base
