/- The members of an object, from the place of one name on, as objectEachConfig goes over them; no condition beside those that each theorem states. -/
import Derived.Test.YtpdohioobbfncaaGreatDoorHSXFnJrEach
namespace Go.Proofs.YtpdohioobbfncaaGreatDoor.PFnJrEach
open Go.RowKit Go.Proofs.YtpdohioobbfncaaGreatDoorW.PrintWords Go.Proofs.YtpdohioobbfncaaGreatDoorW.PrintLast Go.Proofs.YtpdohioobbfncaaGreatDoorW.PrintMore
set_option linter.unusedVariables false
set_option linter.unusedSimpArgs false
/-- A member: its name from p to q, the colon at t, whether a backslash stands in the name, its characters, the value from x to y, its kind. -/
structure OM where
  p : Nat
  q : Nat
  t : Nat
  es : Bool
  nm : List Int
  x : Nat
  y : Nat
  kd : Int
/-- A member stands in the text. -/
structure OMs (s : ByteArray) (e : Nat) (m : OM) : Prop where
  st : St s e m.p m.q m.t m.es
  hc : bt s (m.t : Int) = 58
  nms : NMs s (m.p + 1) (m.q - 1) m.es m.nm
  gv : GV s e (m.t + 1) m.x m.y m.kd
/-- The members of an object, from the place of a name on, up to its closing byte. -/
inductive OL (s : ByteArray) (e : Nat) : Nat → List OM → Nat → Prop
  | last {m : OM} {z : Nat} (h : OMs s e m) (nt : NT s e m.y z) (yz : m.y ≤ z) (ze : z < e) (hz : bt s (z : Int) = 125) : OL s e m.p [m] z
  | more {m : OM} {z p f : Nat} {r : List OM} (h : OMs s e m) (nt : NT s e m.y z) (yz : m.y ≤ z) (ze : z < e) (hz : bt s (z : Int) = 44) (n2 : NT s e (z + 1) p) (zp : z + 1 ≤ p) (t : OL s e p r f) : OL s e m.p (m :: r) f
/-- An object at a place: its members, its closing byte's place. -/
structure OE (s : ByteArray) (e p : Nat) (els : List OM) (f : Nat) : Prop where
  n0 : NT s e p p
  pe : p < e
  o : bt s (p : Int) = 123
  q : ∃ q, NT s e (p + 1) q ∧ p + 1 ≤ q ∧ q < e ∧ ((bt s (q : Int) = 125 ∧ els = [] ∧ f = q) ∨ OL s e q els f)
end Go.Proofs.YtpdohioobbfncaaGreatDoor.PFnJrEach