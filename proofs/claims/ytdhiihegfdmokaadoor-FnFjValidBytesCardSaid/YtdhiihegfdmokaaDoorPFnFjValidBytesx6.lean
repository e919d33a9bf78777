-- Written by a program of this session (wip/prx) out of the print of the loaded functions.
import Derived.Test.YtdhiihegfdmokaaDoorPFnFjValidBytesx0
import Derived.Test.YtdhiihegfdmokaaDoorPFnFjValidBytesx1
import Derived.Test.YtdhiihegfdmokaaDoorPFnFjValidBytesx3
import Derived.Test.YtdhiihegfdmokaaDoorPFnFjValidBytesx4
import Derived.Test.YtdhiihegfdmokaaDoorPFnFjValidBytesx5
import Derived.Test.YtdhiihegfdmokaaDoorGXFnFjValidBytes
import Derived.Test.YtdhiihegfdmokaaDoorHEFnFjValidBytes
namespace Go.Proofs.YtdhiihegfdmokaaDoor.PFnFjValidBytes
open Go.RowKit Go.Proofs.YtdhiihegfdmokaaDoorW.PrintWords Go.Proofs.YtdhiihegfdmokaaDoorW.PrintLast Go.Proofs.YtdhiihegfdmokaaDoorW.PrintMore
attribute [local go_sem] max2_int min2_int max_two min_two max_three min_three max_four min_four   -- for this text's walks alone
set_option linter.unusedVariables false
set_option linter.unusedSimpArgs false

/-! ### fastjson_validateObject: function 34 -/
/-! ### fastjson_validateValue: function 36 -/
/-! ### fastjson_validateArray: function 55 -/
mutual
def fastjson_validateObject.l0 : Nat → ByteArray → Option (ByteArray × Option Int)
  | 0, _ => none
  | k + 1, x0 => (fastjson_skipWS.f k x0).bind fun t135 => (if (t135.size : Int) = 0 then (fastjson_validateObject.j1 k t135 true) else (if 0 < (t135.size : Int) then (fastjson_validateObject.j1 k t135 ((bt t135 0) != 34)) else (none)))
def fastjson_validateObject.j1 : Nat → ByteArray → Bool → Option (ByteArray × Option Int)
  | 0, _, _ => none
  | k + 1, x0, x28 => if x28 = true then ((errors_New.f (⟨#[99, 97, 110, 110, 111, 116, 32, 102, 105, 110, 100, 32, 111, 112, 101, 110, 105, 110, 103, 32, 39, 34, 34, 32, 102, 111, 114, 32, 111, 98, 106, 101, 99, 116, 32, 107, 101, 121]⟩ : ByteArray)).bind fun t136 => (some (x0, t136))) else (if 1 ≤ (x0.size : Int) then ((fastjson_validateKey.f k (x0.extract 1 x0.size)).bind fun bt137 => (if bt137.2.2.isNone = true then (fastjson_validateObject.l1 k bt137.2.1 bt137.1 (bt137.1.size : Int) 0) else ((errors_New.f (⟨#[99, 97, 110, 110, 111, 116, 32, 112, 97, 114, 115, 101, 32, 111, 98, 106, 101, 99, 116, 32, 107, 101, 121]⟩ : ByteArray)).bind fun t152 => (some (bt137.2.1, t152))))) else (none))
def fastjson_validateObject.l1 : Nat → ByteArray → ByteArray → Int → Int → Option (ByteArray × Option Int)
  | 0, _, _, _, _ => none
  | k + 1, x0, x5, x43, x44 => if x44 < x43 then (if 0 ≤ x44 then (if x44 < (x5.size : Int) then (if (bt x5 x44) < 32 then ((errors_New.f (⟨#[111, 98, 106, 101, 99, 116, 32, 107, 101, 121, 32, 99, 97, 110, 110, 111, 116, 32, 99, 111, 110, 116, 97, 105, 110, 32, 99, 111, 110, 116, 114, 111, 108, 32, 99, 104, 97, 114, 32, 48, 120]⟩ : ByteArray)).bind fun t141 => (some (x0, t141))) else (fastjson_validateObject.l1 k x0 x5 x43 (wrap64 (x44 + 1)))) else (none)) else (none)) else ((fastjson_skipWS.f k x0).bind fun t142 => (if (t142.size : Int) = 0 then (fastjson_validateObject.j3 k t142 true) else (if 0 < (t142.size : Int) then (fastjson_validateObject.j3 k t142 ((bt t142 0) != 58)) else (none))))
def fastjson_validateObject.j3 : Nat → ByteArray → Bool → Option (ByteArray × Option Int)
  | 0, _, _ => none
  | k + 1, x0, x63 => if x63 = true then ((errors_New.f (⟨#[109, 105, 115, 115, 105, 110, 103, 32, 39, 58, 39, 32, 97, 102, 116, 101, 114, 32, 111, 98, 106, 101, 99, 116, 32, 107, 101, 121]⟩ : ByteArray)).bind fun t143 => (some (x0, t143))) else (if 1 ≤ (x0.size : Int) then ((fastjson_skipWS.f k (x0.extract 1 x0.size)).bind fun t144 => ((fastjson_validateValue.f k t144).bind fun bt145 => (if bt145.2.isNone = true then ((fastjson_skipWS.f k bt145.1).bind fun t148 => (if (t148.size : Int) = 0 then ((errors_New.f (⟨#[117, 110, 101, 120, 112, 101, 99, 116, 101, 100, 32, 101, 110, 100, 32, 111, 102, 32, 111, 98, 106, 101, 99, 116]⟩ : ByteArray)).bind fun t149 => (some (t148, t149))) else (if 0 < (t148.size : Int) then (if (bt t148 0) = 44 then (if 1 ≤ (t148.size : Int) then (fastjson_validateObject.l0 k (t148.extract 1 t148.size)) else (none)) else (if (bt t148 0) = 125 then (if 1 ≤ (t148.size : Int) then (some (t148.extract 1 t148.size, none)) else (none)) else ((errors_New.f (⟨#[109, 105, 115, 115, 105, 110, 103, 32, 39, 44, 39, 32, 97, 102, 116, 101, 114, 32, 111, 98, 106, 101, 99, 116, 32, 118, 97, 108, 117, 101]⟩ : ByteArray)).bind fun t150 => (some (t148, t150))))) else (none)))) else ((errors_New.f (⟨#[99, 97, 110, 110, 111, 116, 32, 112, 97, 114, 115, 101, 32, 111, 98, 106, 101, 99, 116, 32, 118, 97, 108, 117, 101]⟩ : ByteArray)).bind fun t151 => (some (bt145.1, t151)))))) else (none))
def fastjson_validateObject.f : Nat → ByteArray → Option (ByteArray × Option Int)
  | 0, _ => none
  | k + 1, a0 => (fastjson_skipWS.f k a0).bind fun t133 => (if (t133.size : Int) = 0 then ((errors_New.f (⟨#[109, 105, 115, 115, 105, 110, 103, 32, 39, 125]⟩ : ByteArray)).bind fun t134 => (some (t133, t134))) else (if 0 < (t133.size : Int) then (if (bt t133 0) = 125 then (if 1 ≤ (t133.size : Int) then (some (t133.extract 1 t133.size, none)) else (none)) else (fastjson_validateObject.l0 k t133)) else (none)))
def fastjson_validateValue.l0 : Nat → ByteArray → ByteArray → Int → Int → Option (ByteArray × Option Int)
  | 0, _, _, _, _ => none
  | k + 1, x8, x9, x62, x63 => if x63 < x62 then (if 0 ≤ x63 then (if x63 < (x8.size : Int) then (if (bt x8 x63) < 32 then ((errors_New.f (⟨#[115, 116, 114, 105, 110, 103, 32, 99, 97, 110, 110, 111, 116, 32, 99, 111, 110, 116, 97, 105, 110, 32, 99, 111, 110, 116, 114, 111, 108, 32, 99, 104, 97, 114, 32, 48, 120]⟩ : ByteArray)).bind fun t166 => (some (x9, t166))) else (fastjson_validateValue.l0 k x8 x9 x62 (wrap64 (x63 + 1)))) else (none)) else (none)) else (some (x9, none))
def fastjson_validateValue.f : Nat → ByteArray → Option (ByteArray × Option Int)
  | 0, _ => none
  | k + 1, a0 => if (a0.size : Int) = 0 then ((errors_New.f (⟨#[99, 97, 110, 110, 111, 116, 32, 112, 97, 114, 115, 101, 32, 101, 109, 112, 116, 121, 32, 115, 116, 114, 105, 110, 103]⟩ : ByteArray)).bind fun t153 => (some (a0, t153))) else (if 0 < (a0.size : Int) then (if (bt a0 0) = 123 then (if 1 ≤ (a0.size : Int) then ((fastjson_validateObject.f k (a0.extract 1 a0.size)).bind fun bt154 => (if bt154.2.isNone = true then (some (bt154.1, none)) else ((errors_New.f (⟨#[99, 97, 110, 110, 111, 116, 32, 112, 97, 114, 115, 101, 32, 111, 98, 106, 101, 99, 116]⟩ : ByteArray)).bind fun t157 => (some (bt154.1, t157))))) else (none)) else (if (bt a0 0) = 91 then (if 1 ≤ (a0.size : Int) then ((fastjson_validateArray.f k (a0.extract 1 a0.size)).bind fun bt158 => (if bt158.2.isNone = true then (some (bt158.1, none)) else ((errors_New.f (⟨#[99, 97, 110, 110, 111, 116, 32, 112, 97, 114, 115, 101, 32, 97, 114, 114, 97, 121]⟩ : ByteArray)).bind fun t161 => (some (bt158.1, t161))))) else (none)) else (if (bt a0 0) = 34 then (if 1 ≤ (a0.size : Int) then ((fastjson_validateString.f k (a0.extract 1 a0.size)).bind fun bt162 => (if bt162.2.2.isNone = true then (fastjson_validateValue.l0 k bt162.1 bt162.2.1 (bt162.1.size : Int) 0) else ((errors_New.f (⟨#[99, 97, 110, 110, 111, 116, 32, 112, 97, 114, 115, 101, 32, 115, 116, 114, 105, 110, 103]⟩ : ByteArray)).bind fun t167 => (some (bt162.2.1, t167))))) else (none)) else (if (bt a0 0) = 116 then (if (a0.size : Int) < 4 then ((errors_New.f (⟨#[117, 110, 101, 120, 112, 101, 99, 116, 101, 100, 32, 118, 97, 108, 117, 101, 32, 102, 111, 117, 110, 100]⟩ : ByteArray)).bind fun t168 => (some (a0, t168))) else (if 0 ≤ 4 then (if 4 ≤ (a0.size : Int) then (if (a0.extract 0 4).toList = ([116, 114, 117, 101] : List UInt8) then (some (a0.extract 4 a0.size, none)) else ((errors_New.f (⟨#[117, 110, 101, 120, 112, 101, 99, 116, 101, 100, 32, 118, 97, 108, 117, 101, 32, 102, 111, 117, 110, 100]⟩ : ByteArray)).bind fun t169 => (some (a0, t169)))) else (none)) else (none))) else (if (bt a0 0) = 102 then (if (a0.size : Int) < 5 then ((errors_New.f (⟨#[117, 110, 101, 120, 112, 101, 99, 116, 101, 100, 32, 118, 97, 108, 117, 101, 32, 102, 111, 117, 110, 100]⟩ : ByteArray)).bind fun t170 => (some (a0, t170))) else (if 0 ≤ 5 then (if 5 ≤ (a0.size : Int) then (if (a0.extract 0 5).toList = ([102, 97, 108, 115, 101] : List UInt8) then (some (a0.extract 5 a0.size, none)) else ((errors_New.f (⟨#[117, 110, 101, 120, 112, 101, 99, 116, 101, 100, 32, 118, 97, 108, 117, 101, 32, 102, 111, 117, 110, 100]⟩ : ByteArray)).bind fun t171 => (some (a0, t171)))) else (none)) else (none))) else (if (bt a0 0) = 110 then (if (a0.size : Int) < 4 then ((errors_New.f (⟨#[117, 110, 101, 120, 112, 101, 99, 116, 101, 100, 32, 118, 97, 108, 117, 101, 32, 102, 111, 117, 110, 100]⟩ : ByteArray)).bind fun t172 => (some (a0, t172))) else (if 0 ≤ 4 then (if 4 ≤ (a0.size : Int) then (if (a0.extract 0 4).toList = ([110, 117, 108, 108] : List UInt8) then (some (a0.extract 4 a0.size, none)) else ((errors_New.f (⟨#[117, 110, 101, 120, 112, 101, 99, 116, 101, 100, 32, 118, 97, 108, 117, 101, 32, 102, 111, 117, 110, 100]⟩ : ByteArray)).bind fun t173 => (some (a0, t173)))) else (none)) else (none))) else ((fastjson_validateNumber.f k a0).bind fun bt174 => (if bt174.2.isNone = true then (some (bt174.1, none)) else ((errors_New.f (⟨#[99, 97, 110, 110, 111, 116, 32, 112, 97, 114, 115, 101, 32, 110, 117, 109, 98, 101, 114]⟩ : ByteArray)).bind fun t177 => (some (bt174.1, t177))))))))))) else (none))
def fastjson_validateArray.l0 : Nat → ByteArray → Option (ByteArray × Option Int)
  | 0, _ => none
  | k + 1, x0 => (fastjson_skipWS.f k x0).bind fun t180 => ((fastjson_validateValue.f k t180).bind fun bt181 => (if bt181.2.isNone = true then ((fastjson_skipWS.f k bt181.1).bind fun t184 => (if (t184.size : Int) = 0 then ((errors_New.f (⟨#[117, 110, 101, 120, 112, 101, 99, 116, 101, 100, 32, 101, 110, 100, 32, 111, 102, 32, 97, 114, 114, 97, 121]⟩ : ByteArray)).bind fun t185 => (some (t184, t185))) else (if 0 < (t184.size : Int) then (if (bt t184 0) = 44 then (if 1 ≤ (t184.size : Int) then (fastjson_validateArray.l0 k (t184.extract 1 t184.size)) else (none)) else (if (bt t184 0) = 93 then (if 1 ≤ (t184.size : Int) then (some (t184.extract 1 t184.size, none)) else (none)) else ((errors_New.f (⟨#[109, 105, 115, 115, 105, 110, 103, 32, 39, 44, 39, 32, 97, 102, 116, 101, 114, 32, 97, 114, 114, 97, 121, 32, 118, 97, 108, 117, 101]⟩ : ByteArray)).bind fun t186 => (some (t184, t186))))) else (none)))) else ((errors_New.f (⟨#[99, 97, 110, 110, 111, 116, 32, 112, 97, 114, 115, 101, 32, 97, 114, 114, 97, 121, 32, 118, 97, 108, 117, 101]⟩ : ByteArray)).bind fun t187 => (some (bt181.1, t187)))))
def fastjson_validateArray.f : Nat → ByteArray → Option (ByteArray × Option Int)
  | 0, _ => none
  | k + 1, a0 => (fastjson_skipWS.f k a0).bind fun t178 => (if (t178.size : Int) = 0 then ((errors_New.f (⟨#[109, 105, 115, 115, 105, 110, 103, 32, 39, 93]⟩ : ByteArray)).bind fun t179 => (some (t178, t179))) else (if 0 < (t178.size : Int) then (if (bt t178 0) = 93 then (if 1 ≤ (t178.size : Int) then (some (t178.extract 1 t178.size, none)) else (none)) else (fastjson_validateArray.l0 k t178)) else (none)))
end
theorem fastjson_validateObject.mono_g : ∀ k, (∀ y0, LeO (fastjson_validateObject.f k y0) (fastjson_validateObject.f (k + 1) y0)) ∧ (∀ y0, LeO (fastjson_validateObject.l0 k y0) (fastjson_validateObject.l0 (k + 1) y0)) ∧ (∀ y0 y1, LeO (fastjson_validateObject.j1 k y0 y1) (fastjson_validateObject.j1 (k + 1) y0 y1)) ∧ (∀ y0 y1 y2 y3, LeO (fastjson_validateObject.l1 k y0 y1 y2 y3) (fastjson_validateObject.l1 (k + 1) y0 y1 y2 y3)) ∧ (∀ y0 y1, LeO (fastjson_validateObject.j3 k y0 y1) (fastjson_validateObject.j3 (k + 1) y0 y1)) ∧ (∀ y0, LeO (fastjson_validateValue.f k y0) (fastjson_validateValue.f (k + 1) y0)) ∧ (∀ y0 y1 y2 y3, LeO (fastjson_validateValue.l0 k y0 y1 y2 y3) (fastjson_validateValue.l0 (k + 1) y0 y1 y2 y3)) ∧ (∀ y0, LeO (fastjson_validateArray.f k y0) (fastjson_validateArray.f (k + 1) y0)) ∧ (∀ y0, LeO (fastjson_validateArray.l0 k y0) (fastjson_validateArray.l0 (k + 1) y0))
  | 0 => ⟨fun _ r h => by simp [fastjson_validateObject.f] at h, fun _ r h => by simp [fastjson_validateObject.l0] at h, fun _ _ r h => by simp [fastjson_validateObject.j1] at h, fun _ _ _ _ r h => by simp [fastjson_validateObject.l1] at h, fun _ _ r h => by simp [fastjson_validateObject.j3] at h, fun _ r h => by simp [fastjson_validateValue.f] at h, fun _ _ _ _ r h => by simp [fastjson_validateValue.l0] at h, fun _ r h => by simp [fastjson_validateArray.f] at h, fun _ r h => by simp [fastjson_validateArray.l0] at h⟩
  | k + 1 => by
    obtain ⟨ih0, ih1, ih2, ih3, ih4, ih5, ih6, ih7, ih8⟩ := fastjson_validateObject.mono_g k
    refine ⟨?_, ?_, ?_, ?_, ?_, ?_, ?_, ?_, ?_⟩
    · intro y0
      unfold fastjson_validateObject.f
      repeat' first
      | (with_reducible exact ih0 _)
      | (with_reducible exact ih1 _)
      | (with_reducible exact ih2 _ _)
      | (with_reducible exact ih3 _ _ _ _)
      | (with_reducible exact ih4 _ _)
      | (with_reducible exact ih5 _)
      | (with_reducible exact ih6 _ _ _ _)
      | (with_reducible exact ih7 _)
      | (with_reducible exact ih8 _)
      | (with_reducible exact fastjson_skipWS.mono _ _)
      | (with_reducible exact fastjson_validateKey.mono _ _)
      | (with_reducible exact fastjson_validateNumber.mono _ _)
      | (with_reducible exact fastjson_validateString.mono _ _)
      | (with_reducible exact LeO.refl _)
      | (with_reducible exact LeO.none _)
      | (with_reducible refine LeO.ite ?_ ?_)
      | (with_reducible refine LeO.bind ?_ (fun _ => ?_))
      | exact ih0 _
      | exact ih1 _
      | exact ih2 _ _
      | exact ih3 _ _ _ _
      | exact ih4 _ _
      | exact ih5 _
      | exact ih6 _ _ _ _
      | exact ih7 _
      | exact ih8 _
      | exact fastjson_skipWS.mono _ _
      | exact fastjson_validateKey.mono _ _
      | exact fastjson_validateNumber.mono _ _
      | exact fastjson_validateString.mono _ _
      | exact LeO.none _
      | refine LeO.ite ?_ ?_
      | refine LeO.bind ?_ (fun _ => ?_)
    · intro y0
      unfold fastjson_validateObject.l0
      repeat' first
      | (with_reducible exact ih0 _)
      | (with_reducible exact ih1 _)
      | (with_reducible exact ih2 _ _)
      | (with_reducible exact ih3 _ _ _ _)
      | (with_reducible exact ih4 _ _)
      | (with_reducible exact ih5 _)
      | (with_reducible exact ih6 _ _ _ _)
      | (with_reducible exact ih7 _)
      | (with_reducible exact ih8 _)
      | (with_reducible exact fastjson_skipWS.mono _ _)
      | (with_reducible exact fastjson_validateKey.mono _ _)
      | (with_reducible exact fastjson_validateNumber.mono _ _)
      | (with_reducible exact fastjson_validateString.mono _ _)
      | (with_reducible exact LeO.refl _)
      | (with_reducible exact LeO.none _)
      | (with_reducible refine LeO.ite ?_ ?_)
      | (with_reducible refine LeO.bind ?_ (fun _ => ?_))
      | exact ih0 _
      | exact ih1 _
      | exact ih2 _ _
      | exact ih3 _ _ _ _
      | exact ih4 _ _
      | exact ih5 _
      | exact ih6 _ _ _ _
      | exact ih7 _
      | exact ih8 _
      | exact fastjson_skipWS.mono _ _
      | exact fastjson_validateKey.mono _ _
      | exact fastjson_validateNumber.mono _ _
      | exact fastjson_validateString.mono _ _
      | exact LeO.none _
      | refine LeO.ite ?_ ?_
      | refine LeO.bind ?_ (fun _ => ?_)
    · intro y0 y1
      unfold fastjson_validateObject.j1
      repeat' first
      | (with_reducible exact ih0 _)
      | (with_reducible exact ih1 _)
      | (with_reducible exact ih2 _ _)
      | (with_reducible exact ih3 _ _ _ _)
      | (with_reducible exact ih4 _ _)
      | (with_reducible exact ih5 _)
      | (with_reducible exact ih6 _ _ _ _)
      | (with_reducible exact ih7 _)
      | (with_reducible exact ih8 _)
      | (with_reducible exact fastjson_skipWS.mono _ _)
      | (with_reducible exact fastjson_validateKey.mono _ _)
      | (with_reducible exact fastjson_validateNumber.mono _ _)
      | (with_reducible exact fastjson_validateString.mono _ _)
      | (with_reducible exact LeO.refl _)
      | (with_reducible exact LeO.none _)
      | (with_reducible refine LeO.ite ?_ ?_)
      | (with_reducible refine LeO.bind ?_ (fun _ => ?_))
      | exact ih0 _
      | exact ih1 _
      | exact ih2 _ _
      | exact ih3 _ _ _ _
      | exact ih4 _ _
      | exact ih5 _
      | exact ih6 _ _ _ _
      | exact ih7 _
      | exact ih8 _
      | exact fastjson_skipWS.mono _ _
      | exact fastjson_validateKey.mono _ _
      | exact fastjson_validateNumber.mono _ _
      | exact fastjson_validateString.mono _ _
      | exact LeO.none _
      | refine LeO.ite ?_ ?_
      | refine LeO.bind ?_ (fun _ => ?_)
    · intro y0 y1 y2 y3
      unfold fastjson_validateObject.l1
      repeat' first
      | (with_reducible exact ih0 _)
      | (with_reducible exact ih1 _)
      | (with_reducible exact ih2 _ _)
      | (with_reducible exact ih3 _ _ _ _)
      | (with_reducible exact ih4 _ _)
      | (with_reducible exact ih5 _)
      | (with_reducible exact ih6 _ _ _ _)
      | (with_reducible exact ih7 _)
      | (with_reducible exact ih8 _)
      | (with_reducible exact fastjson_skipWS.mono _ _)
      | (with_reducible exact fastjson_validateKey.mono _ _)
      | (with_reducible exact fastjson_validateNumber.mono _ _)
      | (with_reducible exact fastjson_validateString.mono _ _)
      | (with_reducible exact LeO.refl _)
      | (with_reducible exact LeO.none _)
      | (with_reducible refine LeO.ite ?_ ?_)
      | (with_reducible refine LeO.bind ?_ (fun _ => ?_))
      | exact ih0 _
      | exact ih1 _
      | exact ih2 _ _
      | exact ih3 _ _ _ _
      | exact ih4 _ _
      | exact ih5 _
      | exact ih6 _ _ _ _
      | exact ih7 _
      | exact ih8 _
      | exact fastjson_skipWS.mono _ _
      | exact fastjson_validateKey.mono _ _
      | exact fastjson_validateNumber.mono _ _
      | exact fastjson_validateString.mono _ _
      | exact LeO.none _
      | refine LeO.ite ?_ ?_
      | refine LeO.bind ?_ (fun _ => ?_)
    · intro y0 y1
      unfold fastjson_validateObject.j3
      repeat' first
      | (with_reducible exact ih0 _)
      | (with_reducible exact ih1 _)
      | (with_reducible exact ih2 _ _)
      | (with_reducible exact ih3 _ _ _ _)
      | (with_reducible exact ih4 _ _)
      | (with_reducible exact ih5 _)
      | (with_reducible exact ih6 _ _ _ _)
      | (with_reducible exact ih7 _)
      | (with_reducible exact ih8 _)
      | (with_reducible exact fastjson_skipWS.mono _ _)
      | (with_reducible exact fastjson_validateKey.mono _ _)
      | (with_reducible exact fastjson_validateNumber.mono _ _)
      | (with_reducible exact fastjson_validateString.mono _ _)
      | (with_reducible exact LeO.refl _)
      | (with_reducible exact LeO.none _)
      | (with_reducible refine LeO.ite ?_ ?_)
      | (with_reducible refine LeO.bind ?_ (fun _ => ?_))
      | exact ih0 _
      | exact ih1 _
      | exact ih2 _ _
      | exact ih3 _ _ _ _
      | exact ih4 _ _
      | exact ih5 _
      | exact ih6 _ _ _ _
      | exact ih7 _
      | exact ih8 _
      | exact fastjson_skipWS.mono _ _
      | exact fastjson_validateKey.mono _ _
      | exact fastjson_validateNumber.mono _ _
      | exact fastjson_validateString.mono _ _
      | exact LeO.none _
      | refine LeO.ite ?_ ?_
      | refine LeO.bind ?_ (fun _ => ?_)
    · intro y0
      unfold fastjson_validateValue.f
      repeat' first
      | (with_reducible exact ih0 _)
      | (with_reducible exact ih1 _)
      | (with_reducible exact ih2 _ _)
      | (with_reducible exact ih3 _ _ _ _)
      | (with_reducible exact ih4 _ _)
      | (with_reducible exact ih5 _)
      | (with_reducible exact ih6 _ _ _ _)
      | (with_reducible exact ih7 _)
      | (with_reducible exact ih8 _)
      | (with_reducible exact fastjson_skipWS.mono _ _)
      | (with_reducible exact fastjson_validateKey.mono _ _)
      | (with_reducible exact fastjson_validateNumber.mono _ _)
      | (with_reducible exact fastjson_validateString.mono _ _)
      | (with_reducible exact LeO.refl _)
      | (with_reducible exact LeO.none _)
      | (with_reducible refine LeO.ite ?_ ?_)
      | (with_reducible refine LeO.bind ?_ (fun _ => ?_))
      | exact ih0 _
      | exact ih1 _
      | exact ih2 _ _
      | exact ih3 _ _ _ _
      | exact ih4 _ _
      | exact ih5 _
      | exact ih6 _ _ _ _
      | exact ih7 _
      | exact ih8 _
      | exact fastjson_skipWS.mono _ _
      | exact fastjson_validateKey.mono _ _
      | exact fastjson_validateNumber.mono _ _
      | exact fastjson_validateString.mono _ _
      | exact LeO.none _
      | refine LeO.ite ?_ ?_
      | refine LeO.bind ?_ (fun _ => ?_)
    · intro y0 y1 y2 y3
      unfold fastjson_validateValue.l0
      repeat' first
      | (with_reducible exact ih0 _)
      | (with_reducible exact ih1 _)
      | (with_reducible exact ih2 _ _)
      | (with_reducible exact ih3 _ _ _ _)
      | (with_reducible exact ih4 _ _)
      | (with_reducible exact ih5 _)
      | (with_reducible exact ih6 _ _ _ _)
      | (with_reducible exact ih7 _)
      | (with_reducible exact ih8 _)
      | (with_reducible exact fastjson_skipWS.mono _ _)
      | (with_reducible exact fastjson_validateKey.mono _ _)
      | (with_reducible exact fastjson_validateNumber.mono _ _)
      | (with_reducible exact fastjson_validateString.mono _ _)
      | (with_reducible exact LeO.refl _)
      | (with_reducible exact LeO.none _)
      | (with_reducible refine LeO.ite ?_ ?_)
      | (with_reducible refine LeO.bind ?_ (fun _ => ?_))
      | exact ih0 _
      | exact ih1 _
      | exact ih2 _ _
      | exact ih3 _ _ _ _
      | exact ih4 _ _
      | exact ih5 _
      | exact ih6 _ _ _ _
      | exact ih7 _
      | exact ih8 _
      | exact fastjson_skipWS.mono _ _
      | exact fastjson_validateKey.mono _ _
      | exact fastjson_validateNumber.mono _ _
      | exact fastjson_validateString.mono _ _
      | exact LeO.none _
      | refine LeO.ite ?_ ?_
      | refine LeO.bind ?_ (fun _ => ?_)
    · intro y0
      unfold fastjson_validateArray.f
      repeat' first
      | (with_reducible exact ih0 _)
      | (with_reducible exact ih1 _)
      | (with_reducible exact ih2 _ _)
      | (with_reducible exact ih3 _ _ _ _)
      | (with_reducible exact ih4 _ _)
      | (with_reducible exact ih5 _)
      | (with_reducible exact ih6 _ _ _ _)
      | (with_reducible exact ih7 _)
      | (with_reducible exact ih8 _)
      | (with_reducible exact fastjson_skipWS.mono _ _)
      | (with_reducible exact fastjson_validateKey.mono _ _)
      | (with_reducible exact fastjson_validateNumber.mono _ _)
      | (with_reducible exact fastjson_validateString.mono _ _)
      | (with_reducible exact LeO.refl _)
      | (with_reducible exact LeO.none _)
      | (with_reducible refine LeO.ite ?_ ?_)
      | (with_reducible refine LeO.bind ?_ (fun _ => ?_))
      | exact ih0 _
      | exact ih1 _
      | exact ih2 _ _
      | exact ih3 _ _ _ _
      | exact ih4 _ _
      | exact ih5 _
      | exact ih6 _ _ _ _
      | exact ih7 _
      | exact ih8 _
      | exact fastjson_skipWS.mono _ _
      | exact fastjson_validateKey.mono _ _
      | exact fastjson_validateNumber.mono _ _
      | exact fastjson_validateString.mono _ _
      | exact LeO.none _
      | refine LeO.ite ?_ ?_
      | refine LeO.bind ?_ (fun _ => ?_)
    · intro y0
      unfold fastjson_validateArray.l0
      repeat' first
      | (with_reducible exact ih0 _)
      | (with_reducible exact ih1 _)
      | (with_reducible exact ih2 _ _)
      | (with_reducible exact ih3 _ _ _ _)
      | (with_reducible exact ih4 _ _)
      | (with_reducible exact ih5 _)
      | (with_reducible exact ih6 _ _ _ _)
      | (with_reducible exact ih7 _)
      | (with_reducible exact ih8 _)
      | (with_reducible exact fastjson_skipWS.mono _ _)
      | (with_reducible exact fastjson_validateKey.mono _ _)
      | (with_reducible exact fastjson_validateNumber.mono _ _)
      | (with_reducible exact fastjson_validateString.mono _ _)
      | (with_reducible exact LeO.refl _)
      | (with_reducible exact LeO.none _)
      | (with_reducible refine LeO.ite ?_ ?_)
      | (with_reducible refine LeO.bind ?_ (fun _ => ?_))
      | exact ih0 _
      | exact ih1 _
      | exact ih2 _ _
      | exact ih3 _ _ _ _
      | exact ih4 _ _
      | exact ih5 _
      | exact ih6 _ _ _ _
      | exact ih7 _
      | exact ih8 _
      | exact fastjson_skipWS.mono _ _
      | exact fastjson_validateKey.mono _ _
      | exact fastjson_validateNumber.mono _ _
      | exact fastjson_validateString.mono _ _
      | exact LeO.none _
      | refine LeO.ite ?_ ?_
      | refine LeO.bind ?_ (fun _ => ?_)
theorem fastjson_validateObject.mono : ∀ a0 k, LeO (fastjson_validateObject.f k a0) (fastjson_validateObject.f (k + 1) a0) := by
  intro a0 k
  obtain ⟨ih0, ih1, ih2, ih3, ih4, ih5, ih6, ih7, ih8⟩ := fastjson_validateObject.mono_g k
  exact ih0 a0
theorem fastjson_validateValue.mono : ∀ a0 k, LeO (fastjson_validateValue.f k a0) (fastjson_validateValue.f (k + 1) a0) := by
  intro a0 k
  obtain ⟨ih0, ih1, ih2, ih3, ih4, ih5, ih6, ih7, ih8⟩ := fastjson_validateObject.mono_g k
  exact ih5 a0
theorem fastjson_validateArray.mono : ∀ a0 k, LeO (fastjson_validateArray.f k a0) (fastjson_validateArray.f (k + 1) a0) := by
  intro a0 k
  obtain ⟨ih0, ih1, ih2, ih3, ih4, ih5, ih6, ih7, ih8⟩ := fastjson_validateObject.mono_g k
  exact ih7 a0
abbrev fastjson_validateObject.CallsP (k : Nat) : Prop := ∀ (a0 : ByteArray) (r1 : ByteArray) (r2 : Option Int) (w : World) (h : fastjson_validateObject.f k a0 = some (r1, r2)) (hG : Glob w),
    Calls Tryd.prog 34 #[.string a0] w fun e w' => ∃ evr2 : TypeId × Value, e = .returned (.tuple #[.string r1, errX r2 evr2]) ∧ Below w.heap.size w w'
abbrev fastjson_validateValue.CallsP (k : Nat) : Prop := ∀ (a0 : ByteArray) (r1 : ByteArray) (r2 : Option Int) (w : World) (h : fastjson_validateValue.f k a0 = some (r1, r2)) (hG : Glob w),
    Calls Tryd.prog 36 #[.string a0] w fun e w' => ∃ evr2 : TypeId × Value, e = .returned (.tuple #[.string r1, errX r2 evr2]) ∧ Below w.heap.size w w'
abbrev fastjson_validateArray.CallsP (k : Nat) : Prop := ∀ (a0 : ByteArray) (r1 : ByteArray) (r2 : Option Int) (w : World) (h : fastjson_validateArray.f k a0 = some (r1, r2)) (hG : Glob w),
    Calls Tryd.prog 55 #[.string a0] w fun e w' => ∃ evr2 : TypeId × Value, e = .returned (.tuple #[.string r1, errX r2 evr2]) ∧ Below w.heap.size w w'

end Go.Proofs.YtdhiihegfdmokaaDoor.PFnFjValidBytes
