-- Written by a program of this session (wip/prx) out of the print of the loaded functions.
import Derived.Test.YtnmbpleneddkhaaPFnGjQueryPartsx0
import Derived.Test.YtnmbpleneddkhaaHTFnGjQueryParts
namespace Go.Proofs.Ytnmbpleneddkhaa.PFnGjQueryParts
open Go.RowKit Go.Proofs.YtnmbpleneddkhaaW.PrintWords Go.Proofs.YtnmbpleneddkhaaW.PrintLast Go.Proofs.YtnmbpleneddkhaaW.PrintMore
attribute [local go_sem] max2_int min2_int max_two min_two max_three min_three max_four min_four   -- for this text's walks alone
set_option linter.unusedVariables false
set_option linter.unusedSimpArgs false

/-! ### gjson_parseQuery: function 45 -/
mutual
def gjson_parseQuery.j0 : Nat → ByteArray → ByteArray → ByteArray → Int → Bool → Bool → Option (ByteArray × ByteArray × ByteArray × ByteArray × Int × Bool × Bool)
  | 0, _, _, _, _, _, _ => none
  | k + 1, x0, x3, x4, x6, x7, x29 => if x29 = true then (some ((⟨#[]⟩ : ByteArray), (⟨#[]⟩ : ByteArray), (⟨#[]⟩ : ByteArray), (⟨#[]⟩ : ByteArray), x6, false, false)) else (gjson_parseQuery.l0 k x0 x3 x4 2 x7 0 1)
def gjson_parseQuery.j7 : Nat → ByteArray → ByteArray → ByteArray → Int → Bool → Int → Int → Option (ByteArray × ByteArray × ByteArray × ByteArray × Int × Bool × Bool)
  | 0, _, _, _, _, _, _, _ => none
  | k + 1, x0, x3, x4, x6, x7, x9, x10 => if x10 > 0 then (some ((⟨#[]⟩ : ByteArray), (⟨#[]⟩ : ByteArray), (⟨#[]⟩ : ByteArray), (⟨#[]⟩ : ByteArray), x6, false, false)) else (if x9 > 0 then (if 2 ≤ x9 then (if x9 ≤ (x0.size : Int) then ((gjson_trim.f k (x0.extract 2 (x9 : Int).toNat)).bind fun t101 => (if 0 ≤ x9 then (if x9 ≤ x6 then (if x6 ≤ (x0.size : Int) then ((gjson_trim.f k (x0.extract (x9 : Int).toNat (x6 : Int).toNat)).bind fun t102 => (if 0 ≤ (wrap64 (x6 + 1)) then (if (wrap64 (x6 + 1)) ≤ (x0.size : Int) then (if (t102.size : Int) = 1 then (if 0 ≤ 1 then (if 1 ≤ (t102.size : Int) then ((gjson_trim.f k (t102.extract 1 t102.size)).bind fun t103 => (some (t101, t102.extract 0 1, t103, x0.extract ((wrap64 (x6 + 1)) : Int).toNat x0.size, wrap64 (x6 + 1), x7, true))) else (none)) else (none)) else (if 0 < (t102.size : Int) then (if (bt t102 0) = 33 then (if 1 < (t102.size : Int) then (gjson_parseQuery.j8 k t101 t102 (x0.extract ((wrap64 (x6 + 1)) : Int).toNat x0.size) x6 x7 0 ((bt t102 1) == 61)) else (none)) else (gjson_parseQuery.j8 k t101 t102 (x0.extract ((wrap64 (x6 + 1)) : Int).toNat x0.size) x6 x7 0 false)) else (none))) else (none)) else (none))) else (none)) else (none)) else (none))) else (none)) else (none)) else (if 2 ≤ x6 then (if x6 ≤ (x0.size : Int) then ((gjson_trim.f k (x0.extract 2 (x6 : Int).toNat)).bind fun t114 => (if 0 ≤ (wrap64 (x6 + 1)) then (if (wrap64 (x6 + 1)) ≤ (x0.size : Int) then (some (t114, x3, x4, x0.extract ((wrap64 (x6 + 1)) : Int).toNat x0.size, wrap64 (x6 + 1), x7, true)) else (none)) else (none))) else (none)) else (none)))
def gjson_parseQuery.j8 : Nat → ByteArray → ByteArray → ByteArray → Int → Bool → Int → Bool → Option (ByteArray × ByteArray × ByteArray × ByteArray × Int × Bool × Bool)
  | 0, _, _, _, _, _, _, _ => none
  | k + 1, x2, x4, x5, x6, x7, x11, x129 => if x129 = true then (if 0 ≤ 2 then (if 2 ≤ (x4.size : Int) then ((gjson_trim.f k (x4.extract 2 x4.size)).bind fun t104 => (some (x2, x4.extract 0 2, t104, x5, wrap64 (x6 + 1), x7, true))) else (none)) else (none)) else (if 0 < (x4.size : Int) then (if (bt x4 0) = 33 then (if 1 < (x4.size : Int) then (gjson_parseQuery.j9 k x2 x4 x5 x6 x7 x11 ((bt x4 1) == 37)) else (none)) else (gjson_parseQuery.j9 k x2 x4 x5 x6 x7 x11 false)) else (none))
def gjson_parseQuery.j9 : Nat → ByteArray → ByteArray → ByteArray → Int → Bool → Int → Bool → Option (ByteArray × ByteArray × ByteArray × ByteArray × Int × Bool × Bool)
  | 0, _, _, _, _, _, _, _ => none
  | k + 1, x2, x4, x5, x6, x7, x11, x138 => if x138 = true then (if 0 ≤ 2 then (if 2 ≤ (x4.size : Int) then ((gjson_trim.f k (x4.extract 2 x4.size)).bind fun t105 => (some (x2, x4.extract 0 2, t105, x5, wrap64 (x6 + 1), x7, true))) else (none)) else (none)) else (if 0 < (x4.size : Int) then (if (bt x4 0) = 60 then (if 1 < (x4.size : Int) then (gjson_parseQuery.j10 k x2 x4 x5 x6 x7 x11 ((bt x4 1) == 61)) else (none)) else (gjson_parseQuery.j10 k x2 x4 x5 x6 x7 x11 false)) else (none))
def gjson_parseQuery.j10 : Nat → ByteArray → ByteArray → ByteArray → Int → Bool → Int → Bool → Option (ByteArray × ByteArray × ByteArray × ByteArray × Int × Bool × Bool)
  | 0, _, _, _, _, _, _, _ => none
  | k + 1, x2, x4, x5, x6, x7, x11, x147 => if x147 = true then (if 0 ≤ 2 then (if 2 ≤ (x4.size : Int) then ((gjson_trim.f k (x4.extract 2 x4.size)).bind fun t106 => (some (x2, x4.extract 0 2, t106, x5, wrap64 (x6 + 1), x7, true))) else (none)) else (none)) else (if 0 < (x4.size : Int) then (if (bt x4 0) = 62 then (if 1 < (x4.size : Int) then (gjson_parseQuery.j11 k x2 x4 x5 x6 x7 x11 ((bt x4 1) == 61)) else (none)) else (gjson_parseQuery.j11 k x2 x4 x5 x6 x7 x11 false)) else (none))
def gjson_parseQuery.j11 : Nat → ByteArray → ByteArray → ByteArray → Int → Bool → Int → Bool → Option (ByteArray × ByteArray × ByteArray × ByteArray × Int × Bool × Bool)
  | 0, _, _, _, _, _, _, _ => none
  | k + 1, x2, x4, x5, x6, x7, x11, x156 => if x156 = true then (if 0 ≤ 2 then (if 2 ≤ (x4.size : Int) then ((gjson_trim.f k (x4.extract 2 x4.size)).bind fun t107 => (some (x2, x4.extract 0 2, t107, x5, wrap64 (x6 + 1), x7, true))) else (none)) else (none)) else (if 0 < (x4.size : Int) then (if (bt x4 0) = 61 then (if 1 < (x4.size : Int) then (gjson_parseQuery.j12 k x2 x4 x5 x6 x7 x11 ((bt x4 1) == 61)) else (none)) else (gjson_parseQuery.j12 k x2 x4 x5 x6 x7 x11 false)) else (none))
def gjson_parseQuery.j12 : Nat → ByteArray → ByteArray → ByteArray → Int → Bool → Int → Bool → Option (ByteArray × ByteArray × ByteArray × ByteArray × Int × Bool × Bool)
  | 0, _, _, _, _, _, _, _ => none
  | k + 1, x2, x4, x5, x6, x7, x11, x165 => if x165 = true then (if 1 ≤ (x4.size : Int) then (if 0 ≤ 1 then (if 1 ≤ ((x4.extract 1 x4.size).size : Int) then ((gjson_trim.f k ((x4.extract 1 x4.size).extract 1 (x4.extract 1 x4.size).size)).bind fun t108 => (some (x2, (x4.extract 1 x4.size).extract 0 1, t108, x5, wrap64 (x6 + 1), x7, true))) else (none)) else (none)) else (none)) else (if 0 < (x4.size : Int) then (if (bt x4 0) = 60 then (if 0 ≤ 1 then (if 1 ≤ (x4.size : Int) then ((gjson_trim.f k (x4.extract 1 x4.size)).bind fun t109 => (some (x2, x4.extract 0 1, t109, x5, wrap64 (x6 + 1), x7, true))) else (none)) else (none)) else (if (bt x4 0) = 62 then (if 0 ≤ 1 then (if 1 ≤ (x4.size : Int) then ((gjson_trim.f k (x4.extract 1 x4.size)).bind fun t110 => (some (x2, x4.extract 0 1, t110, x5, wrap64 (x6 + 1), x7, true))) else (none)) else (none)) else (if (bt x4 0) = 61 then (if 0 ≤ 1 then (if 1 ≤ (x4.size : Int) then ((gjson_trim.f k (x4.extract 1 x4.size)).bind fun t111 => (some (x2, x4.extract 0 1, t111, x5, wrap64 (x6 + 1), x7, true))) else (none)) else (none)) else (if (bt x4 0) = 37 then (if 0 ≤ 1 then (if 1 ≤ (x4.size : Int) then ((gjson_trim.f k (x4.extract 1 x4.size)).bind fun t112 => (some (x2, x4.extract 0 1, t112, x5, wrap64 (x6 + 1), x7, true))) else (none)) else (none)) else (if 0 ≤ x11 then (if x11 ≤ (x4.size : Int) then ((gjson_trim.f k (x4.extract (x11 : Int).toNat x4.size)).bind fun t113 => (some (x2, x4.extract 0 (x11 : Int).toNat, t113, x5, wrap64 (x6 + 1), x7, true))) else (none)) else (none)))))) else (none))
def gjson_parseQuery.l0 : Nat → ByteArray → ByteArray → ByteArray → Int → Bool → Int → Int → Option (ByteArray × ByteArray × ByteArray × ByteArray × Int × Bool × Bool)
  | 0, _, _, _, _, _, _, _ => none
  | k + 1, x0, x3, x4, x6, x7, x9, x10 => if x6 < (x0.size : Int) then (if x10 = 1 then (gjson_parseQuery.j2 k x0 x3 x4 x6 x7 x9 x10 (x9 == 0)) else (gjson_parseQuery.j2 k x0 x3 x4 x6 x7 x9 x10 false)) else (gjson_parseQuery.j7 k x0 x3 x4 x6 x7 x9 x10)
def gjson_parseQuery.j2 : Nat → ByteArray → ByteArray → ByteArray → Int → Bool → Int → Int → Bool → Option (ByteArray × ByteArray × ByteArray × ByteArray × Int × Bool × Bool)
  | 0, _, _, _, _, _, _, _, _ => none
  | k + 1, x0, x3, x4, x6, x7, x9, x10, x42 => if x42 = true then (if 0 ≤ x6 then (if x6 < (x0.size : Int) then (if (bt x0 x6) = 33 then (gjson_parseQuery.l0 k x0 x3 x4 (wrap64 (x6 + 1)) x7 x6 x10) else (if (bt x0 x6) = 61 then (gjson_parseQuery.l0 k x0 x3 x4 (wrap64 (x6 + 1)) x7 x6 x10) else (if (bt x0 x6) = 60 then (gjson_parseQuery.l0 k x0 x3 x4 (wrap64 (x6 + 1)) x7 x6 x10) else (if (bt x0 x6) = 62 then (gjson_parseQuery.l0 k x0 x3 x4 (wrap64 (x6 + 1)) x7 x6 x10) else (if (bt x0 x6) = 37 then (gjson_parseQuery.l0 k x0 x3 x4 (wrap64 (x6 + 1)) x7 x6 x10) else (gjson_parseQuery.j3 k x0 x3 x4 x6 x7 x9 x10)))))) else (none)) else (none)) else (gjson_parseQuery.j3 k x0 x3 x4 x6 x7 x9 x10)
def gjson_parseQuery.j3 : Nat → ByteArray → ByteArray → ByteArray → Int → Bool → Int → Int → Option (ByteArray × ByteArray × ByteArray × ByteArray × Int × Bool × Bool)
  | 0, _, _, _, _, _, _, _ => none
  | k + 1, x0, x3, x4, x6, x7, x9, x10 => if 0 ≤ x6 then (if x6 < (x0.size : Int) then (if (bt x0 x6) = 92 then (gjson_parseQuery.l0 k x0 x3 x4 (wrap64 ((wrap64 (x6 + 1)) + 1)) x7 x9 x10) else (if (bt x0 x6) = 91 then (gjson_parseQuery.j4 k x0 x3 x4 x6 x7 x9 x10 true) else (gjson_parseQuery.j4 k x0 x3 x4 x6 x7 x9 x10 ((bt x0 x6) == 40)))) else (none)) else (none)
def gjson_parseQuery.j4 : Nat → ByteArray → ByteArray → ByteArray → Int → Bool → Int → Int → Bool → Option (ByteArray × ByteArray × ByteArray × ByteArray × Int × Bool × Bool)
  | 0, _, _, _, _, _, _, _, _ => none
  | k + 1, x0, x3, x4, x6, x7, x9, x10, x68 => if x68 = true then (gjson_parseQuery.l0 k x0 x3 x4 (wrap64 (x6 + 1)) x7 x9 (wrap64 (x10 + 1))) else (if 0 ≤ x6 then (if x6 < (x0.size : Int) then (if (bt x0 x6) = 93 then (gjson_parseQuery.j5 k x0 x3 x4 x6 x7 x9 x10 true) else (gjson_parseQuery.j5 k x0 x3 x4 x6 x7 x9 x10 ((bt x0 x6) == 41))) else (none)) else (none))
def gjson_parseQuery.j5 : Nat → ByteArray → ByteArray → ByteArray → Int → Bool → Int → Int → Bool → Option (ByteArray × ByteArray × ByteArray × ByteArray × Int × Bool × Bool)
  | 0, _, _, _, _, _, _, _, _ => none
  | k + 1, x0, x3, x4, x6, x7, x9, x10, x80 => if x80 = true then (if (wrap64 (x10 - 1)) = 0 then (gjson_parseQuery.j7 k x0 x3 x4 x6 x7 x9 (wrap64 (x10 - 1))) else (gjson_parseQuery.l0 k x0 x3 x4 (wrap64 (x6 + 1)) x7 x9 (wrap64 (x10 - 1)))) else (if 0 ≤ x6 then (if x6 < (x0.size : Int) then (if (bt x0 x6) = 34 then (gjson_parseQuery.l1 k x0 x3 x4 (wrap64 (x6 + 1)) x7 x9 x10) else (gjson_parseQuery.l0 k x0 x3 x4 (wrap64 (x6 + 1)) x7 x9 x10)) else (none)) else (none))
def gjson_parseQuery.l1 : Nat → ByteArray → ByteArray → ByteArray → Int → Bool → Int → Int → Option (ByteArray × ByteArray × ByteArray × ByteArray × Int × Bool × Bool)
  | 0, _, _, _, _, _, _, _ => none
  | k + 1, x0, x3, x4, x6, x7, x9, x10 => if x6 < (x0.size : Int) then (if 0 ≤ x6 then (if (bt x0 x6) = 92 then (gjson_parseQuery.l1 k x0 x3 x4 (wrap64 ((wrap64 (x6 + 1)) + 1)) true x9 x10) else (if (bt x0 x6) = 34 then (gjson_parseQuery.l0 k x0 x3 x4 (wrap64 (x6 + 1)) x7 x9 x10) else (gjson_parseQuery.l1 k x0 x3 x4 (wrap64 (x6 + 1)) x7 x9 x10))) else (none)) else (gjson_parseQuery.l0 k x0 x3 x4 (wrap64 (x6 + 1)) x7 x9 x10)
end
def gjson_parseQuery.f (k : Nat) (a0 : ByteArray) : Option (ByteArray × ByteArray × ByteArray × ByteArray × Int × Bool × Bool) := if (a0.size : Int) < 2 then (gjson_parseQuery.j0 k a0 (⟨#[]⟩ : ByteArray) (⟨#[]⟩ : ByteArray) 0 false true) else (if 0 < (a0.size : Int) then (if (bt a0 0) = 35 then (if 1 < (a0.size : Int) then (if (bt a0 1) = 40 then (gjson_parseQuery.j0 k a0 (⟨#[]⟩ : ByteArray) (⟨#[]⟩ : ByteArray) 0 false false) else (gjson_parseQuery.j0 k a0 (⟨#[]⟩ : ByteArray) (⟨#[]⟩ : ByteArray) 0 false ((bt a0 1) != 91))) else (none)) else (gjson_parseQuery.j0 k a0 (⟨#[]⟩ : ByteArray) (⟨#[]⟩ : ByteArray) 0 false true)) else (none))
theorem gjson_parseQuery.mono_l : ∀ k, (∀ y0 y1 y2 y3 y4 y5, LeO (gjson_parseQuery.j0 k y0 y1 y2 y3 y4 y5) (gjson_parseQuery.j0 (k + 1) y0 y1 y2 y3 y4 y5)) ∧ (∀ y0 y1 y2 y3 y4 y5 y6, LeO (gjson_parseQuery.j7 k y0 y1 y2 y3 y4 y5 y6) (gjson_parseQuery.j7 (k + 1) y0 y1 y2 y3 y4 y5 y6)) ∧ (∀ y0 y1 y2 y3 y4 y5 y6, LeO (gjson_parseQuery.j8 k y0 y1 y2 y3 y4 y5 y6) (gjson_parseQuery.j8 (k + 1) y0 y1 y2 y3 y4 y5 y6)) ∧ (∀ y0 y1 y2 y3 y4 y5 y6, LeO (gjson_parseQuery.j9 k y0 y1 y2 y3 y4 y5 y6) (gjson_parseQuery.j9 (k + 1) y0 y1 y2 y3 y4 y5 y6)) ∧ (∀ y0 y1 y2 y3 y4 y5 y6, LeO (gjson_parseQuery.j10 k y0 y1 y2 y3 y4 y5 y6) (gjson_parseQuery.j10 (k + 1) y0 y1 y2 y3 y4 y5 y6)) ∧ (∀ y0 y1 y2 y3 y4 y5 y6, LeO (gjson_parseQuery.j11 k y0 y1 y2 y3 y4 y5 y6) (gjson_parseQuery.j11 (k + 1) y0 y1 y2 y3 y4 y5 y6)) ∧ (∀ y0 y1 y2 y3 y4 y5 y6, LeO (gjson_parseQuery.j12 k y0 y1 y2 y3 y4 y5 y6) (gjson_parseQuery.j12 (k + 1) y0 y1 y2 y3 y4 y5 y6)) ∧ (∀ y0 y1 y2 y3 y4 y5 y6, LeO (gjson_parseQuery.l0 k y0 y1 y2 y3 y4 y5 y6) (gjson_parseQuery.l0 (k + 1) y0 y1 y2 y3 y4 y5 y6)) ∧ (∀ y0 y1 y2 y3 y4 y5 y6 y7, LeO (gjson_parseQuery.j2 k y0 y1 y2 y3 y4 y5 y6 y7) (gjson_parseQuery.j2 (k + 1) y0 y1 y2 y3 y4 y5 y6 y7)) ∧ (∀ y0 y1 y2 y3 y4 y5 y6, LeO (gjson_parseQuery.j3 k y0 y1 y2 y3 y4 y5 y6) (gjson_parseQuery.j3 (k + 1) y0 y1 y2 y3 y4 y5 y6)) ∧ (∀ y0 y1 y2 y3 y4 y5 y6 y7, LeO (gjson_parseQuery.j4 k y0 y1 y2 y3 y4 y5 y6 y7) (gjson_parseQuery.j4 (k + 1) y0 y1 y2 y3 y4 y5 y6 y7)) ∧ (∀ y0 y1 y2 y3 y4 y5 y6 y7, LeO (gjson_parseQuery.j5 k y0 y1 y2 y3 y4 y5 y6 y7) (gjson_parseQuery.j5 (k + 1) y0 y1 y2 y3 y4 y5 y6 y7)) ∧ (∀ y0 y1 y2 y3 y4 y5 y6, LeO (gjson_parseQuery.l1 k y0 y1 y2 y3 y4 y5 y6) (gjson_parseQuery.l1 (k + 1) y0 y1 y2 y3 y4 y5 y6))
  | 0 => ⟨fun _ _ _ _ _ _ r h => by simp [gjson_parseQuery.j0] at h, fun _ _ _ _ _ _ _ r h => by simp [gjson_parseQuery.j7] at h, fun _ _ _ _ _ _ _ r h => by simp [gjson_parseQuery.j8] at h, fun _ _ _ _ _ _ _ r h => by simp [gjson_parseQuery.j9] at h, fun _ _ _ _ _ _ _ r h => by simp [gjson_parseQuery.j10] at h, fun _ _ _ _ _ _ _ r h => by simp [gjson_parseQuery.j11] at h, fun _ _ _ _ _ _ _ r h => by simp [gjson_parseQuery.j12] at h, fun _ _ _ _ _ _ _ r h => by simp [gjson_parseQuery.l0] at h, fun _ _ _ _ _ _ _ _ r h => by simp [gjson_parseQuery.j2] at h, fun _ _ _ _ _ _ _ r h => by simp [gjson_parseQuery.j3] at h, fun _ _ _ _ _ _ _ _ r h => by simp [gjson_parseQuery.j4] at h, fun _ _ _ _ _ _ _ _ r h => by simp [gjson_parseQuery.j5] at h, fun _ _ _ _ _ _ _ r h => by simp [gjson_parseQuery.l1] at h⟩
  | k + 1 => by
    obtain ⟨ih0, ih1, ih2, ih3, ih4, ih5, ih6, ih7, ih8, ih9, ih10, ih11, ih12⟩ := gjson_parseQuery.mono_l k
    refine ⟨?_, ?_, ?_, ?_, ?_, ?_, ?_, ?_, ?_, ?_, ?_, ?_, ?_⟩
    · intro y0 y1 y2 y3 y4 y5
      unfold gjson_parseQuery.j0
      repeat' first
      | (with_reducible exact ih0 _ _ _ _ _ _)
      | (with_reducible exact ih1 _ _ _ _ _ _ _)
      | (with_reducible exact ih2 _ _ _ _ _ _ _)
      | (with_reducible exact ih3 _ _ _ _ _ _ _)
      | (with_reducible exact ih4 _ _ _ _ _ _ _)
      | (with_reducible exact ih5 _ _ _ _ _ _ _)
      | (with_reducible exact ih6 _ _ _ _ _ _ _)
      | (with_reducible exact ih7 _ _ _ _ _ _ _)
      | (with_reducible exact ih8 _ _ _ _ _ _ _ _)
      | (with_reducible exact ih9 _ _ _ _ _ _ _)
      | (with_reducible exact ih10 _ _ _ _ _ _ _ _)
      | (with_reducible exact ih11 _ _ _ _ _ _ _ _)
      | (with_reducible exact ih12 _ _ _ _ _ _ _)
      | (with_reducible exact gjson_trim.mono _ _)
      | (with_reducible exact LeO.refl _)
      | (with_reducible exact LeO.none _)
      | (with_reducible refine LeO.ite ?_ ?_)
      | (with_reducible refine LeO.bind ?_ (fun _ => ?_))
      | exact ih0 _ _ _ _ _ _
      | exact ih1 _ _ _ _ _ _ _
      | exact ih2 _ _ _ _ _ _ _
      | exact ih3 _ _ _ _ _ _ _
      | exact ih4 _ _ _ _ _ _ _
      | exact ih5 _ _ _ _ _ _ _
      | exact ih6 _ _ _ _ _ _ _
      | exact ih7 _ _ _ _ _ _ _
      | exact ih8 _ _ _ _ _ _ _ _
      | exact ih9 _ _ _ _ _ _ _
      | exact ih10 _ _ _ _ _ _ _ _
      | exact ih11 _ _ _ _ _ _ _ _
      | exact ih12 _ _ _ _ _ _ _
      | exact gjson_trim.mono _ _
      | exact LeO.none _
      | refine LeO.ite ?_ ?_
      | refine LeO.bind ?_ (fun _ => ?_)
    · intro y0 y1 y2 y3 y4 y5 y6
      unfold gjson_parseQuery.j7
      repeat' first
      | (with_reducible exact ih0 _ _ _ _ _ _)
      | (with_reducible exact ih1 _ _ _ _ _ _ _)
      | (with_reducible exact ih2 _ _ _ _ _ _ _)
      | (with_reducible exact ih3 _ _ _ _ _ _ _)
      | (with_reducible exact ih4 _ _ _ _ _ _ _)
      | (with_reducible exact ih5 _ _ _ _ _ _ _)
      | (with_reducible exact ih6 _ _ _ _ _ _ _)
      | (with_reducible exact ih7 _ _ _ _ _ _ _)
      | (with_reducible exact ih8 _ _ _ _ _ _ _ _)
      | (with_reducible exact ih9 _ _ _ _ _ _ _)
      | (with_reducible exact ih10 _ _ _ _ _ _ _ _)
      | (with_reducible exact ih11 _ _ _ _ _ _ _ _)
      | (with_reducible exact ih12 _ _ _ _ _ _ _)
      | (with_reducible exact gjson_trim.mono _ _)
      | (with_reducible exact LeO.refl _)
      | (with_reducible exact LeO.none _)
      | (with_reducible refine LeO.ite ?_ ?_)
      | (with_reducible refine LeO.bind ?_ (fun _ => ?_))
      | exact ih0 _ _ _ _ _ _
      | exact ih1 _ _ _ _ _ _ _
      | exact ih2 _ _ _ _ _ _ _
      | exact ih3 _ _ _ _ _ _ _
      | exact ih4 _ _ _ _ _ _ _
      | exact ih5 _ _ _ _ _ _ _
      | exact ih6 _ _ _ _ _ _ _
      | exact ih7 _ _ _ _ _ _ _
      | exact ih8 _ _ _ _ _ _ _ _
      | exact ih9 _ _ _ _ _ _ _
      | exact ih10 _ _ _ _ _ _ _ _
      | exact ih11 _ _ _ _ _ _ _ _
      | exact ih12 _ _ _ _ _ _ _
      | exact gjson_trim.mono _ _
      | exact LeO.none _
      | refine LeO.ite ?_ ?_
      | refine LeO.bind ?_ (fun _ => ?_)
    · intro y0 y1 y2 y3 y4 y5 y6
      unfold gjson_parseQuery.j8
      repeat' first
      | (with_reducible exact ih0 _ _ _ _ _ _)
      | (with_reducible exact ih1 _ _ _ _ _ _ _)
      | (with_reducible exact ih2 _ _ _ _ _ _ _)
      | (with_reducible exact ih3 _ _ _ _ _ _ _)
      | (with_reducible exact ih4 _ _ _ _ _ _ _)
      | (with_reducible exact ih5 _ _ _ _ _ _ _)
      | (with_reducible exact ih6 _ _ _ _ _ _ _)
      | (with_reducible exact ih7 _ _ _ _ _ _ _)
      | (with_reducible exact ih8 _ _ _ _ _ _ _ _)
      | (with_reducible exact ih9 _ _ _ _ _ _ _)
      | (with_reducible exact ih10 _ _ _ _ _ _ _ _)
      | (with_reducible exact ih11 _ _ _ _ _ _ _ _)
      | (with_reducible exact ih12 _ _ _ _ _ _ _)
      | (with_reducible exact gjson_trim.mono _ _)
      | (with_reducible exact LeO.refl _)
      | (with_reducible exact LeO.none _)
      | (with_reducible refine LeO.ite ?_ ?_)
      | (with_reducible refine LeO.bind ?_ (fun _ => ?_))
      | exact ih0 _ _ _ _ _ _
      | exact ih1 _ _ _ _ _ _ _
      | exact ih2 _ _ _ _ _ _ _
      | exact ih3 _ _ _ _ _ _ _
      | exact ih4 _ _ _ _ _ _ _
      | exact ih5 _ _ _ _ _ _ _
      | exact ih6 _ _ _ _ _ _ _
      | exact ih7 _ _ _ _ _ _ _
      | exact ih8 _ _ _ _ _ _ _ _
      | exact ih9 _ _ _ _ _ _ _
      | exact ih10 _ _ _ _ _ _ _ _
      | exact ih11 _ _ _ _ _ _ _ _
      | exact ih12 _ _ _ _ _ _ _
      | exact gjson_trim.mono _ _
      | exact LeO.none _
      | refine LeO.ite ?_ ?_
      | refine LeO.bind ?_ (fun _ => ?_)
    · intro y0 y1 y2 y3 y4 y5 y6
      unfold gjson_parseQuery.j9
      repeat' first
      | (with_reducible exact ih0 _ _ _ _ _ _)
      | (with_reducible exact ih1 _ _ _ _ _ _ _)
      | (with_reducible exact ih2 _ _ _ _ _ _ _)
      | (with_reducible exact ih3 _ _ _ _ _ _ _)
      | (with_reducible exact ih4 _ _ _ _ _ _ _)
      | (with_reducible exact ih5 _ _ _ _ _ _ _)
      | (with_reducible exact ih6 _ _ _ _ _ _ _)
      | (with_reducible exact ih7 _ _ _ _ _ _ _)
      | (with_reducible exact ih8 _ _ _ _ _ _ _ _)
      | (with_reducible exact ih9 _ _ _ _ _ _ _)
      | (with_reducible exact ih10 _ _ _ _ _ _ _ _)
      | (with_reducible exact ih11 _ _ _ _ _ _ _ _)
      | (with_reducible exact ih12 _ _ _ _ _ _ _)
      | (with_reducible exact gjson_trim.mono _ _)
      | (with_reducible exact LeO.refl _)
      | (with_reducible exact LeO.none _)
      | (with_reducible refine LeO.ite ?_ ?_)
      | (with_reducible refine LeO.bind ?_ (fun _ => ?_))
      | exact ih0 _ _ _ _ _ _
      | exact ih1 _ _ _ _ _ _ _
      | exact ih2 _ _ _ _ _ _ _
      | exact ih3 _ _ _ _ _ _ _
      | exact ih4 _ _ _ _ _ _ _
      | exact ih5 _ _ _ _ _ _ _
      | exact ih6 _ _ _ _ _ _ _
      | exact ih7 _ _ _ _ _ _ _
      | exact ih8 _ _ _ _ _ _ _ _
      | exact ih9 _ _ _ _ _ _ _
      | exact ih10 _ _ _ _ _ _ _ _
      | exact ih11 _ _ _ _ _ _ _ _
      | exact ih12 _ _ _ _ _ _ _
      | exact gjson_trim.mono _ _
      | exact LeO.none _
      | refine LeO.ite ?_ ?_
      | refine LeO.bind ?_ (fun _ => ?_)
    · intro y0 y1 y2 y3 y4 y5 y6
      unfold gjson_parseQuery.j10
      repeat' first
      | (with_reducible exact ih0 _ _ _ _ _ _)
      | (with_reducible exact ih1 _ _ _ _ _ _ _)
      | (with_reducible exact ih2 _ _ _ _ _ _ _)
      | (with_reducible exact ih3 _ _ _ _ _ _ _)
      | (with_reducible exact ih4 _ _ _ _ _ _ _)
      | (with_reducible exact ih5 _ _ _ _ _ _ _)
      | (with_reducible exact ih6 _ _ _ _ _ _ _)
      | (with_reducible exact ih7 _ _ _ _ _ _ _)
      | (with_reducible exact ih8 _ _ _ _ _ _ _ _)
      | (with_reducible exact ih9 _ _ _ _ _ _ _)
      | (with_reducible exact ih10 _ _ _ _ _ _ _ _)
      | (with_reducible exact ih11 _ _ _ _ _ _ _ _)
      | (with_reducible exact ih12 _ _ _ _ _ _ _)
      | (with_reducible exact gjson_trim.mono _ _)
      | (with_reducible exact LeO.refl _)
      | (with_reducible exact LeO.none _)
      | (with_reducible refine LeO.ite ?_ ?_)
      | (with_reducible refine LeO.bind ?_ (fun _ => ?_))
      | exact ih0 _ _ _ _ _ _
      | exact ih1 _ _ _ _ _ _ _
      | exact ih2 _ _ _ _ _ _ _
      | exact ih3 _ _ _ _ _ _ _
      | exact ih4 _ _ _ _ _ _ _
      | exact ih5 _ _ _ _ _ _ _
      | exact ih6 _ _ _ _ _ _ _
      | exact ih7 _ _ _ _ _ _ _
      | exact ih8 _ _ _ _ _ _ _ _
      | exact ih9 _ _ _ _ _ _ _
      | exact ih10 _ _ _ _ _ _ _ _
      | exact ih11 _ _ _ _ _ _ _ _
      | exact ih12 _ _ _ _ _ _ _
      | exact gjson_trim.mono _ _
      | exact LeO.none _
      | refine LeO.ite ?_ ?_
      | refine LeO.bind ?_ (fun _ => ?_)
    · intro y0 y1 y2 y3 y4 y5 y6
      unfold gjson_parseQuery.j11
      repeat' first
      | (with_reducible exact ih0 _ _ _ _ _ _)
      | (with_reducible exact ih1 _ _ _ _ _ _ _)
      | (with_reducible exact ih2 _ _ _ _ _ _ _)
      | (with_reducible exact ih3 _ _ _ _ _ _ _)
      | (with_reducible exact ih4 _ _ _ _ _ _ _)
      | (with_reducible exact ih5 _ _ _ _ _ _ _)
      | (with_reducible exact ih6 _ _ _ _ _ _ _)
      | (with_reducible exact ih7 _ _ _ _ _ _ _)
      | (with_reducible exact ih8 _ _ _ _ _ _ _ _)
      | (with_reducible exact ih9 _ _ _ _ _ _ _)
      | (with_reducible exact ih10 _ _ _ _ _ _ _ _)
      | (with_reducible exact ih11 _ _ _ _ _ _ _ _)
      | (with_reducible exact ih12 _ _ _ _ _ _ _)
      | (with_reducible exact gjson_trim.mono _ _)
      | (with_reducible exact LeO.refl _)
      | (with_reducible exact LeO.none _)
      | (with_reducible refine LeO.ite ?_ ?_)
      | (with_reducible refine LeO.bind ?_ (fun _ => ?_))
      | exact ih0 _ _ _ _ _ _
      | exact ih1 _ _ _ _ _ _ _
      | exact ih2 _ _ _ _ _ _ _
      | exact ih3 _ _ _ _ _ _ _
      | exact ih4 _ _ _ _ _ _ _
      | exact ih5 _ _ _ _ _ _ _
      | exact ih6 _ _ _ _ _ _ _
      | exact ih7 _ _ _ _ _ _ _
      | exact ih8 _ _ _ _ _ _ _ _
      | exact ih9 _ _ _ _ _ _ _
      | exact ih10 _ _ _ _ _ _ _ _
      | exact ih11 _ _ _ _ _ _ _ _
      | exact ih12 _ _ _ _ _ _ _
      | exact gjson_trim.mono _ _
      | exact LeO.none _
      | refine LeO.ite ?_ ?_
      | refine LeO.bind ?_ (fun _ => ?_)
    · intro y0 y1 y2 y3 y4 y5 y6
      unfold gjson_parseQuery.j12
      repeat' first
      | (with_reducible exact ih0 _ _ _ _ _ _)
      | (with_reducible exact ih1 _ _ _ _ _ _ _)
      | (with_reducible exact ih2 _ _ _ _ _ _ _)
      | (with_reducible exact ih3 _ _ _ _ _ _ _)
      | (with_reducible exact ih4 _ _ _ _ _ _ _)
      | (with_reducible exact ih5 _ _ _ _ _ _ _)
      | (with_reducible exact ih6 _ _ _ _ _ _ _)
      | (with_reducible exact ih7 _ _ _ _ _ _ _)
      | (with_reducible exact ih8 _ _ _ _ _ _ _ _)
      | (with_reducible exact ih9 _ _ _ _ _ _ _)
      | (with_reducible exact ih10 _ _ _ _ _ _ _ _)
      | (with_reducible exact ih11 _ _ _ _ _ _ _ _)
      | (with_reducible exact ih12 _ _ _ _ _ _ _)
      | (with_reducible exact gjson_trim.mono _ _)
      | (with_reducible exact LeO.refl _)
      | (with_reducible exact LeO.none _)
      | (with_reducible refine LeO.ite ?_ ?_)
      | (with_reducible refine LeO.bind ?_ (fun _ => ?_))
      | exact ih0 _ _ _ _ _ _
      | exact ih1 _ _ _ _ _ _ _
      | exact ih2 _ _ _ _ _ _ _
      | exact ih3 _ _ _ _ _ _ _
      | exact ih4 _ _ _ _ _ _ _
      | exact ih5 _ _ _ _ _ _ _
      | exact ih6 _ _ _ _ _ _ _
      | exact ih7 _ _ _ _ _ _ _
      | exact ih8 _ _ _ _ _ _ _ _
      | exact ih9 _ _ _ _ _ _ _
      | exact ih10 _ _ _ _ _ _ _ _
      | exact ih11 _ _ _ _ _ _ _ _
      | exact ih12 _ _ _ _ _ _ _
      | exact gjson_trim.mono _ _
      | exact LeO.none _
      | refine LeO.ite ?_ ?_
      | refine LeO.bind ?_ (fun _ => ?_)
    · intro y0 y1 y2 y3 y4 y5 y6
      unfold gjson_parseQuery.l0
      repeat' first
      | (with_reducible exact ih0 _ _ _ _ _ _)
      | (with_reducible exact ih1 _ _ _ _ _ _ _)
      | (with_reducible exact ih2 _ _ _ _ _ _ _)
      | (with_reducible exact ih3 _ _ _ _ _ _ _)
      | (with_reducible exact ih4 _ _ _ _ _ _ _)
      | (with_reducible exact ih5 _ _ _ _ _ _ _)
      | (with_reducible exact ih6 _ _ _ _ _ _ _)
      | (with_reducible exact ih7 _ _ _ _ _ _ _)
      | (with_reducible exact ih8 _ _ _ _ _ _ _ _)
      | (with_reducible exact ih9 _ _ _ _ _ _ _)
      | (with_reducible exact ih10 _ _ _ _ _ _ _ _)
      | (with_reducible exact ih11 _ _ _ _ _ _ _ _)
      | (with_reducible exact ih12 _ _ _ _ _ _ _)
      | (with_reducible exact gjson_trim.mono _ _)
      | (with_reducible exact LeO.refl _)
      | (with_reducible exact LeO.none _)
      | (with_reducible refine LeO.ite ?_ ?_)
      | (with_reducible refine LeO.bind ?_ (fun _ => ?_))
      | exact ih0 _ _ _ _ _ _
      | exact ih1 _ _ _ _ _ _ _
      | exact ih2 _ _ _ _ _ _ _
      | exact ih3 _ _ _ _ _ _ _
      | exact ih4 _ _ _ _ _ _ _
      | exact ih5 _ _ _ _ _ _ _
      | exact ih6 _ _ _ _ _ _ _
      | exact ih7 _ _ _ _ _ _ _
      | exact ih8 _ _ _ _ _ _ _ _
      | exact ih9 _ _ _ _ _ _ _
      | exact ih10 _ _ _ _ _ _ _ _
      | exact ih11 _ _ _ _ _ _ _ _
      | exact ih12 _ _ _ _ _ _ _
      | exact gjson_trim.mono _ _
      | exact LeO.none _
      | refine LeO.ite ?_ ?_
      | refine LeO.bind ?_ (fun _ => ?_)
    · intro y0 y1 y2 y3 y4 y5 y6 y7
      unfold gjson_parseQuery.j2
      repeat' first
      | (with_reducible exact ih0 _ _ _ _ _ _)
      | (with_reducible exact ih1 _ _ _ _ _ _ _)
      | (with_reducible exact ih2 _ _ _ _ _ _ _)
      | (with_reducible exact ih3 _ _ _ _ _ _ _)
      | (with_reducible exact ih4 _ _ _ _ _ _ _)
      | (with_reducible exact ih5 _ _ _ _ _ _ _)
      | (with_reducible exact ih6 _ _ _ _ _ _ _)
      | (with_reducible exact ih7 _ _ _ _ _ _ _)
      | (with_reducible exact ih8 _ _ _ _ _ _ _ _)
      | (with_reducible exact ih9 _ _ _ _ _ _ _)
      | (with_reducible exact ih10 _ _ _ _ _ _ _ _)
      | (with_reducible exact ih11 _ _ _ _ _ _ _ _)
      | (with_reducible exact ih12 _ _ _ _ _ _ _)
      | (with_reducible exact gjson_trim.mono _ _)
      | (with_reducible exact LeO.refl _)
      | (with_reducible exact LeO.none _)
      | (with_reducible refine LeO.ite ?_ ?_)
      | (with_reducible refine LeO.bind ?_ (fun _ => ?_))
      | exact ih0 _ _ _ _ _ _
      | exact ih1 _ _ _ _ _ _ _
      | exact ih2 _ _ _ _ _ _ _
      | exact ih3 _ _ _ _ _ _ _
      | exact ih4 _ _ _ _ _ _ _
      | exact ih5 _ _ _ _ _ _ _
      | exact ih6 _ _ _ _ _ _ _
      | exact ih7 _ _ _ _ _ _ _
      | exact ih8 _ _ _ _ _ _ _ _
      | exact ih9 _ _ _ _ _ _ _
      | exact ih10 _ _ _ _ _ _ _ _
      | exact ih11 _ _ _ _ _ _ _ _
      | exact ih12 _ _ _ _ _ _ _
      | exact gjson_trim.mono _ _
      | exact LeO.none _
      | refine LeO.ite ?_ ?_
      | refine LeO.bind ?_ (fun _ => ?_)
    · intro y0 y1 y2 y3 y4 y5 y6
      unfold gjson_parseQuery.j3
      repeat' first
      | (with_reducible exact ih0 _ _ _ _ _ _)
      | (with_reducible exact ih1 _ _ _ _ _ _ _)
      | (with_reducible exact ih2 _ _ _ _ _ _ _)
      | (with_reducible exact ih3 _ _ _ _ _ _ _)
      | (with_reducible exact ih4 _ _ _ _ _ _ _)
      | (with_reducible exact ih5 _ _ _ _ _ _ _)
      | (with_reducible exact ih6 _ _ _ _ _ _ _)
      | (with_reducible exact ih7 _ _ _ _ _ _ _)
      | (with_reducible exact ih8 _ _ _ _ _ _ _ _)
      | (with_reducible exact ih9 _ _ _ _ _ _ _)
      | (with_reducible exact ih10 _ _ _ _ _ _ _ _)
      | (with_reducible exact ih11 _ _ _ _ _ _ _ _)
      | (with_reducible exact ih12 _ _ _ _ _ _ _)
      | (with_reducible exact gjson_trim.mono _ _)
      | (with_reducible exact LeO.refl _)
      | (with_reducible exact LeO.none _)
      | (with_reducible refine LeO.ite ?_ ?_)
      | (with_reducible refine LeO.bind ?_ (fun _ => ?_))
      | exact ih0 _ _ _ _ _ _
      | exact ih1 _ _ _ _ _ _ _
      | exact ih2 _ _ _ _ _ _ _
      | exact ih3 _ _ _ _ _ _ _
      | exact ih4 _ _ _ _ _ _ _
      | exact ih5 _ _ _ _ _ _ _
      | exact ih6 _ _ _ _ _ _ _
      | exact ih7 _ _ _ _ _ _ _
      | exact ih8 _ _ _ _ _ _ _ _
      | exact ih9 _ _ _ _ _ _ _
      | exact ih10 _ _ _ _ _ _ _ _
      | exact ih11 _ _ _ _ _ _ _ _
      | exact ih12 _ _ _ _ _ _ _
      | exact gjson_trim.mono _ _
      | exact LeO.none _
      | refine LeO.ite ?_ ?_
      | refine LeO.bind ?_ (fun _ => ?_)
    · intro y0 y1 y2 y3 y4 y5 y6 y7
      unfold gjson_parseQuery.j4
      repeat' first
      | (with_reducible exact ih0 _ _ _ _ _ _)
      | (with_reducible exact ih1 _ _ _ _ _ _ _)
      | (with_reducible exact ih2 _ _ _ _ _ _ _)
      | (with_reducible exact ih3 _ _ _ _ _ _ _)
      | (with_reducible exact ih4 _ _ _ _ _ _ _)
      | (with_reducible exact ih5 _ _ _ _ _ _ _)
      | (with_reducible exact ih6 _ _ _ _ _ _ _)
      | (with_reducible exact ih7 _ _ _ _ _ _ _)
      | (with_reducible exact ih8 _ _ _ _ _ _ _ _)
      | (with_reducible exact ih9 _ _ _ _ _ _ _)
      | (with_reducible exact ih10 _ _ _ _ _ _ _ _)
      | (with_reducible exact ih11 _ _ _ _ _ _ _ _)
      | (with_reducible exact ih12 _ _ _ _ _ _ _)
      | (with_reducible exact gjson_trim.mono _ _)
      | (with_reducible exact LeO.refl _)
      | (with_reducible exact LeO.none _)
      | (with_reducible refine LeO.ite ?_ ?_)
      | (with_reducible refine LeO.bind ?_ (fun _ => ?_))
      | exact ih0 _ _ _ _ _ _
      | exact ih1 _ _ _ _ _ _ _
      | exact ih2 _ _ _ _ _ _ _
      | exact ih3 _ _ _ _ _ _ _
      | exact ih4 _ _ _ _ _ _ _
      | exact ih5 _ _ _ _ _ _ _
      | exact ih6 _ _ _ _ _ _ _
      | exact ih7 _ _ _ _ _ _ _
      | exact ih8 _ _ _ _ _ _ _ _
      | exact ih9 _ _ _ _ _ _ _
      | exact ih10 _ _ _ _ _ _ _ _
      | exact ih11 _ _ _ _ _ _ _ _
      | exact ih12 _ _ _ _ _ _ _
      | exact gjson_trim.mono _ _
      | exact LeO.none _
      | refine LeO.ite ?_ ?_
      | refine LeO.bind ?_ (fun _ => ?_)
    · intro y0 y1 y2 y3 y4 y5 y6 y7
      unfold gjson_parseQuery.j5
      repeat' first
      | (with_reducible exact ih0 _ _ _ _ _ _)
      | (with_reducible exact ih1 _ _ _ _ _ _ _)
      | (with_reducible exact ih2 _ _ _ _ _ _ _)
      | (with_reducible exact ih3 _ _ _ _ _ _ _)
      | (with_reducible exact ih4 _ _ _ _ _ _ _)
      | (with_reducible exact ih5 _ _ _ _ _ _ _)
      | (with_reducible exact ih6 _ _ _ _ _ _ _)
      | (with_reducible exact ih7 _ _ _ _ _ _ _)
      | (with_reducible exact ih8 _ _ _ _ _ _ _ _)
      | (with_reducible exact ih9 _ _ _ _ _ _ _)
      | (with_reducible exact ih10 _ _ _ _ _ _ _ _)
      | (with_reducible exact ih11 _ _ _ _ _ _ _ _)
      | (with_reducible exact ih12 _ _ _ _ _ _ _)
      | (with_reducible exact gjson_trim.mono _ _)
      | (with_reducible exact LeO.refl _)
      | (with_reducible exact LeO.none _)
      | (with_reducible refine LeO.ite ?_ ?_)
      | (with_reducible refine LeO.bind ?_ (fun _ => ?_))
      | exact ih0 _ _ _ _ _ _
      | exact ih1 _ _ _ _ _ _ _
      | exact ih2 _ _ _ _ _ _ _
      | exact ih3 _ _ _ _ _ _ _
      | exact ih4 _ _ _ _ _ _ _
      | exact ih5 _ _ _ _ _ _ _
      | exact ih6 _ _ _ _ _ _ _
      | exact ih7 _ _ _ _ _ _ _
      | exact ih8 _ _ _ _ _ _ _ _
      | exact ih9 _ _ _ _ _ _ _
      | exact ih10 _ _ _ _ _ _ _ _
      | exact ih11 _ _ _ _ _ _ _ _
      | exact ih12 _ _ _ _ _ _ _
      | exact gjson_trim.mono _ _
      | exact LeO.none _
      | refine LeO.ite ?_ ?_
      | refine LeO.bind ?_ (fun _ => ?_)
    · intro y0 y1 y2 y3 y4 y5 y6
      unfold gjson_parseQuery.l1
      repeat' first
      | (with_reducible exact ih0 _ _ _ _ _ _)
      | (with_reducible exact ih1 _ _ _ _ _ _ _)
      | (with_reducible exact ih2 _ _ _ _ _ _ _)
      | (with_reducible exact ih3 _ _ _ _ _ _ _)
      | (with_reducible exact ih4 _ _ _ _ _ _ _)
      | (with_reducible exact ih5 _ _ _ _ _ _ _)
      | (with_reducible exact ih6 _ _ _ _ _ _ _)
      | (with_reducible exact ih7 _ _ _ _ _ _ _)
      | (with_reducible exact ih8 _ _ _ _ _ _ _ _)
      | (with_reducible exact ih9 _ _ _ _ _ _ _)
      | (with_reducible exact ih10 _ _ _ _ _ _ _ _)
      | (with_reducible exact ih11 _ _ _ _ _ _ _ _)
      | (with_reducible exact ih12 _ _ _ _ _ _ _)
      | (with_reducible exact gjson_trim.mono _ _)
      | (with_reducible exact LeO.refl _)
      | (with_reducible exact LeO.none _)
      | (with_reducible refine LeO.ite ?_ ?_)
      | (with_reducible refine LeO.bind ?_ (fun _ => ?_))
      | exact ih0 _ _ _ _ _ _
      | exact ih1 _ _ _ _ _ _ _
      | exact ih2 _ _ _ _ _ _ _
      | exact ih3 _ _ _ _ _ _ _
      | exact ih4 _ _ _ _ _ _ _
      | exact ih5 _ _ _ _ _ _ _
      | exact ih6 _ _ _ _ _ _ _
      | exact ih7 _ _ _ _ _ _ _
      | exact ih8 _ _ _ _ _ _ _ _
      | exact ih9 _ _ _ _ _ _ _
      | exact ih10 _ _ _ _ _ _ _ _
      | exact ih11 _ _ _ _ _ _ _ _
      | exact ih12 _ _ _ _ _ _ _
      | exact gjson_trim.mono _ _
      | exact LeO.none _
      | refine LeO.ite ?_ ?_
      | refine LeO.bind ?_ (fun _ => ?_)
theorem gjson_parseQuery.mono : ∀ a0 k, LeO (gjson_parseQuery.f k a0) (gjson_parseQuery.f (k + 1) a0) := by
  intro a0 k
  obtain ⟨ih0, ih1, ih2, ih3, ih4, ih5, ih6, ih7, ih8, ih9, ih10, ih11, ih12⟩ := gjson_parseQuery.mono_l k
  unfold gjson_parseQuery.f
  repeat' first
      | (with_reducible exact ih0 _ _ _ _ _ _)
      | (with_reducible exact ih1 _ _ _ _ _ _ _)
      | (with_reducible exact ih2 _ _ _ _ _ _ _)
      | (with_reducible exact ih3 _ _ _ _ _ _ _)
      | (with_reducible exact ih4 _ _ _ _ _ _ _)
      | (with_reducible exact ih5 _ _ _ _ _ _ _)
      | (with_reducible exact ih6 _ _ _ _ _ _ _)
      | (with_reducible exact ih7 _ _ _ _ _ _ _)
      | (with_reducible exact ih8 _ _ _ _ _ _ _ _)
      | (with_reducible exact ih9 _ _ _ _ _ _ _)
      | (with_reducible exact ih10 _ _ _ _ _ _ _ _)
      | (with_reducible exact ih11 _ _ _ _ _ _ _ _)
      | (with_reducible exact ih12 _ _ _ _ _ _ _)
      | (with_reducible exact gjson_trim.mono _ _)
      | (with_reducible exact LeO.refl _)
      | (with_reducible exact LeO.none _)
      | (with_reducible refine LeO.ite ?_ ?_)
      | (with_reducible refine LeO.bind ?_ (fun _ => ?_))
      | exact ih0 _ _ _ _ _ _
      | exact ih1 _ _ _ _ _ _ _
      | exact ih2 _ _ _ _ _ _ _
      | exact ih3 _ _ _ _ _ _ _
      | exact ih4 _ _ _ _ _ _ _
      | exact ih5 _ _ _ _ _ _ _
      | exact ih6 _ _ _ _ _ _ _
      | exact ih7 _ _ _ _ _ _ _
      | exact ih8 _ _ _ _ _ _ _ _
      | exact ih9 _ _ _ _ _ _ _
      | exact ih10 _ _ _ _ _ _ _ _
      | exact ih11 _ _ _ _ _ _ _ _
      | exact ih12 _ _ _ _ _ _ _
      | exact gjson_trim.mono _ _
      | exact LeO.none _
      | refine LeO.ite ?_ ?_
      | refine LeO.bind ?_ (fun _ => ?_)
set_option maxHeartbeats 8000000 in
set_option maxRecDepth 100000 in
theorem gjson_parseQuery.calls (k : Nat) (a0 : ByteArray) (r1 : ByteArray) (r2 : ByteArray) (r3 : ByteArray) (r4 : ByteArray) (r5 : Int) (r6 : Bool) (r7 : Bool) (w : World) (h : gjson_parseQuery.f k a0 = some (r1, r2, r3, r4, r5, r6, r7)) :
    Calls Try.prog 45 #[.string a0] w fun e w' => e = .returned (.tuple #[.string r1, .string r2, .string r3, .string r4, .int .i64 r5, .bool r6, .bool r7]) ∧ Drawn0 w w' := by
 have H : (if (a0.size : Int) < 2 then (gjson_parseQuery.j0 k a0 (⟨#[]⟩ : ByteArray) (⟨#[]⟩ : ByteArray) 0 false true) else (if 0 < (a0.size : Int) then (if (bt a0 0) = 35 then (if 1 < (a0.size : Int) then (if (bt a0 1) = 40 then (gjson_parseQuery.j0 k a0 (⟨#[]⟩ : ByteArray) (⟨#[]⟩ : ByteArray) 0 false false) else (gjson_parseQuery.j0 k a0 (⟨#[]⟩ : ByteArray) (⟨#[]⟩ : ByteArray) 0 false ((bt a0 1) != 91))) else (none)) else (gjson_parseQuery.j0 k a0 (⟨#[]⟩ : ByteArray) (⟨#[]⟩ : ByteArray) 0 false true)) else (none))) = some (r1, r2, r3, r4, r5, r6, r7) := h
 clear h
 have HC2 := Aside0.mk H
 clear H
 go_enter Try.func45, Try.ntmps45
 go_upto_region 1 with (fail)
 go_cut [29] (fun v29 wc => ∃ (kq : Nat) (x29_1 : Bool), v29 = .bool x29_1 ∧ Aside0 (gjson_parseQuery.j0 kq a0 (⟨#[]⟩ : ByteArray) (⟨#[]⟩ : ByteArray) 0 false x29_1 = some (r1, r2, r3, r4, r5, r6, r7)) ∧ Aside0 (kq ≤ k) ∧ Drawn0 w wc)
 case first => as_aux_lemma =>
  have H := HC2.out
  clear HC2
  by_cases c3 : (a0.size : Int) < 2
  ·
   rw [if_pos c3] at H
   have c3b0 : decide ((a0.size : Int) < 2) = true := decide_eq_true c3
   have c3b1 : decide (a0.size < 2) = true := decide_eq_true (by omega)
   clear c3
   (first | rw [c3b0] | (simp only [i64_w, i32_w]; rw [c3b0]) | skip)
   as_aux_lemma =>
    have H' := Aside0.mk H
    clear H
    go_wp2
    go_meet
    case rel => exact ⟨_, (true), (by first | rfl | (simp; done) | (simp [nil_ne_, nil_eq_]; done) | (simp [*]; done)), H', ⟨by first | omega | exact Nat.le_refl _⟩, by repeat (first | exact Drawn0.refl _ | apply Drawn0.step)⟩
  ·
   rw [if_neg c3] at H
   have c3b0 : decide ((a0.size : Int) < 2) = false := decide_eq_false c3
   have c3b1 : decide (a0.size < 2) = false := decide_eq_false (by omega)
   clear c3
   (first | rw [c3b0] | (simp only [i64_w, i32_w]; rw [c3b0]) | skip)
   by_cases c4 : 0 < (a0.size : Int)
   ·
    rw [if_pos c4] at H
    have c4b0 : decide (0 < (a0.size : Int)) = true := decide_eq_true c4
    have c4b1 : decide (0 < a0.size) = true := decide_eq_true (by omega)
    clear c4
    by_cases c6 : (bt a0 0) = 35
    ·
     rw [if_pos c6] at H
     have c6b0 : ((bt a0 0) == 35) = true := beq_iff_eq.mpr c6
     have c6b1 : ((bt a0 0) != 35) = false := bne_eq_false_iff_eq.mpr c6
     clear c6
     by_cases c7 : 1 < (a0.size : Int)
     ·
      rw [if_pos c7] at H
      have c7b0 : decide (1 < (a0.size : Int)) = true := decide_eq_true c7
      have c7b1 : decide (1 < a0.size) = true := decide_eq_true (by omega)
      clear c7
      by_cases c9 : (bt a0 1) = 40
      ·
       rw [if_pos c9] at H
       have c9b0 : ((bt a0 1) == 40) = true := beq_iff_eq.mpr c9
       have c9b1 : ((bt a0 1) != 40) = false := bne_eq_false_iff_eq.mpr c9
       clear c9
       as_aux_lemma =>
        have H' := Aside0.mk H
        clear H
        have p5 : 0 ≤ (0 : Int) := (by omega)
        have q5 : 0 < a0.size := (by have : (0 : Int) < (a0.size : Int) := of_decide_eq_true (by first | (with_reducible assumption) | assumption); omega)
        have hx5 := bt_lit a0 0 0 rfl
        clear p5
        have qi5 : (0 < (a0.size : Int)) = True := eq_true (of_decide_eq_true (by first | (with_reducible assumption) | assumption))
        replace q5 := eq_true q5
        have p8 : 0 ≤ (1 : Int) := (by omega)
        have q8 : 1 < a0.size := (by have : (1 : Int) < (a0.size : Int) := of_decide_eq_true (by first | (with_reducible assumption) | assumption); omega)
        have hx8 := bt_lit a0 1 1 rfl
        clear p8
        have qi8 : (1 < (a0.size : Int)) = True := eq_true (of_decide_eq_true (by first | (with_reducible assumption) | assumption))
        replace q8 := eq_true q8
        go_wp2
        go_meet
        case rel => exact ⟨_, (false), (by first | rfl | (simp; done) | (simp [nil_ne_, nil_eq_]; done) | (simp [*]; done)), H', ⟨by first | omega | exact Nat.le_refl _⟩, by repeat (first | exact Drawn0.refl _ | apply Drawn0.step)⟩
      ·
       rw [if_neg c9] at H
       have c9b0 : ((bt a0 1) == 40) = false := beq_eq_false_iff_ne.mpr c9
       have c9b1 : ((bt a0 1) != 40) = true := bne_iff_ne.mpr c9
       as_aux_lemma =>
        have H' := Aside0.mk H
        clear H
        have p5 : 0 ≤ (0 : Int) := (by omega)
        have q5 : 0 < a0.size := (by have : (0 : Int) < (a0.size : Int) := of_decide_eq_true (by first | (with_reducible assumption) | assumption); omega)
        have hx5 := bt_lit a0 0 0 rfl
        clear p5
        have qi5 : (0 < (a0.size : Int)) = True := eq_true (of_decide_eq_true (by first | (with_reducible assumption) | assumption))
        replace q5 := eq_true q5
        have p8 : 0 ≤ (1 : Int) := (by omega)
        have q8 : 1 < a0.size := (by have : (1 : Int) < (a0.size : Int) := of_decide_eq_true (by first | (with_reducible assumption) | assumption); omega)
        have hx8 := bt_lit a0 1 1 rfl
        clear p8
        have qi8 : (1 < (a0.size : Int)) = True := eq_true (of_decide_eq_true (by first | (with_reducible assumption) | assumption))
        replace q8 := eq_true q8
        have p10 : 0 ≤ (1 : Int) := (by omega)
        have q10 : 1 < a0.size := (by have : (1 : Int) < (a0.size : Int) := of_decide_eq_true (by first | (with_reducible assumption) | assumption); omega)
        have hx10 := bt_lit a0 1 1 rfl
        clear p10
        have qi10 : (1 < (a0.size : Int)) = True := eq_true (of_decide_eq_true (by first | (with_reducible assumption) | assumption))
        replace q10 := eq_true q10
        go_wp2
        go_meet
        case rel => exact ⟨_, (((bt a0 1) != 91)), (by first | rfl | (simp; done) | (simp [nil_ne_, nil_eq_]; done) | (simp [*]; done)), H', ⟨by first | omega | exact Nat.le_refl _⟩, by repeat (first | exact Drawn0.refl _ | apply Drawn0.step)⟩
     ·
      rw [if_neg c7] at H
      exact absurd H (by simp)
    ·
     rw [if_neg c6] at H
     have c6b0 : ((bt a0 0) == 35) = false := beq_eq_false_iff_ne.mpr c6
     have c6b1 : ((bt a0 0) != 35) = true := bne_iff_ne.mpr c6
     as_aux_lemma =>
      have H' := Aside0.mk H
      clear H
      have p5 : 0 ≤ (0 : Int) := (by omega)
      have q5 : 0 < a0.size := (by have : (0 : Int) < (a0.size : Int) := of_decide_eq_true (by first | (with_reducible assumption) | assumption); omega)
      have hx5 := bt_lit a0 0 0 rfl
      clear p5
      have qi5 : (0 < (a0.size : Int)) = True := eq_true (of_decide_eq_true (by first | (with_reducible assumption) | assumption))
      replace q5 := eq_true q5
      go_wp2
      go_meet
      case rel => exact ⟨_, (true), (by first | rfl | (simp; done) | (simp [nil_ne_, nil_eq_]; done) | (simp [*]; done)), H', ⟨by first | omega | exact Nat.le_refl _⟩, by repeat (first | exact Drawn0.refl _ | apply Drawn0.step)⟩
   ·
    rw [if_neg c4] at H
    exact absurd H (by simp)
 case rest => as_aux_lemma =>
  clear HC2
  try clear p1
  try clear q1
  try clear hx1
  try clear qi1
  try clear p2
  try clear c3
  try clear c3b0
  try clear c3b1
  try clear c4
  try clear c4b0
  try clear c4b1
  try clear p5
  try clear q5
  try clear hx5
  try clear qi5
  try clear c6
  try clear c6b0
  try clear c6b1
  try clear c7
  try clear c7b0
  try clear c7b1
  try clear p8
  try clear q8
  try clear hx8
  try clear qi8
  try clear c9
  try clear c9b0
  try clear c9b1
  try clear p10
  try clear q10
  try clear hx10
  try clear qi10
  try clear p10
  try clear p5
  try clear p8
  try clear q10
  try clear q5
  try clear q8
  obtain ⟨kq, x29_1, rfl, HA, HJ1, ⟨mc1, rfl⟩⟩ := hcut
  cases kq with
  | zero => exact absurd HA.out (by simp [gjson_parseQuery.j0])
  | succ kj1 =>
   have H := HA.out
   clear HA
   simp only [gjson_parseQuery.j0] at H
   by_cases c11 : x29_1 = true
   ·
    subst c11
    have H1 : (some ((⟨#[]⟩ : ByteArray), (⟨#[]⟩ : ByteArray), (⟨#[]⟩ : ByteArray), (⟨#[]⟩ : ByteArray), 0, false, false)) = some (r1, r2, r3, r4, r5, r6, r7) := by rw [if_pos rfl] at H; exact H
    clear H
    have H := H1
    clear H1
    as_aux_lemma =>
     simp only [Option.some.injEq, Prod.mk.injEq] at H
     obtain ⟨rfl, rfl, rfl, rfl, rfl, rfl, rfl⟩ := H
     go_wp2
     refine bodyPost_ret (results_list (rs := [.tmp 2, .tmp 3, .tmp 4, .tmp 5, .tmp 6, .tmp 7, .tmp 8]) rfl (by simp) (.tmp (.tmp (.tmp (.tmp (.tmp (.tmp (.tmp .nil)))))))) rfl ?_
     exact ⟨by first | rfl | (simp; done) | (simp [nil_ne_, nil_eq_]; done) | (simp [*]; done), by repeat (first | exact Drawn0.refl _ | apply Drawn0.step)⟩
   ·
    replace c11 := Bool.eq_false_iff.mpr c11
    subst c11
    have H1 : (gjson_parseQuery.l0 kj1 a0 (⟨#[]⟩ : ByteArray) (⟨#[]⟩ : ByteArray) 2 false 0 1) = some (r1, r2, r3, r4, r5, r6, r7) := by rw [if_neg (show ¬ (false = true) by decide)] at H; exact H
    clear H
    have H := H1
    clear H1
    have HC12 := Aside0.mk H
    clear H
    go_upto_block 0 with (fail)
    go_cut [6, 7, 9, 10] (fun v6 v7 v9 v10 wc => ∃ (kq : Nat) (x6_11 : Int) (x7_11 : Bool) (x9_11 : Int) (x10_11 : Int), v6 = .int .i64 x6_11 ∧ v7 = .bool x7_11 ∧ v9 = .int .i64 x9_11 ∧ v10 = .int .i64 x10_11 ∧ Aside0 (gjson_parseQuery.j7 kq a0 (⟨#[]⟩ : ByteArray) (⟨#[]⟩ : ByteArray) x6_11 x7_11 x9_11 x10_11 = some (r1, r2, r3, r4, r5, r6, r7)) ∧ Aside0 (kq ≤ kj1) ∧ Drawn0 w wc)
    case first => as_aux_lemma =>
     have H := HC12.out
     clear HC12
     have H' := Aside0.mk H
     clear H
     go_wp2
     try simp only [Act.put, List.setIfInBounds_toArray, List.set_cons_succ, List.set_cons_zero]
     go_loopg [6, 7, 9, 10] kj1 (fun kq v6 v7 v9 v10 w' => ∃ (x6_2 : Int) (x7_2 : Bool) (x9_2 : Int) (x10_2 : Int), v6 = .int .i64 x6_2 ∧ v7 = .bool x7_2 ∧ v9 = .int .i64 x9_2 ∧ v10 = .int .i64 x10_2 ∧ Aside0 (gjson_parseQuery.l0 kq a0 (⟨#[]⟩ : ByteArray) (⟨#[]⟩ : ByteArray) x6_2 x7_2 x9_2 x10_2 = some (r1, r2, r3, r4, r5, r6, r7)) ∧ Aside0 (kq ≤ kj1) ∧ Drawn0 w w')
     case atStart => exact ⟨(2), (false), (0), (1), (by first | rfl | (simp; done) | (simp [nil_ne_, nil_eq_]; done) | (simp [*]; done)), (by first | rfl | (simp; done) | (simp [nil_ne_, nil_eq_]; done) | (simp [*]; done)), (by first | rfl | (simp; done) | (simp [nil_ne_, nil_eq_]; done) | (simp [*]; done)), (by first | rfl | (simp; done) | (simp [nil_ne_, nil_eq_]; done) | (simp [*]; done)), H', ⟨Nat.le_refl _⟩, by repeat (first | exact Drawn0.refl _ | apply Drawn0.step)⟩
     case round =>
      clear H'
      try clear c1
      try clear p1
      try clear q1
      try clear hx1
      try clear qi1
      try clear p2
      try clear c3
      try clear c3b0
      try clear c3b1
      try clear c4
      try clear c4b0
      try clear c4b1
      try clear p5
      try clear q5
      try clear hx5
      try clear qi5
      try clear c6
      try clear c6b0
      try clear c6b1
      try clear c7
      try clear c7b0
      try clear c7b1
      try clear p8
      try clear q8
      try clear hx8
      try clear qi8
      try clear c9
      try clear c9b0
      try clear c9b1
      try clear p10
      try clear q10
      try clear hx10
      try clear qi10
      try clear c11
      try clear p1
      try clear p10
      try clear p2
      try clear p5
      try clear p8
      try clear q1
      try clear q10
      try clear q5
      try clear q8
      obtain ⟨x6_2, x7_2, x9_2, x10_2, rfl, rfl, rfl, rfl, HA, HK2, ⟨m2, rfl⟩⟩ := hrel
      cases gk with
      | zero => exact absurd HA.out (by simp [gjson_parseQuery.l0])
      | succ k2 =>
       have H := HA.out
       clear HA
       simp only [gjson_parseQuery.l0] at H
       by_cases c13 : x6_2 < (a0.size : Int)
       ·
        rw [if_pos c13] at H
        have c13b0 : decide (x6_2 < (a0.size : Int)) = true := decide_eq_true c13
        clear c13
        (first | rw [c13b0] | (simp only [i64_w, i32_w]; rw [c13b0]) | skip)
        have HC14 := Aside0.mk H
        clear H
        go_upto_region 8 with (fail)
        go_cut [42] (fun v42 wc => ∃ (kq : Nat) (x42_13 : Bool), v42 = .bool x42_13 ∧ Aside0 (gjson_parseQuery.j2 kq a0 (⟨#[]⟩ : ByteArray) (⟨#[]⟩ : ByteArray) x6_2 x7_2 x9_2 x10_2 x42_13 = some (r1, r2, r3, r4, r5, r6, r7)) ∧ Aside0 (kq ≤ k2) ∧ Drawn0 w wc)
        case first => as_aux_lemma =>
         have H := HC14.out
         clear HC14
         by_cases c15 : x10_2 = 1
         ·
          rw [if_pos c15] at H
          have c15b0 : (x10_2 == 1) = true := beq_iff_eq.mpr c15
          have c15b1 : (x10_2 != 1) = false := bne_eq_false_iff_eq.mpr c15
          clear c15
          (first | rw [c15b0] | (simp only [i64_w, i32_w]; rw [c15b0]) | skip)
          as_aux_lemma =>
           have H' := Aside0.mk H
           clear H
           go_wp2
           go_meet
           case rel => exact ⟨_, ((x9_2 == 0)), (by first | rfl | (simp; done) | (simp [nil_ne_, nil_eq_]; done) | (simp [*]; done)), H', ⟨by have := HJ1.out; have := HK2.out; first | omega | exact Nat.le_refl _⟩, by repeat (first | exact Drawn0.refl _ | apply Drawn0.step)⟩
         ·
          rw [if_neg c15] at H
          have c15b0 : (x10_2 == 1) = false := beq_eq_false_iff_ne.mpr c15
          have c15b1 : (x10_2 != 1) = true := bne_iff_ne.mpr c15
          (first | rw [c15b0] | (simp only [i64_w, i32_w]; rw [c15b0]) | skip)
          as_aux_lemma =>
           have H' := Aside0.mk H
           clear H
           go_wp2
           go_meet
           case rel => exact ⟨_, (false), (by first | rfl | (simp; done) | (simp [nil_ne_, nil_eq_]; done) | (simp [*]; done)), H', ⟨by have := HJ1.out; have := HK2.out; first | omega | exact Nat.le_refl _⟩, by repeat (first | exact Drawn0.refl _ | apply Drawn0.step)⟩
        case rest => as_aux_lemma =>
         clear HC14
         try clear c1
         try clear p1
         try clear q1
         try clear hx1
         try clear qi1
         try clear p2
         try clear c3
         try clear c3b0
         try clear c3b1
         try clear c4
         try clear c4b0
         try clear c4b1
         try clear p5
         try clear q5
         try clear hx5
         try clear qi5
         try clear c6
         try clear c6b0
         try clear c6b1
         try clear c7
         try clear c7b0
         try clear c7b1
         try clear p8
         try clear q8
         try clear hx8
         try clear qi8
         try clear c9
         try clear c9b0
         try clear c9b1
         try clear p10
         try clear q10
         try clear hx10
         try clear qi10
         try clear c11
         try clear c13
         try clear c13b0
         try clear c15
         try clear c15b0
         try clear c15b1
         try clear p1
         try clear p10
         try clear p2
         try clear p5
         try clear p8
         try clear q1
         try clear q10
         try clear q5
         try clear q8
         obtain ⟨kq, x42_13, rfl, HA, HJ13, ⟨mc13, rfl⟩⟩ := hcut
         cases kq with
         | zero => exact absurd HA.out (by simp [gjson_parseQuery.j2])
         | succ kj13 =>
          have H := HA.out
          clear HA
          simp only [gjson_parseQuery.j2] at H
          have HC16 := Aside0.mk H
          clear H
          go_upto_if 42 with (fail)
          go_cut [9] (fun v9 wc => ∃ (kq : Nat) (x9_15 : Int), v9 = .int .i64 x9_15 ∧ Aside0 (gjson_parseQuery.j3 kq a0 (⟨#[]⟩ : ByteArray) (⟨#[]⟩ : ByteArray) x6_2 x7_2 x9_15 x10_2 = some (r1, r2, r3, r4, r5, r6, r7)) ∧ Aside0 (kq ≤ kj13) ∧ Drawn0 w wc)
          case first => as_aux_lemma =>
           have H := HC16.out
           clear HC16
           by_cases c17 : x42_13 = true
           ·
            subst c17
            have H1 : (if 0 ≤ x6_2 then (if x6_2 < (a0.size : Int) then (if (bt a0 x6_2) = 33 then (gjson_parseQuery.l0 kj13 a0 (⟨#[]⟩ : ByteArray) (⟨#[]⟩ : ByteArray) (wrap64 (x6_2 + 1)) x7_2 x6_2 x10_2) else (if (bt a0 x6_2) = 61 then (gjson_parseQuery.l0 kj13 a0 (⟨#[]⟩ : ByteArray) (⟨#[]⟩ : ByteArray) (wrap64 (x6_2 + 1)) x7_2 x6_2 x10_2) else (if (bt a0 x6_2) = 60 then (gjson_parseQuery.l0 kj13 a0 (⟨#[]⟩ : ByteArray) (⟨#[]⟩ : ByteArray) (wrap64 (x6_2 + 1)) x7_2 x6_2 x10_2) else (if (bt a0 x6_2) = 62 then (gjson_parseQuery.l0 kj13 a0 (⟨#[]⟩ : ByteArray) (⟨#[]⟩ : ByteArray) (wrap64 (x6_2 + 1)) x7_2 x6_2 x10_2) else (if (bt a0 x6_2) = 37 then (gjson_parseQuery.l0 kj13 a0 (⟨#[]⟩ : ByteArray) (⟨#[]⟩ : ByteArray) (wrap64 (x6_2 + 1)) x7_2 x6_2 x10_2) else (gjson_parseQuery.j3 kj13 a0 (⟨#[]⟩ : ByteArray) (⟨#[]⟩ : ByteArray) x6_2 x7_2 x9_2 x10_2)))))) else (none)) else (none)) = some (r1, r2, r3, r4, r5, r6, r7) := by rw [if_pos rfl] at H; exact H
            clear H
            have H := H1
            clear H1
            by_cases c18 : 0 ≤ x6_2
            ·
             rw [if_pos c18] at H
             have c18b0 : decide (0 ≤ x6_2) = true := decide_eq_true c18
             clear c18
             (first | rw [c18b0] | (simp only [i64_w, i32_w]; rw [c18b0]) | skip)
             by_cases c19 : x6_2 < (a0.size : Int)
             ·
              rw [if_pos c19] at H
              have c19b0 : decide (x6_2 < (a0.size : Int)) = true := decide_eq_true c19
              clear c19
              by_cases c21 : (bt a0 x6_2) = 33
              ·
               rw [if_pos c21] at H
               have c21b0 : ((bt a0 x6_2) == 33) = true := beq_iff_eq.mpr c21
               have c21b1 : ((bt a0 x6_2) != 33) = false := bne_eq_false_iff_eq.mpr c21
               clear c21
               as_aux_lemma =>
                have H' := Aside0.mk H
                clear H
                have p20 : 0 ≤ (x6_2 : Int) := of_decide_eq_true (by first | (with_reducible assumption) | assumption)
                have q20 : x6_2 < (a0.size : Int) := of_decide_eq_true (by first | (with_reducible assumption) | assumption)
                have hx20 := bt_at a0 x6_2
                replace p20 := eq_true p20
                replace q20 := eq_true q20
                go_wp2
                go_roundg kj13
                case measure => have := HJ1.out; have := HK2.out; have := HJ13.out; omega
                case rel => exact ⟨(wrap64 (x6_2 + 1)), (x7_2), (x6_2), (x10_2), (by first | rfl | (simp; done) | (simp [nil_ne_, nil_eq_]; done) | (simp [*]; done)), (by first | rfl | (simp; done) | (simp [nil_ne_, nil_eq_]; done) | (simp [*]; done)), (by first | rfl | (simp; done) | (simp [nil_ne_, nil_eq_]; done) | (simp [*]; done)), (by first | rfl | (simp; done) | (simp [nil_ne_, nil_eq_]; done) | (simp [*]; done)), H', ⟨by have := HJ1.out; have := HK2.out; have := HJ13.out; omega⟩, by repeat (first | exact Drawn0.refl _ | apply Drawn0.step)⟩
              ·
               rw [if_neg c21] at H
               have c21b0 : ((bt a0 x6_2) == 33) = false := beq_eq_false_iff_ne.mpr c21
               have c21b1 : ((bt a0 x6_2) != 33) = true := bne_iff_ne.mpr c21
               by_cases c22 : (bt a0 x6_2) = 61
               ·
                rw [if_pos c22] at H
                have c22b0 : ((bt a0 x6_2) == 61) = true := beq_iff_eq.mpr c22
                have c22b1 : ((bt a0 x6_2) != 61) = false := bne_eq_false_iff_eq.mpr c22
                clear c22
                as_aux_lemma =>
                 have H' := Aside0.mk H
                 clear H
                 have p20 : 0 ≤ (x6_2 : Int) := of_decide_eq_true (by first | (with_reducible assumption) | assumption)
                 have q20 : x6_2 < (a0.size : Int) := of_decide_eq_true (by first | (with_reducible assumption) | assumption)
                 have hx20 := bt_at a0 x6_2
                 replace p20 := eq_true p20
                 replace q20 := eq_true q20
                 go_wp2
                 go_roundg kj13
                 case measure => have := HJ1.out; have := HK2.out; have := HJ13.out; omega
                 case rel => exact ⟨(wrap64 (x6_2 + 1)), (x7_2), (x6_2), (x10_2), (by first | rfl | (simp; done) | (simp [nil_ne_, nil_eq_]; done) | (simp [*]; done)), (by first | rfl | (simp; done) | (simp [nil_ne_, nil_eq_]; done) | (simp [*]; done)), (by first | rfl | (simp; done) | (simp [nil_ne_, nil_eq_]; done) | (simp [*]; done)), (by first | rfl | (simp; done) | (simp [nil_ne_, nil_eq_]; done) | (simp [*]; done)), H', ⟨by have := HJ1.out; have := HK2.out; have := HJ13.out; omega⟩, by repeat (first | exact Drawn0.refl _ | apply Drawn0.step)⟩
               ·
                rw [if_neg c22] at H
                have c22b0 : ((bt a0 x6_2) == 61) = false := beq_eq_false_iff_ne.mpr c22
                have c22b1 : ((bt a0 x6_2) != 61) = true := bne_iff_ne.mpr c22
                by_cases c23 : (bt a0 x6_2) = 60
                ·
                 rw [if_pos c23] at H
                 have c23b0 : ((bt a0 x6_2) == 60) = true := beq_iff_eq.mpr c23
                 have c23b1 : ((bt a0 x6_2) != 60) = false := bne_eq_false_iff_eq.mpr c23
                 clear c23
                 as_aux_lemma =>
                  have H' := Aside0.mk H
                  clear H
                  have p20 : 0 ≤ (x6_2 : Int) := of_decide_eq_true (by first | (with_reducible assumption) | assumption)
                  have q20 : x6_2 < (a0.size : Int) := of_decide_eq_true (by first | (with_reducible assumption) | assumption)
                  have hx20 := bt_at a0 x6_2
                  replace p20 := eq_true p20
                  replace q20 := eq_true q20
                  go_wp2
                  go_roundg kj13
                  case measure => have := HJ1.out; have := HK2.out; have := HJ13.out; omega
                  case rel => exact ⟨(wrap64 (x6_2 + 1)), (x7_2), (x6_2), (x10_2), (by first | rfl | (simp; done) | (simp [nil_ne_, nil_eq_]; done) | (simp [*]; done)), (by first | rfl | (simp; done) | (simp [nil_ne_, nil_eq_]; done) | (simp [*]; done)), (by first | rfl | (simp; done) | (simp [nil_ne_, nil_eq_]; done) | (simp [*]; done)), (by first | rfl | (simp; done) | (simp [nil_ne_, nil_eq_]; done) | (simp [*]; done)), H', ⟨by have := HJ1.out; have := HK2.out; have := HJ13.out; omega⟩, by repeat (first | exact Drawn0.refl _ | apply Drawn0.step)⟩
                ·
                 rw [if_neg c23] at H
                 have c23b0 : ((bt a0 x6_2) == 60) = false := beq_eq_false_iff_ne.mpr c23
                 have c23b1 : ((bt a0 x6_2) != 60) = true := bne_iff_ne.mpr c23
                 by_cases c24 : (bt a0 x6_2) = 62
                 ·
                  rw [if_pos c24] at H
                  have c24b0 : ((bt a0 x6_2) == 62) = true := beq_iff_eq.mpr c24
                  have c24b1 : ((bt a0 x6_2) != 62) = false := bne_eq_false_iff_eq.mpr c24
                  clear c24
                  as_aux_lemma =>
                   have H' := Aside0.mk H
                   clear H
                   have p20 : 0 ≤ (x6_2 : Int) := of_decide_eq_true (by first | (with_reducible assumption) | assumption)
                   have q20 : x6_2 < (a0.size : Int) := of_decide_eq_true (by first | (with_reducible assumption) | assumption)
                   have hx20 := bt_at a0 x6_2
                   replace p20 := eq_true p20
                   replace q20 := eq_true q20
                   go_wp2
                   go_roundg kj13
                   case measure => have := HJ1.out; have := HK2.out; have := HJ13.out; omega
                   case rel => exact ⟨(wrap64 (x6_2 + 1)), (x7_2), (x6_2), (x10_2), (by first | rfl | (simp; done) | (simp [nil_ne_, nil_eq_]; done) | (simp [*]; done)), (by first | rfl | (simp; done) | (simp [nil_ne_, nil_eq_]; done) | (simp [*]; done)), (by first | rfl | (simp; done) | (simp [nil_ne_, nil_eq_]; done) | (simp [*]; done)), (by first | rfl | (simp; done) | (simp [nil_ne_, nil_eq_]; done) | (simp [*]; done)), H', ⟨by have := HJ1.out; have := HK2.out; have := HJ13.out; omega⟩, by repeat (first | exact Drawn0.refl _ | apply Drawn0.step)⟩
                 ·
                  rw [if_neg c24] at H
                  have c24b0 : ((bt a0 x6_2) == 62) = false := beq_eq_false_iff_ne.mpr c24
                  have c24b1 : ((bt a0 x6_2) != 62) = true := bne_iff_ne.mpr c24
                  by_cases c25 : (bt a0 x6_2) = 37
                  ·
                   rw [if_pos c25] at H
                   have c25b0 : ((bt a0 x6_2) == 37) = true := beq_iff_eq.mpr c25
                   have c25b1 : ((bt a0 x6_2) != 37) = false := bne_eq_false_iff_eq.mpr c25
                   clear c25
                   as_aux_lemma =>
                    have H' := Aside0.mk H
                    clear H
                    have p20 : 0 ≤ (x6_2 : Int) := of_decide_eq_true (by first | (with_reducible assumption) | assumption)
                    have q20 : x6_2 < (a0.size : Int) := of_decide_eq_true (by first | (with_reducible assumption) | assumption)
                    have hx20 := bt_at a0 x6_2
                    replace p20 := eq_true p20
                    replace q20 := eq_true q20
                    go_wp2
                    go_roundg kj13
                    case measure => have := HJ1.out; have := HK2.out; have := HJ13.out; omega
                    case rel => exact ⟨(wrap64 (x6_2 + 1)), (x7_2), (x6_2), (x10_2), (by first | rfl | (simp; done) | (simp [nil_ne_, nil_eq_]; done) | (simp [*]; done)), (by first | rfl | (simp; done) | (simp [nil_ne_, nil_eq_]; done) | (simp [*]; done)), (by first | rfl | (simp; done) | (simp [nil_ne_, nil_eq_]; done) | (simp [*]; done)), (by first | rfl | (simp; done) | (simp [nil_ne_, nil_eq_]; done) | (simp [*]; done)), H', ⟨by have := HJ1.out; have := HK2.out; have := HJ13.out; omega⟩, by repeat (first | exact Drawn0.refl _ | apply Drawn0.step)⟩
                  ·
                   rw [if_neg c25] at H
                   have c25b0 : ((bt a0 x6_2) == 37) = false := beq_eq_false_iff_ne.mpr c25
                   have c25b1 : ((bt a0 x6_2) != 37) = true := bne_iff_ne.mpr c25
                   as_aux_lemma =>
                    have H' := Aside0.mk H
                    clear H
                    have p20 : 0 ≤ (x6_2 : Int) := of_decide_eq_true (by first | (with_reducible assumption) | assumption)
                    have q20 : x6_2 < (a0.size : Int) := of_decide_eq_true (by first | (with_reducible assumption) | assumption)
                    have hx20 := bt_at a0 x6_2
                    replace p20 := eq_true p20
                    replace q20 := eq_true q20
                    go_wp2
                    go_meet
                    case rel => exact ⟨_, (x9_2), (by first | rfl | (simp; done) | (simp [nil_ne_, nil_eq_]; done) | (simp [*]; done)), H', ⟨by have := HJ1.out; have := HK2.out; have := HJ13.out; first | omega | exact Nat.le_refl _⟩, by repeat (first | exact Drawn0.refl _ | apply Drawn0.step)⟩
             ·
              rw [if_neg c19] at H
              exact absurd H (by simp)
            ·
             rw [if_neg c18] at H
             exact absurd H (by simp)
           ·
            replace c17 := Bool.eq_false_iff.mpr c17
            subst c17
            have H1 : (gjson_parseQuery.j3 kj13 a0 (⟨#[]⟩ : ByteArray) (⟨#[]⟩ : ByteArray) x6_2 x7_2 x9_2 x10_2) = some (r1, r2, r3, r4, r5, r6, r7) := by rw [if_neg (show ¬ (false = true) by decide)] at H; exact H
            clear H
            have H := H1
            clear H1
            as_aux_lemma =>
             have H' := Aside0.mk H
             clear H
             go_wp2
             go_meet
             case rel => exact ⟨_, (x9_2), (by first | rfl | (simp; done) | (simp [nil_ne_, nil_eq_]; done) | (simp [*]; done)), H', ⟨by have := HJ1.out; have := HK2.out; have := HJ13.out; first | omega | exact Nat.le_refl _⟩, by repeat (first | exact Drawn0.refl _ | apply Drawn0.step)⟩
          case rest => as_aux_lemma =>
           clear HC16
           try clear c1
           try clear p1
           try clear q1
           try clear hx1
           try clear qi1
           try clear c2
           try clear p2
           try clear q2
           try clear hx2
           try clear c3
           try clear c3b0
           try clear c3b1
           try clear c4
           try clear c4b0
           try clear c4b1
           try clear p5
           try clear q5
           try clear hx5
           try clear qi5
           try clear c6
           try clear c6b0
           try clear c6b1
           try clear p6
           try clear c7
           try clear c7b0
           try clear c7b1
           try clear p8
           try clear q8
           try clear hx8
           try clear qi8
           try clear c9
           try clear c9b0
           try clear c9b1
           try clear p10
           try clear q10
           try clear hx10
           try clear qi10
           try clear c11
           try clear c13
           try clear c13b0
           try clear c15
           try clear c15b0
           try clear c15b1
           try clear c17
           try clear c18
           try clear c18b0
           try clear c19
           try clear c19b0
           try clear p20
           try clear q20
           try clear hx20
           try clear c21
           try clear c21b0
           try clear c21b1
           try clear c22
           try clear c22b0
           try clear c22b1
           try clear c23
           try clear c23b0
           try clear c23b1
           try clear c24
           try clear c24b0
           try clear c24b1
           try clear c25
           try clear c25b0
           try clear c25b1
           try clear p1
           try clear p10
           try clear p2
           try clear p20
           try clear p5
           try clear p8
           try clear q1
           try clear q10
           try clear q20
           try clear q5
           try clear q8
           obtain ⟨kq, x9_15, rfl, HA, HJ15, ⟨mc15, rfl⟩⟩ := hcut
           cases kq with
           | zero => exact absurd HA.out (by simp [gjson_parseQuery.j3])
           | succ kj15 =>
            have H := HA.out
            clear HA
            simp only [gjson_parseQuery.j3] at H
            by_cases c26 : 0 ≤ x6_2
            ·
             rw [if_pos c26] at H
             have c26b0 : decide (0 ≤ x6_2) = true := decide_eq_true c26
             clear c26
             by_cases c27 : x6_2 < (a0.size : Int)
             ·
              rw [if_pos c27] at H
              have c27b0 : decide (x6_2 < (a0.size : Int)) = true := decide_eq_true c27
              clear c27
              by_cases c29 : (bt a0 x6_2) = 92
              ·
               rw [if_pos c29] at H
               have c29b0 : ((bt a0 x6_2) == 92) = true := beq_iff_eq.mpr c29
               have c29b1 : ((bt a0 x6_2) != 92) = false := bne_eq_false_iff_eq.mpr c29
               clear c29
               as_aux_lemma =>
                have H' := Aside0.mk H
                clear H
                have p28 : 0 ≤ (x6_2 : Int) := of_decide_eq_true (by first | (with_reducible assumption) | assumption)
                have q28 : x6_2 < (a0.size : Int) := of_decide_eq_true (by first | (with_reducible assumption) | assumption)
                have hx28 := bt_at a0 x6_2
                replace p28 := eq_true p28
                replace q28 := eq_true q28
                go_wp2
                go_roundg kj15
                case measure => have := HJ1.out; have := HK2.out; have := HJ13.out; have := HJ15.out; omega
                case rel => exact ⟨(wrap64 ((wrap64 (x6_2 + 1)) + 1)), (x7_2), (x9_15), (x10_2), (by first | rfl | (simp; done) | (simp [nil_ne_, nil_eq_]; done) | (simp [*]; done)), (by first | rfl | (simp; done) | (simp [nil_ne_, nil_eq_]; done) | (simp [*]; done)), (by first | rfl | (simp; done) | (simp [nil_ne_, nil_eq_]; done) | (simp [*]; done)), (by first | rfl | (simp; done) | (simp [nil_ne_, nil_eq_]; done) | (simp [*]; done)), H', ⟨by have := HJ1.out; have := HK2.out; have := HJ13.out; have := HJ15.out; omega⟩, by repeat (first | exact Drawn0.refl _ | apply Drawn0.step)⟩
              ·
               rw [if_neg c29] at H
               have c29b0 : ((bt a0 x6_2) == 92) = false := beq_eq_false_iff_ne.mpr c29
               have c29b1 : ((bt a0 x6_2) != 92) = true := bne_iff_ne.mpr c29
               have HC30 := Aside0.mk H
               clear H
               have p28 : 0 ≤ (x6_2 : Int) := of_decide_eq_true (by first | (with_reducible assumption) | assumption)
               have q28 : x6_2 < (a0.size : Int) := of_decide_eq_true (by first | (with_reducible assumption) | assumption)
               have hx28 := bt_at a0 x6_2
               replace p28 := eq_true p28
               replace q28 := eq_true q28
               go_upto_region 18 with (fail)
               go_cut [68] (fun v68 wc => ∃ (kq : Nat) (x68_29 : Bool), v68 = .bool x68_29 ∧ Aside0 (gjson_parseQuery.j4 kq a0 (⟨#[]⟩ : ByteArray) (⟨#[]⟩ : ByteArray) x6_2 x7_2 x9_15 x10_2 x68_29 = some (r1, r2, r3, r4, r5, r6, r7)) ∧ Aside0 (kq ≤ kj15) ∧ Drawn0 w wc)
               case first => as_aux_lemma =>
                have H := HC30.out
                clear HC30
                by_cases c32 : (bt a0 x6_2) = 91
                ·
                 rw [if_pos c32] at H
                 have c32b0 : ((bt a0 x6_2) == 91) = true := beq_iff_eq.mpr c32
                 have c32b1 : ((bt a0 x6_2) != 91) = false := bne_eq_false_iff_eq.mpr c32
                 clear c32
                 (first | rw [c32b0] | (simp only [i64_w, i32_w]; rw [c32b0]) | skip)
                 as_aux_lemma =>
                  have H' := Aside0.mk H
                  clear H
                  have p31 : 0 ≤ (x6_2 : Int) := of_decide_eq_true (by first | (with_reducible assumption) | assumption)
                  have q31 : x6_2 < (a0.size : Int) := of_decide_eq_true (by first | (with_reducible assumption) | assumption)
                  have hx31 := bt_at a0 x6_2
                  replace p31 := eq_true p31
                  replace q31 := eq_true q31
                  go_wp2
                  go_meet
                  case rel => exact ⟨_, (true), (by first | rfl | (simp; done) | (simp [nil_ne_, nil_eq_]; done) | (simp [*]; done)), H', ⟨by have := HJ1.out; have := HK2.out; have := HJ13.out; have := HJ15.out; first | omega | exact Nat.le_refl _⟩, by repeat (first | exact Drawn0.refl _ | apply Drawn0.step)⟩
                ·
                 rw [if_neg c32] at H
                 have c32b0 : ((bt a0 x6_2) == 91) = false := beq_eq_false_iff_ne.mpr c32
                 have c32b1 : ((bt a0 x6_2) != 91) = true := bne_iff_ne.mpr c32
                 (first | rw [c32b0] | (simp only [i64_w, i32_w]; rw [c32b0]) | skip)
                 as_aux_lemma =>
                  have H' := Aside0.mk H
                  clear H
                  have p31 : 0 ≤ (x6_2 : Int) := of_decide_eq_true (by first | (with_reducible assumption) | assumption)
                  have q31 : x6_2 < (a0.size : Int) := of_decide_eq_true (by first | (with_reducible assumption) | assumption)
                  have hx31 := bt_at a0 x6_2
                  replace p31 := eq_true p31
                  replace q31 := eq_true q31
                  have p33 : 0 ≤ (x6_2 : Int) := of_decide_eq_true (by first | (with_reducible assumption) | assumption)
                  have q33 : x6_2 < (a0.size : Int) := of_decide_eq_true (by first | (with_reducible assumption) | assumption)
                  have hx33 := bt_at a0 x6_2
                  replace p33 := eq_true p33
                  replace q33 := eq_true q33
                  go_wp2
                  go_meet
                  case rel => exact ⟨_, (((bt a0 x6_2) == 40)), (by first | rfl | (simp; done) | (simp [nil_ne_, nil_eq_]; done) | (simp [*]; done)), H', ⟨by have := HJ1.out; have := HK2.out; have := HJ13.out; have := HJ15.out; first | omega | exact Nat.le_refl _⟩, by repeat (first | exact Drawn0.refl _ | apply Drawn0.step)⟩
               case rest => as_aux_lemma =>
                clear HC30
                try clear c1
                try clear p1
                try clear q1
                try clear hx1
                try clear qi1
                try clear c2
                try clear p2
                try clear q2
                try clear hx2
                try clear c3
                try clear c3b0
                try clear c3b1
                try clear p3
                try clear q3
                try clear hx3
                try clear c4
                try clear c4b0
                try clear c4b1
                try clear p5
                try clear q5
                try clear hx5
                try clear qi5
                try clear c6
                try clear c6b0
                try clear c6b1
                try clear p6
                try clear c7
                try clear c7b0
                try clear c7b1
                try clear p8
                try clear q8
                try clear hx8
                try clear qi8
                try clear c9
                try clear c9b0
                try clear c9b1
                try clear p10
                try clear q10
                try clear hx10
                try clear qi10
                try clear c11
                try clear c13
                try clear c13b0
                try clear c15
                try clear c15b0
                try clear c15b1
                try clear c17
                try clear c18
                try clear c18b0
                try clear c19
                try clear c19b0
                try clear p20
                try clear q20
                try clear hx20
                try clear c21
                try clear c21b0
                try clear c21b1
                try clear c22
                try clear c22b0
                try clear c22b1
                try clear c23
                try clear c23b0
                try clear c23b1
                try clear c24
                try clear c24b0
                try clear c24b1
                try clear c25
                try clear c25b0
                try clear c25b1
                try clear c26
                try clear c26b0
                try clear c27
                try clear c27b0
                try clear p28
                try clear q28
                try clear hx28
                try clear c29
                try clear c29b0
                try clear c29b1
                try clear p31
                try clear q31
                try clear hx31
                try clear c32
                try clear c32b0
                try clear c32b1
                try clear p33
                try clear q33
                try clear hx33
                try clear p1
                try clear p10
                try clear p2
                try clear p20
                try clear p28
                try clear p31
                try clear p33
                try clear p5
                try clear p6
                try clear p8
                try clear q1
                try clear q10
                try clear q2
                try clear q20
                try clear q28
                try clear q31
                try clear q33
                try clear q5
                try clear q8
                obtain ⟨kq, x68_29, rfl, HA, HJ29, ⟨mc29, rfl⟩⟩ := hcut
                cases kq with
                | zero => exact absurd HA.out (by simp [gjson_parseQuery.j4])
                | succ kj29 =>
                 have H := HA.out
                 clear HA
                 simp only [gjson_parseQuery.j4] at H
                 by_cases c34 : x68_29 = true
                 ·
                  subst c34
                  have H1 : (gjson_parseQuery.l0 kj29 a0 (⟨#[]⟩ : ByteArray) (⟨#[]⟩ : ByteArray) (wrap64 (x6_2 + 1)) x7_2 x9_15 (wrap64 (x10_2 + 1))) = some (r1, r2, r3, r4, r5, r6, r7) := by rw [if_pos rfl] at H; exact H
                  clear H
                  have H := H1
                  clear H1
                  as_aux_lemma =>
                   have H' := Aside0.mk H
                   clear H
                   go_wp2
                   go_roundg kj29
                   case measure => have := HJ1.out; have := HK2.out; have := HJ13.out; have := HJ15.out; have := HJ29.out; omega
                   case rel => exact ⟨(wrap64 (x6_2 + 1)), (x7_2), (x9_15), (wrap64 (x10_2 + 1)), (by first | rfl | (simp; done) | (simp [nil_ne_, nil_eq_]; done) | (simp [*]; done)), (by first | rfl | (simp; done) | (simp [nil_ne_, nil_eq_]; done) | (simp [*]; done)), (by first | rfl | (simp; done) | (simp [nil_ne_, nil_eq_]; done) | (simp [*]; done)), (by first | rfl | (simp; done) | (simp [nil_ne_, nil_eq_]; done) | (simp [*]; done)), H', ⟨by have := HJ1.out; have := HK2.out; have := HJ13.out; have := HJ15.out; have := HJ29.out; omega⟩, by repeat (first | exact Drawn0.refl _ | apply Drawn0.step)⟩
                 ·
                  replace c34 := Bool.eq_false_iff.mpr c34
                  subst c34
                  have H1 : (if 0 ≤ x6_2 then (if x6_2 < (a0.size : Int) then (if (bt a0 x6_2) = 93 then (gjson_parseQuery.j5 kj29 a0 (⟨#[]⟩ : ByteArray) (⟨#[]⟩ : ByteArray) x6_2 x7_2 x9_15 x10_2 true) else (gjson_parseQuery.j5 kj29 a0 (⟨#[]⟩ : ByteArray) (⟨#[]⟩ : ByteArray) x6_2 x7_2 x9_15 x10_2 ((bt a0 x6_2) == 41))) else (none)) else (none)) = some (r1, r2, r3, r4, r5, r6, r7) := by rw [if_neg (show ¬ (false = true) by decide)] at H; exact H
                  clear H
                  have H := H1
                  clear H1
                  have HC35 := Aside0.mk H
                  clear H
                  go_upto_region 20 with (fail)
                  go_cut [80] (fun v80 wc => ∃ (kq : Nat) (x80_34 : Bool), v80 = .bool x80_34 ∧ Aside0 (gjson_parseQuery.j5 kq a0 (⟨#[]⟩ : ByteArray) (⟨#[]⟩ : ByteArray) x6_2 x7_2 x9_15 x10_2 x80_34 = some (r1, r2, r3, r4, r5, r6, r7)) ∧ Aside0 (kq ≤ kj29) ∧ Drawn0 w wc)
                  case first => as_aux_lemma =>
                   have H := HC35.out
                   clear HC35
                   by_cases c36 : 0 ≤ x6_2
                   ·
                    rw [if_pos c36] at H
                    have c36b0 : decide (0 ≤ x6_2) = true := decide_eq_true c36
                    clear c36
                    (first | rw [c36b0] | (simp only [i64_w, i32_w]; rw [c36b0]) | skip)
                    by_cases c37 : x6_2 < (a0.size : Int)
                    ·
                     rw [if_pos c37] at H
                     have c37b0 : decide (x6_2 < (a0.size : Int)) = true := decide_eq_true c37
                     clear c37
                     by_cases c39 : (bt a0 x6_2) = 93
                     ·
                      rw [if_pos c39] at H
                      have c39b0 : ((bt a0 x6_2) == 93) = true := beq_iff_eq.mpr c39
                      have c39b1 : ((bt a0 x6_2) != 93) = false := bne_eq_false_iff_eq.mpr c39
                      clear c39
                      as_aux_lemma =>
                       have H' := Aside0.mk H
                       clear H
                       have p38 : 0 ≤ (x6_2 : Int) := of_decide_eq_true (by first | (with_reducible assumption) | assumption)
                       have q38 : x6_2 < (a0.size : Int) := of_decide_eq_true (by first | (with_reducible assumption) | assumption)
                       have hx38 := bt_at a0 x6_2
                       replace p38 := eq_true p38
                       replace q38 := eq_true q38
                       go_wp2
                       go_meet
                       case rel => exact ⟨_, (true), (by first | rfl | (simp; done) | (simp [nil_ne_, nil_eq_]; done) | (simp [*]; done)), H', ⟨by have := HJ1.out; have := HK2.out; have := HJ13.out; have := HJ15.out; have := HJ29.out; first | omega | exact Nat.le_refl _⟩, by repeat (first | exact Drawn0.refl _ | apply Drawn0.step)⟩
                     ·
                      rw [if_neg c39] at H
                      have c39b0 : ((bt a0 x6_2) == 93) = false := beq_eq_false_iff_ne.mpr c39
                      have c39b1 : ((bt a0 x6_2) != 93) = true := bne_iff_ne.mpr c39
                      as_aux_lemma =>
                       have H' := Aside0.mk H
                       clear H
                       have p38 : 0 ≤ (x6_2 : Int) := of_decide_eq_true (by first | (with_reducible assumption) | assumption)
                       have q38 : x6_2 < (a0.size : Int) := of_decide_eq_true (by first | (with_reducible assumption) | assumption)
                       have hx38 := bt_at a0 x6_2
                       replace p38 := eq_true p38
                       replace q38 := eq_true q38
                       have p40 : 0 ≤ (x6_2 : Int) := of_decide_eq_true (by first | (with_reducible assumption) | assumption)
                       have q40 : x6_2 < (a0.size : Int) := of_decide_eq_true (by first | (with_reducible assumption) | assumption)
                       have hx40 := bt_at a0 x6_2
                       replace p40 := eq_true p40
                       replace q40 := eq_true q40
                       go_wp2
                       go_meet
                       case rel => exact ⟨_, (((bt a0 x6_2) == 41)), (by first | rfl | (simp; done) | (simp [nil_ne_, nil_eq_]; done) | (simp [*]; done)), H', ⟨by have := HJ1.out; have := HK2.out; have := HJ13.out; have := HJ15.out; have := HJ29.out; first | omega | exact Nat.le_refl _⟩, by repeat (first | exact Drawn0.refl _ | apply Drawn0.step)⟩
                    ·
                     rw [if_neg c37] at H
                     exact absurd H (by simp)
                   ·
                    rw [if_neg c36] at H
                    exact absurd H (by simp)
                  case rest => as_aux_lemma =>
                   clear HC35
                   try clear c1
                   try clear p1
                   try clear q1
                   try clear hx1
                   try clear qi1
                   try clear c2
                   try clear p2
                   try clear q2
                   try clear hx2
                   try clear c3
                   try clear c3b0
                   try clear c3b1
                   try clear p3
                   try clear q3
                   try clear hx3
                   try clear c4
                   try clear c4b0
                   try clear c4b1
                   try clear p4
                   try clear q4
                   try clear hx4
                   try clear p5
                   try clear q5
                   try clear hx5
                   try clear qi5
                   try clear c6
                   try clear c6b0
                   try clear c6b1
                   try clear p6
                   try clear c7
                   try clear c7b0
                   try clear c7b1
                   try clear p8
                   try clear q8
                   try clear hx8
                   try clear qi8
                   try clear c9
                   try clear c9b0
                   try clear c9b1
                   try clear p10
                   try clear q10
                   try clear hx10
                   try clear qi10
                   try clear c11
                   try clear c13
                   try clear c13b0
                   try clear c15
                   try clear c15b0
                   try clear c15b1
                   try clear c17
                   try clear c18
                   try clear c18b0
                   try clear c19
                   try clear c19b0
                   try clear p20
                   try clear q20
                   try clear hx20
                   try clear c21
                   try clear c21b0
                   try clear c21b1
                   try clear c22
                   try clear c22b0
                   try clear c22b1
                   try clear c23
                   try clear c23b0
                   try clear c23b1
                   try clear c24
                   try clear c24b0
                   try clear c24b1
                   try clear c25
                   try clear c25b0
                   try clear c25b1
                   try clear c26
                   try clear c26b0
                   try clear c27
                   try clear c27b0
                   try clear p28
                   try clear q28
                   try clear hx28
                   try clear c29
                   try clear c29b0
                   try clear c29b1
                   try clear p31
                   try clear q31
                   try clear hx31
                   try clear c32
                   try clear c32b0
                   try clear c32b1
                   try clear p33
                   try clear q33
                   try clear hx33
                   try clear c34
                   try clear c36
                   try clear c36b0
                   try clear c37
                   try clear c37b0
                   try clear p38
                   try clear q38
                   try clear hx38
                   try clear c39
                   try clear c39b0
                   try clear c39b1
                   try clear p40
                   try clear q40
                   try clear hx40
                   try clear p1
                   try clear p10
                   try clear p2
                   try clear p20
                   try clear p28
                   try clear p3
                   try clear p31
                   try clear p33
                   try clear p38
                   try clear p40
                   try clear p5
                   try clear p6
                   try clear p8
                   try clear q1
                   try clear q10
                   try clear q2
                   try clear q20
                   try clear q28
                   try clear q3
                   try clear q31
                   try clear q33
                   try clear q38
                   try clear q40
                   try clear q5
                   try clear q8
                   obtain ⟨kq, x80_34, rfl, HA, HJ34, ⟨mc34, rfl⟩⟩ := hcut
                   cases kq with
                   | zero => exact absurd HA.out (by simp [gjson_parseQuery.j5])
                   | succ kj34 =>
                    have H := HA.out
                    clear HA
                    simp only [gjson_parseQuery.j5] at H
                    by_cases c41 : x80_34 = true
                    ·
                     subst c41
                     have H1 : (if (wrap64 (x10_2 - 1)) = 0 then (gjson_parseQuery.j7 kj34 a0 (⟨#[]⟩ : ByteArray) (⟨#[]⟩ : ByteArray) x6_2 x7_2 x9_15 (wrap64 (x10_2 - 1))) else (gjson_parseQuery.l0 kj34 a0 (⟨#[]⟩ : ByteArray) (⟨#[]⟩ : ByteArray) (wrap64 (x6_2 + 1)) x7_2 x9_15 (wrap64 (x10_2 - 1)))) = some (r1, r2, r3, r4, r5, r6, r7) := by rw [if_pos rfl] at H; exact H
                     clear H
                     have H := H1
                     clear H1
                     by_cases c42 : (wrap64 (x10_2 - 1)) = 0
                     ·
                      rw [if_pos c42] at H
                      have c42b0 : ((wrap64 (x10_2 - 1)) == 0) = true := beq_iff_eq.mpr c42
                      have c42b1 : ((wrap64 (x10_2 - 1)) != 0) = false := bne_eq_false_iff_eq.mpr c42
                      clear c42
                      as_aux_lemma =>
                       have H' := Aside0.mk H
                       clear H
                       go_wp2
                       go_meet
                       case rel => exact ⟨_, (x6_2), (x7_2), (x9_15), (wrap64 (x10_2 - 1)), (by first | rfl | (simp; done) | (simp [nil_ne_, nil_eq_]; done) | (simp [*]; done)), (by first | rfl | (simp; done) | (simp [nil_ne_, nil_eq_]; done) | (simp [*]; done)), (by first | rfl | (simp; done) | (simp [nil_ne_, nil_eq_]; done) | (simp [*]; done)), (by first | rfl | (simp; done) | (simp [nil_ne_, nil_eq_]; done) | (simp [*]; done)), H', ⟨by have := HJ1.out; have := HK2.out; have := HJ13.out; have := HJ15.out; have := HJ29.out; have := HJ34.out; first | omega | exact Nat.le_refl _⟩, by repeat (first | exact Drawn0.refl _ | apply Drawn0.step)⟩
                     ·
                      rw [if_neg c42] at H
                      have c42b0 : ((wrap64 (x10_2 - 1)) == 0) = false := beq_eq_false_iff_ne.mpr c42
                      have c42b1 : ((wrap64 (x10_2 - 1)) != 0) = true := bne_iff_ne.mpr c42
                      as_aux_lemma =>
                       have H' := Aside0.mk H
                       clear H
                       go_wp2
                       go_roundg kj34
                       case measure => have := HJ1.out; have := HK2.out; have := HJ13.out; have := HJ15.out; have := HJ29.out; have := HJ34.out; omega
                       case rel => exact ⟨(wrap64 (x6_2 + 1)), (x7_2), (x9_15), (wrap64 (x10_2 - 1)), (by first | rfl | (simp; done) | (simp [nil_ne_, nil_eq_]; done) | (simp [*]; done)), (by first | rfl | (simp; done) | (simp [nil_ne_, nil_eq_]; done) | (simp [*]; done)), (by first | rfl | (simp; done) | (simp [nil_ne_, nil_eq_]; done) | (simp [*]; done)), (by first | rfl | (simp; done) | (simp [nil_ne_, nil_eq_]; done) | (simp [*]; done)), H', ⟨by have := HJ1.out; have := HK2.out; have := HJ13.out; have := HJ15.out; have := HJ29.out; have := HJ34.out; omega⟩, by repeat (first | exact Drawn0.refl _ | apply Drawn0.step)⟩
                    ·
                     replace c41 := Bool.eq_false_iff.mpr c41
                     subst c41
                     have H1 : (if 0 ≤ x6_2 then (if x6_2 < (a0.size : Int) then (if (bt a0 x6_2) = 34 then (gjson_parseQuery.l1 kj34 a0 (⟨#[]⟩ : ByteArray) (⟨#[]⟩ : ByteArray) (wrap64 (x6_2 + 1)) x7_2 x9_15 x10_2) else (gjson_parseQuery.l0 kj34 a0 (⟨#[]⟩ : ByteArray) (⟨#[]⟩ : ByteArray) (wrap64 (x6_2 + 1)) x7_2 x9_15 x10_2)) else (none)) else (none)) = some (r1, r2, r3, r4, r5, r6, r7) := by rw [if_neg (show ¬ (false = true) by decide)] at H; exact H
                     clear H
                     have H := H1
                     clear H1
                     by_cases c43 : 0 ≤ x6_2
                     ·
                      rw [if_pos c43] at H
                      have c43b0 : decide (0 ≤ x6_2) = true := decide_eq_true c43
                      clear c43
                      by_cases c44 : x6_2 < (a0.size : Int)
                      ·
                       rw [if_pos c44] at H
                       have c44b0 : decide (x6_2 < (a0.size : Int)) = true := decide_eq_true c44
                       clear c44
                       by_cases c46 : (bt a0 x6_2) = 34
                       ·
                        rw [if_pos c46] at H
                        have c46b0 : ((bt a0 x6_2) == 34) = true := beq_iff_eq.mpr c46
                        have c46b1 : ((bt a0 x6_2) != 34) = false := bne_eq_false_iff_eq.mpr c46
                        clear c46
                        have H' := Aside0.mk H
                        clear H
                        have p45 : 0 ≤ (x6_2 : Int) := of_decide_eq_true (by first | (with_reducible assumption) | assumption)
                        have q45 : x6_2 < (a0.size : Int) := of_decide_eq_true (by first | (with_reducible assumption) | assumption)
                        have hx45 := bt_at a0 x6_2
                        replace p45 := eq_true p45
                        replace q45 := eq_true q45
                        go_wp2
                        try simp only [Act.put, List.setIfInBounds_toArray, List.set_cons_succ, List.set_cons_zero]
                        go_loopg [6, 7] kj34 (fun kq v6 v7 w' => ∃ (x6_7 : Int) (x7_7 : Bool), v6 = .int .i64 x6_7 ∧ v7 = .bool x7_7 ∧ Aside0 (gjson_parseQuery.l1 kq a0 (⟨#[]⟩ : ByteArray) (⟨#[]⟩ : ByteArray) x6_7 x7_7 x9_15 x10_2 = some (r1, r2, r3, r4, r5, r6, r7)) ∧ Aside0 (kq ≤ kj34) ∧ Drawn0 w w')
                        case atStart => exact ⟨(wrap64 (x6_2 + 1)), (x7_2), (by first | rfl | (simp; done) | (simp [nil_ne_, nil_eq_]; done) | (simp [*]; done)), (by first | rfl | (simp; done) | (simp [nil_ne_, nil_eq_]; done) | (simp [*]; done)), H', ⟨Nat.le_refl _⟩, by repeat (first | exact Drawn0.refl _ | apply Drawn0.step)⟩
                        case round =>
                         clear H'
                         try clear c1
                         try clear p1
                         try clear q1
                         try clear hx1
                         try clear qi1
                         try clear c2
                         try clear p2
                         try clear q2
                         try clear hx2
                         try clear c3
                         try clear c3b0
                         try clear c3b1
                         try clear p3
                         try clear q3
                         try clear hx3
                         try clear c4
                         try clear c4b0
                         try clear c4b1
                         try clear p4
                         try clear q4
                         try clear hx4
                         try clear p5
                         try clear q5
                         try clear hx5
                         try clear qi5
                         try clear c6
                         try clear c6b0
                         try clear c6b1
                         try clear p6
                         try clear c7
                         try clear c7b0
                         try clear c7b1
                         try clear p8
                         try clear q8
                         try clear hx8
                         try clear qi8
                         try clear c9
                         try clear c9b0
                         try clear c9b1
                         try clear p10
                         try clear q10
                         try clear hx10
                         try clear qi10
                         try clear c11
                         try clear c13
                         try clear c13b0
                         try clear c15
                         try clear c15b0
                         try clear c15b1
                         try clear c17
                         try clear c18
                         try clear c18b0
                         try clear c19
                         try clear c19b0
                         try clear p20
                         try clear q20
                         try clear hx20
                         try clear c21
                         try clear c21b0
                         try clear c21b1
                         try clear c22
                         try clear c22b0
                         try clear c22b1
                         try clear c23
                         try clear c23b0
                         try clear c23b1
                         try clear c24
                         try clear c24b0
                         try clear c24b1
                         try clear c25
                         try clear c25b0
                         try clear c25b1
                         try clear c26
                         try clear c26b0
                         try clear c27
                         try clear c27b0
                         try clear p28
                         try clear q28
                         try clear hx28
                         try clear c29
                         try clear c29b0
                         try clear c29b1
                         try clear p31
                         try clear q31
                         try clear hx31
                         try clear c32
                         try clear c32b0
                         try clear c32b1
                         try clear p33
                         try clear q33
                         try clear hx33
                         try clear c34
                         try clear c36
                         try clear c36b0
                         try clear c37
                         try clear c37b0
                         try clear p38
                         try clear q38
                         try clear hx38
                         try clear c39
                         try clear c39b0
                         try clear c39b1
                         try clear p40
                         try clear q40
                         try clear hx40
                         try clear c41
                         try clear c42
                         try clear c42b0
                         try clear c42b1
                         try clear c43
                         try clear c43b0
                         try clear c44
                         try clear c44b0
                         try clear p45
                         try clear q45
                         try clear hx45
                         try clear c46
                         try clear c46b0
                         try clear c46b1
                         try clear p1
                         try clear p10
                         try clear p2
                         try clear p20
                         try clear p28
                         try clear p3
                         try clear p31
                         try clear p33
                         try clear p38
                         try clear p4
                         try clear p40
                         try clear p45
                         try clear p5
                         try clear p6
                         try clear p8
                         try clear q1
                         try clear q10
                         try clear q2
                         try clear q20
                         try clear q28
                         try clear q3
                         try clear q31
                         try clear q33
                         try clear q38
                         try clear q4
                         try clear q40
                         try clear q45
                         try clear q5
                         try clear q8
                         obtain ⟨x6_7, x7_7, rfl, rfl, HA, HK7, ⟨m7, rfl⟩⟩ := hrel
                         cases gk with
                         | zero => exact absurd HA.out (by simp [gjson_parseQuery.l1])
                         | succ k7 =>
                          have H := HA.out
                          clear HA
                          simp only [gjson_parseQuery.l1] at H
                          by_cases c47 : x6_7 < (a0.size : Int)
                          ·
                           rw [if_pos c47] at H
                           have c47b0 : decide (x6_7 < (a0.size : Int)) = true := decide_eq_true c47
                           clear c47
                           by_cases c48 : 0 ≤ x6_7
                           ·
                            rw [if_pos c48] at H
                            have c48b0 : decide (0 ≤ x6_7) = true := decide_eq_true c48
                            clear c48
                            by_cases c50 : (bt a0 x6_7) = 92
                            ·
                             rw [if_pos c50] at H
                             have c50b0 : ((bt a0 x6_7) == 92) = true := beq_iff_eq.mpr c50
                             have c50b1 : ((bt a0 x6_7) != 92) = false := bne_eq_false_iff_eq.mpr c50
                             clear c50
                             as_aux_lemma =>
                              have H' := Aside0.mk H
                              clear H
                              have p49 : 0 ≤ (x6_7 : Int) := of_decide_eq_true (by first | (with_reducible assumption) | assumption)
                              have q49 : x6_7 < (a0.size : Int) := of_decide_eq_true (by first | (with_reducible assumption) | assumption)
                              have hx49 := bt_at a0 x6_7
                              replace p49 := eq_true p49
                              replace q49 := eq_true q49
                              go_wp2
                              go_roundg k7
                              case measure => have := HJ1.out; have := HK2.out; have := HJ13.out; have := HJ15.out; have := HJ29.out; have := HJ34.out; have := HK7.out; omega
                              case rel => exact ⟨(wrap64 ((wrap64 (x6_7 + 1)) + 1)), (true), (by first | rfl | (simp; done) | (simp [nil_ne_, nil_eq_]; done) | (simp [*]; done)), (by first | rfl | (simp; done) | (simp [nil_ne_, nil_eq_]; done) | (simp [*]; done)), H', ⟨by have := HJ1.out; have := HK2.out; have := HJ13.out; have := HJ15.out; have := HJ29.out; have := HJ34.out; have := HK7.out; omega⟩, by repeat (first | exact Drawn0.refl _ | apply Drawn0.step)⟩
                            ·
                             rw [if_neg c50] at H
                             have c50b0 : ((bt a0 x6_7) == 92) = false := beq_eq_false_iff_ne.mpr c50
                             have c50b1 : ((bt a0 x6_7) != 92) = true := bne_iff_ne.mpr c50
                             by_cases c52 : (bt a0 x6_7) = 34
                             ·
                              rw [if_pos c52] at H
                              have c52b0 : ((bt a0 x6_7) == 34) = true := beq_iff_eq.mpr c52
                              have c52b1 : ((bt a0 x6_7) != 34) = false := bne_eq_false_iff_eq.mpr c52
                              clear c52
                              as_aux_lemma =>
                               have H' := Aside0.mk H
                               clear H
                               have p49 : 0 ≤ (x6_7 : Int) := of_decide_eq_true (by first | (with_reducible assumption) | assumption)
                               have q49 : x6_7 < (a0.size : Int) := of_decide_eq_true (by first | (with_reducible assumption) | assumption)
                               have hx49 := bt_at a0 x6_7
                               replace p49 := eq_true p49
                               replace q49 := eq_true q49
                               have p51 : 0 ≤ (x6_7 : Int) := of_decide_eq_true (by first | (with_reducible assumption) | assumption)
                               have q51 : x6_7 < (a0.size : Int) := of_decide_eq_true (by first | (with_reducible assumption) | assumption)
                               have hx51 := bt_at a0 x6_7
                               replace p51 := eq_true p51
                               replace q51 := eq_true q51
                               go_wp2
                               go_roundg k7
                               case measure => have := HJ1.out; have := HK2.out; have := HJ13.out; have := HJ15.out; have := HJ29.out; have := HJ34.out; have := HK7.out; omega
                               case rel => exact ⟨(wrap64 (x6_7 + 1)), (x7_7), (x9_15), (x10_2), (by first | rfl | (simp; done) | (simp [nil_ne_, nil_eq_]; done) | (simp [*]; done)), (by first | rfl | (simp; done) | (simp [nil_ne_, nil_eq_]; done) | (simp [*]; done)), (by first | rfl | (simp; done) | (simp [nil_ne_, nil_eq_]; done) | (simp [*]; done)), (by first | rfl | (simp; done) | (simp [nil_ne_, nil_eq_]; done) | (simp [*]; done)), H', ⟨by have := HJ1.out; have := HK2.out; have := HJ13.out; have := HJ15.out; have := HJ29.out; have := HJ34.out; have := HK7.out; omega⟩, by repeat (first | exact Drawn0.refl _ | apply Drawn0.step)⟩
                             ·
                              rw [if_neg c52] at H
                              have c52b0 : ((bt a0 x6_7) == 34) = false := beq_eq_false_iff_ne.mpr c52
                              have c52b1 : ((bt a0 x6_7) != 34) = true := bne_iff_ne.mpr c52
                              as_aux_lemma =>
                               have H' := Aside0.mk H
                               clear H
                               have p49 : 0 ≤ (x6_7 : Int) := of_decide_eq_true (by first | (with_reducible assumption) | assumption)
                               have q49 : x6_7 < (a0.size : Int) := of_decide_eq_true (by first | (with_reducible assumption) | assumption)
                               have hx49 := bt_at a0 x6_7
                               replace p49 := eq_true p49
                               replace q49 := eq_true q49
                               have p51 : 0 ≤ (x6_7 : Int) := of_decide_eq_true (by first | (with_reducible assumption) | assumption)
                               have q51 : x6_7 < (a0.size : Int) := of_decide_eq_true (by first | (with_reducible assumption) | assumption)
                               have hx51 := bt_at a0 x6_7
                               replace p51 := eq_true p51
                               replace q51 := eq_true q51
                               go_wp2
                               go_roundg k7
                               case measure => have := HJ1.out; have := HK2.out; have := HJ13.out; have := HJ15.out; have := HJ29.out; have := HJ34.out; have := HK7.out; omega
                               case rel => exact ⟨(wrap64 (x6_7 + 1)), (x7_7), (by first | rfl | (simp; done) | (simp [nil_ne_, nil_eq_]; done) | (simp [*]; done)), (by first | rfl | (simp; done) | (simp [nil_ne_, nil_eq_]; done) | (simp [*]; done)), H', ⟨by have := HJ1.out; have := HK2.out; have := HJ13.out; have := HJ15.out; have := HJ29.out; have := HJ34.out; have := HK7.out; omega⟩, by repeat (first | exact Drawn0.refl _ | apply Drawn0.step)⟩
                           ·
                            rw [if_neg c48] at H
                            exact absurd H (by simp)
                          ·
                           rw [if_neg c47] at H
                           have c47b0 : decide (x6_7 < (a0.size : Int)) = false := decide_eq_false c47
                           clear c47
                           as_aux_lemma =>
                            have H' := Aside0.mk H
                            clear H
                            go_wp2
                            go_roundg k7
                            case measure => have := HJ1.out; have := HK2.out; have := HJ13.out; have := HJ15.out; have := HJ29.out; have := HJ34.out; have := HK7.out; omega
                            case rel => exact ⟨(wrap64 (x6_7 + 1)), (x7_7), (x9_15), (x10_2), (by first | rfl | (simp; done) | (simp [nil_ne_, nil_eq_]; done) | (simp [*]; done)), (by first | rfl | (simp; done) | (simp [nil_ne_, nil_eq_]; done) | (simp [*]; done)), (by first | rfl | (simp; done) | (simp [nil_ne_, nil_eq_]; done) | (simp [*]; done)), (by first | rfl | (simp; done) | (simp [nil_ne_, nil_eq_]; done) | (simp [*]; done)), H', ⟨by have := HJ1.out; have := HK2.out; have := HJ13.out; have := HJ15.out; have := HJ29.out; have := HJ34.out; have := HK7.out; omega⟩, by repeat (first | exact Drawn0.refl _ | apply Drawn0.step)⟩
                       ·
                        rw [if_neg c46] at H
                        have c46b0 : ((bt a0 x6_2) == 34) = false := beq_eq_false_iff_ne.mpr c46
                        have c46b1 : ((bt a0 x6_2) != 34) = true := bne_iff_ne.mpr c46
                        as_aux_lemma =>
                         have H' := Aside0.mk H
                         clear H
                         have p45 : 0 ≤ (x6_2 : Int) := of_decide_eq_true (by first | (with_reducible assumption) | assumption)
                         have q45 : x6_2 < (a0.size : Int) := of_decide_eq_true (by first | (with_reducible assumption) | assumption)
                         have hx45 := bt_at a0 x6_2
                         replace p45 := eq_true p45
                         replace q45 := eq_true q45
                         go_wp2
                         go_roundg kj34
                         case measure => have := HJ1.out; have := HK2.out; have := HJ13.out; have := HJ15.out; have := HJ29.out; have := HJ34.out; omega
                         case rel => exact ⟨(wrap64 (x6_2 + 1)), (x7_2), (x9_15), (x10_2), (by first | rfl | (simp; done) | (simp [nil_ne_, nil_eq_]; done) | (simp [*]; done)), (by first | rfl | (simp; done) | (simp [nil_ne_, nil_eq_]; done) | (simp [*]; done)), (by first | rfl | (simp; done) | (simp [nil_ne_, nil_eq_]; done) | (simp [*]; done)), (by first | rfl | (simp; done) | (simp [nil_ne_, nil_eq_]; done) | (simp [*]; done)), H', ⟨by have := HJ1.out; have := HK2.out; have := HJ13.out; have := HJ15.out; have := HJ29.out; have := HJ34.out; omega⟩, by repeat (first | exact Drawn0.refl _ | apply Drawn0.step)⟩
                      ·
                       rw [if_neg c44] at H
                       exact absurd H (by simp)
                     ·
                      rw [if_neg c43] at H
                      exact absurd H (by simp)
             ·
              rw [if_neg c27] at H
              exact absurd H (by simp)
            ·
             rw [if_neg c26] at H
             exact absurd H (by simp)
       ·
        rw [if_neg c13] at H
        have c13b0 : decide (x6_2 < (a0.size : Int)) = false := decide_eq_false c13
        clear c13
        (first | rw [c13b0] | (simp only [i64_w, i32_w]; rw [c13b0]) | skip)
        as_aux_lemma =>
         have H' := Aside0.mk H
         clear H
         go_wp2
         go_meet
         case rel => exact ⟨_, (x6_2), (x7_2), (x9_2), (x10_2), (by first | rfl | (simp; done) | (simp [nil_ne_, nil_eq_]; done) | (simp [*]; done)), (by first | rfl | (simp; done) | (simp [nil_ne_, nil_eq_]; done) | (simp [*]; done)), (by first | rfl | (simp; done) | (simp [nil_ne_, nil_eq_]; done) | (simp [*]; done)), (by first | rfl | (simp; done) | (simp [nil_ne_, nil_eq_]; done) | (simp [*]; done)), H', ⟨by have := HJ1.out; have := HK2.out; first | omega | exact Nat.le_refl _⟩, by repeat (first | exact Drawn0.refl _ | apply Drawn0.step)⟩
    case rest => as_aux_lemma =>
     clear HC12
     try clear c1
     try clear p1
     try clear q1
     try clear hx1
     try clear qi1
     try clear c2
     try clear p2
     try clear q2
     try clear hx2
     try clear c3
     try clear c3b0
     try clear c3b1
     try clear p3
     try clear q3
     try clear hx3
     try clear c4
     try clear c4b0
     try clear c4b1
     try clear p4
     try clear q4
     try clear hx4
     try clear c5
     try clear p5
     try clear q5
     try clear hx5
     try clear qi5
     try clear c6
     try clear c6b0
     try clear c6b1
     try clear p6
     try clear c7
     try clear c7b0
     try clear c7b1
     try clear p8
     try clear q8
     try clear hx8
     try clear qi8
     try clear c9
     try clear c9b0
     try clear c9b1
     try clear p10
     try clear q10
     try clear hx10
     try clear qi10
     try clear c11
     try clear c13
     try clear c13b0
     try clear c15
     try clear c15b0
     try clear c15b1
     try clear c17
     try clear c18
     try clear c18b0
     try clear c19
     try clear c19b0
     try clear p20
     try clear q20
     try clear hx20
     try clear c21
     try clear c21b0
     try clear c21b1
     try clear c22
     try clear c22b0
     try clear c22b1
     try clear c23
     try clear c23b0
     try clear c23b1
     try clear c24
     try clear c24b0
     try clear c24b1
     try clear c25
     try clear c25b0
     try clear c25b1
     try clear c26
     try clear c26b0
     try clear c27
     try clear c27b0
     try clear p28
     try clear q28
     try clear hx28
     try clear c29
     try clear c29b0
     try clear c29b1
     try clear p31
     try clear q31
     try clear hx31
     try clear c32
     try clear c32b0
     try clear c32b1
     try clear p33
     try clear q33
     try clear hx33
     try clear c34
     try clear c36
     try clear c36b0
     try clear c37
     try clear c37b0
     try clear p38
     try clear q38
     try clear hx38
     try clear c39
     try clear c39b0
     try clear c39b1
     try clear p40
     try clear q40
     try clear hx40
     try clear c41
     try clear c42
     try clear c42b0
     try clear c42b1
     try clear c43
     try clear c43b0
     try clear c44
     try clear c44b0
     try clear p45
     try clear q45
     try clear hx45
     try clear c46
     try clear c46b0
     try clear c46b1
     try clear c47
     try clear c47b0
     try clear c48
     try clear c48b0
     try clear p49
     try clear q49
     try clear hx49
     try clear c50
     try clear c50b0
     try clear c50b1
     try clear p51
     try clear q51
     try clear hx51
     try clear c52
     try clear c52b0
     try clear c52b1
     try clear p1
     try clear p10
     try clear p2
     try clear p20
     try clear p28
     try clear p3
     try clear p31
     try clear p33
     try clear p38
     try clear p4
     try clear p40
     try clear p45
     try clear p49
     try clear p5
     try clear p51
     try clear p6
     try clear p8
     try clear q1
     try clear q10
     try clear q2
     try clear q20
     try clear q28
     try clear q3
     try clear q31
     try clear q33
     try clear q38
     try clear q4
     try clear q40
     try clear q45
     try clear q49
     try clear q5
     try clear q51
     try clear q8
     obtain ⟨kq, x6_11, x7_11, x9_11, x10_11, rfl, rfl, rfl, rfl, HA, HJ11, ⟨mc11, rfl⟩⟩ := hcut
     cases kq with
     | zero => exact absurd HA.out (by simp [gjson_parseQuery.j7])
     | succ kj11 =>
      have H := HA.out
      clear HA
      simp only [gjson_parseQuery.j7] at H
      by_cases c53 : x10_11 > 0
      ·
       rw [if_pos c53] at H
       have c53b0 : decide (0 < x10_11) = true := decide_eq_true c53
       clear c53
       as_aux_lemma =>
        simp only [Option.some.injEq, Prod.mk.injEq] at H
        obtain ⟨rfl, rfl, rfl, rfl, rfl, rfl, rfl⟩ := H
        go_wp2
        refine bodyPost_ret (results_list (rs := [.tmp 2, .tmp 3, .tmp 4, .tmp 5, .tmp 6, .tmp 7, .tmp 8]) rfl (by simp) (.tmp (.tmp (.tmp (.tmp (.tmp (.tmp (.tmp .nil)))))))) rfl ?_
        exact ⟨by first | rfl | (simp; done) | (simp [nil_ne_, nil_eq_]; done) | (simp [*]; done), by repeat (first | exact Drawn0.refl _ | apply Drawn0.step)⟩
      ·
       rw [if_neg c53] at H
       have c53b0 : decide (0 < x10_11) = false := decide_eq_false c53
       clear c53
       by_cases c54 : x9_11 > 0
       ·
        rw [if_pos c54] at H
        have c54b0 : decide (0 < x9_11) = true := decide_eq_true c54
        clear c54
        by_cases c55 : 2 ≤ x9_11
        ·
         rw [if_pos c55] at H
         have c55b0 := eq_true c55
         have c55b1 : decide (2 ≤ x9_11) = true := decide_eq_true c55
         clear c55
         by_cases c56 : x9_11 ≤ (a0.size : Int)
         ·
          rw [if_pos c56] at H
          have c56b0 := eq_true c56
          have c56b1 : decide (x9_11 ≤ (a0.size : Int)) = true := decide_eq_true c56
          clear c56
          obtain ⟨js57, hjs57⟩ : ∃ j_ : ByteArray, (a0.extract 2 (x9_11 : Int).toNat) = j_ := ⟨_, rfl⟩
          skip
          replace H : ((gjson_trim.f kj11 js57).bind fun t101 => (if 0 ≤ x9_11 then (if x9_11 ≤ x6_11 then (if x6_11 ≤ (a0.size : Int) then ((gjson_trim.f kj11 (a0.extract (x9_11 : Int).toNat (x6_11 : Int).toNat)).bind fun t102 => (if 0 ≤ (wrap64 (x6_11 + 1)) then (if (wrap64 (x6_11 + 1)) ≤ (a0.size : Int) then (if (t102.size : Int) = 1 then (if 0 ≤ 1 then (if 1 ≤ (t102.size : Int) then ((gjson_trim.f kj11 (t102.extract 1 t102.size)).bind fun t103 => (some (t101, t102.extract 0 1, t103, a0.extract ((wrap64 (x6_11 + 1)) : Int).toNat a0.size, wrap64 (x6_11 + 1), x7_11, true))) else (none)) else (none)) else (if 0 < (t102.size : Int) then (if (bt t102 0) = 33 then (if 1 < (t102.size : Int) then (gjson_parseQuery.j8 kj11 t101 t102 (a0.extract ((wrap64 (x6_11 + 1)) : Int).toNat a0.size) x6_11 x7_11 0 ((bt t102 1) == 61)) else (none)) else (gjson_parseQuery.j8 kj11 t101 t102 (a0.extract ((wrap64 (x6_11 + 1)) : Int).toNat a0.size) x6_11 x7_11 0 false)) else (none))) else (none)) else (none))) else (none)) else (none)) else (none))) = some (r1, r2, r3, r4, r5, r6, r7) := by first | (rw [hjs57] at H; exact H) | (simp only [hjs57] at H ⊢; exact H)
          replace H := Option.bind_eq_some_iff.mp H
          obtain ⟨t101, A580, H⟩ := H
          replace H : (if 0 ≤ x9_11 then (if x9_11 ≤ x6_11 then (if x6_11 ≤ (a0.size : Int) then ((gjson_trim.f kj11 (a0.extract (x9_11 : Int).toNat (x6_11 : Int).toNat)).bind fun t102 => (if 0 ≤ (wrap64 (x6_11 + 1)) then (if (wrap64 (x6_11 + 1)) ≤ (a0.size : Int) then (if (t102.size : Int) = 1 then (if 0 ≤ 1 then (if 1 ≤ (t102.size : Int) then ((gjson_trim.f kj11 (t102.extract 1 t102.size)).bind fun t103 => (some (t101, t102.extract 0 1, t103, a0.extract ((wrap64 (x6_11 + 1)) : Int).toNat a0.size, wrap64 (x6_11 + 1), x7_11, true))) else (none)) else (none)) else (if 0 < (t102.size : Int) then (if (bt t102 0) = 33 then (if 1 < (t102.size : Int) then (gjson_parseQuery.j8 kj11 t101 t102 (a0.extract ((wrap64 (x6_11 + 1)) : Int).toNat a0.size) x6_11 x7_11 0 ((bt t102 1) == 61)) else (none)) else (gjson_parseQuery.j8 kj11 t101 t102 (a0.extract ((wrap64 (x6_11 + 1)) : Int).toNat a0.size) x6_11 x7_11 0 false)) else (none))) else (none)) else (none))) else (none)) else (none)) else (none)) = some (r1, r2, r3, r4, r5, r6, r7) := H
          have A58 := Aside0.mk A580
          clear A580
          by_cases c59 : 0 ≤ x9_11
          ·
           rw [if_pos c59] at H
           have c59b0 := eq_true c59
           have c59b1 : decide (0 ≤ x9_11) = true := decide_eq_true c59
           clear c59
           by_cases c60 : x9_11 ≤ x6_11
           ·
            rw [if_pos c60] at H
            have c60b0 := eq_true c60
            have c60b1 : decide (x9_11 ≤ x6_11) = true := decide_eq_true c60
            clear c60
            by_cases c61 : x6_11 ≤ (a0.size : Int)
            ·
             rw [if_pos c61] at H
             have c61b0 := eq_true c61
             have c61b1 : decide (x6_11 ≤ (a0.size : Int)) = true := decide_eq_true c61
             clear c61
             obtain ⟨js62, hjs62⟩ : ∃ j_ : ByteArray, (a0.extract (x9_11 : Int).toNat (x6_11 : Int).toNat) = j_ := ⟨_, rfl⟩
             skip
             replace H : ((gjson_trim.f kj11 js62).bind fun t102 => (if 0 ≤ (wrap64 (x6_11 + 1)) then (if (wrap64 (x6_11 + 1)) ≤ (a0.size : Int) then (if (t102.size : Int) = 1 then (if 0 ≤ 1 then (if 1 ≤ (t102.size : Int) then ((gjson_trim.f kj11 (t102.extract 1 t102.size)).bind fun t103 => (some (t101, t102.extract 0 1, t103, a0.extract ((wrap64 (x6_11 + 1)) : Int).toNat a0.size, wrap64 (x6_11 + 1), x7_11, true))) else (none)) else (none)) else (if 0 < (t102.size : Int) then (if (bt t102 0) = 33 then (if 1 < (t102.size : Int) then (gjson_parseQuery.j8 kj11 t101 t102 (a0.extract ((wrap64 (x6_11 + 1)) : Int).toNat a0.size) x6_11 x7_11 0 ((bt t102 1) == 61)) else (none)) else (gjson_parseQuery.j8 kj11 t101 t102 (a0.extract ((wrap64 (x6_11 + 1)) : Int).toNat a0.size) x6_11 x7_11 0 false)) else (none))) else (none)) else (none))) = some (r1, r2, r3, r4, r5, r6, r7) := by first | (rw [hjs62] at H; exact H) | (simp only [hjs62] at H ⊢; exact H)
             replace H := Option.bind_eq_some_iff.mp H
             obtain ⟨t102, A630, H⟩ := H
             replace H : (if 0 ≤ (wrap64 (x6_11 + 1)) then (if (wrap64 (x6_11 + 1)) ≤ (a0.size : Int) then (if (t102.size : Int) = 1 then (if 0 ≤ 1 then (if 1 ≤ (t102.size : Int) then ((gjson_trim.f kj11 (t102.extract 1 t102.size)).bind fun t103 => (some (t101, t102.extract 0 1, t103, a0.extract ((wrap64 (x6_11 + 1)) : Int).toNat a0.size, wrap64 (x6_11 + 1), x7_11, true))) else (none)) else (none)) else (if 0 < (t102.size : Int) then (if (bt t102 0) = 33 then (if 1 < (t102.size : Int) then (gjson_parseQuery.j8 kj11 t101 t102 (a0.extract ((wrap64 (x6_11 + 1)) : Int).toNat a0.size) x6_11 x7_11 0 ((bt t102 1) == 61)) else (none)) else (gjson_parseQuery.j8 kj11 t101 t102 (a0.extract ((wrap64 (x6_11 + 1)) : Int).toNat a0.size) x6_11 x7_11 0 false)) else (none))) else (none)) else (none)) = some (r1, r2, r3, r4, r5, r6, r7) := H
             have A63 := Aside0.mk A630
             clear A630
             obtain ⟨ji64, hji64⟩ : ∃ j_ : Int, (wrap64 (x6_11 + 1)) = j_ := ⟨_, rfl⟩
             replace H : (if 0 ≤ (ji64) then (if (ji64) ≤ (a0.size : Int) then (if (t102.size : Int) = 1 then (if 0 ≤ 1 then (if 1 ≤ (t102.size : Int) then ((gjson_trim.f kj11 (t102.extract 1 t102.size)).bind fun t103 => (some (t101, t102.extract 0 1, t103, a0.extract ((ji64) : Int).toNat a0.size, ji64, x7_11, true))) else (none)) else (none)) else (if 0 < (t102.size : Int) then (if (bt t102 0) = 33 then (if 1 < (t102.size : Int) then (gjson_parseQuery.j8 kj11 t101 t102 (a0.extract ((ji64) : Int).toNat a0.size) x6_11 x7_11 0 ((bt t102 1) == 61)) else (none)) else (gjson_parseQuery.j8 kj11 t101 t102 (a0.extract ((ji64) : Int).toNat a0.size) x6_11 x7_11 0 false)) else (none))) else (none)) else (none)) = some (r1, r2, r3, r4, r5, r6, r7) := by first | (rw [hji64] at H; exact H) | (simp only [hji64] at H ⊢; exact H)
             (try rw [hji64] at A58)
             (try rw [hji64] at A63)
             have hji64w : (IntKind.i64.wrap (x6_11 + 1)) = ji64 := (i64_w _).trans hji64
             by_cases c65 : 0 ≤ (ji64)
             ·
              rw [if_pos c65] at H
              have c65b0 := eq_true c65
              have c65b1 : decide (0 ≤ (ji64)) = true := decide_eq_true c65
              clear c65
              by_cases c66 : (ji64) ≤ (a0.size : Int)
              ·
               rw [if_pos c66] at H
               have c66b0 := eq_true c66
               have c66b1 : decide ((ji64) ≤ (a0.size : Int)) = true := decide_eq_true c66
               clear c66
               obtain ⟨js67, hjs67⟩ : ∃ j_ : ByteArray, (a0.extract ((ji64) : Int).toNat a0.size) = j_ := ⟨_, rfl⟩
               skip
               replace H : (if (t102.size : Int) = 1 then (if 0 ≤ 1 then (if 1 ≤ (t102.size : Int) then ((gjson_trim.f kj11 (t102.extract 1 t102.size)).bind fun t103 => (some (t101, t102.extract 0 1, t103, js67, ji64, x7_11, true))) else (none)) else (none)) else (if 0 < (t102.size : Int) then (if (bt t102 0) = 33 then (if 1 < (t102.size : Int) then (gjson_parseQuery.j8 kj11 t101 t102 js67 x6_11 x7_11 0 ((bt t102 1) == 61)) else (none)) else (gjson_parseQuery.j8 kj11 t101 t102 js67 x6_11 x7_11 0 false)) else (none))) = some (r1, r2, r3, r4, r5, r6, r7) := by first | (rw [hjs67] at H; exact H) | (simp only [hjs67] at H ⊢; exact H)
               by_cases c68 : (t102.size : Int) = 1
               ·
                rw [if_pos c68] at H
                have c68b0 : ((t102.size : Int) == 1) = true := beq_iff_eq.mpr c68
                have c68b1 : ((t102.size : Int) != 1) = false := bne_eq_false_iff_eq.mpr c68
                clear c68
                by_cases c69 : 0 ≤ 1
                ·
                 rw [if_pos c69] at H
                 have c69b0 := eq_true c69
                 have c69b1 : decide (0 ≤ 1) = true := decide_eq_true c69
                 clear c69
                 by_cases c70 : 1 ≤ (t102.size : Int)
                 ·
                  rw [if_pos c70] at H
                  have c70b0 := eq_true c70
                  have c70b1 : decide (1 ≤ (t102.size : Int)) = true := decide_eq_true c70
                  clear c70
                  obtain ⟨js71, hjs71⟩ : ∃ j_ : ByteArray, (t102.extract 0 1) = j_ := ⟨_, rfl⟩
                  skip
                  replace H : ((gjson_trim.f kj11 (t102.extract 1 t102.size)).bind fun t103 => (some (t101, js71, t103, js67, ji64, x7_11, true))) = some (r1, r2, r3, r4, r5, r6, r7) := by first | (rw [hjs71] at H; exact H) | (simp only [hjs71] at H ⊢; exact H)
                  have c72b0 := eq_true (of_decide_eq_true (by first | (with_reducible assumption) | assumption) : 1 ≤ (t102.size : Int))
                  obtain ⟨js73, hjs73⟩ : ∃ j_ : ByteArray, (t102.extract 1 t102.size) = j_ := ⟨_, rfl⟩
                  skip
                  replace H : ((gjson_trim.f kj11 js73).bind fun t103 => (some (t101, js71, t103, js67, ji64, x7_11, true))) = some (r1, r2, r3, r4, r5, r6, r7) := by first | (rw [hjs73] at H; exact H) | (simp only [hjs73] at H ⊢; exact H)
                  replace H := Option.bind_eq_some_iff.mp H
                  obtain ⟨t103, A740, H⟩ := H
                  replace H : (some (t101, js71, t103, js67, ji64, x7_11, true)) = some (r1, r2, r3, r4, r5, r6, r7) := H
                  have A74 := Aside0.mk A740
                  clear A740
                  as_aux_lemma =>
                   simp only [Option.some.injEq, Prod.mk.injEq] at H
                   obtain ⟨rfl, rfl, rfl, rfl, rfl, rfl, rfl⟩ := H
                   go_wp2_with (first | ((with_reducible refine gate_callee (f := 52) rfl ?_); refine goesL_ (some 115) rfl rfl Try.func52 (by kernel_rfl) rfl #[.string js57] rfl (by (try simp only [List.map_toArray, List.map_cons, List.map_nil]); first | done | rfl | (simp only [List.length_drop, List.length_take]; rfl)) ?_; (with_reducible refine (gjson_trim.calls kj11 js57 t101 _ A58.out).mono ?_); rintro e w' ⟨rfl, ⟨nd, rfl⟩⟩; refine ⟨_, rfl, ?_⟩) | ((with_reducible refine gate_callee (f := 52) rfl ?_); refine goesL_ (some 120) rfl rfl Try.func52 (by kernel_rfl) rfl #[.string js62] rfl (by (try simp only [List.map_toArray, List.map_cons, List.map_nil]); first | done | rfl | (simp only [List.length_drop, List.length_take]; rfl)) ?_; (with_reducible refine (gjson_trim.calls kj11 js62 t102 _ A63.out).mono ?_); rintro e w' ⟨rfl, ⟨nd, rfl⟩⟩; refine ⟨_, rfl, ?_⟩) | ((with_reducible refine gate_callee (f := 52) rfl ?_); refine goesL_ (some 198) rfl rfl Try.func52 (by kernel_rfl) rfl #[.string js73] rfl (by (try simp only [List.map_toArray, List.map_cons, List.map_nil]); first | done | rfl | (simp only [List.length_drop, List.length_take]; rfl)) ?_; (with_reducible refine (gjson_trim.calls kj11 js73 t103 _ A74.out).mono ?_); rintro e w' ⟨rfl, ⟨nd, rfl⟩⟩; refine ⟨_, rfl, ?_⟩))
                   refine bodyPost_ret (results_list (rs := [.tmp 2, .tmp 3, .tmp 4, .tmp 5, .tmp 6, .tmp 7, .tmp 8]) rfl (by simp) (.tmp (.tmp (.tmp (.tmp (.tmp (.tmp (.tmp .nil)))))))) rfl ?_
                   exact ⟨by first | rfl | (simp; done) | (simp only [← hjs57, ← hjs62, ← hji64, ← hjs67, ← hjs71, ← hjs73] <;> (first | rfl | simp)) | (simp [nil_ne_, nil_eq_]; done) | (simp [*]; done), by repeat (first | exact Drawn0.refl _ | apply Drawn0.step)⟩
                 ·
                  rw [if_neg c70] at H
                  exact absurd H (by simp)
                ·
                 rw [if_neg c69] at H
                 exact absurd H (by simp)
               ·
                rw [if_neg c68] at H
                have c68b0 : ((t102.size : Int) == 1) = false := beq_eq_false_iff_ne.mpr c68
                have c68b1 : ((t102.size : Int) != 1) = true := bne_iff_ne.mpr c68
                have HC75 := Aside0.mk H
                clear H
                go_upto_region 40 with (first | ((with_reducible refine gate_callee (f := 52) rfl ?_); refine goesL_ (some 115) rfl rfl Try.func52 (by kernel_rfl) rfl #[.string js57] rfl (by (try simp only [List.map_toArray, List.map_cons, List.map_nil]); first | done | rfl | (simp only [List.length_drop, List.length_take]; rfl)) ?_; (with_reducible refine (gjson_trim.calls kj11 js57 t101 _ A58.out).mono ?_); rintro e w' ⟨rfl, ⟨nd, rfl⟩⟩; refine ⟨_, rfl, ?_⟩) | ((with_reducible refine gate_callee (f := 52) rfl ?_); refine goesL_ (some 120) rfl rfl Try.func52 (by kernel_rfl) rfl #[.string js62] rfl (by (try simp only [List.map_toArray, List.map_cons, List.map_nil]); first | done | rfl | (simp only [List.length_drop, List.length_take]; rfl)) ?_; (with_reducible refine (gjson_trim.calls kj11 js62 t102 _ A63.out).mono ?_); rintro e w' ⟨rfl, ⟨nd, rfl⟩⟩; refine ⟨_, rfl, ?_⟩))
                (try simp only [Act.put, List.setIfInBounds_toArray, List.set_cons_zero, List.set_cons_succ])
                go_cut [129] (fun v129 wc => ∃ (kq : Nat) (x129_74 : Bool), v129 = .bool x129_74 ∧ Aside0 (gjson_parseQuery.j8 kq t101 t102 js67 x6_11 x7_11 0 x129_74 = some (r1, r2, r3, r4, r5, r6, r7)) ∧ Aside0 (kq ≤ kj11) ∧ Drawn0 w wc)
                case first => as_aux_lemma =>
                 have H := HC75.out
                 clear HC75
                 by_cases c76 : 0 < (t102.size : Int)
                 ·
                  rw [if_pos c76] at H
                  have c76b0 : decide (0 < (t102.size : Int)) = true := decide_eq_true c76
                  have c76b1 : decide (0 < t102.size) = true := decide_eq_true (by omega)
                  clear c76
                  (first | rw [c76b0] | (simp only [i64_w, i32_w]; rw [c76b0]) | skip)
                  by_cases c78 : (bt t102 0) = 33
                  ·
                   rw [if_pos c78] at H
                   have c78b0 : ((bt t102 0) == 33) = true := beq_iff_eq.mpr c78
                   have c78b1 : ((bt t102 0) != 33) = false := bne_eq_false_iff_eq.mpr c78
                   clear c78
                   by_cases c79 : 1 < (t102.size : Int)
                   ·
                    rw [if_pos c79] at H
                    have c79b0 : decide (1 < (t102.size : Int)) = true := decide_eq_true c79
                    have c79b1 : decide (1 < t102.size) = true := decide_eq_true (by omega)
                    clear c79
                    as_aux_lemma =>
                     have H' := Aside0.mk H
                     clear H
                     have p77 : 0 ≤ (0 : Int) := (by omega)
                     have q77 : 0 < t102.size := (by have : (0 : Int) < (t102.size : Int) := of_decide_eq_true (by first | (with_reducible assumption) | assumption); omega)
                     have hx77 := bt_lit t102 0 0 rfl
                     clear p77
                     have qi77 : (0 < (t102.size : Int)) = True := eq_true (of_decide_eq_true (by first | (with_reducible assumption) | assumption))
                     replace q77 := eq_true q77
                     have p80 : 0 ≤ (1 : Int) := (by omega)
                     have q80 : 1 < t102.size := (by have : (1 : Int) < (t102.size : Int) := of_decide_eq_true (by first | (with_reducible assumption) | assumption); omega)
                     have hx80 := bt_lit t102 1 1 rfl
                     clear p80
                     have qi80 : (1 < (t102.size : Int)) = True := eq_true (of_decide_eq_true (by first | (with_reducible assumption) | assumption))
                     replace q80 := eq_true q80
                     go_wp2
                     go_meet
                     case rel => exact ⟨_, (((bt t102 1) == 61)), (by first | rfl | (simp; done) | (simp [nil_ne_, nil_eq_]; done) | (simp [*]; done)), (by first | exact H' | (rw [hjs67]; exact H') | (simp only [hjs57, hjs62, hji64, hjs67]; exact H') | (simp only [hjs57, hjs62, hji64, hjs67] at H' ⊢; exact H')), ⟨by have := HJ1.out; have := HJ11.out; first | omega | exact Nat.le_refl _⟩, by repeat (first | exact Drawn0.refl _ | apply Drawn0.step)⟩
                   ·
                    rw [if_neg c79] at H
                    exact absurd H (by simp)
                  ·
                   rw [if_neg c78] at H
                   have c78b0 : ((bt t102 0) == 33) = false := beq_eq_false_iff_ne.mpr c78
                   have c78b1 : ((bt t102 0) != 33) = true := bne_iff_ne.mpr c78
                   as_aux_lemma =>
                    have H' := Aside0.mk H
                    clear H
                    have p77 : 0 ≤ (0 : Int) := (by omega)
                    have q77 : 0 < t102.size := (by have : (0 : Int) < (t102.size : Int) := of_decide_eq_true (by first | (with_reducible assumption) | assumption); omega)
                    have hx77 := bt_lit t102 0 0 rfl
                    clear p77
                    have qi77 : (0 < (t102.size : Int)) = True := eq_true (of_decide_eq_true (by first | (with_reducible assumption) | assumption))
                    replace q77 := eq_true q77
                    go_wp2
                    go_meet
                    case rel => exact ⟨_, (false), (by first | rfl | (simp; done) | (simp [nil_ne_, nil_eq_]; done) | (simp [*]; done)), (by first | exact H' | (rw [hjs67]; exact H') | (simp only [hjs57, hjs62, hji64, hjs67]; exact H') | (simp only [hjs57, hjs62, hji64, hjs67] at H' ⊢; exact H')), ⟨by have := HJ1.out; have := HJ11.out; first | omega | exact Nat.le_refl _⟩, by repeat (first | exact Drawn0.refl _ | apply Drawn0.step)⟩
                 ·
                  rw [if_neg c76] at H
                  exact absurd H (by simp)
                case rest => as_aux_lemma =>
                 clear HC75
                 try clear c1
                 try clear p1
                 try clear q1
                 try clear hx1
                 try clear qi1
                 try clear c2
                 try clear p2
                 try clear q2
                 try clear hx2
                 try clear c3
                 try clear c3b0
                 try clear c3b1
                 try clear p3
                 try clear q3
                 try clear hx3
                 try clear c4
                 try clear c4b0
                 try clear c4b1
                 try clear p4
                 try clear q4
                 try clear hx4
                 try clear c5
                 try clear p5
                 try clear q5
                 try clear hx5
                 try clear qi5
                 try clear c6
                 try clear c6b0
                 try clear c6b1
                 try clear p6
                 try clear c7
                 try clear c7b0
                 try clear c7b1
                 try clear p7
                 try clear q7
                 try clear hx7
                 try clear qi7
                 try clear p8
                 try clear q8
                 try clear hx8
                 try clear qi8
                 try clear c9
                 try clear c9b0
                 try clear c9b1
                 try clear p10
                 try clear q10
                 try clear hx10
                 try clear qi10
                 try clear c11
                 try clear c13
                 try clear c13b0
                 try clear c15
                 try clear c15b0
                 try clear c15b1
                 try clear c17
                 try clear c18
                 try clear c18b0
                 try clear c19
                 try clear c19b0
                 try clear p20
                 try clear q20
                 try clear hx20
                 try clear c21
                 try clear c21b0
                 try clear c21b1
                 try clear c22
                 try clear c22b0
                 try clear c22b1
                 try clear c23
                 try clear c23b0
                 try clear c23b1
                 try clear c24
                 try clear c24b0
                 try clear c24b1
                 try clear c25
                 try clear c25b0
                 try clear c25b1
                 try clear c26
                 try clear c26b0
                 try clear c27
                 try clear c27b0
                 try clear p28
                 try clear q28
                 try clear hx28
                 try clear c29
                 try clear c29b0
                 try clear c29b1
                 try clear p31
                 try clear q31
                 try clear hx31
                 try clear c32
                 try clear c32b0
                 try clear c32b1
                 try clear p33
                 try clear q33
                 try clear hx33
                 try clear c34
                 try clear c36
                 try clear c36b0
                 try clear c37
                 try clear c37b0
                 try clear p38
                 try clear q38
                 try clear hx38
                 try clear c39
                 try clear c39b0
                 try clear c39b1
                 try clear p40
                 try clear q40
                 try clear hx40
                 try clear c41
                 try clear c42
                 try clear c42b0
                 try clear c42b1
                 try clear c43
                 try clear c43b0
                 try clear c44
                 try clear c44b0
                 try clear p45
                 try clear q45
                 try clear hx45
                 try clear c46
                 try clear c46b0
                 try clear c46b1
                 try clear c47
                 try clear c47b0
                 try clear c48
                 try clear c48b0
                 try clear p49
                 try clear q49
                 try clear hx49
                 try clear c50
                 try clear c50b0
                 try clear c50b1
                 try clear p51
                 try clear q51
                 try clear hx51
                 try clear c52
                 try clear c52b0
                 try clear c52b1
                 try clear c53
                 try clear c53b0
                 try clear c54
                 try clear c54b0
                 try clear c55
                 try clear c55b0
                 try clear c55b1
                 try clear c56
                 try clear c56b0
                 try clear c56b1
                 try clear c59
                 try clear c59b0
                 try clear c59b1
                 try clear c60
                 try clear c60b0
                 try clear c60b1
                 try clear c61
                 try clear c61b0
                 try clear c61b1
                 try clear p64
                 try clear c65
                 try clear c65b0
                 try clear c65b1
                 try clear c66
                 try clear c66b0
                 try clear c66b1
                 try clear c68
                 try clear c68b0
                 try clear c68b1
                 try clear c69
                 try clear c69b0
                 try clear c69b1
                 try clear c70
                 try clear c70b0
                 try clear c70b1
                 try clear c72
                 try clear c72b0
                 try clear c76
                 try clear c76b0
                 try clear c76b1
                 try clear p77
                 try clear q77
                 try clear hx77
                 try clear qi77
                 try clear c78
                 try clear c78b0
                 try clear c78b1
                 try clear c79
                 try clear c79b0
                 try clear c79b1
                 try clear p80
                 try clear q80
                 try clear hx80
                 try clear qi80
                 try clear p1
                 try clear p10
                 try clear p2
                 try clear p20
                 try clear p28
                 try clear p3
                 try clear p31
                 try clear p33
                 try clear p38
                 try clear p4
                 try clear p40
                 try clear p45
                 try clear p49
                 try clear p5
                 try clear p51
                 try clear p6
                 try clear p77
                 try clear p8
                 try clear p80
                 try clear q1
                 try clear q10
                 try clear q2
                 try clear q20
                 try clear q28
                 try clear q3
                 try clear q31
                 try clear q33
                 try clear q38
                 try clear q4
                 try clear q40
                 try clear q45
                 try clear q49
                 try clear q5
                 try clear q51
                 try clear q77
                 try clear q8
                 try clear q80
                 obtain ⟨kq, x129_74, rfl, HA, HJ74, ⟨mc74, rfl⟩⟩ := hcut
                 cases kq with
                 | zero => exact absurd HA.out (by simp [gjson_parseQuery.j8])
                 | succ kj74 =>
                  have H := HA.out
                  clear HA
                  simp only [gjson_parseQuery.j8] at H
                  by_cases c81 : x129_74 = true
                  ·
                   subst c81
                   have H1 : (if 0 ≤ 2 then (if 2 ≤ (t102.size : Int) then ((gjson_trim.f kj74 (t102.extract 2 t102.size)).bind fun t104 => (some (t101, t102.extract 0 2, t104, js67, wrap64 (x6_11 + 1), x7_11, true))) else (none)) else (none)) = some (r1, r2, r3, r4, r5, r6, r7) := by rw [if_pos rfl] at H; exact H
                   clear H
                   have H := H1
                   clear H1
                   by_cases c82 : 0 ≤ 2
                   ·
                    rw [if_pos c82] at H
                    have c82b0 := eq_true c82
                    have c82b1 : decide (0 ≤ 2) = true := decide_eq_true c82
                    clear c82
                    by_cases c83 : 2 ≤ (t102.size : Int)
                    ·
                     rw [if_pos c83] at H
                     have c83b0 := eq_true c83
                     have c83b1 : decide (2 ≤ (t102.size : Int)) = true := decide_eq_true c83
                     clear c83
                     obtain ⟨js84, hjs84⟩ : ∃ j_ : ByteArray, (t102.extract 0 2) = j_ := ⟨_, rfl⟩
                     skip
                     replace H : ((gjson_trim.f kj74 (t102.extract 2 t102.size)).bind fun t104 => (some (t101, js84, t104, js67, wrap64 (x6_11 + 1), x7_11, true))) = some (r1, r2, r3, r4, r5, r6, r7) := by first | (rw [hjs84] at H; exact H) | (simp only [hjs84] at H ⊢; exact H)
                     have c85b0 := eq_true (of_decide_eq_true (by first | (with_reducible assumption) | assumption) : 2 ≤ (t102.size : Int))
                     obtain ⟨js86, hjs86⟩ : ∃ j_ : ByteArray, (t102.extract 2 t102.size) = j_ := ⟨_, rfl⟩
                     skip
                     replace H : ((gjson_trim.f kj74 js86).bind fun t104 => (some (t101, js84, t104, js67, wrap64 (x6_11 + 1), x7_11, true))) = some (r1, r2, r3, r4, r5, r6, r7) := by first | (rw [hjs86] at H; exact H) | (simp only [hjs86] at H ⊢; exact H)
                     replace H := Option.bind_eq_some_iff.mp H
                     obtain ⟨t104, A870, H⟩ := H
                     replace H : (some (t101, js84, t104, js67, wrap64 (x6_11 + 1), x7_11, true)) = some (r1, r2, r3, r4, r5, r6, r7) := H
                     have A87 := Aside0.mk A870
                     clear A870
                     as_aux_lemma =>
                      simp only [Option.some.injEq, Prod.mk.injEq] at H
                      obtain ⟨rfl, rfl, rfl, rfl, rfl, rfl, rfl⟩ := H
                      go_wp2_with (first | ((with_reducible refine gate_callee (f := 52) rfl ?_); refine goesL_ (some 198) rfl rfl Try.func52 (by kernel_rfl) rfl #[.string js86] rfl (by (try simp only [List.map_toArray, List.map_cons, List.map_nil]); first | done | rfl | (simp only [List.length_drop, List.length_take]; rfl)) ?_; (with_reducible refine (gjson_trim.calls kj74 js86 t104 _ A87.out).mono ?_); rintro e w' ⟨rfl, ⟨nd, rfl⟩⟩; refine ⟨_, rfl, ?_⟩))
                      refine bodyPost_ret (results_list (rs := [.tmp 2, .tmp 3, .tmp 4, .tmp 5, .tmp 6, .tmp 7, .tmp 8]) rfl (by simp) (.tmp (.tmp (.tmp (.tmp (.tmp (.tmp (.tmp .nil)))))))) rfl ?_
                      exact ⟨by first | rfl | (simp; done) | (simp only [← hjs57, ← hjs62, ← hji64, ← hjs67, ← hjs84, ← hjs86] <;> (first | rfl | simp)) | (simp [nil_ne_, nil_eq_]; done) | (simp [*]; done), by repeat (first | exact Drawn0.refl _ | apply Drawn0.step)⟩
                    ·
                     rw [if_neg c83] at H
                     exact absurd H (by simp)
                   ·
                    rw [if_neg c82] at H
                    exact absurd H (by simp)
                  ·
                   replace c81 := Bool.eq_false_iff.mpr c81
                   subst c81
                   have H1 : (if 0 < (t102.size : Int) then (if (bt t102 0) = 33 then (if 1 < (t102.size : Int) then (gjson_parseQuery.j9 kj74 t101 t102 js67 x6_11 x7_11 0 ((bt t102 1) == 37)) else (none)) else (gjson_parseQuery.j9 kj74 t101 t102 js67 x6_11 x7_11 0 false)) else (none)) = some (r1, r2, r3, r4, r5, r6, r7) := by rw [if_neg (show ¬ (false = true) by decide)] at H; exact H
                   clear H
                   have H := H1
                   clear H1
                   have HC88 := Aside0.mk H
                   clear H
                   go_upto_region 42 with (fail)
                   go_cut [138] (fun v138 wc => ∃ (kq : Nat) (x138_87 : Bool), v138 = .bool x138_87 ∧ Aside0 (gjson_parseQuery.j9 kq t101 t102 js67 x6_11 x7_11 0 x138_87 = some (r1, r2, r3, r4, r5, r6, r7)) ∧ Aside0 (kq ≤ kj74) ∧ Drawn0 w wc)
                   case first => as_aux_lemma =>
                    have H := HC88.out
                    clear HC88
                    by_cases c89 : 0 < (t102.size : Int)
                    ·
                     rw [if_pos c89] at H
                     have c89b0 : decide (0 < (t102.size : Int)) = true := decide_eq_true c89
                     have c89b1 : decide (0 < t102.size) = true := decide_eq_true (by omega)
                     clear c89
                     (first | rw [c89b0] | (simp only [i64_w, i32_w]; rw [c89b0]) | skip)
                     by_cases c91 : (bt t102 0) = 33
                     ·
                      rw [if_pos c91] at H
                      have c91b0 : ((bt t102 0) == 33) = true := beq_iff_eq.mpr c91
                      have c91b1 : ((bt t102 0) != 33) = false := bne_eq_false_iff_eq.mpr c91
                      clear c91
                      by_cases c92 : 1 < (t102.size : Int)
                      ·
                       rw [if_pos c92] at H
                       have c92b0 : decide (1 < (t102.size : Int)) = true := decide_eq_true c92
                       have c92b1 : decide (1 < t102.size) = true := decide_eq_true (by omega)
                       clear c92
                       as_aux_lemma =>
                        have H' := Aside0.mk H
                        clear H
                        have p90 : 0 ≤ (0 : Int) := (by omega)
                        have q90 : 0 < t102.size := (by have : (0 : Int) < (t102.size : Int) := of_decide_eq_true (by first | (with_reducible assumption) | assumption); omega)
                        have hx90 := bt_lit t102 0 0 rfl
                        clear p90
                        have qi90 : (0 < (t102.size : Int)) = True := eq_true (of_decide_eq_true (by first | (with_reducible assumption) | assumption))
                        replace q90 := eq_true q90
                        have p93 : 0 ≤ (1 : Int) := (by omega)
                        have q93 : 1 < t102.size := (by have : (1 : Int) < (t102.size : Int) := of_decide_eq_true (by first | (with_reducible assumption) | assumption); omega)
                        have hx93 := bt_lit t102 1 1 rfl
                        clear p93
                        have qi93 : (1 < (t102.size : Int)) = True := eq_true (of_decide_eq_true (by first | (with_reducible assumption) | assumption))
                        replace q93 := eq_true q93
                        go_wp2
                        go_meet
                        case rel => exact ⟨_, (((bt t102 1) == 37)), (by first | rfl | (simp; done) | (simp [nil_ne_, nil_eq_]; done) | (simp [*]; done)), (by first | exact H' | (rw [hjs67]; exact H') | (simp only [hjs57, hjs62, hji64, hjs67]; exact H') | (simp only [hjs57, hjs62, hji64, hjs67] at H' ⊢; exact H')), ⟨by have := HJ1.out; have := HJ11.out; have := HJ74.out; first | omega | exact Nat.le_refl _⟩, by repeat (first | exact Drawn0.refl _ | apply Drawn0.step)⟩
                      ·
                       rw [if_neg c92] at H
                       exact absurd H (by simp)
                     ·
                      rw [if_neg c91] at H
                      have c91b0 : ((bt t102 0) == 33) = false := beq_eq_false_iff_ne.mpr c91
                      have c91b1 : ((bt t102 0) != 33) = true := bne_iff_ne.mpr c91
                      as_aux_lemma =>
                       have H' := Aside0.mk H
                       clear H
                       have p90 : 0 ≤ (0 : Int) := (by omega)
                       have q90 : 0 < t102.size := (by have : (0 : Int) < (t102.size : Int) := of_decide_eq_true (by first | (with_reducible assumption) | assumption); omega)
                       have hx90 := bt_lit t102 0 0 rfl
                       clear p90
                       have qi90 : (0 < (t102.size : Int)) = True := eq_true (of_decide_eq_true (by first | (with_reducible assumption) | assumption))
                       replace q90 := eq_true q90
                       go_wp2
                       go_meet
                       case rel => exact ⟨_, (false), (by first | rfl | (simp; done) | (simp [nil_ne_, nil_eq_]; done) | (simp [*]; done)), (by first | exact H' | (rw [hjs67]; exact H') | (simp only [hjs57, hjs62, hji64, hjs67]; exact H') | (simp only [hjs57, hjs62, hji64, hjs67] at H' ⊢; exact H')), ⟨by have := HJ1.out; have := HJ11.out; have := HJ74.out; first | omega | exact Nat.le_refl _⟩, by repeat (first | exact Drawn0.refl _ | apply Drawn0.step)⟩
                    ·
                     rw [if_neg c89] at H
                     exact absurd H (by simp)
                   case rest => as_aux_lemma =>
                    clear HC88
                    try clear c1
                    try clear p1
                    try clear q1
                    try clear hx1
                    try clear qi1
                    try clear c2
                    try clear p2
                    try clear q2
                    try clear hx2
                    try clear c3
                    try clear c3b0
                    try clear c3b1
                    try clear p3
                    try clear q3
                    try clear hx3
                    try clear c4
                    try clear c4b0
                    try clear c4b1
                    try clear p4
                    try clear q4
                    try clear hx4
                    try clear c5
                    try clear p5
                    try clear q5
                    try clear hx5
                    try clear qi5
                    try clear c6
                    try clear c6b0
                    try clear c6b1
                    try clear p6
                    try clear c7
                    try clear c7b0
                    try clear c7b1
                    try clear p7
                    try clear q7
                    try clear hx7
                    try clear qi7
                    try clear c8
                    try clear p8
                    try clear q8
                    try clear hx8
                    try clear qi8
                    try clear c9
                    try clear c9b0
                    try clear c9b1
                    try clear p9
                    try clear q9
                    try clear hx9
                    try clear qi9
                    try clear p10
                    try clear q10
                    try clear hx10
                    try clear qi10
                    try clear c11
                    try clear c13
                    try clear c13b0
                    try clear c15
                    try clear c15b0
                    try clear c15b1
                    try clear c17
                    try clear c18
                    try clear c18b0
                    try clear c19
                    try clear c19b0
                    try clear p20
                    try clear q20
                    try clear hx20
                    try clear c21
                    try clear c21b0
                    try clear c21b1
                    try clear c22
                    try clear c22b0
                    try clear c22b1
                    try clear c23
                    try clear c23b0
                    try clear c23b1
                    try clear c24
                    try clear c24b0
                    try clear c24b1
                    try clear c25
                    try clear c25b0
                    try clear c25b1
                    try clear c26
                    try clear c26b0
                    try clear c27
                    try clear c27b0
                    try clear p28
                    try clear q28
                    try clear hx28
                    try clear c29
                    try clear c29b0
                    try clear c29b1
                    try clear p31
                    try clear q31
                    try clear hx31
                    try clear c32
                    try clear c32b0
                    try clear c32b1
                    try clear p33
                    try clear q33
                    try clear hx33
                    try clear c34
                    try clear c36
                    try clear c36b0
                    try clear c37
                    try clear c37b0
                    try clear p38
                    try clear q38
                    try clear hx38
                    try clear c39
                    try clear c39b0
                    try clear c39b1
                    try clear p40
                    try clear q40
                    try clear hx40
                    try clear c41
                    try clear c42
                    try clear c42b0
                    try clear c42b1
                    try clear c43
                    try clear c43b0
                    try clear c44
                    try clear c44b0
                    try clear p45
                    try clear q45
                    try clear hx45
                    try clear c46
                    try clear c46b0
                    try clear c46b1
                    try clear c47
                    try clear c47b0
                    try clear c48
                    try clear c48b0
                    try clear p49
                    try clear q49
                    try clear hx49
                    try clear c50
                    try clear c50b0
                    try clear c50b1
                    try clear p51
                    try clear q51
                    try clear hx51
                    try clear c52
                    try clear c52b0
                    try clear c52b1
                    try clear c53
                    try clear c53b0
                    try clear c54
                    try clear c54b0
                    try clear c55
                    try clear c55b0
                    try clear c55b1
                    try clear c56
                    try clear c56b0
                    try clear c56b1
                    try clear c59
                    try clear c59b0
                    try clear c59b1
                    try clear c60
                    try clear c60b0
                    try clear c60b1
                    try clear c61
                    try clear c61b0
                    try clear c61b1
                    try clear p64
                    try clear c65
                    try clear c65b0
                    try clear c65b1
                    try clear c66
                    try clear c66b0
                    try clear c66b1
                    try clear c68
                    try clear c68b0
                    try clear c68b1
                    try clear c69
                    try clear c69b0
                    try clear c69b1
                    try clear c70
                    try clear c70b0
                    try clear c70b1
                    try clear c72
                    try clear c72b0
                    try clear c74
                    try clear c76
                    try clear c76b0
                    try clear c76b1
                    try clear p77
                    try clear q77
                    try clear hx77
                    try clear qi77
                    try clear c78
                    try clear c78b0
                    try clear c78b1
                    try clear c79
                    try clear c79b0
                    try clear c79b1
                    try clear p80
                    try clear q80
                    try clear hx80
                    try clear qi80
                    try clear c81
                    try clear c82
                    try clear c82b0
                    try clear c82b1
                    try clear c83
                    try clear c83b0
                    try clear c83b1
                    try clear c85
                    try clear c85b0
                    try clear c89
                    try clear c89b0
                    try clear c89b1
                    try clear p90
                    try clear q90
                    try clear hx90
                    try clear qi90
                    try clear c91
                    try clear c91b0
                    try clear c91b1
                    try clear c92
                    try clear c92b0
                    try clear c92b1
                    try clear p93
                    try clear q93
                    try clear hx93
                    try clear qi93
                    try clear p1
                    try clear p10
                    try clear p2
                    try clear p20
                    try clear p28
                    try clear p3
                    try clear p31
                    try clear p33
                    try clear p38
                    try clear p4
                    try clear p40
                    try clear p45
                    try clear p49
                    try clear p5
                    try clear p51
                    try clear p6
                    try clear p64
                    try clear p7
                    try clear p77
                    try clear p8
                    try clear p80
                    try clear p90
                    try clear p93
                    try clear q1
                    try clear q10
                    try clear q2
                    try clear q20
                    try clear q28
                    try clear q3
                    try clear q31
                    try clear q33
                    try clear q38
                    try clear q4
                    try clear q40
                    try clear q45
                    try clear q49
                    try clear q5
                    try clear q51
                    try clear q7
                    try clear q77
                    try clear q8
                    try clear q80
                    try clear q90
                    try clear q93
                    obtain ⟨kq, x138_87, rfl, HA, HJ87, ⟨mc87, rfl⟩⟩ := hcut
                    cases kq with
                    | zero => exact absurd HA.out (by simp [gjson_parseQuery.j9])
                    | succ kj87 =>
                     have H := HA.out
                     clear HA
                     simp only [gjson_parseQuery.j9] at H
                     by_cases c94 : x138_87 = true
                     ·
                      subst c94
                      have H1 : (if 0 ≤ 2 then (if 2 ≤ (t102.size : Int) then ((gjson_trim.f kj87 (t102.extract 2 t102.size)).bind fun t105 => (some (t101, t102.extract 0 2, t105, js67, wrap64 (x6_11 + 1), x7_11, true))) else (none)) else (none)) = some (r1, r2, r3, r4, r5, r6, r7) := by rw [if_pos rfl] at H; exact H
                      clear H
                      have H := H1
                      clear H1
                      by_cases c95 : 0 ≤ 2
                      ·
                       rw [if_pos c95] at H
                       have c95b0 := eq_true c95
                       have c95b1 : decide (0 ≤ 2) = true := decide_eq_true c95
                       clear c95
                       by_cases c96 : 2 ≤ (t102.size : Int)
                       ·
                        rw [if_pos c96] at H
                        have c96b0 := eq_true c96
                        have c96b1 : decide (2 ≤ (t102.size : Int)) = true := decide_eq_true c96
                        clear c96
                        obtain ⟨js97, hjs97⟩ : ∃ j_ : ByteArray, (t102.extract 0 2) = j_ := ⟨_, rfl⟩
                        skip
                        replace H : ((gjson_trim.f kj87 (t102.extract 2 t102.size)).bind fun t105 => (some (t101, js97, t105, js67, wrap64 (x6_11 + 1), x7_11, true))) = some (r1, r2, r3, r4, r5, r6, r7) := by first | (rw [hjs97] at H; exact H) | (simp only [hjs97] at H ⊢; exact H)
                        have c98b0 := eq_true (of_decide_eq_true (by first | (with_reducible assumption) | assumption) : 2 ≤ (t102.size : Int))
                        obtain ⟨js99, hjs99⟩ : ∃ j_ : ByteArray, (t102.extract 2 t102.size) = j_ := ⟨_, rfl⟩
                        skip
                        replace H : ((gjson_trim.f kj87 js99).bind fun t105 => (some (t101, js97, t105, js67, wrap64 (x6_11 + 1), x7_11, true))) = some (r1, r2, r3, r4, r5, r6, r7) := by first | (rw [hjs99] at H; exact H) | (simp only [hjs99] at H ⊢; exact H)
                        replace H := Option.bind_eq_some_iff.mp H
                        obtain ⟨t105, A1000, H⟩ := H
                        replace H : (some (t101, js97, t105, js67, wrap64 (x6_11 + 1), x7_11, true)) = some (r1, r2, r3, r4, r5, r6, r7) := H
                        have A100 := Aside0.mk A1000
                        clear A1000
                        as_aux_lemma =>
                         simp only [Option.some.injEq, Prod.mk.injEq] at H
                         obtain ⟨rfl, rfl, rfl, rfl, rfl, rfl, rfl⟩ := H
                         go_wp2_with (first | ((with_reducible refine gate_callee (f := 52) rfl ?_); refine goesL_ (some 198) rfl rfl Try.func52 (by kernel_rfl) rfl #[.string js99] rfl (by (try simp only [List.map_toArray, List.map_cons, List.map_nil]); first | done | rfl | (simp only [List.length_drop, List.length_take]; rfl)) ?_; (with_reducible refine (gjson_trim.calls kj87 js99 t105 _ A100.out).mono ?_); rintro e w' ⟨rfl, ⟨nd, rfl⟩⟩; refine ⟨_, rfl, ?_⟩))
                         refine bodyPost_ret (results_list (rs := [.tmp 2, .tmp 3, .tmp 4, .tmp 5, .tmp 6, .tmp 7, .tmp 8]) rfl (by simp) (.tmp (.tmp (.tmp (.tmp (.tmp (.tmp (.tmp .nil)))))))) rfl ?_
                         exact ⟨by first | rfl | (simp; done) | (simp only [← hjs57, ← hjs62, ← hji64, ← hjs67, ← hjs97, ← hjs99] <;> (first | rfl | simp)) | (simp [nil_ne_, nil_eq_]; done) | (simp [*]; done), by repeat (first | exact Drawn0.refl _ | apply Drawn0.step)⟩
                       ·
                        rw [if_neg c96] at H
                        exact absurd H (by simp)
                      ·
                       rw [if_neg c95] at H
                       exact absurd H (by simp)
                     ·
                      replace c94 := Bool.eq_false_iff.mpr c94
                      subst c94
                      have H1 : (if 0 < (t102.size : Int) then (if (bt t102 0) = 60 then (if 1 < (t102.size : Int) then (gjson_parseQuery.j10 kj87 t101 t102 js67 x6_11 x7_11 0 ((bt t102 1) == 61)) else (none)) else (gjson_parseQuery.j10 kj87 t101 t102 js67 x6_11 x7_11 0 false)) else (none)) = some (r1, r2, r3, r4, r5, r6, r7) := by rw [if_neg (show ¬ (false = true) by decide)] at H; exact H
                      clear H
                      have H := H1
                      clear H1
                      have HC101 := Aside0.mk H
                      clear H
                      go_upto_region 44 with (fail)
                      go_cut [147] (fun v147 wc => ∃ (kq : Nat) (x147_100 : Bool), v147 = .bool x147_100 ∧ Aside0 (gjson_parseQuery.j10 kq t101 t102 js67 x6_11 x7_11 0 x147_100 = some (r1, r2, r3, r4, r5, r6, r7)) ∧ Aside0 (kq ≤ kj87) ∧ Drawn0 w wc)
                      case first => as_aux_lemma =>
                       have H := HC101.out
                       clear HC101
                       by_cases c102 : 0 < (t102.size : Int)
                       ·
                        rw [if_pos c102] at H
                        have c102b0 : decide (0 < (t102.size : Int)) = true := decide_eq_true c102
                        have c102b1 : decide (0 < t102.size) = true := decide_eq_true (by omega)
                        clear c102
                        (first | rw [c102b0] | (simp only [i64_w, i32_w]; rw [c102b0]) | skip)
                        by_cases c104 : (bt t102 0) = 60
                        ·
                         rw [if_pos c104] at H
                         have c104b0 : ((bt t102 0) == 60) = true := beq_iff_eq.mpr c104
                         have c104b1 : ((bt t102 0) != 60) = false := bne_eq_false_iff_eq.mpr c104
                         clear c104
                         by_cases c105 : 1 < (t102.size : Int)
                         ·
                          rw [if_pos c105] at H
                          have c105b0 : decide (1 < (t102.size : Int)) = true := decide_eq_true c105
                          have c105b1 : decide (1 < t102.size) = true := decide_eq_true (by omega)
                          clear c105
                          as_aux_lemma =>
                           have H' := Aside0.mk H
                           clear H
                           have p103 : 0 ≤ (0 : Int) := (by omega)
                           have q103 : 0 < t102.size := (by have : (0 : Int) < (t102.size : Int) := of_decide_eq_true (by first | (with_reducible assumption) | assumption); omega)
                           have hx103 := bt_lit t102 0 0 rfl
                           clear p103
                           have qi103 : (0 < (t102.size : Int)) = True := eq_true (of_decide_eq_true (by first | (with_reducible assumption) | assumption))
                           replace q103 := eq_true q103
                           have p106 : 0 ≤ (1 : Int) := (by omega)
                           have q106 : 1 < t102.size := (by have : (1 : Int) < (t102.size : Int) := of_decide_eq_true (by first | (with_reducible assumption) | assumption); omega)
                           have hx106 := bt_lit t102 1 1 rfl
                           clear p106
                           have qi106 : (1 < (t102.size : Int)) = True := eq_true (of_decide_eq_true (by first | (with_reducible assumption) | assumption))
                           replace q106 := eq_true q106
                           go_wp2
                           go_meet
                           case rel => exact ⟨_, (((bt t102 1) == 61)), (by first | rfl | (simp; done) | (simp [nil_ne_, nil_eq_]; done) | (simp [*]; done)), (by first | exact H' | (rw [hjs67]; exact H') | (simp only [hjs57, hjs62, hji64, hjs67]; exact H') | (simp only [hjs57, hjs62, hji64, hjs67] at H' ⊢; exact H')), ⟨by have := HJ1.out; have := HJ11.out; have := HJ74.out; have := HJ87.out; first | omega | exact Nat.le_refl _⟩, by repeat (first | exact Drawn0.refl _ | apply Drawn0.step)⟩
                         ·
                          rw [if_neg c105] at H
                          exact absurd H (by simp)
                        ·
                         rw [if_neg c104] at H
                         have c104b0 : ((bt t102 0) == 60) = false := beq_eq_false_iff_ne.mpr c104
                         have c104b1 : ((bt t102 0) != 60) = true := bne_iff_ne.mpr c104
                         as_aux_lemma =>
                          have H' := Aside0.mk H
                          clear H
                          have p103 : 0 ≤ (0 : Int) := (by omega)
                          have q103 : 0 < t102.size := (by have : (0 : Int) < (t102.size : Int) := of_decide_eq_true (by first | (with_reducible assumption) | assumption); omega)
                          have hx103 := bt_lit t102 0 0 rfl
                          clear p103
                          have qi103 : (0 < (t102.size : Int)) = True := eq_true (of_decide_eq_true (by first | (with_reducible assumption) | assumption))
                          replace q103 := eq_true q103
                          go_wp2
                          go_meet
                          case rel => exact ⟨_, (false), (by first | rfl | (simp; done) | (simp [nil_ne_, nil_eq_]; done) | (simp [*]; done)), (by first | exact H' | (rw [hjs67]; exact H') | (simp only [hjs57, hjs62, hji64, hjs67]; exact H') | (simp only [hjs57, hjs62, hji64, hjs67] at H' ⊢; exact H')), ⟨by have := HJ1.out; have := HJ11.out; have := HJ74.out; have := HJ87.out; first | omega | exact Nat.le_refl _⟩, by repeat (first | exact Drawn0.refl _ | apply Drawn0.step)⟩
                       ·
                        rw [if_neg c102] at H
                        exact absurd H (by simp)
                      case rest => as_aux_lemma =>
                       clear HC101
                       try clear c1
                       try clear p1
                       try clear q1
                       try clear hx1
                       try clear qi1
                       try clear c2
                       try clear p2
                       try clear q2
                       try clear hx2
                       try clear c3
                       try clear c3b0
                       try clear c3b1
                       try clear p3
                       try clear q3
                       try clear hx3
                       try clear c4
                       try clear c4b0
                       try clear c4b1
                       try clear p4
                       try clear q4
                       try clear hx4
                       try clear c5
                       try clear p5
                       try clear q5
                       try clear hx5
                       try clear qi5
                       try clear c6
                       try clear c6b0
                       try clear c6b1
                       try clear p6
                       try clear c7
                       try clear c7b0
                       try clear c7b1
                       try clear p7
                       try clear q7
                       try clear hx7
                       try clear qi7
                       try clear c8
                       try clear p8
                       try clear q8
                       try clear hx8
                       try clear qi8
                       try clear c9
                       try clear c9b0
                       try clear c9b1
                       try clear p9
                       try clear q9
                       try clear hx9
                       try clear qi9
                       try clear c10
                       try clear p10
                       try clear q10
                       try clear hx10
                       try clear qi10
                       try clear c11
                       try clear c13
                       try clear c13b0
                       try clear c15
                       try clear c15b0
                       try clear c15b1
                       try clear c17
                       try clear c18
                       try clear c18b0
                       try clear c19
                       try clear c19b0
                       try clear p20
                       try clear q20
                       try clear hx20
                       try clear c21
                       try clear c21b0
                       try clear c21b1
                       try clear c22
                       try clear c22b0
                       try clear c22b1
                       try clear c23
                       try clear c23b0
                       try clear c23b1
                       try clear c24
                       try clear c24b0
                       try clear c24b1
                       try clear c25
                       try clear c25b0
                       try clear c25b1
                       try clear c26
                       try clear c26b0
                       try clear c27
                       try clear c27b0
                       try clear p28
                       try clear q28
                       try clear hx28
                       try clear c29
                       try clear c29b0
                       try clear c29b1
                       try clear p31
                       try clear q31
                       try clear hx31
                       try clear c32
                       try clear c32b0
                       try clear c32b1
                       try clear p33
                       try clear q33
                       try clear hx33
                       try clear c34
                       try clear c36
                       try clear c36b0
                       try clear c37
                       try clear c37b0
                       try clear p38
                       try clear q38
                       try clear hx38
                       try clear c39
                       try clear c39b0
                       try clear c39b1
                       try clear p40
                       try clear q40
                       try clear hx40
                       try clear c41
                       try clear c42
                       try clear c42b0
                       try clear c42b1
                       try clear c43
                       try clear c43b0
                       try clear c44
                       try clear c44b0
                       try clear p45
                       try clear q45
                       try clear hx45
                       try clear c46
                       try clear c46b0
                       try clear c46b1
                       try clear c47
                       try clear c47b0
                       try clear c48
                       try clear c48b0
                       try clear p49
                       try clear q49
                       try clear hx49
                       try clear c50
                       try clear c50b0
                       try clear c50b1
                       try clear p51
                       try clear q51
                       try clear hx51
                       try clear c52
                       try clear c52b0
                       try clear c52b1
                       try clear c53
                       try clear c53b0
                       try clear c54
                       try clear c54b0
                       try clear c55
                       try clear c55b0
                       try clear c55b1
                       try clear c56
                       try clear c56b0
                       try clear c56b1
                       try clear c59
                       try clear c59b0
                       try clear c59b1
                       try clear c60
                       try clear c60b0
                       try clear c60b1
                       try clear c61
                       try clear c61b0
                       try clear c61b1
                       try clear p64
                       try clear c65
                       try clear c65b0
                       try clear c65b1
                       try clear c66
                       try clear c66b0
                       try clear c66b1
                       try clear c68
                       try clear c68b0
                       try clear c68b1
                       try clear c69
                       try clear c69b0
                       try clear c69b1
                       try clear c70
                       try clear c70b0
                       try clear c70b1
                       try clear c72
                       try clear c72b0
                       try clear c74
                       try clear c76
                       try clear c76b0
                       try clear c76b1
                       try clear p77
                       try clear q77
                       try clear hx77
                       try clear qi77
                       try clear c78
                       try clear c78b0
                       try clear c78b1
                       try clear c79
                       try clear c79b0
                       try clear c79b1
                       try clear p80
                       try clear q80
                       try clear hx80
                       try clear qi80
                       try clear c81
                       try clear c82
                       try clear c82b0
                       try clear c82b1
                       try clear c83
                       try clear c83b0
                       try clear c83b1
                       try clear c85
                       try clear c85b0
                       try clear c87
                       try clear c89
                       try clear c89b0
                       try clear c89b1
                       try clear p90
                       try clear q90
                       try clear hx90
                       try clear qi90
                       try clear c91
                       try clear c91b0
                       try clear c91b1
                       try clear c92
                       try clear c92b0
                       try clear c92b1
                       try clear p93
                       try clear q93
                       try clear hx93
                       try clear qi93
                       try clear c94
                       try clear c95
                       try clear c95b0
                       try clear c95b1
                       try clear c96
                       try clear c96b0
                       try clear c96b1
                       try clear c98
                       try clear c98b0
                       try clear c102
                       try clear c102b0
                       try clear c102b1
                       try clear p103
                       try clear q103
                       try clear hx103
                       try clear qi103
                       try clear c104
                       try clear c104b0
                       try clear c104b1
                       try clear c105
                       try clear c105b0
                       try clear c105b1
                       try clear p106
                       try clear q106
                       try clear hx106
                       try clear qi106
                       try clear p1
                       try clear p10
                       try clear p103
                       try clear p106
                       try clear p2
                       try clear p20
                       try clear p28
                       try clear p3
                       try clear p31
                       try clear p33
                       try clear p38
                       try clear p4
                       try clear p40
                       try clear p45
                       try clear p49
                       try clear p5
                       try clear p51
                       try clear p6
                       try clear p64
                       try clear p7
                       try clear p77
                       try clear p8
                       try clear p80
                       try clear p9
                       try clear p90
                       try clear p93
                       try clear q1
                       try clear q10
                       try clear q103
                       try clear q106
                       try clear q2
                       try clear q20
                       try clear q28
                       try clear q3
                       try clear q31
                       try clear q33
                       try clear q38
                       try clear q4
                       try clear q40
                       try clear q45
                       try clear q49
                       try clear q5
                       try clear q51
                       try clear q7
                       try clear q77
                       try clear q8
                       try clear q80
                       try clear q9
                       try clear q90
                       try clear q93
                       obtain ⟨kq, x147_100, rfl, HA, HJ100, ⟨mc100, rfl⟩⟩ := hcut
                       cases kq with
                       | zero => exact absurd HA.out (by simp [gjson_parseQuery.j10])
                       | succ kj100 =>
                        have H := HA.out
                        clear HA
                        simp only [gjson_parseQuery.j10] at H
                        by_cases c107 : x147_100 = true
                        ·
                         subst c107
                         have H1 : (if 0 ≤ 2 then (if 2 ≤ (t102.size : Int) then ((gjson_trim.f kj100 (t102.extract 2 t102.size)).bind fun t106 => (some (t101, t102.extract 0 2, t106, js67, wrap64 (x6_11 + 1), x7_11, true))) else (none)) else (none)) = some (r1, r2, r3, r4, r5, r6, r7) := by rw [if_pos rfl] at H; exact H
                         clear H
                         have H := H1
                         clear H1
                         by_cases c108 : 0 ≤ 2
                         ·
                          rw [if_pos c108] at H
                          have c108b0 := eq_true c108
                          have c108b1 : decide (0 ≤ 2) = true := decide_eq_true c108
                          clear c108
                          by_cases c109 : 2 ≤ (t102.size : Int)
                          ·
                           rw [if_pos c109] at H
                           have c109b0 := eq_true c109
                           have c109b1 : decide (2 ≤ (t102.size : Int)) = true := decide_eq_true c109
                           clear c109
                           obtain ⟨js110, hjs110⟩ : ∃ j_ : ByteArray, (t102.extract 0 2) = j_ := ⟨_, rfl⟩
                           skip
                           replace H : ((gjson_trim.f kj100 (t102.extract 2 t102.size)).bind fun t106 => (some (t101, js110, t106, js67, wrap64 (x6_11 + 1), x7_11, true))) = some (r1, r2, r3, r4, r5, r6, r7) := by first | (rw [hjs110] at H; exact H) | (simp only [hjs110] at H ⊢; exact H)
                           have c111b0 := eq_true (of_decide_eq_true (by first | (with_reducible assumption) | assumption) : 2 ≤ (t102.size : Int))
                           obtain ⟨js112, hjs112⟩ : ∃ j_ : ByteArray, (t102.extract 2 t102.size) = j_ := ⟨_, rfl⟩
                           skip
                           replace H : ((gjson_trim.f kj100 js112).bind fun t106 => (some (t101, js110, t106, js67, wrap64 (x6_11 + 1), x7_11, true))) = some (r1, r2, r3, r4, r5, r6, r7) := by first | (rw [hjs112] at H; exact H) | (simp only [hjs112] at H ⊢; exact H)
                           replace H := Option.bind_eq_some_iff.mp H
                           obtain ⟨t106, A1130, H⟩ := H
                           replace H : (some (t101, js110, t106, js67, wrap64 (x6_11 + 1), x7_11, true)) = some (r1, r2, r3, r4, r5, r6, r7) := H
                           have A113 := Aside0.mk A1130
                           clear A1130
                           as_aux_lemma =>
                            simp only [Option.some.injEq, Prod.mk.injEq] at H
                            obtain ⟨rfl, rfl, rfl, rfl, rfl, rfl, rfl⟩ := H
                            go_wp2_with (first | ((with_reducible refine gate_callee (f := 52) rfl ?_); refine goesL_ (some 198) rfl rfl Try.func52 (by kernel_rfl) rfl #[.string js112] rfl (by (try simp only [List.map_toArray, List.map_cons, List.map_nil]); first | done | rfl | (simp only [List.length_drop, List.length_take]; rfl)) ?_; (with_reducible refine (gjson_trim.calls kj100 js112 t106 _ A113.out).mono ?_); rintro e w' ⟨rfl, ⟨nd, rfl⟩⟩; refine ⟨_, rfl, ?_⟩))
                            refine bodyPost_ret (results_list (rs := [.tmp 2, .tmp 3, .tmp 4, .tmp 5, .tmp 6, .tmp 7, .tmp 8]) rfl (by simp) (.tmp (.tmp (.tmp (.tmp (.tmp (.tmp (.tmp .nil)))))))) rfl ?_
                            exact ⟨by first | rfl | (simp; done) | (simp only [← hjs57, ← hjs62, ← hji64, ← hjs67, ← hjs110, ← hjs112] <;> (first | rfl | simp)) | (simp [nil_ne_, nil_eq_]; done) | (simp [*]; done), by repeat (first | exact Drawn0.refl _ | apply Drawn0.step)⟩
                          ·
                           rw [if_neg c109] at H
                           exact absurd H (by simp)
                         ·
                          rw [if_neg c108] at H
                          exact absurd H (by simp)
                        ·
                         replace c107 := Bool.eq_false_iff.mpr c107
                         subst c107
                         have H1 : (if 0 < (t102.size : Int) then (if (bt t102 0) = 62 then (if 1 < (t102.size : Int) then (gjson_parseQuery.j11 kj100 t101 t102 js67 x6_11 x7_11 0 ((bt t102 1) == 61)) else (none)) else (gjson_parseQuery.j11 kj100 t101 t102 js67 x6_11 x7_11 0 false)) else (none)) = some (r1, r2, r3, r4, r5, r6, r7) := by rw [if_neg (show ¬ (false = true) by decide)] at H; exact H
                         clear H
                         have H := H1
                         clear H1
                         have HC114 := Aside0.mk H
                         clear H
                         go_upto_region 46 with (fail)
                         go_cut [156] (fun v156 wc => ∃ (kq : Nat) (x156_113 : Bool), v156 = .bool x156_113 ∧ Aside0 (gjson_parseQuery.j11 kq t101 t102 js67 x6_11 x7_11 0 x156_113 = some (r1, r2, r3, r4, r5, r6, r7)) ∧ Aside0 (kq ≤ kj100) ∧ Drawn0 w wc)
                         case first => as_aux_lemma =>
                          have H := HC114.out
                          clear HC114
                          by_cases c115 : 0 < (t102.size : Int)
                          ·
                           rw [if_pos c115] at H
                           have c115b0 : decide (0 < (t102.size : Int)) = true := decide_eq_true c115
                           have c115b1 : decide (0 < t102.size) = true := decide_eq_true (by omega)
                           clear c115
                           (first | rw [c115b0] | (simp only [i64_w, i32_w]; rw [c115b0]) | skip)
                           by_cases c117 : (bt t102 0) = 62
                           ·
                            rw [if_pos c117] at H
                            have c117b0 : ((bt t102 0) == 62) = true := beq_iff_eq.mpr c117
                            have c117b1 : ((bt t102 0) != 62) = false := bne_eq_false_iff_eq.mpr c117
                            clear c117
                            by_cases c118 : 1 < (t102.size : Int)
                            ·
                             rw [if_pos c118] at H
                             have c118b0 : decide (1 < (t102.size : Int)) = true := decide_eq_true c118
                             have c118b1 : decide (1 < t102.size) = true := decide_eq_true (by omega)
                             clear c118
                             as_aux_lemma =>
                              have H' := Aside0.mk H
                              clear H
                              have p116 : 0 ≤ (0 : Int) := (by omega)
                              have q116 : 0 < t102.size := (by have : (0 : Int) < (t102.size : Int) := of_decide_eq_true (by first | (with_reducible assumption) | assumption); omega)
                              have hx116 := bt_lit t102 0 0 rfl
                              clear p116
                              have qi116 : (0 < (t102.size : Int)) = True := eq_true (of_decide_eq_true (by first | (with_reducible assumption) | assumption))
                              replace q116 := eq_true q116
                              have p119 : 0 ≤ (1 : Int) := (by omega)
                              have q119 : 1 < t102.size := (by have : (1 : Int) < (t102.size : Int) := of_decide_eq_true (by first | (with_reducible assumption) | assumption); omega)
                              have hx119 := bt_lit t102 1 1 rfl
                              clear p119
                              have qi119 : (1 < (t102.size : Int)) = True := eq_true (of_decide_eq_true (by first | (with_reducible assumption) | assumption))
                              replace q119 := eq_true q119
                              go_wp2
                              go_meet
                              case rel => exact ⟨_, (((bt t102 1) == 61)), (by first | rfl | (simp; done) | (simp [nil_ne_, nil_eq_]; done) | (simp [*]; done)), (by first | exact H' | (rw [hjs67]; exact H') | (simp only [hjs57, hjs62, hji64, hjs67]; exact H') | (simp only [hjs57, hjs62, hji64, hjs67] at H' ⊢; exact H')), ⟨by have := HJ1.out; have := HJ11.out; have := HJ74.out; have := HJ87.out; have := HJ100.out; first | omega | exact Nat.le_refl _⟩, by repeat (first | exact Drawn0.refl _ | apply Drawn0.step)⟩
                            ·
                             rw [if_neg c118] at H
                             exact absurd H (by simp)
                           ·
                            rw [if_neg c117] at H
                            have c117b0 : ((bt t102 0) == 62) = false := beq_eq_false_iff_ne.mpr c117
                            have c117b1 : ((bt t102 0) != 62) = true := bne_iff_ne.mpr c117
                            as_aux_lemma =>
                             have H' := Aside0.mk H
                             clear H
                             have p116 : 0 ≤ (0 : Int) := (by omega)
                             have q116 : 0 < t102.size := (by have : (0 : Int) < (t102.size : Int) := of_decide_eq_true (by first | (with_reducible assumption) | assumption); omega)
                             have hx116 := bt_lit t102 0 0 rfl
                             clear p116
                             have qi116 : (0 < (t102.size : Int)) = True := eq_true (of_decide_eq_true (by first | (with_reducible assumption) | assumption))
                             replace q116 := eq_true q116
                             go_wp2
                             go_meet
                             case rel => exact ⟨_, (false), (by first | rfl | (simp; done) | (simp [nil_ne_, nil_eq_]; done) | (simp [*]; done)), (by first | exact H' | (rw [hjs67]; exact H') | (simp only [hjs57, hjs62, hji64, hjs67]; exact H') | (simp only [hjs57, hjs62, hji64, hjs67] at H' ⊢; exact H')), ⟨by have := HJ1.out; have := HJ11.out; have := HJ74.out; have := HJ87.out; have := HJ100.out; first | omega | exact Nat.le_refl _⟩, by repeat (first | exact Drawn0.refl _ | apply Drawn0.step)⟩
                          ·
                           rw [if_neg c115] at H
                           exact absurd H (by simp)
                         case rest => as_aux_lemma =>
                          clear HC114
                          try clear c1
                          try clear p1
                          try clear q1
                          try clear hx1
                          try clear qi1
                          try clear c2
                          try clear p2
                          try clear q2
                          try clear hx2
                          try clear c3
                          try clear c3b0
                          try clear c3b1
                          try clear p3
                          try clear q3
                          try clear hx3
                          try clear c4
                          try clear c4b0
                          try clear c4b1
                          try clear p4
                          try clear q4
                          try clear hx4
                          try clear c5
                          try clear p5
                          try clear q5
                          try clear hx5
                          try clear qi5
                          try clear c6
                          try clear c6b0
                          try clear c6b1
                          try clear p6
                          try clear c7
                          try clear c7b0
                          try clear c7b1
                          try clear p7
                          try clear q7
                          try clear hx7
                          try clear qi7
                          try clear c8
                          try clear p8
                          try clear q8
                          try clear hx8
                          try clear qi8
                          try clear c9
                          try clear c9b0
                          try clear c9b1
                          try clear p9
                          try clear q9
                          try clear hx9
                          try clear qi9
                          try clear c10
                          try clear p10
                          try clear q10
                          try clear hx10
                          try clear qi10
                          try clear c11
                          try clear p11
                          try clear q11
                          try clear hx11
                          try clear qi11
                          try clear c13
                          try clear c13b0
                          try clear c15
                          try clear c15b0
                          try clear c15b1
                          try clear c17
                          try clear c18
                          try clear c18b0
                          try clear c19
                          try clear c19b0
                          try clear p20
                          try clear q20
                          try clear hx20
                          try clear c21
                          try clear c21b0
                          try clear c21b1
                          try clear c22
                          try clear c22b0
                          try clear c22b1
                          try clear c23
                          try clear c23b0
                          try clear c23b1
                          try clear c24
                          try clear c24b0
                          try clear c24b1
                          try clear c25
                          try clear c25b0
                          try clear c25b1
                          try clear c26
                          try clear c26b0
                          try clear c27
                          try clear c27b0
                          try clear p28
                          try clear q28
                          try clear hx28
                          try clear c29
                          try clear c29b0
                          try clear c29b1
                          try clear p31
                          try clear q31
                          try clear hx31
                          try clear c32
                          try clear c32b0
                          try clear c32b1
                          try clear p33
                          try clear q33
                          try clear hx33
                          try clear c34
                          try clear c36
                          try clear c36b0
                          try clear c37
                          try clear c37b0
                          try clear p38
                          try clear q38
                          try clear hx38
                          try clear c39
                          try clear c39b0
                          try clear c39b1
                          try clear p40
                          try clear q40
                          try clear hx40
                          try clear c41
                          try clear c42
                          try clear c42b0
                          try clear c42b1
                          try clear c43
                          try clear c43b0
                          try clear c44
                          try clear c44b0
                          try clear p45
                          try clear q45
                          try clear hx45
                          try clear c46
                          try clear c46b0
                          try clear c46b1
                          try clear c47
                          try clear c47b0
                          try clear c48
                          try clear c48b0
                          try clear p49
                          try clear q49
                          try clear hx49
                          try clear c50
                          try clear c50b0
                          try clear c50b1
                          try clear p51
                          try clear q51
                          try clear hx51
                          try clear c52
                          try clear c52b0
                          try clear c52b1
                          try clear c53
                          try clear c53b0
                          try clear c54
                          try clear c54b0
                          try clear c55
                          try clear c55b0
                          try clear c55b1
                          try clear c56
                          try clear c56b0
                          try clear c56b1
                          try clear c59
                          try clear c59b0
                          try clear c59b1
                          try clear c60
                          try clear c60b0
                          try clear c60b1
                          try clear c61
                          try clear c61b0
                          try clear c61b1
                          try clear p64
                          try clear c65
                          try clear c65b0
                          try clear c65b1
                          try clear c66
                          try clear c66b0
                          try clear c66b1
                          try clear c68
                          try clear c68b0
                          try clear c68b1
                          try clear c69
                          try clear c69b0
                          try clear c69b1
                          try clear c70
                          try clear c70b0
                          try clear c70b1
                          try clear c72
                          try clear c72b0
                          try clear c74
                          try clear c76
                          try clear c76b0
                          try clear c76b1
                          try clear p77
                          try clear q77
                          try clear hx77
                          try clear qi77
                          try clear c78
                          try clear c78b0
                          try clear c78b1
                          try clear c79
                          try clear c79b0
                          try clear c79b1
                          try clear p80
                          try clear q80
                          try clear hx80
                          try clear qi80
                          try clear c81
                          try clear c82
                          try clear c82b0
                          try clear c82b1
                          try clear c83
                          try clear c83b0
                          try clear c83b1
                          try clear c85
                          try clear c85b0
                          try clear c87
                          try clear c89
                          try clear c89b0
                          try clear c89b1
                          try clear p90
                          try clear q90
                          try clear hx90
                          try clear qi90
                          try clear c91
                          try clear c91b0
                          try clear c91b1
                          try clear c92
                          try clear c92b0
                          try clear c92b1
                          try clear p93
                          try clear q93
                          try clear hx93
                          try clear qi93
                          try clear c94
                          try clear c95
                          try clear c95b0
                          try clear c95b1
                          try clear c96
                          try clear c96b0
                          try clear c96b1
                          try clear c98
                          try clear c98b0
                          try clear c100
                          try clear c102
                          try clear c102b0
                          try clear c102b1
                          try clear p103
                          try clear q103
                          try clear hx103
                          try clear qi103
                          try clear c104
                          try clear c104b0
                          try clear c104b1
                          try clear c105
                          try clear c105b0
                          try clear c105b1
                          try clear p106
                          try clear q106
                          try clear hx106
                          try clear qi106
                          try clear c107
                          try clear c108
                          try clear c108b0
                          try clear c108b1
                          try clear c109
                          try clear c109b0
                          try clear c109b1
                          try clear c111
                          try clear c111b0
                          try clear c115
                          try clear c115b0
                          try clear c115b1
                          try clear p116
                          try clear q116
                          try clear hx116
                          try clear qi116
                          try clear c117
                          try clear c117b0
                          try clear c117b1
                          try clear c118
                          try clear c118b0
                          try clear c118b1
                          try clear p119
                          try clear q119
                          try clear hx119
                          try clear qi119
                          try clear p1
                          try clear p10
                          try clear p103
                          try clear p106
                          try clear p116
                          try clear p119
                          try clear p2
                          try clear p20
                          try clear p28
                          try clear p3
                          try clear p31
                          try clear p33
                          try clear p38
                          try clear p4
                          try clear p40
                          try clear p45
                          try clear p49
                          try clear p5
                          try clear p51
                          try clear p6
                          try clear p64
                          try clear p7
                          try clear p77
                          try clear p8
                          try clear p80
                          try clear p9
                          try clear p90
                          try clear p93
                          try clear q1
                          try clear q10
                          try clear q103
                          try clear q106
                          try clear q116
                          try clear q119
                          try clear q2
                          try clear q20
                          try clear q28
                          try clear q3
                          try clear q31
                          try clear q33
                          try clear q38
                          try clear q4
                          try clear q40
                          try clear q45
                          try clear q49
                          try clear q5
                          try clear q51
                          try clear q7
                          try clear q77
                          try clear q8
                          try clear q80
                          try clear q9
                          try clear q90
                          try clear q93
                          obtain ⟨kq, x156_113, rfl, HA, HJ113, ⟨mc113, rfl⟩⟩ := hcut
                          cases kq with
                          | zero => exact absurd HA.out (by simp [gjson_parseQuery.j11])
                          | succ kj113 =>
                           have H := HA.out
                           clear HA
                           simp only [gjson_parseQuery.j11] at H
                           by_cases c120 : x156_113 = true
                           ·
                            subst c120
                            have H1 : (if 0 ≤ 2 then (if 2 ≤ (t102.size : Int) then ((gjson_trim.f kj113 (t102.extract 2 t102.size)).bind fun t107 => (some (t101, t102.extract 0 2, t107, js67, wrap64 (x6_11 + 1), x7_11, true))) else (none)) else (none)) = some (r1, r2, r3, r4, r5, r6, r7) := by rw [if_pos rfl] at H; exact H
                            clear H
                            have H := H1
                            clear H1
                            by_cases c121 : 0 ≤ 2
                            ·
                             rw [if_pos c121] at H
                             have c121b0 := eq_true c121
                             have c121b1 : decide (0 ≤ 2) = true := decide_eq_true c121
                             clear c121
                             by_cases c122 : 2 ≤ (t102.size : Int)
                             ·
                              rw [if_pos c122] at H
                              have c122b0 := eq_true c122
                              have c122b1 : decide (2 ≤ (t102.size : Int)) = true := decide_eq_true c122
                              clear c122
                              obtain ⟨js123, hjs123⟩ : ∃ j_ : ByteArray, (t102.extract 0 2) = j_ := ⟨_, rfl⟩
                              skip
                              replace H : ((gjson_trim.f kj113 (t102.extract 2 t102.size)).bind fun t107 => (some (t101, js123, t107, js67, wrap64 (x6_11 + 1), x7_11, true))) = some (r1, r2, r3, r4, r5, r6, r7) := by first | (rw [hjs123] at H; exact H) | (simp only [hjs123] at H ⊢; exact H)
                              have c124b0 := eq_true (of_decide_eq_true (by first | (with_reducible assumption) | assumption) : 2 ≤ (t102.size : Int))
                              obtain ⟨js125, hjs125⟩ : ∃ j_ : ByteArray, (t102.extract 2 t102.size) = j_ := ⟨_, rfl⟩
                              skip
                              replace H : ((gjson_trim.f kj113 js125).bind fun t107 => (some (t101, js123, t107, js67, wrap64 (x6_11 + 1), x7_11, true))) = some (r1, r2, r3, r4, r5, r6, r7) := by first | (rw [hjs125] at H; exact H) | (simp only [hjs125] at H ⊢; exact H)
                              replace H := Option.bind_eq_some_iff.mp H
                              obtain ⟨t107, A1260, H⟩ := H
                              replace H : (some (t101, js123, t107, js67, wrap64 (x6_11 + 1), x7_11, true)) = some (r1, r2, r3, r4, r5, r6, r7) := H
                              have A126 := Aside0.mk A1260
                              clear A1260
                              as_aux_lemma =>
                               simp only [Option.some.injEq, Prod.mk.injEq] at H
                               obtain ⟨rfl, rfl, rfl, rfl, rfl, rfl, rfl⟩ := H
                               go_wp2_with (first | ((with_reducible refine gate_callee (f := 52) rfl ?_); refine goesL_ (some 198) rfl rfl Try.func52 (by kernel_rfl) rfl #[.string js125] rfl (by (try simp only [List.map_toArray, List.map_cons, List.map_nil]); first | done | rfl | (simp only [List.length_drop, List.length_take]; rfl)) ?_; (with_reducible refine (gjson_trim.calls kj113 js125 t107 _ A126.out).mono ?_); rintro e w' ⟨rfl, ⟨nd, rfl⟩⟩; refine ⟨_, rfl, ?_⟩))
                               refine bodyPost_ret (results_list (rs := [.tmp 2, .tmp 3, .tmp 4, .tmp 5, .tmp 6, .tmp 7, .tmp 8]) rfl (by simp) (.tmp (.tmp (.tmp (.tmp (.tmp (.tmp (.tmp .nil)))))))) rfl ?_
                               exact ⟨by first | rfl | (simp; done) | (simp only [← hjs57, ← hjs62, ← hji64, ← hjs67, ← hjs123, ← hjs125] <;> (first | rfl | simp)) | (simp [nil_ne_, nil_eq_]; done) | (simp [*]; done), by repeat (first | exact Drawn0.refl _ | apply Drawn0.step)⟩
                             ·
                              rw [if_neg c122] at H
                              exact absurd H (by simp)
                            ·
                             rw [if_neg c121] at H
                             exact absurd H (by simp)
                           ·
                            replace c120 := Bool.eq_false_iff.mpr c120
                            subst c120
                            have H1 : (if 0 < (t102.size : Int) then (if (bt t102 0) = 61 then (if 1 < (t102.size : Int) then (gjson_parseQuery.j12 kj113 t101 t102 js67 x6_11 x7_11 0 ((bt t102 1) == 61)) else (none)) else (gjson_parseQuery.j12 kj113 t101 t102 js67 x6_11 x7_11 0 false)) else (none)) = some (r1, r2, r3, r4, r5, r6, r7) := by rw [if_neg (show ¬ (false = true) by decide)] at H; exact H
                            clear H
                            have H := H1
                            clear H1
                            have HC127 := Aside0.mk H
                            clear H
                            go_upto_region 48 with (fail)
                            go_cut [165] (fun v165 wc => ∃ (kq : Nat) (x165_126 : Bool), v165 = .bool x165_126 ∧ Aside0 (gjson_parseQuery.j12 kq t101 t102 js67 x6_11 x7_11 0 x165_126 = some (r1, r2, r3, r4, r5, r6, r7)) ∧ Aside0 (kq ≤ kj113) ∧ Drawn0 w wc)
                            case first => as_aux_lemma =>
                             have H := HC127.out
                             clear HC127
                             by_cases c128 : 0 < (t102.size : Int)
                             ·
                              rw [if_pos c128] at H
                              have c128b0 : decide (0 < (t102.size : Int)) = true := decide_eq_true c128
                              have c128b1 : decide (0 < t102.size) = true := decide_eq_true (by omega)
                              clear c128
                              (first | rw [c128b0] | (simp only [i64_w, i32_w]; rw [c128b0]) | skip)
                              by_cases c130 : (bt t102 0) = 61
                              ·
                               rw [if_pos c130] at H
                               have c130b0 : ((bt t102 0) == 61) = true := beq_iff_eq.mpr c130
                               have c130b1 : ((bt t102 0) != 61) = false := bne_eq_false_iff_eq.mpr c130
                               clear c130
                               by_cases c131 : 1 < (t102.size : Int)
                               ·
                                rw [if_pos c131] at H
                                have c131b0 : decide (1 < (t102.size : Int)) = true := decide_eq_true c131
                                have c131b1 : decide (1 < t102.size) = true := decide_eq_true (by omega)
                                clear c131
                                as_aux_lemma =>
                                 have H' := Aside0.mk H
                                 clear H
                                 have p129 : 0 ≤ (0 : Int) := (by omega)
                                 have q129 : 0 < t102.size := (by have : (0 : Int) < (t102.size : Int) := of_decide_eq_true (by first | (with_reducible assumption) | assumption); omega)
                                 have hx129 := bt_lit t102 0 0 rfl
                                 clear p129
                                 have qi129 : (0 < (t102.size : Int)) = True := eq_true (of_decide_eq_true (by first | (with_reducible assumption) | assumption))
                                 replace q129 := eq_true q129
                                 have p132 : 0 ≤ (1 : Int) := (by omega)
                                 have q132 : 1 < t102.size := (by have : (1 : Int) < (t102.size : Int) := of_decide_eq_true (by first | (with_reducible assumption) | assumption); omega)
                                 have hx132 := bt_lit t102 1 1 rfl
                                 clear p132
                                 have qi132 : (1 < (t102.size : Int)) = True := eq_true (of_decide_eq_true (by first | (with_reducible assumption) | assumption))
                                 replace q132 := eq_true q132
                                 go_wp2
                                 go_meet
                                 case rel => exact ⟨_, (((bt t102 1) == 61)), (by first | rfl | (simp; done) | (simp [nil_ne_, nil_eq_]; done) | (simp [*]; done)), (by first | exact H' | (rw [hjs67]; exact H') | (simp only [hjs57, hjs62, hji64, hjs67]; exact H') | (simp only [hjs57, hjs62, hji64, hjs67] at H' ⊢; exact H')), ⟨by have := HJ1.out; have := HJ11.out; have := HJ74.out; have := HJ87.out; have := HJ100.out; have := HJ113.out; first | omega | exact Nat.le_refl _⟩, by repeat (first | exact Drawn0.refl _ | apply Drawn0.step)⟩
                               ·
                                rw [if_neg c131] at H
                                exact absurd H (by simp)
                              ·
                               rw [if_neg c130] at H
                               have c130b0 : ((bt t102 0) == 61) = false := beq_eq_false_iff_ne.mpr c130
                               have c130b1 : ((bt t102 0) != 61) = true := bne_iff_ne.mpr c130
                               as_aux_lemma =>
                                have H' := Aside0.mk H
                                clear H
                                have p129 : 0 ≤ (0 : Int) := (by omega)
                                have q129 : 0 < t102.size := (by have : (0 : Int) < (t102.size : Int) := of_decide_eq_true (by first | (with_reducible assumption) | assumption); omega)
                                have hx129 := bt_lit t102 0 0 rfl
                                clear p129
                                have qi129 : (0 < (t102.size : Int)) = True := eq_true (of_decide_eq_true (by first | (with_reducible assumption) | assumption))
                                replace q129 := eq_true q129
                                go_wp2
                                go_meet
                                case rel => exact ⟨_, (false), (by first | rfl | (simp; done) | (simp [nil_ne_, nil_eq_]; done) | (simp [*]; done)), (by first | exact H' | (rw [hjs67]; exact H') | (simp only [hjs57, hjs62, hji64, hjs67]; exact H') | (simp only [hjs57, hjs62, hji64, hjs67] at H' ⊢; exact H')), ⟨by have := HJ1.out; have := HJ11.out; have := HJ74.out; have := HJ87.out; have := HJ100.out; have := HJ113.out; first | omega | exact Nat.le_refl _⟩, by repeat (first | exact Drawn0.refl _ | apply Drawn0.step)⟩
                             ·
                              rw [if_neg c128] at H
                              exact absurd H (by simp)
                            case rest => as_aux_lemma =>
                             clear HC127
                             try clear c1
                             try clear p1
                             try clear q1
                             try clear hx1
                             try clear qi1
                             try clear c2
                             try clear p2
                             try clear q2
                             try clear hx2
                             try clear c3
                             try clear c3b0
                             try clear c3b1
                             try clear p3
                             try clear q3
                             try clear hx3
                             try clear c4
                             try clear c4b0
                             try clear c4b1
                             try clear p4
                             try clear q4
                             try clear hx4
                             try clear c5
                             try clear p5
                             try clear q5
                             try clear hx5
                             try clear qi5
                             try clear c6
                             try clear c6b0
                             try clear c6b1
                             try clear p6
                             try clear c7
                             try clear c7b0
                             try clear c7b1
                             try clear p7
                             try clear q7
                             try clear hx7
                             try clear qi7
                             try clear c8
                             try clear p8
                             try clear q8
                             try clear hx8
                             try clear qi8
                             try clear c9
                             try clear c9b0
                             try clear c9b1
                             try clear p9
                             try clear q9
                             try clear hx9
                             try clear qi9
                             try clear c10
                             try clear p10
                             try clear q10
                             try clear hx10
                             try clear qi10
                             try clear c11
                             try clear p11
                             try clear q11
                             try clear hx11
                             try clear qi11
                             try clear c12
                             try clear p12
                             try clear q12
                             try clear hx12
                             try clear qi12
                             try clear c13
                             try clear c13b0
                             try clear p13
                             try clear q13
                             try clear hx13
                             try clear qi13
                             try clear c15
                             try clear c15b0
                             try clear c15b1
                             try clear c17
                             try clear c18
                             try clear c18b0
                             try clear c19
                             try clear c19b0
                             try clear p20
                             try clear q20
                             try clear hx20
                             try clear c21
                             try clear c21b0
                             try clear c21b1
                             try clear c22
                             try clear c22b0
                             try clear c22b1
                             try clear c23
                             try clear c23b0
                             try clear c23b1
                             try clear c24
                             try clear c24b0
                             try clear c24b1
                             try clear c25
                             try clear c25b0
                             try clear c25b1
                             try clear c26
                             try clear c26b0
                             try clear c27
                             try clear c27b0
                             try clear p28
                             try clear q28
                             try clear hx28
                             try clear c29
                             try clear c29b0
                             try clear c29b1
                             try clear p31
                             try clear q31
                             try clear hx31
                             try clear c32
                             try clear c32b0
                             try clear c32b1
                             try clear p33
                             try clear q33
                             try clear hx33
                             try clear c34
                             try clear c36
                             try clear c36b0
                             try clear c37
                             try clear c37b0
                             try clear p38
                             try clear q38
                             try clear hx38
                             try clear c39
                             try clear c39b0
                             try clear c39b1
                             try clear p40
                             try clear q40
                             try clear hx40
                             try clear c41
                             try clear c42
                             try clear c42b0
                             try clear c42b1
                             try clear c43
                             try clear c43b0
                             try clear c44
                             try clear c44b0
                             try clear p45
                             try clear q45
                             try clear hx45
                             try clear c46
                             try clear c46b0
                             try clear c46b1
                             try clear c47
                             try clear c47b0
                             try clear c48
                             try clear c48b0
                             try clear p49
                             try clear q49
                             try clear hx49
                             try clear c50
                             try clear c50b0
                             try clear c50b1
                             try clear p51
                             try clear q51
                             try clear hx51
                             try clear c52
                             try clear c52b0
                             try clear c52b1
                             try clear c53
                             try clear c53b0
                             try clear c54
                             try clear c54b0
                             try clear c55
                             try clear c55b0
                             try clear c55b1
                             try clear c56
                             try clear c56b0
                             try clear c56b1
                             try clear c59
                             try clear c59b0
                             try clear c59b1
                             try clear c60
                             try clear c60b0
                             try clear c60b1
                             try clear c61
                             try clear c61b0
                             try clear c61b1
                             try clear p64
                             try clear c65
                             try clear c65b0
                             try clear c65b1
                             try clear c66
                             try clear c66b0
                             try clear c66b1
                             try clear c68
                             try clear c68b0
                             try clear c68b1
                             try clear c69
                             try clear c69b0
                             try clear c69b1
                             try clear c70
                             try clear c70b0
                             try clear c70b1
                             try clear c72
                             try clear c72b0
                             try clear c74
                             try clear c76
                             try clear c76b0
                             try clear c76b1
                             try clear p77
                             try clear q77
                             try clear hx77
                             try clear qi77
                             try clear c78
                             try clear c78b0
                             try clear c78b1
                             try clear c79
                             try clear c79b0
                             try clear c79b1
                             try clear p80
                             try clear q80
                             try clear hx80
                             try clear qi80
                             try clear c81
                             try clear c82
                             try clear c82b0
                             try clear c82b1
                             try clear c83
                             try clear c83b0
                             try clear c83b1
                             try clear c85
                             try clear c85b0
                             try clear c87
                             try clear c89
                             try clear c89b0
                             try clear c89b1
                             try clear p90
                             try clear q90
                             try clear hx90
                             try clear qi90
                             try clear c91
                             try clear c91b0
                             try clear c91b1
                             try clear c92
                             try clear c92b0
                             try clear c92b1
                             try clear p93
                             try clear q93
                             try clear hx93
                             try clear qi93
                             try clear c94
                             try clear c95
                             try clear c95b0
                             try clear c95b1
                             try clear c96
                             try clear c96b0
                             try clear c96b1
                             try clear c98
                             try clear c98b0
                             try clear c100
                             try clear c102
                             try clear c102b0
                             try clear c102b1
                             try clear p103
                             try clear q103
                             try clear hx103
                             try clear qi103
                             try clear c104
                             try clear c104b0
                             try clear c104b1
                             try clear c105
                             try clear c105b0
                             try clear c105b1
                             try clear p106
                             try clear q106
                             try clear hx106
                             try clear qi106
                             try clear c107
                             try clear c108
                             try clear c108b0
                             try clear c108b1
                             try clear c109
                             try clear c109b0
                             try clear c109b1
                             try clear c111
                             try clear c111b0
                             try clear c113
                             try clear c115
                             try clear c115b0
                             try clear c115b1
                             try clear p116
                             try clear q116
                             try clear hx116
                             try clear qi116
                             try clear c117
                             try clear c117b0
                             try clear c117b1
                             try clear c118
                             try clear c118b0
                             try clear c118b1
                             try clear p119
                             try clear q119
                             try clear hx119
                             try clear qi119
                             try clear c120
                             try clear c121
                             try clear c121b0
                             try clear c121b1
                             try clear c122
                             try clear c122b0
                             try clear c122b1
                             try clear c124
                             try clear c124b0
                             try clear c128
                             try clear c128b0
                             try clear c128b1
                             try clear p129
                             try clear q129
                             try clear hx129
                             try clear qi129
                             try clear c130
                             try clear c130b0
                             try clear c130b1
                             try clear c131
                             try clear c131b0
                             try clear c131b1
                             try clear p132
                             try clear q132
                             try clear hx132
                             try clear qi132
                             try clear p1
                             try clear p10
                             try clear p103
                             try clear p106
                             try clear p11
                             try clear p116
                             try clear p119
                             try clear p129
                             try clear p132
                             try clear p2
                             try clear p20
                             try clear p28
                             try clear p3
                             try clear p31
                             try clear p33
                             try clear p38
                             try clear p4
                             try clear p40
                             try clear p45
                             try clear p49
                             try clear p5
                             try clear p51
                             try clear p6
                             try clear p64
                             try clear p7
                             try clear p77
                             try clear p8
                             try clear p80
                             try clear p9
                             try clear p90
                             try clear p93
                             try clear q1
                             try clear q10
                             try clear q103
                             try clear q106
                             try clear q11
                             try clear q116
                             try clear q119
                             try clear q129
                             try clear q132
                             try clear q2
                             try clear q20
                             try clear q28
                             try clear q3
                             try clear q31
                             try clear q33
                             try clear q38
                             try clear q4
                             try clear q40
                             try clear q45
                             try clear q49
                             try clear q5
                             try clear q51
                             try clear q7
                             try clear q77
                             try clear q8
                             try clear q80
                             try clear q9
                             try clear q90
                             try clear q93
                             obtain ⟨kq, x165_126, rfl, HA, HJ126, ⟨mc126, rfl⟩⟩ := hcut
                             cases kq with
                             | zero => exact absurd HA.out (by simp [gjson_parseQuery.j12])
                             | succ kj126 =>
                              have H := HA.out
                              clear HA
                              simp only [gjson_parseQuery.j12] at H
                              by_cases c133 : x165_126 = true
                              ·
                               subst c133
                               have H1 : (if 1 ≤ (t102.size : Int) then (if 0 ≤ 1 then (if 1 ≤ ((t102.extract 1 t102.size).size : Int) then ((gjson_trim.f kj126 ((t102.extract 1 t102.size).extract 1 (t102.extract 1 t102.size).size)).bind fun t108 => (some (t101, (t102.extract 1 t102.size).extract 0 1, t108, js67, wrap64 (x6_11 + 1), x7_11, true))) else (none)) else (none)) else (none)) = some (r1, r2, r3, r4, r5, r6, r7) := by rw [if_pos rfl] at H; exact H
                               clear H
                               have H := H1
                               clear H1
                               by_cases c134 : 1 ≤ (t102.size : Int)
                               ·
                                rw [if_pos c134] at H
                                have c134b0 := eq_true c134
                                have c134b1 : decide (1 ≤ (t102.size : Int)) = true := decide_eq_true c134
                                clear c134
                                obtain ⟨js135, hjs135⟩ : ∃ j_ : ByteArray, (t102.extract 1 t102.size) = j_ := ⟨_, rfl⟩
                                skip
                                replace H : (if 0 ≤ 1 then (if 1 ≤ (js135.size : Int) then ((gjson_trim.f kj126 (js135.extract 1 js135.size)).bind fun t108 => (some (t101, js135.extract 0 1, t108, js67, wrap64 (x6_11 + 1), x7_11, true))) else (none)) else (none)) = some (r1, r2, r3, r4, r5, r6, r7) := by first | (rw [hjs135] at H; exact H) | (simp only [hjs135] at H ⊢; exact H)
                                by_cases c136 : 0 ≤ 1
                                ·
                                 rw [if_pos c136] at H
                                 have c136b0 := eq_true c136
                                 have c136b1 : decide (0 ≤ 1) = true := decide_eq_true c136
                                 clear c136
                                 by_cases c137 : 1 ≤ (js135.size : Int)
                                 ·
                                  rw [if_pos c137] at H
                                  have c137b0 := eq_true c137
                                  have c137b1 : decide (1 ≤ (js135.size : Int)) = true := decide_eq_true c137
                                  clear c137
                                  obtain ⟨js138, hjs138⟩ : ∃ j_ : ByteArray, (js135.extract 0 1) = j_ := ⟨_, rfl⟩
                                  skip
                                  replace H : ((gjson_trim.f kj126 (js135.extract 1 js135.size)).bind fun t108 => (some (t101, js138, t108, js67, wrap64 (x6_11 + 1), x7_11, true))) = some (r1, r2, r3, r4, r5, r6, r7) := by first | (rw [hjs138] at H; exact H) | (simp only [hjs138] at H ⊢; exact H)
                                  have c139b0 := eq_true (of_decide_eq_true (by first | (with_reducible assumption) | assumption) : 1 ≤ (js135.size : Int))
                                  obtain ⟨js140, hjs140⟩ : ∃ j_ : ByteArray, (js135.extract 1 js135.size) = j_ := ⟨_, rfl⟩
                                  skip
                                  replace H : ((gjson_trim.f kj126 js140).bind fun t108 => (some (t101, js138, t108, js67, wrap64 (x6_11 + 1), x7_11, true))) = some (r1, r2, r3, r4, r5, r6, r7) := by first | (rw [hjs140] at H; exact H) | (simp only [hjs140] at H ⊢; exact H)
                                  replace H := Option.bind_eq_some_iff.mp H
                                  obtain ⟨t108, A1410, H⟩ := H
                                  replace H : (some (t101, js138, t108, js67, wrap64 (x6_11 + 1), x7_11, true)) = some (r1, r2, r3, r4, r5, r6, r7) := H
                                  have A141 := Aside0.mk A1410
                                  clear A1410
                                  as_aux_lemma =>
                                   simp only [Option.some.injEq, Prod.mk.injEq] at H
                                   obtain ⟨rfl, rfl, rfl, rfl, rfl, rfl, rfl⟩ := H
                                   go_wp2_with (first | ((with_reducible refine gate_callee (f := 52) rfl ?_); refine goesL_ (some 198) rfl rfl Try.func52 (by kernel_rfl) rfl #[.string js140] rfl (by (try simp only [List.map_toArray, List.map_cons, List.map_nil]); first | done | rfl | (simp only [List.length_drop, List.length_take]; rfl)) ?_; (with_reducible refine (gjson_trim.calls kj126 js140 t108 _ A141.out).mono ?_); rintro e w' ⟨rfl, ⟨nd, rfl⟩⟩; refine ⟨_, rfl, ?_⟩))
                                   refine bodyPost_ret (results_list (rs := [.tmp 2, .tmp 3, .tmp 4, .tmp 5, .tmp 6, .tmp 7, .tmp 8]) rfl (by simp) (.tmp (.tmp (.tmp (.tmp (.tmp (.tmp (.tmp .nil)))))))) rfl ?_
                                   exact ⟨by first | rfl | (simp; done) | (simp only [← hjs57, ← hjs62, ← hji64, ← hjs67, ← hjs135, ← hjs138, ← hjs140] <;> (first | rfl | simp)) | (simp [nil_ne_, nil_eq_]; done) | (simp [*]; done), by repeat (first | exact Drawn0.refl _ | apply Drawn0.step)⟩
                                 ·
                                  rw [if_neg c137] at H
                                  exact absurd H (by simp)
                                ·
                                 rw [if_neg c136] at H
                                 exact absurd H (by simp)
                               ·
                                rw [if_neg c134] at H
                                exact absurd H (by simp)
                              ·
                               replace c133 := Bool.eq_false_iff.mpr c133
                               subst c133
                               have H1 : (if 0 < (t102.size : Int) then (if (bt t102 0) = 60 then (if 0 ≤ 1 then (if 1 ≤ (t102.size : Int) then ((gjson_trim.f kj126 (t102.extract 1 t102.size)).bind fun t109 => (some (t101, t102.extract 0 1, t109, js67, wrap64 (x6_11 + 1), x7_11, true))) else (none)) else (none)) else (if (bt t102 0) = 62 then (if 0 ≤ 1 then (if 1 ≤ (t102.size : Int) then ((gjson_trim.f kj126 (t102.extract 1 t102.size)).bind fun t110 => (some (t101, t102.extract 0 1, t110, js67, wrap64 (x6_11 + 1), x7_11, true))) else (none)) else (none)) else (if (bt t102 0) = 61 then (if 0 ≤ 1 then (if 1 ≤ (t102.size : Int) then ((gjson_trim.f kj126 (t102.extract 1 t102.size)).bind fun t111 => (some (t101, t102.extract 0 1, t111, js67, wrap64 (x6_11 + 1), x7_11, true))) else (none)) else (none)) else (if (bt t102 0) = 37 then (if 0 ≤ 1 then (if 1 ≤ (t102.size : Int) then ((gjson_trim.f kj126 (t102.extract 1 t102.size)).bind fun t112 => (some (t101, t102.extract 0 1, t112, js67, wrap64 (x6_11 + 1), x7_11, true))) else (none)) else (none)) else (if 0 ≤ 0 then (if 0 ≤ (t102.size : Int) then ((gjson_trim.f kj126 (t102.extract (0 : Int).toNat t102.size)).bind fun t113 => (some (t101, t102.extract 0 (0 : Int).toNat, t113, js67, wrap64 (x6_11 + 1), x7_11, true))) else (none)) else (none)))))) else (none)) = some (r1, r2, r3, r4, r5, r6, r7) := by rw [if_neg (show ¬ (false = true) by decide)] at H; exact H
                               clear H
                               have H := H1
                               clear H1
                               by_cases c142 : 0 < (t102.size : Int)
                               ·
                                rw [if_pos c142] at H
                                have c142b0 : decide (0 < (t102.size : Int)) = true := decide_eq_true c142
                                have c142b1 : decide (0 < t102.size) = true := decide_eq_true (by omega)
                                clear c142
                                by_cases c144 : (bt t102 0) = 60
                                ·
                                 rw [if_pos c144] at H
                                 have c144b0 : ((bt t102 0) == 60) = true := beq_iff_eq.mpr c144
                                 have c144b1 : ((bt t102 0) != 60) = false := bne_eq_false_iff_eq.mpr c144
                                 clear c144
                                 by_cases c145 : 0 ≤ 1
                                 ·
                                  rw [if_pos c145] at H
                                  have c145b0 := eq_true c145
                                  have c145b1 : decide (0 ≤ 1) = true := decide_eq_true c145
                                  clear c145
                                  by_cases c146 : 1 ≤ (t102.size : Int)
                                  ·
                                   rw [if_pos c146] at H
                                   have c146b0 := eq_true c146
                                   have c146b1 : decide (1 ≤ (t102.size : Int)) = true := decide_eq_true c146
                                   clear c146
                                   obtain ⟨js147, hjs147⟩ : ∃ j_ : ByteArray, (t102.extract 0 1) = j_ := ⟨_, rfl⟩
                                   skip
                                   replace H : ((gjson_trim.f kj126 (t102.extract 1 t102.size)).bind fun t109 => (some (t101, js147, t109, js67, wrap64 (x6_11 + 1), x7_11, true))) = some (r1, r2, r3, r4, r5, r6, r7) := by first | (rw [hjs147] at H; exact H) | (simp only [hjs147] at H ⊢; exact H)
                                   have c148b0 := eq_true (of_decide_eq_true (by first | (with_reducible assumption) | assumption) : 1 ≤ (t102.size : Int))
                                   obtain ⟨js149, hjs149⟩ : ∃ j_ : ByteArray, (t102.extract 1 t102.size) = j_ := ⟨_, rfl⟩
                                   skip
                                   replace H : ((gjson_trim.f kj126 js149).bind fun t109 => (some (t101, js147, t109, js67, wrap64 (x6_11 + 1), x7_11, true))) = some (r1, r2, r3, r4, r5, r6, r7) := by first | (rw [hjs149] at H; exact H) | (simp only [hjs149] at H ⊢; exact H)
                                   replace H := Option.bind_eq_some_iff.mp H
                                   obtain ⟨t109, A1500, H⟩ := H
                                   replace H : (some (t101, js147, t109, js67, wrap64 (x6_11 + 1), x7_11, true)) = some (r1, r2, r3, r4, r5, r6, r7) := H
                                   have A150 := Aside0.mk A1500
                                   clear A1500
                                   as_aux_lemma =>
                                    simp only [Option.some.injEq, Prod.mk.injEq] at H
                                    obtain ⟨rfl, rfl, rfl, rfl, rfl, rfl, rfl⟩ := H
                                    have p143 : 0 ≤ (0 : Int) := (by omega)
                                    have q143 : 0 < t102.size := (by have : (0 : Int) < (t102.size : Int) := of_decide_eq_true (by first | (with_reducible assumption) | assumption); omega)
                                    have hx143 := bt_lit t102 0 0 rfl
                                    clear p143
                                    have qi143 : (0 < (t102.size : Int)) = True := eq_true (of_decide_eq_true (by first | (with_reducible assumption) | assumption))
                                    replace q143 := eq_true q143
                                    go_wp2_with (first | ((with_reducible refine gate_callee (f := 52) rfl ?_); refine goesL_ (some 198) rfl rfl Try.func52 (by kernel_rfl) rfl #[.string js149] rfl (by (try simp only [List.map_toArray, List.map_cons, List.map_nil]); first | done | rfl | (simp only [List.length_drop, List.length_take]; rfl)) ?_; (with_reducible refine (gjson_trim.calls kj126 js149 t109 _ A150.out).mono ?_); rintro e w' ⟨rfl, ⟨nd, rfl⟩⟩; refine ⟨_, rfl, ?_⟩))
                                    refine bodyPost_ret (results_list (rs := [.tmp 2, .tmp 3, .tmp 4, .tmp 5, .tmp 6, .tmp 7, .tmp 8]) rfl (by simp) (.tmp (.tmp (.tmp (.tmp (.tmp (.tmp (.tmp .nil)))))))) rfl ?_
                                    exact ⟨by first | rfl | (simp; done) | (simp only [← hjs57, ← hjs62, ← hji64, ← hjs67, ← hjs147, ← hjs149] <;> (first | rfl | simp)) | (simp [nil_ne_, nil_eq_]; done) | (simp [*]; done), by repeat (first | exact Drawn0.refl _ | apply Drawn0.step)⟩
                                  ·
                                   rw [if_neg c146] at H
                                   exact absurd H (by simp)
                                 ·
                                  rw [if_neg c145] at H
                                  exact absurd H (by simp)
                                ·
                                 rw [if_neg c144] at H
                                 have c144b0 : ((bt t102 0) == 60) = false := beq_eq_false_iff_ne.mpr c144
                                 have c144b1 : ((bt t102 0) != 60) = true := bne_iff_ne.mpr c144
                                 by_cases c152 : (bt t102 0) = 62
                                 ·
                                  rw [if_pos c152] at H
                                  have c152b0 : ((bt t102 0) == 62) = true := beq_iff_eq.mpr c152
                                  have c152b1 : ((bt t102 0) != 62) = false := bne_eq_false_iff_eq.mpr c152
                                  clear c152
                                  by_cases c153 : 0 ≤ 1
                                  ·
                                   rw [if_pos c153] at H
                                   have c153b0 := eq_true c153
                                   have c153b1 : decide (0 ≤ 1) = true := decide_eq_true c153
                                   clear c153
                                   by_cases c154 : 1 ≤ (t102.size : Int)
                                   ·
                                    rw [if_pos c154] at H
                                    have c154b0 := eq_true c154
                                    have c154b1 : decide (1 ≤ (t102.size : Int)) = true := decide_eq_true c154
                                    clear c154
                                    obtain ⟨js155, hjs155⟩ : ∃ j_ : ByteArray, (t102.extract 0 1) = j_ := ⟨_, rfl⟩
                                    skip
                                    replace H : ((gjson_trim.f kj126 (t102.extract 1 t102.size)).bind fun t110 => (some (t101, js155, t110, js67, wrap64 (x6_11 + 1), x7_11, true))) = some (r1, r2, r3, r4, r5, r6, r7) := by first | (rw [hjs155] at H; exact H) | (simp only [hjs155] at H ⊢; exact H)
                                    have c156b0 := eq_true (of_decide_eq_true (by first | (with_reducible assumption) | assumption) : 1 ≤ (t102.size : Int))
                                    obtain ⟨js157, hjs157⟩ : ∃ j_ : ByteArray, (t102.extract 1 t102.size) = j_ := ⟨_, rfl⟩
                                    skip
                                    replace H : ((gjson_trim.f kj126 js157).bind fun t110 => (some (t101, js155, t110, js67, wrap64 (x6_11 + 1), x7_11, true))) = some (r1, r2, r3, r4, r5, r6, r7) := by first | (rw [hjs157] at H; exact H) | (simp only [hjs157] at H ⊢; exact H)
                                    replace H := Option.bind_eq_some_iff.mp H
                                    obtain ⟨t110, A1580, H⟩ := H
                                    replace H : (some (t101, js155, t110, js67, wrap64 (x6_11 + 1), x7_11, true)) = some (r1, r2, r3, r4, r5, r6, r7) := H
                                    have A158 := Aside0.mk A1580
                                    clear A1580
                                    as_aux_lemma =>
                                     simp only [Option.some.injEq, Prod.mk.injEq] at H
                                     obtain ⟨rfl, rfl, rfl, rfl, rfl, rfl, rfl⟩ := H
                                     have p143 : 0 ≤ (0 : Int) := (by omega)
                                     have q143 : 0 < t102.size := (by have : (0 : Int) < (t102.size : Int) := of_decide_eq_true (by first | (with_reducible assumption) | assumption); omega)
                                     have hx143 := bt_lit t102 0 0 rfl
                                     clear p143
                                     have qi143 : (0 < (t102.size : Int)) = True := eq_true (of_decide_eq_true (by first | (with_reducible assumption) | assumption))
                                     replace q143 := eq_true q143
                                     have p151 : 0 ≤ (0 : Int) := (by omega)
                                     have q151 : 0 < t102.size := (by have : (0 : Int) < (t102.size : Int) := of_decide_eq_true (by first | (with_reducible assumption) | assumption); omega)
                                     have hx151 := bt_lit t102 0 0 rfl
                                     clear p151
                                     have qi151 : (0 < (t102.size : Int)) = True := eq_true (of_decide_eq_true (by first | (with_reducible assumption) | assumption))
                                     replace q151 := eq_true q151
                                     go_wp2_with (first | ((with_reducible refine gate_callee (f := 52) rfl ?_); refine goesL_ (some 198) rfl rfl Try.func52 (by kernel_rfl) rfl #[.string js157] rfl (by (try simp only [List.map_toArray, List.map_cons, List.map_nil]); first | done | rfl | (simp only [List.length_drop, List.length_take]; rfl)) ?_; (with_reducible refine (gjson_trim.calls kj126 js157 t110 _ A158.out).mono ?_); rintro e w' ⟨rfl, ⟨nd, rfl⟩⟩; refine ⟨_, rfl, ?_⟩))
                                     refine bodyPost_ret (results_list (rs := [.tmp 2, .tmp 3, .tmp 4, .tmp 5, .tmp 6, .tmp 7, .tmp 8]) rfl (by simp) (.tmp (.tmp (.tmp (.tmp (.tmp (.tmp (.tmp .nil)))))))) rfl ?_
                                     exact ⟨by first | rfl | (simp; done) | (simp only [← hjs57, ← hjs62, ← hji64, ← hjs67, ← hjs155, ← hjs157] <;> (first | rfl | simp)) | (simp [nil_ne_, nil_eq_]; done) | (simp [*]; done), by repeat (first | exact Drawn0.refl _ | apply Drawn0.step)⟩
                                   ·
                                    rw [if_neg c154] at H
                                    exact absurd H (by simp)
                                  ·
                                   rw [if_neg c153] at H
                                   exact absurd H (by simp)
                                 ·
                                  rw [if_neg c152] at H
                                  have c152b0 : ((bt t102 0) == 62) = false := beq_eq_false_iff_ne.mpr c152
                                  have c152b1 : ((bt t102 0) != 62) = true := bne_iff_ne.mpr c152
                                  by_cases c160 : (bt t102 0) = 61
                                  ·
                                   rw [if_pos c160] at H
                                   have c160b0 : ((bt t102 0) == 61) = true := beq_iff_eq.mpr c160
                                   have c160b1 : ((bt t102 0) != 61) = false := bne_eq_false_iff_eq.mpr c160
                                   clear c160
                                   by_cases c161 : 0 ≤ 1
                                   ·
                                    rw [if_pos c161] at H
                                    have c161b0 := eq_true c161
                                    have c161b1 : decide (0 ≤ 1) = true := decide_eq_true c161
                                    clear c161
                                    by_cases c162 : 1 ≤ (t102.size : Int)
                                    ·
                                     rw [if_pos c162] at H
                                     have c162b0 := eq_true c162
                                     have c162b1 : decide (1 ≤ (t102.size : Int)) = true := decide_eq_true c162
                                     clear c162
                                     obtain ⟨js163, hjs163⟩ : ∃ j_ : ByteArray, (t102.extract 0 1) = j_ := ⟨_, rfl⟩
                                     skip
                                     replace H : ((gjson_trim.f kj126 (t102.extract 1 t102.size)).bind fun t111 => (some (t101, js163, t111, js67, wrap64 (x6_11 + 1), x7_11, true))) = some (r1, r2, r3, r4, r5, r6, r7) := by first | (rw [hjs163] at H; exact H) | (simp only [hjs163] at H ⊢; exact H)
                                     have c164b0 := eq_true (of_decide_eq_true (by first | (with_reducible assumption) | assumption) : 1 ≤ (t102.size : Int))
                                     obtain ⟨js165, hjs165⟩ : ∃ j_ : ByteArray, (t102.extract 1 t102.size) = j_ := ⟨_, rfl⟩
                                     skip
                                     replace H : ((gjson_trim.f kj126 js165).bind fun t111 => (some (t101, js163, t111, js67, wrap64 (x6_11 + 1), x7_11, true))) = some (r1, r2, r3, r4, r5, r6, r7) := by first | (rw [hjs165] at H; exact H) | (simp only [hjs165] at H ⊢; exact H)
                                     replace H := Option.bind_eq_some_iff.mp H
                                     obtain ⟨t111, A1660, H⟩ := H
                                     replace H : (some (t101, js163, t111, js67, wrap64 (x6_11 + 1), x7_11, true)) = some (r1, r2, r3, r4, r5, r6, r7) := H
                                     have A166 := Aside0.mk A1660
                                     clear A1660
                                     as_aux_lemma =>
                                      simp only [Option.some.injEq, Prod.mk.injEq] at H
                                      obtain ⟨rfl, rfl, rfl, rfl, rfl, rfl, rfl⟩ := H
                                      have p143 : 0 ≤ (0 : Int) := (by omega)
                                      have q143 : 0 < t102.size := (by have : (0 : Int) < (t102.size : Int) := of_decide_eq_true (by first | (with_reducible assumption) | assumption); omega)
                                      have hx143 := bt_lit t102 0 0 rfl
                                      clear p143
                                      have qi143 : (0 < (t102.size : Int)) = True := eq_true (of_decide_eq_true (by first | (with_reducible assumption) | assumption))
                                      replace q143 := eq_true q143
                                      have p151 : 0 ≤ (0 : Int) := (by omega)
                                      have q151 : 0 < t102.size := (by have : (0 : Int) < (t102.size : Int) := of_decide_eq_true (by first | (with_reducible assumption) | assumption); omega)
                                      have hx151 := bt_lit t102 0 0 rfl
                                      clear p151
                                      have qi151 : (0 < (t102.size : Int)) = True := eq_true (of_decide_eq_true (by first | (with_reducible assumption) | assumption))
                                      replace q151 := eq_true q151
                                      have p159 : 0 ≤ (0 : Int) := (by omega)
                                      have q159 : 0 < t102.size := (by have : (0 : Int) < (t102.size : Int) := of_decide_eq_true (by first | (with_reducible assumption) | assumption); omega)
                                      have hx159 := bt_lit t102 0 0 rfl
                                      clear p159
                                      have qi159 : (0 < (t102.size : Int)) = True := eq_true (of_decide_eq_true (by first | (with_reducible assumption) | assumption))
                                      replace q159 := eq_true q159
                                      go_wp2_with (first | ((with_reducible refine gate_callee (f := 52) rfl ?_); refine goesL_ (some 198) rfl rfl Try.func52 (by kernel_rfl) rfl #[.string js165] rfl (by (try simp only [List.map_toArray, List.map_cons, List.map_nil]); first | done | rfl | (simp only [List.length_drop, List.length_take]; rfl)) ?_; (with_reducible refine (gjson_trim.calls kj126 js165 t111 _ A166.out).mono ?_); rintro e w' ⟨rfl, ⟨nd, rfl⟩⟩; refine ⟨_, rfl, ?_⟩))
                                      refine bodyPost_ret (results_list (rs := [.tmp 2, .tmp 3, .tmp 4, .tmp 5, .tmp 6, .tmp 7, .tmp 8]) rfl (by simp) (.tmp (.tmp (.tmp (.tmp (.tmp (.tmp (.tmp .nil)))))))) rfl ?_
                                      exact ⟨by first | rfl | (simp; done) | (simp only [← hjs57, ← hjs62, ← hji64, ← hjs67, ← hjs163, ← hjs165] <;> (first | rfl | simp)) | (simp [nil_ne_, nil_eq_]; done) | (simp [*]; done), by repeat (first | exact Drawn0.refl _ | apply Drawn0.step)⟩
                                    ·
                                     rw [if_neg c162] at H
                                     exact absurd H (by simp)
                                   ·
                                    rw [if_neg c161] at H
                                    exact absurd H (by simp)
                                  ·
                                   rw [if_neg c160] at H
                                   have c160b0 : ((bt t102 0) == 61) = false := beq_eq_false_iff_ne.mpr c160
                                   have c160b1 : ((bt t102 0) != 61) = true := bne_iff_ne.mpr c160
                                   by_cases c168 : (bt t102 0) = 37
                                   ·
                                    rw [if_pos c168] at H
                                    have c168b0 : ((bt t102 0) == 37) = true := beq_iff_eq.mpr c168
                                    have c168b1 : ((bt t102 0) != 37) = false := bne_eq_false_iff_eq.mpr c168
                                    clear c168
                                    by_cases c169 : 0 ≤ 1
                                    ·
                                     rw [if_pos c169] at H
                                     have c169b0 := eq_true c169
                                     have c169b1 : decide (0 ≤ 1) = true := decide_eq_true c169
                                     clear c169
                                     by_cases c170 : 1 ≤ (t102.size : Int)
                                     ·
                                      rw [if_pos c170] at H
                                      have c170b0 := eq_true c170
                                      have c170b1 : decide (1 ≤ (t102.size : Int)) = true := decide_eq_true c170
                                      clear c170
                                      obtain ⟨js171, hjs171⟩ : ∃ j_ : ByteArray, (t102.extract 0 1) = j_ := ⟨_, rfl⟩
                                      skip
                                      replace H : ((gjson_trim.f kj126 (t102.extract 1 t102.size)).bind fun t112 => (some (t101, js171, t112, js67, wrap64 (x6_11 + 1), x7_11, true))) = some (r1, r2, r3, r4, r5, r6, r7) := by first | (rw [hjs171] at H; exact H) | (simp only [hjs171] at H ⊢; exact H)
                                      have c172b0 := eq_true (of_decide_eq_true (by first | (with_reducible assumption) | assumption) : 1 ≤ (t102.size : Int))
                                      obtain ⟨js173, hjs173⟩ : ∃ j_ : ByteArray, (t102.extract 1 t102.size) = j_ := ⟨_, rfl⟩
                                      skip
                                      replace H : ((gjson_trim.f kj126 js173).bind fun t112 => (some (t101, js171, t112, js67, wrap64 (x6_11 + 1), x7_11, true))) = some (r1, r2, r3, r4, r5, r6, r7) := by first | (rw [hjs173] at H; exact H) | (simp only [hjs173] at H ⊢; exact H)
                                      replace H := Option.bind_eq_some_iff.mp H
                                      obtain ⟨t112, A1740, H⟩ := H
                                      replace H : (some (t101, js171, t112, js67, wrap64 (x6_11 + 1), x7_11, true)) = some (r1, r2, r3, r4, r5, r6, r7) := H
                                      have A174 := Aside0.mk A1740
                                      clear A1740
                                      as_aux_lemma =>
                                       simp only [Option.some.injEq, Prod.mk.injEq] at H
                                       obtain ⟨rfl, rfl, rfl, rfl, rfl, rfl, rfl⟩ := H
                                       have p143 : 0 ≤ (0 : Int) := (by omega)
                                       have q143 : 0 < t102.size := (by have : (0 : Int) < (t102.size : Int) := of_decide_eq_true (by first | (with_reducible assumption) | assumption); omega)
                                       have hx143 := bt_lit t102 0 0 rfl
                                       clear p143
                                       have qi143 : (0 < (t102.size : Int)) = True := eq_true (of_decide_eq_true (by first | (with_reducible assumption) | assumption))
                                       replace q143 := eq_true q143
                                       have p151 : 0 ≤ (0 : Int) := (by omega)
                                       have q151 : 0 < t102.size := (by have : (0 : Int) < (t102.size : Int) := of_decide_eq_true (by first | (with_reducible assumption) | assumption); omega)
                                       have hx151 := bt_lit t102 0 0 rfl
                                       clear p151
                                       have qi151 : (0 < (t102.size : Int)) = True := eq_true (of_decide_eq_true (by first | (with_reducible assumption) | assumption))
                                       replace q151 := eq_true q151
                                       have p159 : 0 ≤ (0 : Int) := (by omega)
                                       have q159 : 0 < t102.size := (by have : (0 : Int) < (t102.size : Int) := of_decide_eq_true (by first | (with_reducible assumption) | assumption); omega)
                                       have hx159 := bt_lit t102 0 0 rfl
                                       clear p159
                                       have qi159 : (0 < (t102.size : Int)) = True := eq_true (of_decide_eq_true (by first | (with_reducible assumption) | assumption))
                                       replace q159 := eq_true q159
                                       have p167 : 0 ≤ (0 : Int) := (by omega)
                                       have q167 : 0 < t102.size := (by have : (0 : Int) < (t102.size : Int) := of_decide_eq_true (by first | (with_reducible assumption) | assumption); omega)
                                       have hx167 := bt_lit t102 0 0 rfl
                                       clear p167
                                       have qi167 : (0 < (t102.size : Int)) = True := eq_true (of_decide_eq_true (by first | (with_reducible assumption) | assumption))
                                       replace q167 := eq_true q167
                                       go_wp2_with (first | ((with_reducible refine gate_callee (f := 52) rfl ?_); refine goesL_ (some 198) rfl rfl Try.func52 (by kernel_rfl) rfl #[.string js173] rfl (by (try simp only [List.map_toArray, List.map_cons, List.map_nil]); first | done | rfl | (simp only [List.length_drop, List.length_take]; rfl)) ?_; (with_reducible refine (gjson_trim.calls kj126 js173 t112 _ A174.out).mono ?_); rintro e w' ⟨rfl, ⟨nd, rfl⟩⟩; refine ⟨_, rfl, ?_⟩))
                                       refine bodyPost_ret (results_list (rs := [.tmp 2, .tmp 3, .tmp 4, .tmp 5, .tmp 6, .tmp 7, .tmp 8]) rfl (by simp) (.tmp (.tmp (.tmp (.tmp (.tmp (.tmp (.tmp .nil)))))))) rfl ?_
                                       exact ⟨by first | rfl | (simp; done) | (simp only [← hjs57, ← hjs62, ← hji64, ← hjs67, ← hjs171, ← hjs173] <;> (first | rfl | simp)) | (simp [nil_ne_, nil_eq_]; done) | (simp [*]; done), by repeat (first | exact Drawn0.refl _ | apply Drawn0.step)⟩
                                     ·
                                      rw [if_neg c170] at H
                                      exact absurd H (by simp)
                                    ·
                                     rw [if_neg c169] at H
                                     exact absurd H (by simp)
                                   ·
                                    rw [if_neg c168] at H
                                    have c168b0 : ((bt t102 0) == 37) = false := beq_eq_false_iff_ne.mpr c168
                                    have c168b1 : ((bt t102 0) != 37) = true := bne_iff_ne.mpr c168
                                    by_cases c175 : 0 ≤ 0
                                    ·
                                     rw [if_pos c175] at H
                                     have c175b0 := eq_true c175
                                     have c175b1 : decide (0 ≤ 0) = true := decide_eq_true c175
                                     clear c175
                                     by_cases c176 : 0 ≤ (t102.size : Int)
                                     ·
                                      rw [if_pos c176] at H
                                      have c176b0 := eq_true c176
                                      have c176b1 : decide (0 ≤ (t102.size : Int)) = true := decide_eq_true c176
                                      clear c176
                                      obtain ⟨js177, hjs177⟩ : ∃ j_ : ByteArray, (t102.extract 0 (0 : Int).toNat) = j_ := ⟨_, rfl⟩
                                      have hjs177_ : (t102.extract 0 0) = js177 := hjs177
                                      replace H : ((gjson_trim.f kj126 (t102.extract (0 : Int).toNat t102.size)).bind fun t113 => (some (t101, js177, t113, js67, wrap64 (x6_11 + 1), x7_11, true))) = some (r1, r2, r3, r4, r5, r6, r7) := by first | (rw [hjs177] at H; exact H) | (simp only [hjs177] at H ⊢; exact H)
                                      have c178b0 := eq_true (of_decide_eq_true (by first | (with_reducible assumption) | assumption) : 0 ≤ 0)
                                      have c179b0 := eq_true (of_decide_eq_true (by first | (with_reducible assumption) | assumption) : 0 ≤ (t102.size : Int))
                                      obtain ⟨js180, hjs180⟩ : ∃ j_ : ByteArray, (t102.extract (0 : Int).toNat t102.size) = j_ := ⟨_, rfl⟩
                                      have hjs180_ : (t102.extract 0 t102.size) = js180 := hjs180
                                      replace H : ((gjson_trim.f kj126 js180).bind fun t113 => (some (t101, js177, t113, js67, wrap64 (x6_11 + 1), x7_11, true))) = some (r1, r2, r3, r4, r5, r6, r7) := by first | (rw [hjs180] at H; exact H) | (simp only [hjs180] at H ⊢; exact H)
                                      replace H := Option.bind_eq_some_iff.mp H
                                      obtain ⟨t113, A1810, H⟩ := H
                                      replace H : (some (t101, js177, t113, js67, wrap64 (x6_11 + 1), x7_11, true)) = some (r1, r2, r3, r4, r5, r6, r7) := H
                                      have A181 := Aside0.mk A1810
                                      clear A1810
                                      as_aux_lemma =>
                                       simp only [Option.some.injEq, Prod.mk.injEq] at H
                                       obtain ⟨rfl, rfl, rfl, rfl, rfl, rfl, rfl⟩ := H
                                       have p143 : 0 ≤ (0 : Int) := (by omega)
                                       have q143 : 0 < t102.size := (by have : (0 : Int) < (t102.size : Int) := of_decide_eq_true (by first | (with_reducible assumption) | assumption); omega)
                                       have hx143 := bt_lit t102 0 0 rfl
                                       clear p143
                                       have qi143 : (0 < (t102.size : Int)) = True := eq_true (of_decide_eq_true (by first | (with_reducible assumption) | assumption))
                                       replace q143 := eq_true q143
                                       have p151 : 0 ≤ (0 : Int) := (by omega)
                                       have q151 : 0 < t102.size := (by have : (0 : Int) < (t102.size : Int) := of_decide_eq_true (by first | (with_reducible assumption) | assumption); omega)
                                       have hx151 := bt_lit t102 0 0 rfl
                                       clear p151
                                       have qi151 : (0 < (t102.size : Int)) = True := eq_true (of_decide_eq_true (by first | (with_reducible assumption) | assumption))
                                       replace q151 := eq_true q151
                                       have p159 : 0 ≤ (0 : Int) := (by omega)
                                       have q159 : 0 < t102.size := (by have : (0 : Int) < (t102.size : Int) := of_decide_eq_true (by first | (with_reducible assumption) | assumption); omega)
                                       have hx159 := bt_lit t102 0 0 rfl
                                       clear p159
                                       have qi159 : (0 < (t102.size : Int)) = True := eq_true (of_decide_eq_true (by first | (with_reducible assumption) | assumption))
                                       replace q159 := eq_true q159
                                       have p167 : 0 ≤ (0 : Int) := (by omega)
                                       have q167 : 0 < t102.size := (by have : (0 : Int) < (t102.size : Int) := of_decide_eq_true (by first | (with_reducible assumption) | assumption); omega)
                                       have hx167 := bt_lit t102 0 0 rfl
                                       clear p167
                                       have qi167 : (0 < (t102.size : Int)) = True := eq_true (of_decide_eq_true (by first | (with_reducible assumption) | assumption))
                                       replace q167 := eq_true q167
                                       go_wp2_with (first | ((with_reducible refine gate_callee (f := 52) rfl ?_); refine goesL_ (some 198) rfl rfl Try.func52 (by kernel_rfl) rfl #[.string js180] rfl (by (try simp only [List.map_toArray, List.map_cons, List.map_nil]); first | done | rfl | (simp only [List.length_drop, List.length_take]; rfl)) ?_; (with_reducible refine (gjson_trim.calls kj126 js180 t113 _ A181.out).mono ?_); rintro e w' ⟨rfl, ⟨nd, rfl⟩⟩; refine ⟨_, rfl, ?_⟩))
                                       refine bodyPost_ret (results_list (rs := [.tmp 2, .tmp 3, .tmp 4, .tmp 5, .tmp 6, .tmp 7, .tmp 8]) rfl (by simp) (.tmp (.tmp (.tmp (.tmp (.tmp (.tmp (.tmp .nil)))))))) rfl ?_
                                       exact ⟨by first | rfl | (simp; done) | (simp only [← hjs57, ← hjs62, ← hji64, ← hjs67, ← hjs177, ← hjs180] <;> (first | rfl | simp)) | (simp [nil_ne_, nil_eq_]; done) | (simp [*]; done), by repeat (first | exact Drawn0.refl _ | apply Drawn0.step)⟩
                                     ·
                                      rw [if_neg c176] at H
                                      exact absurd H (by simp)
                                    ·
                                     rw [if_neg c175] at H
                                     exact absurd H (by simp)
                               ·
                                rw [if_neg c142] at H
                                exact absurd H (by simp)
              ·
               rw [if_neg c66] at H
               exact absurd H (by simp)
             ·
              rw [if_neg c65] at H
              exact absurd H (by simp)
            ·
             rw [if_neg c61] at H
             exact absurd H (by simp)
           ·
            rw [if_neg c60] at H
            exact absurd H (by simp)
          ·
           rw [if_neg c59] at H
           exact absurd H (by simp)
         ·
          rw [if_neg c56] at H
          exact absurd H (by simp)
        ·
         rw [if_neg c55] at H
         exact absurd H (by simp)
       ·
        rw [if_neg c54] at H
        have c54b0 : decide (0 < x9_11) = false := decide_eq_false c54
        clear c54
        by_cases c182 : 2 ≤ x6_11
        ·
         rw [if_pos c182] at H
         have c182b0 := eq_true c182
         have c182b1 : decide (2 ≤ x6_11) = true := decide_eq_true c182
         clear c182
         by_cases c183 : x6_11 ≤ (a0.size : Int)
         ·
          rw [if_pos c183] at H
          have c183b0 := eq_true c183
          have c183b1 : decide (x6_11 ≤ (a0.size : Int)) = true := decide_eq_true c183
          clear c183
          obtain ⟨js184, hjs184⟩ : ∃ j_ : ByteArray, (a0.extract 2 (x6_11 : Int).toNat) = j_ := ⟨_, rfl⟩
          skip
          replace H : ((gjson_trim.f kj11 js184).bind fun t114 => (if 0 ≤ (wrap64 (x6_11 + 1)) then (if (wrap64 (x6_11 + 1)) ≤ (a0.size : Int) then (some (t114, (⟨#[]⟩ : ByteArray), (⟨#[]⟩ : ByteArray), a0.extract ((wrap64 (x6_11 + 1)) : Int).toNat a0.size, wrap64 (x6_11 + 1), x7_11, true)) else (none)) else (none))) = some (r1, r2, r3, r4, r5, r6, r7) := by first | (rw [hjs184] at H; exact H) | (simp only [hjs184] at H ⊢; exact H)
          replace H := Option.bind_eq_some_iff.mp H
          obtain ⟨t114, A1850, H⟩ := H
          replace H : (if 0 ≤ (wrap64 (x6_11 + 1)) then (if (wrap64 (x6_11 + 1)) ≤ (a0.size : Int) then (some (t114, (⟨#[]⟩ : ByteArray), (⟨#[]⟩ : ByteArray), a0.extract ((wrap64 (x6_11 + 1)) : Int).toNat a0.size, wrap64 (x6_11 + 1), x7_11, true)) else (none)) else (none)) = some (r1, r2, r3, r4, r5, r6, r7) := H
          have A185 := Aside0.mk A1850
          clear A1850
          obtain ⟨ji186, hji186⟩ : ∃ j_ : Int, (wrap64 (x6_11 + 1)) = j_ := ⟨_, rfl⟩
          replace H : (if 0 ≤ (ji186) then (if (ji186) ≤ (a0.size : Int) then (some (t114, (⟨#[]⟩ : ByteArray), (⟨#[]⟩ : ByteArray), a0.extract ((ji186) : Int).toNat a0.size, ji186, x7_11, true)) else (none)) else (none)) = some (r1, r2, r3, r4, r5, r6, r7) := by first | (rw [hji186] at H; exact H) | (simp only [hji186] at H ⊢; exact H)
          (try rw [hji186] at A185)
          have hji186w : (IntKind.i64.wrap (x6_11 + 1)) = ji186 := (i64_w _).trans hji186
          by_cases c187 : 0 ≤ (ji186)
          ·
           rw [if_pos c187] at H
           have c187b0 := eq_true c187
           have c187b1 : decide (0 ≤ (ji186)) = true := decide_eq_true c187
           clear c187
           by_cases c188 : (ji186) ≤ (a0.size : Int)
           ·
            rw [if_pos c188] at H
            have c188b0 := eq_true c188
            have c188b1 : decide ((ji186) ≤ (a0.size : Int)) = true := decide_eq_true c188
            clear c188
            obtain ⟨js189, hjs189⟩ : ∃ j_ : ByteArray, (a0.extract ((ji186) : Int).toNat a0.size) = j_ := ⟨_, rfl⟩
            skip
            replace H : (some (t114, (⟨#[]⟩ : ByteArray), (⟨#[]⟩ : ByteArray), js189, ji186, x7_11, true)) = some (r1, r2, r3, r4, r5, r6, r7) := by first | (rw [hjs189] at H; exact H) | (simp only [hjs189] at H ⊢; exact H)
            as_aux_lemma =>
             simp only [Option.some.injEq, Prod.mk.injEq] at H
             obtain ⟨rfl, rfl, rfl, rfl, rfl, rfl, rfl⟩ := H
             go_wp2_with (first | ((with_reducible refine gate_callee (f := 52) rfl ?_); refine goesL_ (some 202) rfl rfl Try.func52 (by kernel_rfl) rfl #[.string js184] rfl (by (try simp only [List.map_toArray, List.map_cons, List.map_nil]); first | done | rfl | (simp only [List.length_drop, List.length_take]; rfl)) ?_; (with_reducible refine (gjson_trim.calls kj11 js184 t114 _ A185.out).mono ?_); rintro e w' ⟨rfl, ⟨nd, rfl⟩⟩; refine ⟨_, rfl, ?_⟩))
             refine bodyPost_ret (results_list (rs := [.tmp 2, .tmp 3, .tmp 4, .tmp 5, .tmp 6, .tmp 7, .tmp 8]) rfl (by simp) (.tmp (.tmp (.tmp (.tmp (.tmp (.tmp (.tmp .nil)))))))) rfl ?_
             exact ⟨by first | rfl | (simp; done) | (simp only [← hjs184, ← hji186, ← hjs189] <;> (first | rfl | simp)) | (simp [nil_ne_, nil_eq_]; done) | (simp [*]; done), by repeat (first | exact Drawn0.refl _ | apply Drawn0.step)⟩
           ·
            rw [if_neg c188] at H
            exact absurd H (by simp)
          ·
           rw [if_neg c187] at H
           exact absurd H (by simp)
         ·
          rw [if_neg c183] at H
          exact absurd H (by simp)
        ·
         rw [if_neg c182] at H
         exact absurd H (by simp)

end Go.Proofs.Ytnmbpleneddkhaa.PFnGjQueryParts
