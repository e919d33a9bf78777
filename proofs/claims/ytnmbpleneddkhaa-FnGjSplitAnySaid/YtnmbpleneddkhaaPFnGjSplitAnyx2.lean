/- what the Go functions that the law FnGjSplitAny reaches compute, each as a plain function, with the proof that the Go code computes just that; no condition beside those that each theorem states. -/
import Derived.Test.YtnmbpleneddkhaaPFnGjSplitAnyx0
import Derived.Test.YtnmbpleneddkhaaPFnGjSplitAnyx1
namespace Go.Proofs.Ytnmbpleneddkhaa.PFnGjSplitAny
open Go.RowKit Go.Proofs.YtnmbpleneddkhaaW.PrintWords Go.Proofs.YtnmbpleneddkhaaW.PrintLast Go.Proofs.YtnmbpleneddkhaaW.PrintMore
set_option linter.unusedVariables false
set_option linter.unusedSimpArgs false
mutual
def gjson_splitPossiblePipe.j1 : Nat → ByteArray → ByteArray → ByteArray → Bool → Bool → Option (ByteArray × ByteArray × Bool)
  | 0, _, _, _, _, _ => none
  | k + 1, x0, x2, x3, x4, x5 => if x5 = true then (if (x0.size : Int) > 0 then (if 0 < (x0.size : Int) then (gjson_splitPossiblePipe.j2 k x0 x2 x3 x4 ((bt x0 0) == 123)) else (none)) else (gjson_splitPossiblePipe.j2 k x0 x2 x3 x4 false)) else (some (x2, x3, x4))
def gjson_splitPossiblePipe.j2 : Nat → ByteArray → ByteArray → ByteArray → Bool → Bool → Option (ByteArray × ByteArray × Bool)
  | 0, _, _, _, _, _ => none
  | k + 1, x0, x2, x3, x4, x32 => if x32 = true then (if 1 ≤ (x0.size : Int) then ((gjson_squash.f k (x0.extract 1 x0.size)).bind fun t101 => (if (t101.size : Int) < (wrap64 ((x0.size : Int) - 1)) then (if 0 ≤ (wrap64 ((t101.size : Int) + 1)) then (if (wrap64 ((t101.size : Int) + 1)) ≤ (x0.size : Int) then (if 0 ≤ ((x0.extract 0 ((wrap64 ((t101.size : Int) + 1)) : Int).toNat).size : Int) then (if ((x0.extract 0 ((wrap64 ((t101.size : Int) + 1)) : Int).toNat).size : Int) ≤ (x0.size : Int) then (if 0 < ((x0.extract (x0.extract 0 ((wrap64 ((t101.size : Int) + 1)) : Int).toNat).size x0.size).size : Int) then (if (bt (x0.extract (x0.extract 0 ((wrap64 ((t101.size : Int) + 1)) : Int).toNat).size x0.size) 0) = 124 then (if 1 ≤ ((x0.extract (x0.extract 0 ((wrap64 ((t101.size : Int) + 1)) : Int).toNat).size x0.size).size : Int) then (some (x0.extract 0 ((wrap64 ((t101.size : Int) + 1)) : Int).toNat, (x0.extract (x0.extract 0 ((wrap64 ((t101.size : Int) + 1)) : Int).toNat).size x0.size).extract 1 (x0.extract (x0.extract 0 ((wrap64 ((t101.size : Int) + 1)) : Int).toNat).size x0.size).size, true)) else (none)) else (some (x2, x3, x4))) else (none)) else (none)) else (none)) else (none)) else (none)) else (some (x2, x3, x4)))) else (none)) else (gjson_splitPossiblePipe.l1 k x0 x2 x3 x4 0)
def gjson_splitPossiblePipe.l1 : Nat → ByteArray → ByteArray → ByteArray → Bool → Int → Option (ByteArray × ByteArray × Bool)
  | 0, _, _, _, _, _ => none
  | k + 1, x0, x2, x3, x4, x9 => if x9 < (x0.size : Int) then (if 0 ≤ x9 then (if (bt x0 x9) = 92 then (gjson_splitPossiblePipe.l1 k x0 x2 x3 x4 (wrap64 ((wrap64 (x9 + 1)) + 1))) else (if (bt x0 x9) = 46 then (if x9 = (wrap64 ((x0.size : Int) - 1)) then (some (x2, x3, x4)) else (if 0 ≤ (wrap64 (x9 + 1)) then (if (wrap64 (x9 + 1)) < (x0.size : Int) then (if (bt x0 (wrap64 (x9 + 1))) = 35 then (if (wrap64 (x9 + 2)) = (x0.size : Int) then (some (x2, x3, x4)) else (if 0 ≤ (wrap64 (x9 + 2)) then (if (wrap64 (x9 + 2)) < (x0.size : Int) then (if (bt x0 (wrap64 (x9 + 2))) = 91 then (gjson_splitPossiblePipe.j4 k x0 x2 x3 x4 (wrap64 (x9 + 2)) true) else (gjson_splitPossiblePipe.j4 k x0 x2 x3 x4 (wrap64 (x9 + 2)) ((bt x0 (wrap64 (x9 + 2))) == 40))) else (none)) else (none))) else (gjson_splitPossiblePipe.l1 k x0 x2 x3 x4 (wrap64 (x9 + 1)))) else (none)) else (none))) else (if (bt x0 x9) = 124 then (if x9 ≤ (x0.size : Int) then (if 0 ≤ (wrap64 (x9 + 1)) then (if (wrap64 (x9 + 1)) ≤ (x0.size : Int) then (some (x0.extract 0 (x9 : Int).toNat, x0.extract ((wrap64 (x9 + 1)) : Int).toNat x0.size, true)) else (none)) else (none)) else (none)) else (gjson_splitPossiblePipe.l1 k x0 x2 x3 x4 (wrap64 (x9 + 1)))))) else (none)) else (some (x2, x3, x4))
def gjson_splitPossiblePipe.j4 : Nat → ByteArray → ByteArray → ByteArray → Bool → Int → Bool → Option (ByteArray × ByteArray × Bool)
  | 0, _, _, _, _, _, _ => none
  | k + 1, x0, x2, x3, x4, x9, x98 => if x98 = true then (if 0 ≤ x9 then (if x9 < (x0.size : Int) then (if (bt x0 x9) = 91 then (gjson_splitPossiblePipe.j5 k x0 x2 x3 x4 x9 91 93) else (gjson_splitPossiblePipe.j5 k x0 x2 x3 x4 x9 40 41)) else (none)) else (none)) else (gjson_splitPossiblePipe.l1 k x0 x2 x3 x4 (wrap64 (x9 + 1)))
def gjson_splitPossiblePipe.j5 : Nat → ByteArray → ByteArray → ByteArray → Bool → Int → Int → Int → Option (ByteArray × ByteArray × Bool)
  | 0, _, _, _, _, _, _, _ => none
  | k + 1, x0, x2, x3, x4, x9, x10, x11 => gjson_splitPossiblePipe.l2 k x0 x2 x3 x4 (wrap64 (x9 + 1)) x10 x11 1
def gjson_splitPossiblePipe.l2 : Nat → ByteArray → ByteArray → ByteArray → Bool → Int → Int → Int → Int → Option (ByteArray × ByteArray × Bool)
  | 0, _, _, _, _, _, _, _, _ => none
  | k + 1, x0, x2, x3, x4, x9, x10, x11, x12 => if x9 < (x0.size : Int) then (if 0 ≤ x9 then (if (bt x0 x9) = 92 then (gjson_splitPossiblePipe.l2 k x0 x2 x3 x4 (wrap64 ((wrap64 (x9 + 1)) + 1)) x10 x11 x12) else (if (bt x0 x9) = x10 then (gjson_splitPossiblePipe.l2 k x0 x2 x3 x4 (wrap64 (x9 + 1)) x10 x11 (wrap64 (x12 + 1))) else (if (bt x0 x9) = x11 then (if (wrap64 (x12 - 1)) = 0 then (gjson_splitPossiblePipe.l1 k x0 x2 x3 x4 (wrap64 (x9 + 1))) else (gjson_splitPossiblePipe.l2 k x0 x2 x3 x4 (wrap64 (x9 + 1)) x10 x11 (wrap64 (x12 - 1)))) else (if (bt x0 x9) = 34 then (gjson_splitPossiblePipe.l3 k x0 x2 x3 x4 (wrap64 (x9 + 1)) x10 x11 x12) else (gjson_splitPossiblePipe.l2 k x0 x2 x3 x4 (wrap64 (x9 + 1)) x10 x11 x12))))) else (none)) else (gjson_splitPossiblePipe.l1 k x0 x2 x3 x4 (wrap64 (x9 + 1)))
def gjson_splitPossiblePipe.l3 : Nat → ByteArray → ByteArray → ByteArray → Bool → Int → Int → Int → Int → Option (ByteArray × ByteArray × Bool)
  | 0, _, _, _, _, _, _, _, _ => none
  | k + 1, x0, x2, x3, x4, x9, x10, x11, x12 => if x9 < (x0.size : Int) then (if 0 ≤ x9 then (if (bt x0 x9) = 92 then (gjson_splitPossiblePipe.l3 k x0 x2 x3 x4 (wrap64 ((wrap64 (x9 + 1)) + 1)) x10 x11 x12) else (if (bt x0 x9) = 34 then (gjson_splitPossiblePipe.l2 k x0 x2 x3 x4 (wrap64 (x9 + 1)) x10 x11 x12) else (gjson_splitPossiblePipe.l3 k x0 x2 x3 x4 (wrap64 (x9 + 1)) x10 x11 x12))) else (none)) else (gjson_splitPossiblePipe.l2 k x0 x2 x3 x4 (wrap64 (x9 + 1)) x10 x11 x12)
def gjson_splitPossiblePipe.l0 : Nat → ByteArray → ByteArray → ByteArray → Bool → Bool → Int → Option (ByteArray × ByteArray × Bool)
  | 0, _, _, _, _, _, _ => none
  | k + 1, x0, x2, x3, x4, x5, x6 => if x6 < (x0.size : Int) then (if 0 ≤ x6 then (if (bt x0 x6) = 124 then (gjson_splitPossiblePipe.j1 k x0 x2 x3 x4 true) else (gjson_splitPossiblePipe.l0 k x0 x2 x3 x4 x5 (wrap64 (x6 + 1)))) else (none)) else (gjson_splitPossiblePipe.j1 k x0 x2 x3 x4 x5)
end
def gjson_splitPossiblePipe.f (k : Nat) (a0 : ByteArray) : Option (ByteArray × ByteArray × Bool) := gjson_splitPossiblePipe.l0 k a0 (⟨#[]⟩ : ByteArray) (⟨#[]⟩ : ByteArray) false false 0
theorem gjson_splitPossiblePipe.mono_l : ∀ k, (∀ y0 y1 y2 y3 y4, LeO (gjson_splitPossiblePipe.j1 k y0 y1 y2 y3 y4) (gjson_splitPossiblePipe.j1 (k + 1) y0 y1 y2 y3 y4)) ∧ (∀ y0 y1 y2 y3 y4, LeO (gjson_splitPossiblePipe.j2 k y0 y1 y2 y3 y4) (gjson_splitPossiblePipe.j2 (k + 1) y0 y1 y2 y3 y4)) ∧ (∀ y0 y1 y2 y3 y4, LeO (gjson_splitPossiblePipe.l1 k y0 y1 y2 y3 y4) (gjson_splitPossiblePipe.l1 (k + 1) y0 y1 y2 y3 y4)) ∧ (∀ y0 y1 y2 y3 y4 y5, LeO (gjson_splitPossiblePipe.j4 k y0 y1 y2 y3 y4 y5) (gjson_splitPossiblePipe.j4 (k + 1) y0 y1 y2 y3 y4 y5)) ∧ (∀ y0 y1 y2 y3 y4 y5 y6, LeO (gjson_splitPossiblePipe.j5 k y0 y1 y2 y3 y4 y5 y6) (gjson_splitPossiblePipe.j5 (k + 1) y0 y1 y2 y3 y4 y5 y6)) ∧ (∀ y0 y1 y2 y3 y4 y5 y6 y7, LeO (gjson_splitPossiblePipe.l2 k y0 y1 y2 y3 y4 y5 y6 y7) (gjson_splitPossiblePipe.l2 (k + 1) y0 y1 y2 y3 y4 y5 y6 y7)) ∧ (∀ y0 y1 y2 y3 y4 y5 y6 y7, LeO (gjson_splitPossiblePipe.l3 k y0 y1 y2 y3 y4 y5 y6 y7) (gjson_splitPossiblePipe.l3 (k + 1) y0 y1 y2 y3 y4 y5 y6 y7)) ∧ (∀ y0 y1 y2 y3 y4 y5, LeO (gjson_splitPossiblePipe.l0 k y0 y1 y2 y3 y4 y5) (gjson_splitPossiblePipe.l0 (k + 1) y0 y1 y2 y3 y4 y5))
  | 0 => ⟨fun _ _ _ _ _ r h => by simp [gjson_splitPossiblePipe.j1] at h, fun _ _ _ _ _ r h => by simp [gjson_splitPossiblePipe.j2] at h, fun _ _ _ _ _ r h => by simp [gjson_splitPossiblePipe.l1] at h, fun _ _ _ _ _ _ r h => by simp [gjson_splitPossiblePipe.j4] at h, fun _ _ _ _ _ _ _ r h => by simp [gjson_splitPossiblePipe.j5] at h, fun _ _ _ _ _ _ _ _ r h => by simp [gjson_splitPossiblePipe.l2] at h, fun _ _ _ _ _ _ _ _ r h => by simp [gjson_splitPossiblePipe.l3] at h, fun _ _ _ _ _ _ r h => by simp [gjson_splitPossiblePipe.l0] at h⟩
  | k + 1 => by
    obtain ⟨ih0, ih1, ih2, ih3, ih4, ih5, ih6, ih7⟩ := gjson_splitPossiblePipe.mono_l k
    refine ⟨?_, ?_, ?_, ?_, ?_, ?_, ?_, ?_⟩
    · intro y0 y1 y2 y3 y4
      unfold gjson_splitPossiblePipe.j1
      repeat' first
      | (with_reducible exact ih0 _ _ _ _ _)
      | (with_reducible exact ih1 _ _ _ _ _)
      | (with_reducible exact ih2 _ _ _ _ _)
      | (with_reducible exact ih3 _ _ _ _ _ _)
      | (with_reducible exact ih4 _ _ _ _ _ _ _)
      | (with_reducible exact ih5 _ _ _ _ _ _ _ _)
      | (with_reducible exact ih6 _ _ _ _ _ _ _ _)
      | (with_reducible exact ih7 _ _ _ _ _ _)
      | (with_reducible exact gjson_squash.mono _ _)
      | (with_reducible exact LeO.refl _)
      | (with_reducible exact LeO.none _)
      | (with_reducible refine LeO.ite ?_ ?_)
      | (with_reducible refine LeO.bind ?_ (fun _ => ?_))
      | exact ih0 _ _ _ _ _
      | exact ih1 _ _ _ _ _
      | exact ih2 _ _ _ _ _
      | exact ih3 _ _ _ _ _ _
      | exact ih4 _ _ _ _ _ _ _
      | exact ih5 _ _ _ _ _ _ _ _
      | exact ih6 _ _ _ _ _ _ _ _
      | exact ih7 _ _ _ _ _ _
      | exact gjson_squash.mono _ _
      | exact LeO.none _
      | refine LeO.ite ?_ ?_
      | refine LeO.bind ?_ (fun _ => ?_)
    · intro y0 y1 y2 y3 y4
      unfold gjson_splitPossiblePipe.j2
      repeat' first
      | (with_reducible exact ih0 _ _ _ _ _)
      | (with_reducible exact ih1 _ _ _ _ _)
      | (with_reducible exact ih2 _ _ _ _ _)
      | (with_reducible exact ih3 _ _ _ _ _ _)
      | (with_reducible exact ih4 _ _ _ _ _ _ _)
      | (with_reducible exact ih5 _ _ _ _ _ _ _ _)
      | (with_reducible exact ih6 _ _ _ _ _ _ _ _)
      | (with_reducible exact ih7 _ _ _ _ _ _)
      | (with_reducible exact gjson_squash.mono _ _)
      | (with_reducible exact LeO.refl _)
      | (with_reducible exact LeO.none _)
      | (with_reducible refine LeO.ite ?_ ?_)
      | (with_reducible refine LeO.bind ?_ (fun _ => ?_))
      | exact ih0 _ _ _ _ _
      | exact ih1 _ _ _ _ _
      | exact ih2 _ _ _ _ _
      | exact ih3 _ _ _ _ _ _
      | exact ih4 _ _ _ _ _ _ _
      | exact ih5 _ _ _ _ _ _ _ _
      | exact ih6 _ _ _ _ _ _ _ _
      | exact ih7 _ _ _ _ _ _
      | exact gjson_squash.mono _ _
      | exact LeO.none _
      | refine LeO.ite ?_ ?_
      | refine LeO.bind ?_ (fun _ => ?_)
    · intro y0 y1 y2 y3 y4
      unfold gjson_splitPossiblePipe.l1
      repeat' first
      | (with_reducible exact ih0 _ _ _ _ _)
      | (with_reducible exact ih1 _ _ _ _ _)
      | (with_reducible exact ih2 _ _ _ _ _)
      | (with_reducible exact ih3 _ _ _ _ _ _)
      | (with_reducible exact ih4 _ _ _ _ _ _ _)
      | (with_reducible exact ih5 _ _ _ _ _ _ _ _)
      | (with_reducible exact ih6 _ _ _ _ _ _ _ _)
      | (with_reducible exact ih7 _ _ _ _ _ _)
      | (with_reducible exact gjson_squash.mono _ _)
      | (with_reducible exact LeO.refl _)
      | (with_reducible exact LeO.none _)
      | (with_reducible refine LeO.ite ?_ ?_)
      | (with_reducible refine LeO.bind ?_ (fun _ => ?_))
      | exact ih0 _ _ _ _ _
      | exact ih1 _ _ _ _ _
      | exact ih2 _ _ _ _ _
      | exact ih3 _ _ _ _ _ _
      | exact ih4 _ _ _ _ _ _ _
      | exact ih5 _ _ _ _ _ _ _ _
      | exact ih6 _ _ _ _ _ _ _ _
      | exact ih7 _ _ _ _ _ _
      | exact gjson_squash.mono _ _
      | exact LeO.none _
      | refine LeO.ite ?_ ?_
      | refine LeO.bind ?_ (fun _ => ?_)
    · intro y0 y1 y2 y3 y4 y5
      unfold gjson_splitPossiblePipe.j4
      repeat' first
      | (with_reducible exact ih0 _ _ _ _ _)
      | (with_reducible exact ih1 _ _ _ _ _)
      | (with_reducible exact ih2 _ _ _ _ _)
      | (with_reducible exact ih3 _ _ _ _ _ _)
      | (with_reducible exact ih4 _ _ _ _ _ _ _)
      | (with_reducible exact ih5 _ _ _ _ _ _ _ _)
      | (with_reducible exact ih6 _ _ _ _ _ _ _ _)
      | (with_reducible exact ih7 _ _ _ _ _ _)
      | (with_reducible exact gjson_squash.mono _ _)
      | (with_reducible exact LeO.refl _)
      | (with_reducible exact LeO.none _)
      | (with_reducible refine LeO.ite ?_ ?_)
      | (with_reducible refine LeO.bind ?_ (fun _ => ?_))
      | exact ih0 _ _ _ _ _
      | exact ih1 _ _ _ _ _
      | exact ih2 _ _ _ _ _
      | exact ih3 _ _ _ _ _ _
      | exact ih4 _ _ _ _ _ _ _
      | exact ih5 _ _ _ _ _ _ _ _
      | exact ih6 _ _ _ _ _ _ _ _
      | exact ih7 _ _ _ _ _ _
      | exact gjson_squash.mono _ _
      | exact LeO.none _
      | refine LeO.ite ?_ ?_
      | refine LeO.bind ?_ (fun _ => ?_)
    · intro y0 y1 y2 y3 y4 y5 y6
      unfold gjson_splitPossiblePipe.j5
      repeat' first
      | (with_reducible exact ih0 _ _ _ _ _)
      | (with_reducible exact ih1 _ _ _ _ _)
      | (with_reducible exact ih2 _ _ _ _ _)
      | (with_reducible exact ih3 _ _ _ _ _ _)
      | (with_reducible exact ih4 _ _ _ _ _ _ _)
      | (with_reducible exact ih5 _ _ _ _ _ _ _ _)
      | (with_reducible exact ih6 _ _ _ _ _ _ _ _)
      | (with_reducible exact ih7 _ _ _ _ _ _)
      | (with_reducible exact gjson_squash.mono _ _)
      | (with_reducible exact LeO.refl _)
      | (with_reducible exact LeO.none _)
      | (with_reducible refine LeO.ite ?_ ?_)
      | (with_reducible refine LeO.bind ?_ (fun _ => ?_))
      | exact ih0 _ _ _ _ _
      | exact ih1 _ _ _ _ _
      | exact ih2 _ _ _ _ _
      | exact ih3 _ _ _ _ _ _
      | exact ih4 _ _ _ _ _ _ _
      | exact ih5 _ _ _ _ _ _ _ _
      | exact ih6 _ _ _ _ _ _ _ _
      | exact ih7 _ _ _ _ _ _
      | exact gjson_squash.mono _ _
      | exact LeO.none _
      | refine LeO.ite ?_ ?_
      | refine LeO.bind ?_ (fun _ => ?_)
    · intro y0 y1 y2 y3 y4 y5 y6 y7
      unfold gjson_splitPossiblePipe.l2
      repeat' first
      | (with_reducible exact ih0 _ _ _ _ _)
      | (with_reducible exact ih1 _ _ _ _ _)
      | (with_reducible exact ih2 _ _ _ _ _)
      | (with_reducible exact ih3 _ _ _ _ _ _)
      | (with_reducible exact ih4 _ _ _ _ _ _ _)
      | (with_reducible exact ih5 _ _ _ _ _ _ _ _)
      | (with_reducible exact ih6 _ _ _ _ _ _ _ _)
      | (with_reducible exact ih7 _ _ _ _ _ _)
      | (with_reducible exact gjson_squash.mono _ _)
      | (with_reducible exact LeO.refl _)
      | (with_reducible exact LeO.none _)
      | (with_reducible refine LeO.ite ?_ ?_)
      | (with_reducible refine LeO.bind ?_ (fun _ => ?_))
      | exact ih0 _ _ _ _ _
      | exact ih1 _ _ _ _ _
      | exact ih2 _ _ _ _ _
      | exact ih3 _ _ _ _ _ _
      | exact ih4 _ _ _ _ _ _ _
      | exact ih5 _ _ _ _ _ _ _ _
      | exact ih6 _ _ _ _ _ _ _ _
      | exact ih7 _ _ _ _ _ _
      | exact gjson_squash.mono _ _
      | exact LeO.none _
      | refine LeO.ite ?_ ?_
      | refine LeO.bind ?_ (fun _ => ?_)
    · intro y0 y1 y2 y3 y4 y5 y6 y7
      unfold gjson_splitPossiblePipe.l3
      repeat' first
      | (with_reducible exact ih0 _ _ _ _ _)
      | (with_reducible exact ih1 _ _ _ _ _)
      | (with_reducible exact ih2 _ _ _ _ _)
      | (with_reducible exact ih3 _ _ _ _ _ _)
      | (with_reducible exact ih4 _ _ _ _ _ _ _)
      | (with_reducible exact ih5 _ _ _ _ _ _ _ _)
      | (with_reducible exact ih6 _ _ _ _ _ _ _ _)
      | (with_reducible exact ih7 _ _ _ _ _ _)
      | (with_reducible exact gjson_squash.mono _ _)
      | (with_reducible exact LeO.refl _)
      | (with_reducible exact LeO.none _)
      | (with_reducible refine LeO.ite ?_ ?_)
      | (with_reducible refine LeO.bind ?_ (fun _ => ?_))
      | exact ih0 _ _ _ _ _
      | exact ih1 _ _ _ _ _
      | exact ih2 _ _ _ _ _
      | exact ih3 _ _ _ _ _ _
      | exact ih4 _ _ _ _ _ _ _
      | exact ih5 _ _ _ _ _ _ _ _
      | exact ih6 _ _ _ _ _ _ _ _
      | exact ih7 _ _ _ _ _ _
      | exact gjson_squash.mono _ _
      | exact LeO.none _
      | refine LeO.ite ?_ ?_
      | refine LeO.bind ?_ (fun _ => ?_)
    · intro y0 y1 y2 y3 y4 y5
      unfold gjson_splitPossiblePipe.l0
      repeat' first
      | (with_reducible exact ih0 _ _ _ _ _)
      | (with_reducible exact ih1 _ _ _ _ _)
      | (with_reducible exact ih2 _ _ _ _ _)
      | (with_reducible exact ih3 _ _ _ _ _ _)
      | (with_reducible exact ih4 _ _ _ _ _ _ _)
      | (with_reducible exact ih5 _ _ _ _ _ _ _ _)
      | (with_reducible exact ih6 _ _ _ _ _ _ _ _)
      | (with_reducible exact ih7 _ _ _ _ _ _)
      | (with_reducible exact gjson_squash.mono _ _)
      | (with_reducible exact LeO.refl _)
      | (with_reducible exact LeO.none _)
      | (with_reducible refine LeO.ite ?_ ?_)
      | (with_reducible refine LeO.bind ?_ (fun _ => ?_))
      | exact ih0 _ _ _ _ _
      | exact ih1 _ _ _ _ _
      | exact ih2 _ _ _ _ _
      | exact ih3 _ _ _ _ _ _
      | exact ih4 _ _ _ _ _ _ _
      | exact ih5 _ _ _ _ _ _ _ _
      | exact ih6 _ _ _ _ _ _ _ _
      | exact ih7 _ _ _ _ _ _
      | exact gjson_squash.mono _ _
      | exact LeO.none _
      | refine LeO.ite ?_ ?_
      | refine LeO.bind ?_ (fun _ => ?_)
theorem gjson_splitPossiblePipe.mono : ∀ a0 k, LeO (gjson_splitPossiblePipe.f k a0) (gjson_splitPossiblePipe.f (k + 1) a0) := by
  intro a0 k
  obtain ⟨ih0, ih1, ih2, ih3, ih4, ih5, ih6, ih7⟩ := gjson_splitPossiblePipe.mono_l k
  unfold gjson_splitPossiblePipe.f
  repeat' first
      | (with_reducible exact ih0 _ _ _ _ _)
      | (with_reducible exact ih1 _ _ _ _ _)
      | (with_reducible exact ih2 _ _ _ _ _)
      | (with_reducible exact ih3 _ _ _ _ _ _)
      | (with_reducible exact ih4 _ _ _ _ _ _ _)
      | (with_reducible exact ih5 _ _ _ _ _ _ _ _)
      | (with_reducible exact ih6 _ _ _ _ _ _ _ _)
      | (with_reducible exact ih7 _ _ _ _ _ _)
      | (with_reducible exact gjson_squash.mono _ _)
      | (with_reducible exact LeO.refl _)
      | (with_reducible exact LeO.none _)
      | (with_reducible refine LeO.ite ?_ ?_)
      | (with_reducible refine LeO.bind ?_ (fun _ => ?_))
      | exact ih0 _ _ _ _ _
      | exact ih1 _ _ _ _ _
      | exact ih2 _ _ _ _ _
      | exact ih3 _ _ _ _ _ _
      | exact ih4 _ _ _ _ _ _ _
      | exact ih5 _ _ _ _ _ _ _ _
      | exact ih6 _ _ _ _ _ _ _ _
      | exact ih7 _ _ _ _ _ _
      | exact gjson_squash.mono _ _
      | exact LeO.none _
      | refine LeO.ite ?_ ?_
      | refine LeO.bind ?_ (fun _ => ?_)
set_option maxHeartbeats 8000000 in
set_option maxRecDepth 100000 in
theorem gjson_splitPossiblePipe.calls (k : Nat) (a0 : ByteArray) (r1 : ByteArray) (r2 : ByteArray) (r3 : Bool) (w : World) (h : gjson_splitPossiblePipe.f k a0 = some (r1, r2, r3)) :
    Calls Try.prog 46 #[.string a0] w fun e w' => e = .returned (.tuple #[.string r1, .string r2, .bool r3]) ∧ Drawn0 w w' := by
 have H : (gjson_splitPossiblePipe.l0 k a0 (⟨#[]⟩ : ByteArray) (⟨#[]⟩ : ByteArray) false false 0) = some (r1, r2, r3) := h
 clear h
 have HC2 := Aside0.mk H
 clear H
 go_enter Try.func46, Try.ntmps46
 go_upto_block 0 with (fail)
 repeat (go_quiet (fail); go_upto_block 0 with (fail))
 go_cut [5] (fun v5 wc => ∃ (kq : Nat) (x5_1 : Bool), v5 = .bool x5_1 ∧ Aside0 (gjson_splitPossiblePipe.j1 kq a0 (⟨#[]⟩ : ByteArray) (⟨#[]⟩ : ByteArray) false x5_1 = some (r1, r2, r3)) ∧ Aside0 (kq ≤ k) ∧ Drawn0 w wc)
 case first =>
  have H := HC2.out
  clear HC2
  have H' := Aside0.mk H
  clear H
  go_wp2
  repeat (go_quiet (fail); try go_wp2)
  try simp only [Act.put, List.setIfInBounds_toArray, List.set_cons_succ, List.set_cons_zero]
  go_loopg [5, 6] k (fun kq v5 v6 w' => ∃ (x5_1 : Bool) (x6_1 : Int), v5 = .bool x5_1 ∧ v6 = .int .i64 x6_1 ∧ Aside0 (gjson_splitPossiblePipe.l0 kq a0 (⟨#[]⟩ : ByteArray) (⟨#[]⟩ : ByteArray) false x5_1 x6_1 = some (r1, r2, r3)) ∧ Aside0 (kq ≤ k) ∧ Drawn0 w w')
  case atStart => exact ⟨(false), (0), (by first | rfl | (simp; done) | (simp [*]; done)), (by first | rfl | (simp; done) | (simp [*]; done)), H', ⟨Nat.le_refl _⟩, by repeat (first | exact Drawn0.refl _ | apply Drawn0.step)⟩
  case round =>
   clear H'
   try clear p2
   obtain ⟨x5_1, x6_1, rfl, rfl, HA, HK1, ⟨m1, rfl⟩⟩ := hrel
   cases gk with
   | zero => exact absurd HA.out (by simp [gjson_splitPossiblePipe.l0])
   | succ k1 =>
    have H := HA.out
    clear HA
    simp only [gjson_splitPossiblePipe.l0] at H
    by_cases c3 : x6_1 < (a0.size : Int)
    ·
     rw [if_pos c3] at H
     have c3b0 : decide (x6_1 < (a0.size : Int)) = true := decide_eq_true c3
     clear c3
     (first | rw [c3b0] | (simp only [i64_w, i32_w]; rw [c3b0]) | skip)
     by_cases c4 : 0 ≤ x6_1
     ·
      rw [if_pos c4] at H
      have c4b0 : decide (0 ≤ x6_1) = true := decide_eq_true c4
      clear c4
      by_cases c6 : (bt a0 x6_1) = 124
      ·
       rw [if_pos c6] at H
       have c6b0 : ((bt a0 x6_1) == 124) = true := beq_iff_eq.mpr c6
       have c6b1 : ((bt a0 x6_1) != 124) = false := bne_eq_false_iff_eq.mpr c6
       clear c6
       have H' := Aside0.mk H
       clear H
       have p5 : 0 ≤ (x6_1 : Int) := of_decide_eq_true (by first | (with_reducible assumption) | assumption)
       have q5 : x6_1 < (a0.size : Int) := of_decide_eq_true (by first | (with_reducible assumption) | assumption)
       have hx5 := bt_at a0 x6_1
       replace p5 := eq_true p5
       replace q5 := eq_true q5
       go_wp2
       repeat (go_quiet (fail); try go_wp2)
       go_meet
       case rel => exact ⟨_, (true), (by first | rfl | (simp; done) | (simp [*]; done)), H', ⟨by have := HK1.out; first | omega | exact Nat.le_refl _⟩, by repeat (first | exact Drawn0.refl _ | apply Drawn0.step)⟩
      ·
       rw [if_neg c6] at H
       have c6b0 : ((bt a0 x6_1) == 124) = false := beq_eq_false_iff_ne.mpr c6
       have c6b1 : ((bt a0 x6_1) != 124) = true := bne_iff_ne.mpr c6
       have H' := Aside0.mk H
       clear H
       have p5 : 0 ≤ (x6_1 : Int) := of_decide_eq_true (by first | (with_reducible assumption) | assumption)
       have q5 : x6_1 < (a0.size : Int) := of_decide_eq_true (by first | (with_reducible assumption) | assumption)
       have hx5 := bt_at a0 x6_1
       replace p5 := eq_true p5
       replace q5 := eq_true q5
       go_wp2
       repeat (go_quiet (fail); try go_wp2)
       go_roundg k1
       case measure => have := HK1.out; omega
       case rel => exact ⟨(x5_1), (wrap64 (x6_1 + 1)), (by first | rfl | (simp; done) | (simp [*]; done)), (by first | rfl | (simp; done) | (simp [*]; done)), H', ⟨by have := HK1.out; omega⟩, by repeat (first | exact Drawn0.refl _ | apply Drawn0.step)⟩
     ·
      rw [if_neg c4] at H
      exact absurd H (by simp)
    ·
     rw [if_neg c3] at H
     have c3b0 : decide (x6_1 < (a0.size : Int)) = false := decide_eq_false c3
     clear c3
     (first | rw [c3b0] | (simp only [i64_w, i32_w]; rw [c3b0]) | skip)
     have H' := Aside0.mk H
     clear H
     go_wp2
     repeat (go_quiet (fail); try go_wp2)
     go_meet
     case rel => exact ⟨_, (x5_1), (by first | rfl | (simp; done) | (simp [*]; done)), H', ⟨by have := HK1.out; first | omega | exact Nat.le_refl _⟩, by repeat (first | exact Drawn0.refl _ | apply Drawn0.step)⟩
 case rest =>
  clear HC2
  try clear p2
  try clear c3
  try clear c3b0
  try clear c4
  try clear c4b0
  try clear p5
  try clear q5
  try clear hx5
  try clear c6
  try clear c6b0
  try clear c6b1
  try clear p6
  try clear p2
  try clear p5
  try clear q5
  obtain ⟨kq, x5_1, rfl, HA, HJ1, ⟨mc1, rfl⟩⟩ := hcut
  cases kq with
  | zero => exact absurd HA.out (by simp [gjson_splitPossiblePipe.j1])
  | succ kj1 =>
   have H := HA.out
   clear HA
   simp only [gjson_splitPossiblePipe.j1] at H
   by_cases c7 : x5_1 = true
   ·
    subst c7
    have H1 : (if (a0.size : Int) > 0 then (if 0 < (a0.size : Int) then (gjson_splitPossiblePipe.j2 kj1 a0 (⟨#[]⟩ : ByteArray) (⟨#[]⟩ : ByteArray) false ((bt a0 0) == 123)) else (none)) else (gjson_splitPossiblePipe.j2 kj1 a0 (⟨#[]⟩ : ByteArray) (⟨#[]⟩ : ByteArray) false false)) = some (r1, r2, r3) := by rw [if_pos rfl] at H; exact H
    clear H
    have H := H1
    clear H1
    have HC8 := Aside0.mk H
    clear H
    go_upto_region 8 with (fail)
    repeat (go_quiet (fail); go_upto_region 8 with (fail))
    go_cut [32] (fun v32 wc => ∃ (kq : Nat) (x32_7 : Bool), v32 = .bool x32_7 ∧ Aside0 (gjson_splitPossiblePipe.j2 kq a0 (⟨#[]⟩ : ByteArray) (⟨#[]⟩ : ByteArray) false x32_7 = some (r1, r2, r3)) ∧ Aside0 (kq ≤ kj1) ∧ Drawn0 w wc)
    case first =>
     have H := HC8.out
     clear HC8
     by_cases c9 : (a0.size : Int) > 0
     ·
      rw [if_pos c9] at H
      have c9b0 : decide (0 < (a0.size : Int)) = true := decide_eq_true c9
      have c9b1 : decide (0 < a0.size) = true := decide_eq_true (by omega)
      clear c9
      (first | rw [c9b0] | (simp only [i64_w, i32_w]; rw [c9b0]) | skip)
      by_cases c10 : 0 < (a0.size : Int)
      ·
       rw [if_pos c10] at H
       have c10b0 : decide (0 < (a0.size : Int)) = true := decide_eq_true c10
       have c10b1 : decide (0 < a0.size) = true := decide_eq_true (by omega)
       clear c10
       have H' := Aside0.mk H
       clear H
       have p11 : 0 ≤ (0 : Int) := (by omega)
       have q11 : 0 < a0.size := (by have : (0 : Int) < (a0.size : Int) := of_decide_eq_true (by first | (with_reducible assumption) | assumption); omega)
       have hx11 := bt_lit a0 0 0 rfl
       clear p11
       have qi11 : (0 < (a0.size : Int)) = True := eq_true (of_decide_eq_true (by first | (with_reducible assumption) | assumption))
       replace q11 := eq_true q11
       go_wp2
       repeat (go_quiet (fail); try go_wp2)
       go_meet
       case rel => exact ⟨_, (((bt a0 0) == 123)), (by first | rfl | (simp; done) | (simp [*]; done)), H', ⟨by have := HJ1.out; first | omega | exact Nat.le_refl _⟩, by repeat (first | exact Drawn0.refl _ | apply Drawn0.step)⟩
      ·
       rw [if_neg c10] at H
       exact absurd H (by simp)
     ·
      rw [if_neg c9] at H
      have c9b0 : decide (0 < (a0.size : Int)) = false := decide_eq_false c9
      have c9b1 : decide (0 < a0.size) = false := decide_eq_false (by omega)
      clear c9
      (first | rw [c9b0] | (simp only [i64_w, i32_w]; rw [c9b0]) | skip)
      have H' := Aside0.mk H
      clear H
      go_wp2
      repeat (go_quiet (fail); try go_wp2)
      go_meet
      case rel => exact ⟨_, (false), (by first | rfl | (simp; done) | (simp [*]; done)), H', ⟨by have := HJ1.out; first | omega | exact Nat.le_refl _⟩, by repeat (first | exact Drawn0.refl _ | apply Drawn0.step)⟩
    case rest =>
     clear HC8
     try clear c1
     try clear p1
     try clear q1
     try clear hx1
     try clear qi1
     try clear p2
     try clear c3
     try clear c3b0
     try clear c4
     try clear c4b0
     try clear p5
     try clear q5
     try clear hx5
     try clear c6
     try clear c6b0
     try clear c6b1
     try clear p6
     try clear c7
     try clear c9
     try clear c9b0
     try clear c9b1
     try clear c10
     try clear c10b0
     try clear c10b1
     try clear p11
     try clear q11
     try clear hx11
     try clear qi11
     try clear p11
     try clear p2
     try clear p5
     try clear p6
     try clear q11
     try clear q5
     obtain ⟨kq, x32_7, rfl, HA, HJ7, ⟨mc7, rfl⟩⟩ := hcut
     cases kq with
     | zero => exact absurd HA.out (by simp [gjson_splitPossiblePipe.j2])
     | succ kj7 =>
      have H := HA.out
      clear HA
      simp only [gjson_splitPossiblePipe.j2] at H
      by_cases c12 : x32_7 = true
      ·
       subst c12
       have H1 : (if 1 ≤ (a0.size : Int) then ((gjson_squash.f kj7 (a0.extract 1 a0.size)).bind fun t101 => (if (t101.size : Int) < (wrap64 ((a0.size : Int) - 1)) then (if 0 ≤ (wrap64 ((t101.size : Int) + 1)) then (if (wrap64 ((t101.size : Int) + 1)) ≤ (a0.size : Int) then (if 0 ≤ ((a0.extract 0 ((wrap64 ((t101.size : Int) + 1)) : Int).toNat).size : Int) then (if ((a0.extract 0 ((wrap64 ((t101.size : Int) + 1)) : Int).toNat).size : Int) ≤ (a0.size : Int) then (if 0 < ((a0.extract (a0.extract 0 ((wrap64 ((t101.size : Int) + 1)) : Int).toNat).size a0.size).size : Int) then (if (bt (a0.extract (a0.extract 0 ((wrap64 ((t101.size : Int) + 1)) : Int).toNat).size a0.size) 0) = 124 then (if 1 ≤ ((a0.extract (a0.extract 0 ((wrap64 ((t101.size : Int) + 1)) : Int).toNat).size a0.size).size : Int) then (some (a0.extract 0 ((wrap64 ((t101.size : Int) + 1)) : Int).toNat, (a0.extract (a0.extract 0 ((wrap64 ((t101.size : Int) + 1)) : Int).toNat).size a0.size).extract 1 (a0.extract (a0.extract 0 ((wrap64 ((t101.size : Int) + 1)) : Int).toNat).size a0.size).size, true)) else (none)) else (some ((⟨#[]⟩ : ByteArray), (⟨#[]⟩ : ByteArray), false))) else (none)) else (none)) else (none)) else (none)) else (none)) else (some ((⟨#[]⟩ : ByteArray), (⟨#[]⟩ : ByteArray), false)))) else (none)) = some (r1, r2, r3) := by rw [if_pos rfl] at H; exact H
       clear H
       have H := H1
       clear H1
       by_cases c13 : 1 ≤ (a0.size : Int)
       ·
        rw [if_pos c13] at H
        have c13b0 := eq_true c13
        have c13b1 : decide (1 ≤ (a0.size : Int)) = true := decide_eq_true c13
        clear c13
        obtain ⟨js14, hjs14⟩ : ∃ j_ : ByteArray, (a0.extract 1 a0.size) = j_ := ⟨_, rfl⟩
        replace H : ((gjson_squash.f kj7 js14).bind fun t101 => (if (t101.size : Int) < (wrap64 ((a0.size : Int) - 1)) then (if 0 ≤ (wrap64 ((t101.size : Int) + 1)) then (if (wrap64 ((t101.size : Int) + 1)) ≤ (a0.size : Int) then (if 0 ≤ ((a0.extract 0 ((wrap64 ((t101.size : Int) + 1)) : Int).toNat).size : Int) then (if ((a0.extract 0 ((wrap64 ((t101.size : Int) + 1)) : Int).toNat).size : Int) ≤ (a0.size : Int) then (if 0 < ((a0.extract (a0.extract 0 ((wrap64 ((t101.size : Int) + 1)) : Int).toNat).size a0.size).size : Int) then (if (bt (a0.extract (a0.extract 0 ((wrap64 ((t101.size : Int) + 1)) : Int).toNat).size a0.size) 0) = 124 then (if 1 ≤ ((a0.extract (a0.extract 0 ((wrap64 ((t101.size : Int) + 1)) : Int).toNat).size a0.size).size : Int) then (some (a0.extract 0 ((wrap64 ((t101.size : Int) + 1)) : Int).toNat, (a0.extract (a0.extract 0 ((wrap64 ((t101.size : Int) + 1)) : Int).toNat).size a0.size).extract 1 (a0.extract (a0.extract 0 ((wrap64 ((t101.size : Int) + 1)) : Int).toNat).size a0.size).size, true)) else (none)) else (some ((⟨#[]⟩ : ByteArray), (⟨#[]⟩ : ByteArray), false))) else (none)) else (none)) else (none)) else (none)) else (none)) else (some ((⟨#[]⟩ : ByteArray), (⟨#[]⟩ : ByteArray), false)))) = some (r1, r2, r3) := by first | (rw [hjs14] at H; exact H) | (simp only [hjs14] at H ⊢; exact H)
        replace H := Option.bind_eq_some_iff.mp H
        obtain ⟨t101, A150, H⟩ := H
        replace H : (if (t101.size : Int) < (wrap64 ((a0.size : Int) - 1)) then (if 0 ≤ (wrap64 ((t101.size : Int) + 1)) then (if (wrap64 ((t101.size : Int) + 1)) ≤ (a0.size : Int) then (if 0 ≤ ((a0.extract 0 ((wrap64 ((t101.size : Int) + 1)) : Int).toNat).size : Int) then (if ((a0.extract 0 ((wrap64 ((t101.size : Int) + 1)) : Int).toNat).size : Int) ≤ (a0.size : Int) then (if 0 < ((a0.extract (a0.extract 0 ((wrap64 ((t101.size : Int) + 1)) : Int).toNat).size a0.size).size : Int) then (if (bt (a0.extract (a0.extract 0 ((wrap64 ((t101.size : Int) + 1)) : Int).toNat).size a0.size) 0) = 124 then (if 1 ≤ ((a0.extract (a0.extract 0 ((wrap64 ((t101.size : Int) + 1)) : Int).toNat).size a0.size).size : Int) then (some (a0.extract 0 ((wrap64 ((t101.size : Int) + 1)) : Int).toNat, (a0.extract (a0.extract 0 ((wrap64 ((t101.size : Int) + 1)) : Int).toNat).size a0.size).extract 1 (a0.extract (a0.extract 0 ((wrap64 ((t101.size : Int) + 1)) : Int).toNat).size a0.size).size, true)) else (none)) else (some ((⟨#[]⟩ : ByteArray), (⟨#[]⟩ : ByteArray), false))) else (none)) else (none)) else (none)) else (none)) else (none)) else (some ((⟨#[]⟩ : ByteArray), (⟨#[]⟩ : ByteArray), false))) = some (r1, r2, r3) := H
        have A15 := Aside0.mk A150
        clear A150
        by_cases c16 : (t101.size : Int) < (wrap64 ((a0.size : Int) - 1))
        ·
         rw [if_pos c16] at H
         have c16b0 : decide ((t101.size : Int) < (wrap64 ((a0.size : Int) - 1))) = true := decide_eq_true c16
         clear c16
         obtain ⟨ji17, hji17⟩ : ∃ j_ : Int, (wrap64 ((t101.size : Int) + 1)) = j_ := ⟨_, rfl⟩
         replace H : (if 0 ≤ (ji17) then (if (ji17) ≤ (a0.size : Int) then (if 0 ≤ ((a0.extract 0 ((ji17) : Int).toNat).size : Int) then (if ((a0.extract 0 ((ji17) : Int).toNat).size : Int) ≤ (a0.size : Int) then (if 0 < ((a0.extract (a0.extract 0 ((ji17) : Int).toNat).size a0.size).size : Int) then (if (bt (a0.extract (a0.extract 0 ((ji17) : Int).toNat).size a0.size) 0) = 124 then (if 1 ≤ ((a0.extract (a0.extract 0 ((ji17) : Int).toNat).size a0.size).size : Int) then (some (a0.extract 0 ((ji17) : Int).toNat, (a0.extract (a0.extract 0 ((ji17) : Int).toNat).size a0.size).extract 1 (a0.extract (a0.extract 0 ((ji17) : Int).toNat).size a0.size).size, true)) else (none)) else (some ((⟨#[]⟩ : ByteArray), (⟨#[]⟩ : ByteArray), false))) else (none)) else (none)) else (none)) else (none)) else (none)) = some (r1, r2, r3) := by first | (rw [hji17] at H; exact H) | (simp only [hji17] at H ⊢; exact H)
         (try rw [hji17] at A15)
         have hji17w : (IntKind.i64.wrap ((t101.size : Int) + 1)) = ji17 := (i64_w _).trans hji17
         by_cases c18 : 0 ≤ (ji17)
         ·
          rw [if_pos c18] at H
          have c18b0 := eq_true c18
          have c18b1 : decide (0 ≤ (ji17)) = true := decide_eq_true c18
          clear c18
          by_cases c19 : (ji17) ≤ (a0.size : Int)
          ·
           rw [if_pos c19] at H
           have c19b0 := eq_true c19
           have c19b1 : decide ((ji17) ≤ (a0.size : Int)) = true := decide_eq_true c19
           clear c19
           obtain ⟨js20, hjs20⟩ : ∃ j_ : ByteArray, (a0.extract 0 ((ji17) : Int).toNat) = j_ := ⟨_, rfl⟩
           replace H : (if 0 ≤ (js20.size : Int) then (if (js20.size : Int) ≤ (a0.size : Int) then (if 0 < ((a0.extract js20.size a0.size).size : Int) then (if (bt (a0.extract js20.size a0.size) 0) = 124 then (if 1 ≤ ((a0.extract js20.size a0.size).size : Int) then (some (js20, (a0.extract js20.size a0.size).extract 1 (a0.extract js20.size a0.size).size, true)) else (none)) else (some ((⟨#[]⟩ : ByteArray), (⟨#[]⟩ : ByteArray), false))) else (none)) else (none)) else (none)) = some (r1, r2, r3) := by first | (rw [hjs20] at H; exact H) | (simp only [hjs20] at H ⊢; exact H)
           by_cases c21 : 0 ≤ (js20.size : Int)
           ·
            rw [if_pos c21] at H
            have c21b0 := eq_true c21
            have c21b1 : decide (0 ≤ (js20.size : Int)) = true := decide_eq_true c21
            clear c21
            by_cases c22 : (js20.size : Int) ≤ (a0.size : Int)
            ·
             rw [if_pos c22] at H
             have c22b0 := eq_true c22
             have c22b1 : decide ((js20.size : Int) ≤ (a0.size : Int)) = true := decide_eq_true c22
             clear c22
             obtain ⟨js23, hjs23⟩ : ∃ j_ : ByteArray, (a0.extract js20.size a0.size) = j_ := ⟨_, rfl⟩
             replace H : (if 0 < (js23.size : Int) then (if (bt js23 0) = 124 then (if 1 ≤ (js23.size : Int) then (some (js20, js23.extract 1 js23.size, true)) else (none)) else (some ((⟨#[]⟩ : ByteArray), (⟨#[]⟩ : ByteArray), false))) else (none)) = some (r1, r2, r3) := by first | (rw [hjs23] at H; exact H) | (simp only [hjs23] at H ⊢; exact H)
             by_cases c24 : 0 < (js23.size : Int)
             ·
              rw [if_pos c24] at H
              have c24b0 : decide (0 < (js23.size : Int)) = true := decide_eq_true c24
              have c24b1 : decide (0 < js23.size) = true := decide_eq_true (by omega)
              clear c24
              by_cases c26 : (bt js23 0) = 124
              ·
               rw [if_pos c26] at H
               have c26b0 : ((bt js23 0) == 124) = true := beq_iff_eq.mpr c26
               have c26b1 : ((bt js23 0) != 124) = false := bne_eq_false_iff_eq.mpr c26
               clear c26
               by_cases c27 : 1 ≤ (js23.size : Int)
               ·
                rw [if_pos c27] at H
                have c27b0 := eq_true c27
                have c27b1 : decide (1 ≤ (js23.size : Int)) = true := decide_eq_true c27
                clear c27
                obtain ⟨js28, hjs28⟩ : ∃ j_ : ByteArray, (js23.extract 1 js23.size) = j_ := ⟨_, rfl⟩
                replace H : (some (js20, js28, true)) = some (r1, r2, r3) := by first | (rw [hjs28] at H; exact H) | (simp only [hjs28] at H ⊢; exact H)
                simp only [Option.some.injEq, Prod.mk.injEq] at H
                obtain ⟨rfl, rfl, rfl⟩ := H
                iterate 4 (try go_wp2_with (first | (go_at_call 43; (with_reducible refine (gjson_squash.calls kj7 js14 t101 _ A15.out).mono ?_); rintro e w' ⟨rfl, ⟨nd, rfl⟩⟩; (try first | ((with_reducible refine ⟨?_, _, World.drewN_drewN _ _ _⟩); rfl) | ((with_reducible refine ⟨?_, _, Eq.trans (World.drewN_drewN _ _ _) (congrArg (World.drewN _) (Nat.add_assoc _ _ _))⟩); rfl)); have p25 : 0 ≤ (0 : Int) := (by omega); have q25 : 0 < js23.size := (by have : (0 : Int) < (js23.size : Int) := of_decide_eq_true (by first | (with_reducible assumption) | assumption); omega); have hx25 := bt_lit js23 0 0 rfl; clear p25; have qi25 : (0 < (js23.size : Int)) = True := eq_true (of_decide_eq_true (by first | (with_reducible assumption) | assumption)); replace q25 := eq_true q25)); try go_quiet (first | (go_at_call 43; (with_reducible refine (gjson_squash.calls kj7 js14 t101 _ A15.out).mono ?_); rintro e w' ⟨rfl, ⟨nd, rfl⟩⟩; (try first | ((with_reducible refine ⟨?_, _, World.drewN_drewN _ _ _⟩); rfl) | ((with_reducible refine ⟨?_, _, Eq.trans (World.drewN_drewN _ _ _) (congrArg (World.drewN _) (Nat.add_assoc _ _ _))⟩); rfl)); have p25 : 0 ≤ (0 : Int) := (by omega); have q25 : 0 < js23.size := (by have : (0 : Int) < (js23.size : Int) := of_decide_eq_true (by first | (with_reducible assumption) | assumption); omega); have hx25 := bt_lit js23 0 0 rfl; clear p25; have qi25 : (0 < (js23.size : Int)) = True := eq_true (of_decide_eq_true (by first | (with_reducible assumption) | assumption)); replace q25 := eq_true q25)))
                go_ret3
                exact ⟨by first | rfl | (simp; done) | (simp only [← hjs14, ← hji17, ← hjs20, ← hjs23, ← hjs28] <;> (first | rfl | simp)) | (simp [*]; done), by repeat (first | exact Drawn0.refl _ | apply Drawn0.step)⟩
               ·
                rw [if_neg c27] at H
                exact absurd H (by simp)
              ·
               rw [if_neg c26] at H
               have c26b0 : ((bt js23 0) == 124) = false := beq_eq_false_iff_ne.mpr c26
               have c26b1 : ((bt js23 0) != 124) = true := bne_iff_ne.mpr c26
               simp only [Option.some.injEq, Prod.mk.injEq] at H
               obtain ⟨rfl, rfl, rfl⟩ := H
               iterate 4 (try go_wp2_with (first | (go_at_call 43; (with_reducible refine (gjson_squash.calls kj7 js14 t101 _ A15.out).mono ?_); rintro e w' ⟨rfl, ⟨nd, rfl⟩⟩; (try first | ((with_reducible refine ⟨?_, _, World.drewN_drewN _ _ _⟩); rfl) | ((with_reducible refine ⟨?_, _, Eq.trans (World.drewN_drewN _ _ _) (congrArg (World.drewN _) (Nat.add_assoc _ _ _))⟩); rfl)); have p25 : 0 ≤ (0 : Int) := (by omega); have q25 : 0 < js23.size := (by have : (0 : Int) < (js23.size : Int) := of_decide_eq_true (by first | (with_reducible assumption) | assumption); omega); have hx25 := bt_lit js23 0 0 rfl; clear p25; have qi25 : (0 < (js23.size : Int)) = True := eq_true (of_decide_eq_true (by first | (with_reducible assumption) | assumption)); replace q25 := eq_true q25)); try go_quiet (first | (go_at_call 43; (with_reducible refine (gjson_squash.calls kj7 js14 t101 _ A15.out).mono ?_); rintro e w' ⟨rfl, ⟨nd, rfl⟩⟩; (try first | ((with_reducible refine ⟨?_, _, World.drewN_drewN _ _ _⟩); rfl) | ((with_reducible refine ⟨?_, _, Eq.trans (World.drewN_drewN _ _ _) (congrArg (World.drewN _) (Nat.add_assoc _ _ _))⟩); rfl)); have p25 : 0 ≤ (0 : Int) := (by omega); have q25 : 0 < js23.size := (by have : (0 : Int) < (js23.size : Int) := of_decide_eq_true (by first | (with_reducible assumption) | assumption); omega); have hx25 := bt_lit js23 0 0 rfl; clear p25; have qi25 : (0 < (js23.size : Int)) = True := eq_true (of_decide_eq_true (by first | (with_reducible assumption) | assumption)); replace q25 := eq_true q25)))
               go_ret3
               exact ⟨by first | rfl | (simp; done) | (simp only [← hjs14, ← hji17, ← hjs20, ← hjs23] <;> (first | rfl | simp)) | (simp [*]; done), by repeat (first | exact Drawn0.refl _ | apply Drawn0.step)⟩
             ·
              rw [if_neg c24] at H
              exact absurd H (by simp)
            ·
             rw [if_neg c22] at H
             exact absurd H (by simp)
           ·
            rw [if_neg c21] at H
            exact absurd H (by simp)
          ·
           rw [if_neg c19] at H
           exact absurd H (by simp)
         ·
          rw [if_neg c18] at H
          exact absurd H (by simp)
        ·
         rw [if_neg c16] at H
         have c16b0 : decide ((t101.size : Int) < (wrap64 ((a0.size : Int) - 1))) = false := decide_eq_false c16
         clear c16
         simp only [Option.some.injEq, Prod.mk.injEq] at H
         obtain ⟨rfl, rfl, rfl⟩ := H
         go_wp2_with (first | (go_at_call 43; (with_reducible refine (gjson_squash.calls kj7 js14 t101 _ A15.out).mono ?_); rintro e w' ⟨rfl, ⟨nd, rfl⟩⟩; (try first | ((with_reducible refine ⟨?_, _, World.drewN_drewN _ _ _⟩); rfl) | ((with_reducible refine ⟨?_, _, Eq.trans (World.drewN_drewN _ _ _) (congrArg (World.drewN _) (Nat.add_assoc _ _ _))⟩); rfl))))
         repeat (go_quiet (first | (go_at_call 43; (with_reducible refine (gjson_squash.calls kj7 js14 t101 _ A15.out).mono ?_); rintro e w' ⟨rfl, ⟨nd, rfl⟩⟩; (try first | ((with_reducible refine ⟨?_, _, World.drewN_drewN _ _ _⟩); rfl) | ((with_reducible refine ⟨?_, _, Eq.trans (World.drewN_drewN _ _ _) (congrArg (World.drewN _) (Nat.add_assoc _ _ _))⟩); rfl)))); try go_wp2_with (first | (go_at_call 43; (with_reducible refine (gjson_squash.calls kj7 js14 t101 _ A15.out).mono ?_); rintro e w' ⟨rfl, ⟨nd, rfl⟩⟩; (try first | ((with_reducible refine ⟨?_, _, World.drewN_drewN _ _ _⟩); rfl) | ((with_reducible refine ⟨?_, _, Eq.trans (World.drewN_drewN _ _ _) (congrArg (World.drewN _) (Nat.add_assoc _ _ _))⟩); rfl)))))
         go_ret3
         exact ⟨by first | rfl | (simp; done) | (simp only [← hjs14] <;> (first | rfl | simp)) | (simp [*]; done), by repeat (first | exact Drawn0.refl _ | apply Drawn0.step)⟩
       ·
        rw [if_neg c13] at H
        exact absurd H (by simp)
      ·
       replace c12 := Bool.eq_false_iff.mpr c12
       subst c12
       have H1 : (gjson_splitPossiblePipe.l1 kj7 a0 (⟨#[]⟩ : ByteArray) (⟨#[]⟩ : ByteArray) false 0) = some (r1, r2, r3) := by rw [if_neg (show ¬ (false = true) by decide)] at H; exact H
       clear H
       have H := H1
       clear H1
       have H' := Aside0.mk H
       clear H
       go_wp2
       repeat (go_quiet (fail); try go_wp2)
       try simp only [Act.put, List.setIfInBounds_toArray, List.set_cons_succ, List.set_cons_zero]
       go_loopg [2, 3, 4, 9] kj7 (fun kq v2 v3 v4 v9 w' => ∃ (x2_3 : ByteArray) (x3_3 : ByteArray) (x4_3 : Bool) (x9_3 : Int), v2 = .string x2_3 ∧ v3 = .string x3_3 ∧ v4 = .bool x4_3 ∧ v9 = .int .i64 x9_3 ∧ Aside0 (gjson_splitPossiblePipe.l1 kq a0 x2_3 x3_3 x4_3 x9_3 = some (r1, r2, r3)) ∧ Aside0 (kq ≤ kj7) ∧ Drawn0 w w')
       case atStart => exact ⟨((⟨#[]⟩ : ByteArray)), ((⟨#[]⟩ : ByteArray)), (false), (0), (by first | rfl | (simp; done) | (simp [*]; done)), (by first | rfl | (simp; done) | (simp [*]; done)), (by first | rfl | (simp; done) | (simp [*]; done)), (by first | rfl | (simp; done) | (simp [*]; done)), H', ⟨Nat.le_refl _⟩, by repeat (first | exact Drawn0.refl _ | apply Drawn0.step)⟩
       case round =>
        clear H'
        try clear c1
        try clear p1
        try clear q1
        try clear hx1
        try clear qi1
        try clear c2
        try clear p2
        try clear q2
        try clear hx2
        try clear qi2
        try clear c3
        try clear c3b0
        try clear c4
        try clear c4b0
        try clear p5
        try clear q5
        try clear hx5
        try clear c6
        try clear c6b0
        try clear c6b1
        try clear p6
        try clear c7
        try clear c9
        try clear c9b0
        try clear c9b1
        try clear c10
        try clear c10b0
        try clear c10b1
        try clear p11
        try clear q11
        try clear hx11
        try clear qi11
        try clear c12
        try clear c13
        try clear c13b0
        try clear c13b1
        try clear c16
        try clear c16b0
        try clear c18
        try clear c18b0
        try clear c18b1
        try clear c19
        try clear c19b0
        try clear c19b1
        try clear c21
        try clear c21b0
        try clear c21b1
        try clear c22
        try clear c22b0
        try clear c22b1
        try clear c24
        try clear c24b0
        try clear c24b1
        try clear p25
        try clear q25
        try clear hx25
        try clear qi25
        try clear c26
        try clear c26b0
        try clear c26b1
        try clear c27
        try clear c27b0
        try clear c27b1
        try clear p1
        try clear p11
        try clear p2
        try clear p25
        try clear p5
        try clear p6
        try clear q1
        try clear q11
        try clear q25
        try clear q5
        obtain ⟨x2_3, x3_3, x4_3, x9_3, rfl, rfl, rfl, rfl, HA, HK3, ⟨m3, rfl⟩⟩ := hrel
        cases gk with
        | zero => exact absurd HA.out (by simp [gjson_splitPossiblePipe.l1])
        | succ k3 =>
         have H := HA.out
         clear HA
         simp only [gjson_splitPossiblePipe.l1] at H
         by_cases c29 : x9_3 < (a0.size : Int)
         ·
          rw [if_pos c29] at H
          have c29b0 : decide (x9_3 < (a0.size : Int)) = true := decide_eq_true c29
          clear c29
          by_cases c30 : 0 ≤ x9_3
          ·
           rw [if_pos c30] at H
           have c30b0 : decide (0 ≤ x9_3) = true := decide_eq_true c30
           clear c30
           by_cases c32 : (bt a0 x9_3) = 92
           ·
            rw [if_pos c32] at H
            have c32b0 : ((bt a0 x9_3) == 92) = true := beq_iff_eq.mpr c32
            have c32b1 : ((bt a0 x9_3) != 92) = false := bne_eq_false_iff_eq.mpr c32
            clear c32
            have H' := Aside0.mk H
            clear H
            have p31 : 0 ≤ (x9_3 : Int) := of_decide_eq_true (by first | (with_reducible assumption) | assumption)
            have q31 : x9_3 < (a0.size : Int) := of_decide_eq_true (by first | (with_reducible assumption) | assumption)
            have hx31 := bt_at a0 x9_3
            replace p31 := eq_true p31
            replace q31 := eq_true q31
            go_wp2
            repeat (go_quiet (fail); try go_wp2)
            go_roundg k3
            case measure => have := HJ1.out; have := HJ7.out; have := HK3.out; omega
            case rel => exact ⟨(x2_3), (x3_3), (x4_3), (wrap64 ((wrap64 (x9_3 + 1)) + 1)), (by first | rfl | (simp; done) | (simp [*]; done)), (by first | rfl | (simp; done) | (simp [*]; done)), (by first | rfl | (simp; done) | (simp [*]; done)), (by first | rfl | (simp; done) | (simp [*]; done)), H', ⟨by have := HJ1.out; have := HJ7.out; have := HK3.out; omega⟩, by repeat (first | exact Drawn0.refl _ | apply Drawn0.step)⟩
           ·
            rw [if_neg c32] at H
            have c32b0 : ((bt a0 x9_3) == 92) = false := beq_eq_false_iff_ne.mpr c32
            have c32b1 : ((bt a0 x9_3) != 92) = true := bne_iff_ne.mpr c32
            by_cases c34 : (bt a0 x9_3) = 46
            ·
             rw [if_pos c34] at H
             have c34b0 : ((bt a0 x9_3) == 46) = true := beq_iff_eq.mpr c34
             have c34b1 : ((bt a0 x9_3) != 46) = false := bne_eq_false_iff_eq.mpr c34
             clear c34
             by_cases c35 : x9_3 = (wrap64 ((a0.size : Int) - 1))
             ·
              rw [if_pos c35] at H
              have c35b0 : (x9_3 == (wrap64 ((a0.size : Int) - 1))) = true := beq_iff_eq.mpr c35
              have c35b1 : (x9_3 != (wrap64 ((a0.size : Int) - 1))) = false := bne_eq_false_iff_eq.mpr c35
              clear c35
              simp only [Option.some.injEq, Prod.mk.injEq] at H
              obtain ⟨rfl, rfl, rfl⟩ := H
              have p31 : 0 ≤ (x9_3 : Int) := of_decide_eq_true (by first | (with_reducible assumption) | assumption)
              have q31 : x9_3 < (a0.size : Int) := of_decide_eq_true (by first | (with_reducible assumption) | assumption)
              have hx31 := bt_at a0 x9_3
              replace p31 := eq_true p31
              replace q31 := eq_true q31
              have p33 : 0 ≤ (x9_3 : Int) := of_decide_eq_true (by first | (with_reducible assumption) | assumption)
              have q33 : x9_3 < (a0.size : Int) := of_decide_eq_true (by first | (with_reducible assumption) | assumption)
              have hx33 := bt_at a0 x9_3
              replace p33 := eq_true p33
              replace q33 := eq_true q33
              go_wp2
              repeat (go_quiet (fail); try go_wp2)
              go_ret3
              exact ⟨by first | rfl | (simp; done) | (simp [*]; done), by repeat (first | exact Drawn0.refl _ | apply Drawn0.step)⟩
             ·
              rw [if_neg c35] at H
              have c35b0 : (x9_3 == (wrap64 ((a0.size : Int) - 1))) = false := beq_eq_false_iff_ne.mpr c35
              have c35b1 : (x9_3 != (wrap64 ((a0.size : Int) - 1))) = true := bne_iff_ne.mpr c35
              obtain ⟨ji36, hji36⟩ : ∃ j_ : Int, (wrap64 (x9_3 + 1)) = j_ := ⟨_, rfl⟩
              replace H : (if 0 ≤ (ji36) then (if (ji36) < (a0.size : Int) then (if (bt a0 (ji36)) = 35 then (if (wrap64 (x9_3 + 2)) = (a0.size : Int) then (some (x2_3, x3_3, x4_3)) else (if 0 ≤ (wrap64 (x9_3 + 2)) then (if (wrap64 (x9_3 + 2)) < (a0.size : Int) then (if (bt a0 (wrap64 (x9_3 + 2))) = 91 then (gjson_splitPossiblePipe.j4 k3 a0 x2_3 x3_3 x4_3 (wrap64 (x9_3 + 2)) true) else (gjson_splitPossiblePipe.j4 k3 a0 x2_3 x3_3 x4_3 (wrap64 (x9_3 + 2)) ((bt a0 (wrap64 (x9_3 + 2))) == 40))) else (none)) else (none))) else (gjson_splitPossiblePipe.l1 k3 a0 x2_3 x3_3 x4_3 ji36)) else (none)) else (none)) = some (r1, r2, r3) := by first | (rw [hji36] at H; exact H) | (simp only [hji36] at H ⊢; exact H)
              have hji36w : (IntKind.i64.wrap (x9_3 + 1)) = ji36 := (i64_w _).trans hji36
              by_cases c37 : 0 ≤ (ji36)
              ·
               rw [if_pos c37] at H
               have c37b0 : decide (0 ≤ (ji36)) = true := decide_eq_true c37
               clear c37
               by_cases c38 : (ji36) < (a0.size : Int)
               ·
                rw [if_pos c38] at H
                have c38b0 : decide ((ji36) < (a0.size : Int)) = true := decide_eq_true c38
                clear c38
                by_cases c40 : (bt a0 (ji36)) = 35
                ·
                 rw [if_pos c40] at H
                 have c40b0 : ((bt a0 (ji36)) == 35) = true := beq_iff_eq.mpr c40
                 have c40b1 : ((bt a0 (ji36)) != 35) = false := bne_eq_false_iff_eq.mpr c40
                 clear c40
                 by_cases c41 : (wrap64 (x9_3 + 2)) = (a0.size : Int)
                 ·
                  rw [if_pos c41] at H
                  have c41b0 : ((wrap64 (x9_3 + 2)) == (a0.size : Int)) = true := beq_iff_eq.mpr c41
                  have c41b1 : ((wrap64 (x9_3 + 2)) != (a0.size : Int)) = false := bne_eq_false_iff_eq.mpr c41
                  clear c41
                  simp only [Option.some.injEq, Prod.mk.injEq] at H
                  obtain ⟨rfl, rfl, rfl⟩ := H
                  have p31 : 0 ≤ (x9_3 : Int) := of_decide_eq_true (by first | (with_reducible assumption) | assumption)
                  have q31 : x9_3 < (a0.size : Int) := of_decide_eq_true (by first | (with_reducible assumption) | assumption)
                  have hx31 := bt_at a0 x9_3
                  replace p31 := eq_true p31
                  replace q31 := eq_true q31
                  have p33 : 0 ≤ (x9_3 : Int) := of_decide_eq_true (by first | (with_reducible assumption) | assumption)
                  have q33 : x9_3 < (a0.size : Int) := of_decide_eq_true (by first | (with_reducible assumption) | assumption)
                  have hx33 := bt_at a0 x9_3
                  replace p33 := eq_true p33
                  replace q33 := eq_true q33
                  have p39 : 0 ≤ ((ji36) : Int) := of_decide_eq_true (by first | (with_reducible assumption) | assumption)
                  have q39 : (ji36) < (a0.size : Int) := of_decide_eq_true (by first | (with_reducible assumption) | assumption)
                  have hx39 := bt_at a0 (ji36)
                  replace p39 := eq_true p39
                  replace q39 := eq_true q39
                  go_wp2
                  repeat (go_quiet (fail); try go_wp2)
                  go_ret3
                  exact ⟨by first | rfl | (simp; done) | (simp only [← hji36] <;> (first | rfl | simp)) | (simp [*]; done), by repeat (first | exact Drawn0.refl _ | apply Drawn0.step)⟩
                 ·
                  rw [if_neg c41] at H
                  have c41b0 : ((wrap64 (x9_3 + 2)) == (a0.size : Int)) = false := beq_eq_false_iff_ne.mpr c41
                  have c41b1 : ((wrap64 (x9_3 + 2)) != (a0.size : Int)) = true := bne_iff_ne.mpr c41
                  have HC42 := Aside0.mk H
                  clear H
                  have p31 : 0 ≤ (x9_3 : Int) := of_decide_eq_true (by first | (with_reducible assumption) | assumption)
                  have q31 : x9_3 < (a0.size : Int) := of_decide_eq_true (by first | (with_reducible assumption) | assumption)
                  have hx31 := bt_at a0 x9_3
                  replace p31 := eq_true p31
                  replace q31 := eq_true q31
                  have p33 : 0 ≤ (x9_3 : Int) := of_decide_eq_true (by first | (with_reducible assumption) | assumption)
                  have q33 : x9_3 < (a0.size : Int) := of_decide_eq_true (by first | (with_reducible assumption) | assumption)
                  have hx33 := bt_at a0 x9_3
                  replace p33 := eq_true p33
                  replace q33 := eq_true q33
                  have p39 : 0 ≤ ((ji36) : Int) := of_decide_eq_true (by first | (with_reducible assumption) | assumption)
                  have q39 : (ji36) < (a0.size : Int) := of_decide_eq_true (by first | (with_reducible assumption) | assumption)
                  have hx39 := bt_at a0 (ji36)
                  replace p39 := eq_true p39
                  replace q39 := eq_true q39
                  go_upto_region 25 with (fail)
                  repeat (go_quiet (fail); go_upto_region 25 with (fail))
                  go_cut [98] (fun v98 wc => ∃ (kq : Nat) (x98_41 : Bool), v98 = .bool x98_41 ∧ Aside0 (gjson_splitPossiblePipe.j4 kq a0 x2_3 x3_3 x4_3 (wrap64 (x9_3 + 2)) x98_41 = some (r1, r2, r3)) ∧ Aside0 (kq ≤ k3) ∧ Drawn0 w wc)
                  case first =>
                   have H := HC42.out
                   clear HC42
                   obtain ⟨ji43, hji43⟩ : ∃ j_ : Int, (wrap64 (x9_3 + 2)) = j_ := ⟨_, rfl⟩
                   replace H : (if 0 ≤ (ji43) then (if (ji43) < (a0.size : Int) then (if (bt a0 (ji43)) = 91 then (gjson_splitPossiblePipe.j4 k3 a0 x2_3 x3_3 x4_3 ji43 true) else (gjson_splitPossiblePipe.j4 k3 a0 x2_3 x3_3 x4_3 ji43 ((bt a0 (ji43)) == 40))) else (none)) else (none)) = some (r1, r2, r3) := by first | (rw [hji43] at H; exact H) | (simp only [hji43] at H ⊢; exact H)
                   (try rw [hji43] at c41b0)
                   (try rw [hji43] at c41b1)
                   have hji43w : (IntKind.i64.wrap (x9_3 + 2)) = ji43 := (i64_w _).trans hji43
                   by_cases c44 : 0 ≤ (ji43)
                   ·
                    rw [if_pos c44] at H
                    have c44b0 : decide (0 ≤ (ji43)) = true := decide_eq_true c44
                    clear c44
                    (first | rw [c44b0] | (simp only [i64_w, i32_w]; rw [c44b0]) | skip)
                    by_cases c45 : (ji43) < (a0.size : Int)
                    ·
                     rw [if_pos c45] at H
                     have c45b0 : decide ((ji43) < (a0.size : Int)) = true := decide_eq_true c45
                     clear c45
                     by_cases c47 : (bt a0 (ji43)) = 91
                     ·
                      rw [if_pos c47] at H
                      have c47b0 : ((bt a0 (ji43)) == 91) = true := beq_iff_eq.mpr c47
                      have c47b1 : ((bt a0 (ji43)) != 91) = false := bne_eq_false_iff_eq.mpr c47
                      clear c47
                      have H' := Aside0.mk H
                      clear H
                      have p46 : 0 ≤ ((ji43) : Int) := of_decide_eq_true (by first | (with_reducible assumption) | assumption)
                      have q46 : (ji43) < (a0.size : Int) := of_decide_eq_true (by first | (with_reducible assumption) | assumption)
                      have hx46 := bt_at a0 (ji43)
                      replace p46 := eq_true p46
                      replace q46 := eq_true q46
                      go_wp2
                      repeat (go_quiet (fail); try go_wp2)
                      go_meet
                      case rel => exact ⟨_, (true), (by first | rfl | (simp; done) | (simp [*]; done)), (by first | exact H' | (rw [hji43]; exact H') | (simp only [hji36, hji43]; exact H') | (simp only [hji36, hji43] at H' ⊢; exact H')), ⟨by have := HJ1.out; have := HJ7.out; have := HK3.out; first | omega | exact Nat.le_refl _⟩, by repeat (first | exact Drawn0.refl _ | apply Drawn0.step)⟩
                     ·
                      rw [if_neg c47] at H
                      have c47b0 : ((bt a0 (ji43)) == 91) = false := beq_eq_false_iff_ne.mpr c47
                      have c47b1 : ((bt a0 (ji43)) != 91) = true := bne_iff_ne.mpr c47
                      have H' := Aside0.mk H
                      clear H
                      have p46 : 0 ≤ ((ji43) : Int) := of_decide_eq_true (by first | (with_reducible assumption) | assumption)
                      have q46 : (ji43) < (a0.size : Int) := of_decide_eq_true (by first | (with_reducible assumption) | assumption)
                      have hx46 := bt_at a0 (ji43)
                      replace p46 := eq_true p46
                      replace q46 := eq_true q46
                      have p48 : 0 ≤ ((ji43) : Int) := of_decide_eq_true (by first | (with_reducible assumption) | assumption)
                      have q48 : (ji43) < (a0.size : Int) := of_decide_eq_true (by first | (with_reducible assumption) | assumption)
                      have hx48 := bt_at a0 (ji43)
                      replace p48 := eq_true p48
                      replace q48 := eq_true q48
                      go_wp2
                      repeat (go_quiet (fail); try go_wp2)
                      go_meet
                      case rel => exact ⟨_, (((bt a0 (ji43)) == 40)), (by first | rfl | (simp; done) | (simp only [← hji43] <;> (first | rfl | simp)) | (simp [*]; done)), (by first | exact H' | (rw [hji43]; exact H') | (simp only [hji36, hji43]; exact H') | (simp only [hji36, hji43] at H' ⊢; exact H')), ⟨by have := HJ1.out; have := HJ7.out; have := HK3.out; first | omega | exact Nat.le_refl _⟩, by repeat (first | exact Drawn0.refl _ | apply Drawn0.step)⟩
                    ·
                     rw [if_neg c45] at H
                     exact absurd H (by simp)
                   ·
                    rw [if_neg c44] at H
                    exact absurd H (by simp)
                  case rest =>
                   clear HC42
                   try clear c1
                   try clear p1
                   try clear q1
                   try clear hx1
                   try clear qi1
                   try clear c2
                   try clear p2
                   try clear q2
                   try clear hx2
                   try clear qi2
                   try clear c3
                   try clear c3b0
                   try clear p3
                   try clear q3
                   try clear hx3
                   try clear c4
                   try clear c4b0
                   try clear p4
                   try clear q4
                   try clear hx4
                   try clear p5
                   try clear q5
                   try clear hx5
                   try clear c6
                   try clear c6b0
                   try clear c6b1
                   try clear p6
                   try clear c7
                   try clear c9
                   try clear c9b0
                   try clear c9b1
                   try clear c10
                   try clear c10b0
                   try clear c10b1
                   try clear p11
                   try clear q11
                   try clear hx11
                   try clear qi11
                   try clear c12
                   try clear c13
                   try clear c13b0
                   try clear c13b1
                   try clear c16
                   try clear c16b0
                   try clear c18
                   try clear c18b0
                   try clear c18b1
                   try clear c19
                   try clear c19b0
                   try clear c19b1
                   try clear c21
                   try clear c21b0
                   try clear c21b1
                   try clear c22
                   try clear c22b0
                   try clear c22b1
                   try clear c24
                   try clear c24b0
                   try clear c24b1
                   try clear p25
                   try clear q25
                   try clear hx25
                   try clear qi25
                   try clear c26
                   try clear c26b0
                   try clear c26b1
                   try clear c27
                   try clear c27b0
                   try clear c27b1
                   try clear c29
                   try clear c29b0
                   try clear c30
                   try clear c30b0
                   try clear p31
                   try clear q31
                   try clear hx31
                   try clear c32
                   try clear c32b0
                   try clear c32b1
                   try clear p33
                   try clear q33
                   try clear hx33
                   try clear c34
                   try clear c34b0
                   try clear c34b1
                   try clear c35
                   try clear c35b0
                   try clear c35b1
                   try clear c37
                   try clear c37b0
                   try clear c38
                   try clear c38b0
                   try clear p39
                   try clear q39
                   try clear hx39
                   try clear c40
                   try clear c40b0
                   try clear c40b1
                   try clear c41
                   try clear c41b0
                   try clear c41b1
                   try clear c44
                   try clear c44b0
                   try clear c45
                   try clear c45b0
                   try clear c46
                   try clear p46
                   try clear q46
                   try clear hx46
                   try clear c47
                   try clear c47b0
                   try clear c47b1
                   try clear p48
                   try clear q48
                   try clear hx48
                   try clear p1
                   try clear p11
                   try clear p2
                   try clear p25
                   try clear p31
                   try clear p33
                   try clear p39
                   try clear p46
                   try clear p48
                   try clear p5
                   try clear p6
                   try clear q1
                   try clear q11
                   try clear q2
                   try clear q25
                   try clear q31
                   try clear q33
                   try clear q39
                   try clear q46
                   try clear q48
                   try clear q5
                   obtain ⟨kq, x98_41, rfl, HA, HJ41, ⟨mc41, rfl⟩⟩ := hcut
                   cases kq with
                   | zero => exact absurd HA.out (by simp [gjson_splitPossiblePipe.j4])
                   | succ kj41 =>
                    have H := HA.out
                    clear HA
                    simp only [gjson_splitPossiblePipe.j4] at H
                    by_cases c49 : x98_41 = true
                    ·
                     subst c49
                     have H1 : (if 0 ≤ (wrap64 (x9_3 + 2)) then (if (wrap64 (x9_3 + 2)) < (a0.size : Int) then (if (bt a0 (wrap64 (x9_3 + 2))) = 91 then (gjson_splitPossiblePipe.j5 kj41 a0 x2_3 x3_3 x4_3 (wrap64 (x9_3 + 2)) 91 93) else (gjson_splitPossiblePipe.j5 kj41 a0 x2_3 x3_3 x4_3 (wrap64 (x9_3 + 2)) 40 41)) else (none)) else (none)) = some (r1, r2, r3) := by rw [if_pos rfl] at H; exact H
                     clear H
                     have H := H1
                     clear H1
                     obtain ⟨ji50, hji50⟩ : ∃ j_ : Int, (wrap64 (x9_3 + 2)) = j_ := ⟨_, rfl⟩
                     replace H : (if 0 ≤ (ji50) then (if (ji50) < (a0.size : Int) then (if (bt a0 (ji50)) = 91 then (gjson_splitPossiblePipe.j5 kj41 a0 x2_3 x3_3 x4_3 (ji50) 91 93) else (gjson_splitPossiblePipe.j5 kj41 a0 x2_3 x3_3 x4_3 (ji50) 40 41)) else (none)) else (none)) = some (r1, r2, r3) := by first | (rw [hji50] at H; exact H) | (simp only [hji50] at H ⊢; exact H)
                     (try rw [hji50] at c41b0)
                     (try rw [hji50] at c41b1)
                     have hji50w : (IntKind.i64.wrap (x9_3 + 2)) = ji50 := (i64_w _).trans hji50
                     by_cases c51 : 0 ≤ (ji50)
                     ·
                      rw [if_pos c51] at H
                      have c51b0 : decide (0 ≤ (ji50)) = true := decide_eq_true c51
                      clear c51
                      by_cases c52 : (ji50) < (a0.size : Int)
                      ·
                       rw [if_pos c52] at H
                       have c52b0 : decide ((ji50) < (a0.size : Int)) = true := decide_eq_true c52
                       clear c52
                       have HC54 := Aside0.mk H
                       clear H
                       have p53 : 0 ≤ ((ji50) : Int) := of_decide_eq_true (by first | (with_reducible assumption) | assumption)
                       have q53 : (ji50) < (a0.size : Int) := of_decide_eq_true (by first | (with_reducible assumption) | assumption)
                       have hx53 := bt_at a0 (ji50)
                       replace p53 := eq_true p53
                       replace q53 := eq_true q53
                       go_upto_if 102 with (fail)
                       repeat (go_quiet (fail); go_upto_if 102 with (fail))
                       go_cut [10, 11] (fun v10 v11 wc => ∃ (kq : Nat) (x10_53 : Int) (x11_53 : Int), v10 = .int .u8 x10_53 ∧ v11 = .int .u8 x11_53 ∧ Aside0 (gjson_splitPossiblePipe.j5 kq a0 x2_3 x3_3 x4_3 (ji50) x10_53 x11_53 = some (r1, r2, r3)) ∧ Aside0 (kq ≤ kj41) ∧ Drawn0 w wc)
                       case first =>
                        have H := HC54.out
                        clear HC54
                        by_cases c55 : (bt a0 (ji50)) = 91
                        ·
                         rw [if_pos c55] at H
                         have c55b0 : ((bt a0 (ji50)) == 91) = true := beq_iff_eq.mpr c55
                         have c55b1 : ((bt a0 (ji50)) != 91) = false := bne_eq_false_iff_eq.mpr c55
                         clear c55
                         (first | rw [c55b0] | (simp only [i64_w, i32_w]; rw [c55b0]) | skip)
                         have H' := Aside0.mk H
                         clear H
                         go_wp2
                         repeat (go_quiet (fail); try go_wp2)
                         go_meet
                         case rel => exact ⟨_, (91), (93), (by first | rfl | (simp; done) | (simp [*]; done)), (by first | rfl | (simp; done) | (simp [*]; done)), (by first | exact H' | (rw [hji50]; exact H') | (simp only [hji36, hji50]; exact H') | (simp only [hji36, hji50] at H' ⊢; exact H')), ⟨by have := HJ1.out; have := HJ7.out; have := HK3.out; have := HJ41.out; first | omega | exact Nat.le_refl _⟩, by repeat (first | exact Drawn0.refl _ | apply Drawn0.step)⟩
                        ·
                         rw [if_neg c55] at H
                         have c55b0 : ((bt a0 (ji50)) == 91) = false := beq_eq_false_iff_ne.mpr c55
                         have c55b1 : ((bt a0 (ji50)) != 91) = true := bne_iff_ne.mpr c55
                         (first | rw [c55b0] | (simp only [i64_w, i32_w]; rw [c55b0]) | skip)
                         have H' := Aside0.mk H
                         clear H
                         go_wp2
                         repeat (go_quiet (fail); try go_wp2)
                         go_meet
                         case rel => exact ⟨_, (40), (41), (by first | rfl | (simp; done) | (simp [*]; done)), (by first | rfl | (simp; done) | (simp [*]; done)), (by first | exact H' | (rw [hji50]; exact H') | (simp only [hji36, hji50]; exact H') | (simp only [hji36, hji50] at H' ⊢; exact H')), ⟨by have := HJ1.out; have := HJ7.out; have := HK3.out; have := HJ41.out; first | omega | exact Nat.le_refl _⟩, by repeat (first | exact Drawn0.refl _ | apply Drawn0.step)⟩
                       case rest =>
                        clear HC54
                        try clear c1
                        try clear p1
                        try clear q1
                        try clear hx1
                        try clear qi1
                        try clear c2
                        try clear p2
                        try clear q2
                        try clear hx2
                        try clear qi2
                        try clear c3
                        try clear c3b0
                        try clear p3
                        try clear q3
                        try clear hx3
                        try clear c4
                        try clear c4b0
                        try clear p4
                        try clear q4
                        try clear hx4
                        try clear c5
                        try clear p5
                        try clear q5
                        try clear hx5
                        try clear c6
                        try clear c6b0
                        try clear c6b1
                        try clear p6
                        try clear c7
                        try clear c9
                        try clear c9b0
                        try clear c9b1
                        try clear c10
                        try clear c10b0
                        try clear c10b1
                        try clear p11
                        try clear q11
                        try clear hx11
                        try clear qi11
                        try clear c12
                        try clear c13
                        try clear c13b0
                        try clear c13b1
                        try clear c16
                        try clear c16b0
                        try clear c18
                        try clear c18b0
                        try clear c18b1
                        try clear c19
                        try clear c19b0
                        try clear c19b1
                        try clear c21
                        try clear c21b0
                        try clear c21b1
                        try clear c22
                        try clear c22b0
                        try clear c22b1
                        try clear c24
                        try clear c24b0
                        try clear c24b1
                        try clear p25
                        try clear q25
                        try clear hx25
                        try clear qi25
                        try clear c26
                        try clear c26b0
                        try clear c26b1
                        try clear c27
                        try clear c27b0
                        try clear c27b1
                        try clear c29
                        try clear c29b0
                        try clear c30
                        try clear c30b0
                        try clear p31
                        try clear q31
                        try clear hx31
                        try clear c32
                        try clear c32b0
                        try clear c32b1
                        try clear p33
                        try clear q33
                        try clear hx33
                        try clear c34
                        try clear c34b0
                        try clear c34b1
                        try clear c35
                        try clear c35b0
                        try clear c35b1
                        try clear c37
                        try clear c37b0
                        try clear c38
                        try clear c38b0
                        try clear p39
                        try clear q39
                        try clear hx39
                        try clear c40
                        try clear c40b0
                        try clear c40b1
                        try clear c41
                        try clear c41b0
                        try clear c41b1
                        try clear c44
                        try clear c44b0
                        try clear c45
                        try clear c45b0
                        try clear c46
                        try clear p46
                        try clear q46
                        try clear hx46
                        try clear c47
                        try clear c47b0
                        try clear c47b1
                        try clear p48
                        try clear q48
                        try clear hx48
                        try clear c49
                        try clear c51
                        try clear c51b0
                        try clear c52
                        try clear c52b0
                        try clear p53
                        try clear q53
                        try clear hx53
                        try clear c55
                        try clear c55b0
                        try clear c55b1
                        try clear p1
                        try clear p11
                        try clear p2
                        try clear p25
                        try clear p3
                        try clear p31
                        try clear p33
                        try clear p39
                        try clear p4
                        try clear p46
                        try clear p48
                        try clear p5
                        try clear p53
                        try clear p6
                        try clear q1
                        try clear q11
                        try clear q2
                        try clear q25
                        try clear q3
                        try clear q31
                        try clear q33
                        try clear q39
                        try clear q4
                        try clear q46
                        try clear q48
                        try clear q5
                        try clear q53
                        obtain ⟨kq, x10_53, x11_53, rfl, rfl, HA, HJ53, ⟨mc53, rfl⟩⟩ := hcut
                        cases kq with
                        | zero => exact absurd HA.out (by simp [gjson_splitPossiblePipe.j5])
                        | succ kj53 =>
                         have H := HA.out
                         clear HA
                         simp only [gjson_splitPossiblePipe.j5] at H
                         have H' := Aside0.mk H
                         clear H
                         go_wp2
                         repeat (go_quiet (fail); try go_wp2)
                         try simp only [Act.put, List.setIfInBounds_toArray, List.set_cons_succ, List.set_cons_zero]
                         go_loopg [9, 12] kj53 (fun kq v9 v12 w' => ∃ (x9_6 : Int) (x12_6 : Int), v9 = .int .i64 x9_6 ∧ v12 = .int .i64 x12_6 ∧ Aside0 (gjson_splitPossiblePipe.l2 kq a0 x2_3 x3_3 x4_3 x9_6 x10_53 x11_53 x12_6 = some (r1, r2, r3)) ∧ Aside0 (kq ≤ kj53) ∧ Drawn0 w w')
                         case atStart => exact ⟨(wrap64 ((ji50) + 1)), (1), (by first | rfl | (simp; done) | (simp only [← hji50] <;> (first | rfl | simp)) | (simp [*]; done)), (by first | rfl | (simp; done) | (simp [*]; done)), H', ⟨Nat.le_refl _⟩, by repeat (first | exact Drawn0.refl _ | apply Drawn0.step)⟩
                         case round =>
                          clear H'
                          try clear c1
                          try clear p1
                          try clear q1
                          try clear hx1
                          try clear qi1
                          try clear c2
                          try clear p2
                          try clear q2
                          try clear hx2
                          try clear qi2
                          try clear c3
                          try clear c3b0
                          try clear p3
                          try clear q3
                          try clear hx3
                          try clear c4
                          try clear c4b0
                          try clear p4
                          try clear q4
                          try clear hx4
                          try clear c5
                          try clear p5
                          try clear q5
                          try clear hx5
                          try clear c6
                          try clear c6b0
                          try clear c6b1
                          try clear p6
                          try clear c7
                          try clear c9
                          try clear c9b0
                          try clear c9b1
                          try clear c10
                          try clear c10b0
                          try clear c10b1
                          try clear p11
                          try clear q11
                          try clear hx11
                          try clear qi11
                          try clear c12
                          try clear c13
                          try clear c13b0
                          try clear c13b1
                          try clear c16
                          try clear c16b0
                          try clear c18
                          try clear c18b0
                          try clear c18b1
                          try clear c19
                          try clear c19b0
                          try clear c19b1
                          try clear c21
                          try clear c21b0
                          try clear c21b1
                          try clear c22
                          try clear c22b0
                          try clear c22b1
                          try clear c24
                          try clear c24b0
                          try clear c24b1
                          try clear p25
                          try clear q25
                          try clear hx25
                          try clear qi25
                          try clear c26
                          try clear c26b0
                          try clear c26b1
                          try clear c27
                          try clear c27b0
                          try clear c27b1
                          try clear c29
                          try clear c29b0
                          try clear c30
                          try clear c30b0
                          try clear p31
                          try clear q31
                          try clear hx31
                          try clear c32
                          try clear c32b0
                          try clear c32b1
                          try clear p33
                          try clear q33
                          try clear hx33
                          try clear c34
                          try clear c34b0
                          try clear c34b1
                          try clear c35
                          try clear c35b0
                          try clear c35b1
                          try clear c37
                          try clear c37b0
                          try clear c38
                          try clear c38b0
                          try clear p39
                          try clear q39
                          try clear hx39
                          try clear c40
                          try clear c40b0
                          try clear c40b1
                          try clear c41
                          try clear c41b0
                          try clear c41b1
                          try clear c44
                          try clear c44b0
                          try clear c45
                          try clear c45b0
                          try clear c46
                          try clear p46
                          try clear q46
                          try clear hx46
                          try clear c47
                          try clear c47b0
                          try clear c47b1
                          try clear p48
                          try clear q48
                          try clear hx48
                          try clear c49
                          try clear c51
                          try clear c51b0
                          try clear c52
                          try clear c52b0
                          try clear c53
                          try clear p53
                          try clear q53
                          try clear hx53
                          try clear c55
                          try clear c55b0
                          try clear c55b1
                          try clear p1
                          try clear p11
                          try clear p2
                          try clear p25
                          try clear p3
                          try clear p31
                          try clear p33
                          try clear p39
                          try clear p4
                          try clear p46
                          try clear p48
                          try clear p5
                          try clear p53
                          try clear p6
                          try clear q1
                          try clear q11
                          try clear q2
                          try clear q25
                          try clear q3
                          try clear q31
                          try clear q33
                          try clear q39
                          try clear q4
                          try clear q46
                          try clear q48
                          try clear q5
                          try clear q53
                          obtain ⟨x9_6, x12_6, rfl, rfl, HA, HK6, ⟨m6, rfl⟩⟩ := hrel
                          cases gk with
                          | zero => exact absurd HA.out (by simp [gjson_splitPossiblePipe.l2])
                          | succ k6 =>
                           have H := HA.out
                           clear HA
                           simp only [gjson_splitPossiblePipe.l2] at H
                           by_cases c56 : x9_6 < (a0.size : Int)
                           ·
                            rw [if_pos c56] at H
                            have c56b0 : decide (x9_6 < (a0.size : Int)) = true := decide_eq_true c56
                            clear c56
                            by_cases c57 : 0 ≤ x9_6
                            ·
                             rw [if_pos c57] at H
                             have c57b0 : decide (0 ≤ x9_6) = true := decide_eq_true c57
                             clear c57
                             by_cases c59 : (bt a0 x9_6) = 92
                             ·
                              rw [if_pos c59] at H
                              have c59b0 : ((bt a0 x9_6) == 92) = true := beq_iff_eq.mpr c59
                              have c59b1 : ((bt a0 x9_6) != 92) = false := bne_eq_false_iff_eq.mpr c59
                              clear c59
                              have H' := Aside0.mk H
                              clear H
                              have p58 : 0 ≤ (x9_6 : Int) := of_decide_eq_true (by first | (with_reducible assumption) | assumption)
                              have q58 : x9_6 < (a0.size : Int) := of_decide_eq_true (by first | (with_reducible assumption) | assumption)
                              have hx58 := bt_at a0 x9_6
                              replace p58 := eq_true p58
                              replace q58 := eq_true q58
                              go_wp2
                              repeat (go_quiet (fail); try go_wp2)
                              go_roundg k6
                              case measure => have := HJ1.out; have := HJ7.out; have := HK3.out; have := HJ41.out; have := HJ53.out; have := HK6.out; omega
                              case rel => exact ⟨(wrap64 ((wrap64 (x9_6 + 1)) + 1)), (x12_6), (by first | rfl | (simp; done) | (simp [*]; done)), (by first | rfl | (simp; done) | (simp [*]; done)), (by first | exact H' | (rw [hji50]; exact H') | (simp only [hji36, hji50]; exact H') | (simp only [hji36, hji50] at H' ⊢; exact H')), ⟨by have := HJ1.out; have := HJ7.out; have := HK3.out; have := HJ41.out; have := HJ53.out; have := HK6.out; omega⟩, by repeat (first | exact Drawn0.refl _ | apply Drawn0.step)⟩
                             ·
                              rw [if_neg c59] at H
                              have c59b0 : ((bt a0 x9_6) == 92) = false := beq_eq_false_iff_ne.mpr c59
                              have c59b1 : ((bt a0 x9_6) != 92) = true := bne_iff_ne.mpr c59
                              by_cases c61 : (bt a0 x9_6) = x10_53
                              ·
                               rw [if_pos c61] at H
                               have c61b0 : ((bt a0 x9_6) == x10_53) = true := beq_iff_eq.mpr c61
                               have c61b1 : ((bt a0 x9_6) != x10_53) = false := bne_eq_false_iff_eq.mpr c61
                               clear c61
                               have H' := Aside0.mk H
                               clear H
                               have p58 : 0 ≤ (x9_6 : Int) := of_decide_eq_true (by first | (with_reducible assumption) | assumption)
                               have q58 : x9_6 < (a0.size : Int) := of_decide_eq_true (by first | (with_reducible assumption) | assumption)
                               have hx58 := bt_at a0 x9_6
                               replace p58 := eq_true p58
                               replace q58 := eq_true q58
                               have p60 : 0 ≤ (x9_6 : Int) := of_decide_eq_true (by first | (with_reducible assumption) | assumption)
                               have q60 : x9_6 < (a0.size : Int) := of_decide_eq_true (by first | (with_reducible assumption) | assumption)
                               have hx60 := bt_at a0 x9_6
                               replace p60 := eq_true p60
                               replace q60 := eq_true q60
                               go_wp2
                               repeat (go_quiet (fail); try go_wp2)
                               go_roundg k6
                               case measure => have := HJ1.out; have := HJ7.out; have := HK3.out; have := HJ41.out; have := HJ53.out; have := HK6.out; omega
                               case rel => exact ⟨(wrap64 (x9_6 + 1)), (wrap64 (x12_6 + 1)), (by first | rfl | (simp; done) | (simp [*]; done)), (by first | rfl | (simp; done) | (simp [*]; done)), (by first | exact H' | (rw [hji50]; exact H') | (simp only [hji36, hji50]; exact H') | (simp only [hji36, hji50] at H' ⊢; exact H')), ⟨by have := HJ1.out; have := HJ7.out; have := HK3.out; have := HJ41.out; have := HJ53.out; have := HK6.out; omega⟩, by repeat (first | exact Drawn0.refl _ | apply Drawn0.step)⟩
                              ·
                               rw [if_neg c61] at H
                               have c61b0 : ((bt a0 x9_6) == x10_53) = false := beq_eq_false_iff_ne.mpr c61
                               have c61b1 : ((bt a0 x9_6) != x10_53) = true := bne_iff_ne.mpr c61
                               by_cases c63 : (bt a0 x9_6) = x11_53
                               ·
                                rw [if_pos c63] at H
                                have c63b0 : ((bt a0 x9_6) == x11_53) = true := beq_iff_eq.mpr c63
                                have c63b1 : ((bt a0 x9_6) != x11_53) = false := bne_eq_false_iff_eq.mpr c63
                                clear c63
                                by_cases c64 : (wrap64 (x12_6 - 1)) = 0
                                ·
                                 rw [if_pos c64] at H
                                 have c64b0 : ((wrap64 (x12_6 - 1)) == 0) = true := beq_iff_eq.mpr c64
                                 have c64b1 : ((wrap64 (x12_6 - 1)) != 0) = false := bne_eq_false_iff_eq.mpr c64
                                 clear c64
                                 have H' := Aside0.mk H
                                 clear H
                                 have p58 : 0 ≤ (x9_6 : Int) := of_decide_eq_true (by first | (with_reducible assumption) | assumption)
                                 have q58 : x9_6 < (a0.size : Int) := of_decide_eq_true (by first | (with_reducible assumption) | assumption)
                                 have hx58 := bt_at a0 x9_6
                                 replace p58 := eq_true p58
                                 replace q58 := eq_true q58
                                 have p60 : 0 ≤ (x9_6 : Int) := of_decide_eq_true (by first | (with_reducible assumption) | assumption)
                                 have q60 : x9_6 < (a0.size : Int) := of_decide_eq_true (by first | (with_reducible assumption) | assumption)
                                 have hx60 := bt_at a0 x9_6
                                 replace p60 := eq_true p60
                                 replace q60 := eq_true q60
                                 have p62 : 0 ≤ (x9_6 : Int) := of_decide_eq_true (by first | (with_reducible assumption) | assumption)
                                 have q62 : x9_6 < (a0.size : Int) := of_decide_eq_true (by first | (with_reducible assumption) | assumption)
                                 have hx62 := bt_at a0 x9_6
                                 replace p62 := eq_true p62
                                 replace q62 := eq_true q62
                                 go_wp2
                                 repeat (go_quiet (fail); try go_wp2)
                                 go_roundg k6
                                 case measure => have := HJ1.out; have := HJ7.out; have := HK3.out; have := HJ41.out; have := HJ53.out; have := HK6.out; omega
                                 case rel => exact ⟨(x2_3), (x3_3), (x4_3), (wrap64 (x9_6 + 1)), (by first | rfl | (simp; done) | (simp [*]; done)), (by first | rfl | (simp; done) | (simp [*]; done)), (by first | rfl | (simp; done) | (simp [*]; done)), (by first | rfl | (simp; done) | (simp [*]; done)), (by first | exact H' | (rw [hji50]; exact H') | (simp only [hji36, hji50]; exact H') | (simp only [hji36, hji50] at H' ⊢; exact H')), ⟨by have := HJ1.out; have := HJ7.out; have := HK3.out; have := HJ41.out; have := HJ53.out; have := HK6.out; omega⟩, by repeat (first | exact Drawn0.refl _ | apply Drawn0.step)⟩
                                ·
                                 rw [if_neg c64] at H
                                 have c64b0 : ((wrap64 (x12_6 - 1)) == 0) = false := beq_eq_false_iff_ne.mpr c64
                                 have c64b1 : ((wrap64 (x12_6 - 1)) != 0) = true := bne_iff_ne.mpr c64
                                 have H' := Aside0.mk H
                                 clear H
                                 have p58 : 0 ≤ (x9_6 : Int) := of_decide_eq_true (by first | (with_reducible assumption) | assumption)
                                 have q58 : x9_6 < (a0.size : Int) := of_decide_eq_true (by first | (with_reducible assumption) | assumption)
                                 have hx58 := bt_at a0 x9_6
                                 replace p58 := eq_true p58
                                 replace q58 := eq_true q58
                                 have p60 : 0 ≤ (x9_6 : Int) := of_decide_eq_true (by first | (with_reducible assumption) | assumption)
                                 have q60 : x9_6 < (a0.size : Int) := of_decide_eq_true (by first | (with_reducible assumption) | assumption)
                                 have hx60 := bt_at a0 x9_6
                                 replace p60 := eq_true p60
                                 replace q60 := eq_true q60
                                 have p62 : 0 ≤ (x9_6 : Int) := of_decide_eq_true (by first | (with_reducible assumption) | assumption)
                                 have q62 : x9_6 < (a0.size : Int) := of_decide_eq_true (by first | (with_reducible assumption) | assumption)
                                 have hx62 := bt_at a0 x9_6
                                 replace p62 := eq_true p62
                                 replace q62 := eq_true q62
                                 go_wp2
                                 repeat (go_quiet (fail); try go_wp2)
                                 go_roundg k6
                                 case measure => have := HJ1.out; have := HJ7.out; have := HK3.out; have := HJ41.out; have := HJ53.out; have := HK6.out; omega
                                 case rel => exact ⟨(wrap64 (x9_6 + 1)), (wrap64 (x12_6 - 1)), (by first | rfl | (simp; done) | (simp [*]; done)), (by first | rfl | (simp; done) | (simp [*]; done)), (by first | exact H' | (rw [hji50]; exact H') | (simp only [hji36, hji50]; exact H') | (simp only [hji36, hji50] at H' ⊢; exact H')), ⟨by have := HJ1.out; have := HJ7.out; have := HK3.out; have := HJ41.out; have := HJ53.out; have := HK6.out; omega⟩, by repeat (first | exact Drawn0.refl _ | apply Drawn0.step)⟩
                               ·
                                rw [if_neg c63] at H
                                have c63b0 : ((bt a0 x9_6) == x11_53) = false := beq_eq_false_iff_ne.mpr c63
                                have c63b1 : ((bt a0 x9_6) != x11_53) = true := bne_iff_ne.mpr c63
                                by_cases c66 : (bt a0 x9_6) = 34
                                ·
                                 rw [if_pos c66] at H
                                 have c66b0 : ((bt a0 x9_6) == 34) = true := beq_iff_eq.mpr c66
                                 have c66b1 : ((bt a0 x9_6) != 34) = false := bne_eq_false_iff_eq.mpr c66
                                 clear c66
                                 have H' := Aside0.mk H
                                 clear H
                                 have p58 : 0 ≤ (x9_6 : Int) := of_decide_eq_true (by first | (with_reducible assumption) | assumption)
                                 have q58 : x9_6 < (a0.size : Int) := of_decide_eq_true (by first | (with_reducible assumption) | assumption)
                                 have hx58 := bt_at a0 x9_6
                                 replace p58 := eq_true p58
                                 replace q58 := eq_true q58
                                 have p60 : 0 ≤ (x9_6 : Int) := of_decide_eq_true (by first | (with_reducible assumption) | assumption)
                                 have q60 : x9_6 < (a0.size : Int) := of_decide_eq_true (by first | (with_reducible assumption) | assumption)
                                 have hx60 := bt_at a0 x9_6
                                 replace p60 := eq_true p60
                                 replace q60 := eq_true q60
                                 have p62 : 0 ≤ (x9_6 : Int) := of_decide_eq_true (by first | (with_reducible assumption) | assumption)
                                 have q62 : x9_6 < (a0.size : Int) := of_decide_eq_true (by first | (with_reducible assumption) | assumption)
                                 have hx62 := bt_at a0 x9_6
                                 replace p62 := eq_true p62
                                 replace q62 := eq_true q62
                                 have p65 : 0 ≤ (x9_6 : Int) := of_decide_eq_true (by first | (with_reducible assumption) | assumption)
                                 have q65 : x9_6 < (a0.size : Int) := of_decide_eq_true (by first | (with_reducible assumption) | assumption)
                                 have hx65 := bt_at a0 x9_6
                                 replace p65 := eq_true p65
                                 replace q65 := eq_true q65
                                 go_wp2
                                 repeat (go_quiet (fail); try go_wp2)
                                 try simp only [Act.put, List.setIfInBounds_toArray, List.set_cons_succ, List.set_cons_zero]
                                 go_loopg [9] k6 (fun kq v9 w' => ∃ (x9_7 : Int), v9 = .int .i64 x9_7 ∧ Aside0 (gjson_splitPossiblePipe.l3 kq a0 x2_3 x3_3 x4_3 x9_7 x10_53 x11_53 x12_6 = some (r1, r2, r3)) ∧ Aside0 (kq ≤ k6) ∧ Drawn0 w w')
                                 case atStart => exact ⟨(wrap64 (x9_6 + 1)), (by first | rfl | (simp; done) | (simp [*]; done)), H', ⟨Nat.le_refl _⟩, by repeat (first | exact Drawn0.refl _ | apply Drawn0.step)⟩
                                 case round =>
                                  clear H'
                                  try clear c1
                                  try clear p1
                                  try clear q1
                                  try clear hx1
                                  try clear qi1
                                  try clear c2
                                  try clear p2
                                  try clear q2
                                  try clear hx2
                                  try clear qi2
                                  try clear c3
                                  try clear c3b0
                                  try clear p3
                                  try clear q3
                                  try clear hx3
                                  try clear c4
                                  try clear c4b0
                                  try clear p4
                                  try clear q4
                                  try clear hx4
                                  try clear c5
                                  try clear p5
                                  try clear q5
                                  try clear hx5
                                  try clear c6
                                  try clear c6b0
                                  try clear c6b1
                                  try clear p6
                                  try clear q6
                                  try clear hx6
                                  try clear c7
                                  try clear c9
                                  try clear c9b0
                                  try clear c9b1
                                  try clear c10
                                  try clear c10b0
                                  try clear c10b1
                                  try clear p11
                                  try clear q11
                                  try clear hx11
                                  try clear qi11
                                  try clear c12
                                  try clear c13
                                  try clear c13b0
                                  try clear c13b1
                                  try clear c16
                                  try clear c16b0
                                  try clear c18
                                  try clear c18b0
                                  try clear c18b1
                                  try clear c19
                                  try clear c19b0
                                  try clear c19b1
                                  try clear c21
                                  try clear c21b0
                                  try clear c21b1
                                  try clear c22
                                  try clear c22b0
                                  try clear c22b1
                                  try clear c24
                                  try clear c24b0
                                  try clear c24b1
                                  try clear p25
                                  try clear q25
                                  try clear hx25
                                  try clear qi25
                                  try clear c26
                                  try clear c26b0
                                  try clear c26b1
                                  try clear c27
                                  try clear c27b0
                                  try clear c27b1
                                  try clear c29
                                  try clear c29b0
                                  try clear c30
                                  try clear c30b0
                                  try clear p31
                                  try clear q31
                                  try clear hx31
                                  try clear c32
                                  try clear c32b0
                                  try clear c32b1
                                  try clear p33
                                  try clear q33
                                  try clear hx33
                                  try clear c34
                                  try clear c34b0
                                  try clear c34b1
                                  try clear c35
                                  try clear c35b0
                                  try clear c35b1
                                  try clear c37
                                  try clear c37b0
                                  try clear c38
                                  try clear c38b0
                                  try clear p39
                                  try clear q39
                                  try clear hx39
                                  try clear c40
                                  try clear c40b0
                                  try clear c40b1
                                  try clear c41
                                  try clear c41b0
                                  try clear c41b1
                                  try clear c44
                                  try clear c44b0
                                  try clear c45
                                  try clear c45b0
                                  try clear c46
                                  try clear p46
                                  try clear q46
                                  try clear hx46
                                  try clear c47
                                  try clear c47b0
                                  try clear c47b1
                                  try clear p48
                                  try clear q48
                                  try clear hx48
                                  try clear c49
                                  try clear c51
                                  try clear c51b0
                                  try clear c52
                                  try clear c52b0
                                  try clear c53
                                  try clear p53
                                  try clear q53
                                  try clear hx53
                                  try clear c55
                                  try clear c55b0
                                  try clear c55b1
                                  try clear c56
                                  try clear c56b0
                                  try clear c57
                                  try clear c57b0
                                  try clear p58
                                  try clear q58
                                  try clear hx58
                                  try clear c59
                                  try clear c59b0
                                  try clear c59b1
                                  try clear p60
                                  try clear q60
                                  try clear hx60
                                  try clear c61
                                  try clear c61b0
                                  try clear c61b1
                                  try clear p62
                                  try clear q62
                                  try clear hx62
                                  try clear c63
                                  try clear c63b0
                                  try clear c63b1
                                  try clear c64
                                  try clear c64b0
                                  try clear c64b1
                                  try clear p64
                                  try clear p65
                                  try clear q65
                                  try clear hx65
                                  try clear c66
                                  try clear c66b0
                                  try clear c66b1
                                  try clear p1
                                  try clear p11
                                  try clear p2
                                  try clear p25
                                  try clear p3
                                  try clear p31
                                  try clear p33
                                  try clear p39
                                  try clear p4
                                  try clear p46
                                  try clear p48
                                  try clear p5
                                  try clear p53
                                  try clear p58
                                  try clear p6
                                  try clear p60
                                  try clear p62
                                  try clear p65
                                  try clear q1
                                  try clear q11
                                  try clear q2
                                  try clear q25
                                  try clear q3
                                  try clear q31
                                  try clear q33
                                  try clear q39
                                  try clear q4
                                  try clear q46
                                  try clear q48
                                  try clear q5
                                  try clear q53
                                  try clear q58
                                  try clear q60
                                  try clear q62
                                  try clear q65
                                  obtain ⟨x9_7, rfl, HA, HK7, ⟨m7, rfl⟩⟩ := hrel
                                  cases gk with
                                  | zero => exact absurd HA.out (by simp [gjson_splitPossiblePipe.l3])
                                  | succ k7 =>
                                   have H := HA.out
                                   clear HA
                                   simp only [gjson_splitPossiblePipe.l3] at H
                                   by_cases c67 : x9_7 < (a0.size : Int)
                                   ·
                                    rw [if_pos c67] at H
                                    have c67b0 : decide (x9_7 < (a0.size : Int)) = true := decide_eq_true c67
                                    clear c67
                                    by_cases c68 : 0 ≤ x9_7
                                    ·
                                     rw [if_pos c68] at H
                                     have c68b0 : decide (0 ≤ x9_7) = true := decide_eq_true c68
                                     clear c68
                                     by_cases c70 : (bt a0 x9_7) = 92
                                     ·
                                      rw [if_pos c70] at H
                                      have c70b0 : ((bt a0 x9_7) == 92) = true := beq_iff_eq.mpr c70
                                      have c70b1 : ((bt a0 x9_7) != 92) = false := bne_eq_false_iff_eq.mpr c70
                                      clear c70
                                      have H' := Aside0.mk H
                                      clear H
                                      have p69 : 0 ≤ (x9_7 : Int) := of_decide_eq_true (by first | (with_reducible assumption) | assumption)
                                      have q69 : x9_7 < (a0.size : Int) := of_decide_eq_true (by first | (with_reducible assumption) | assumption)
                                      have hx69 := bt_at a0 x9_7
                                      replace p69 := eq_true p69
                                      replace q69 := eq_true q69
                                      go_wp2
                                      repeat (go_quiet (fail); try go_wp2)
                                      go_roundg k7
                                      case measure => have := HJ1.out; have := HJ7.out; have := HK3.out; have := HJ41.out; have := HJ53.out; have := HK6.out; have := HK7.out; omega
                                      case rel => exact ⟨(wrap64 ((wrap64 (x9_7 + 1)) + 1)), (by first | rfl | (simp; done) | (simp [*]; done)), (by first | exact H' | (rw [hji50]; exact H') | (simp only [hji36, hji50]; exact H') | (simp only [hji36, hji50] at H' ⊢; exact H')), ⟨by have := HJ1.out; have := HJ7.out; have := HK3.out; have := HJ41.out; have := HJ53.out; have := HK6.out; have := HK7.out; omega⟩, by repeat (first | exact Drawn0.refl _ | apply Drawn0.step)⟩
                                     ·
                                      rw [if_neg c70] at H
                                      have c70b0 : ((bt a0 x9_7) == 92) = false := beq_eq_false_iff_ne.mpr c70
                                      have c70b1 : ((bt a0 x9_7) != 92) = true := bne_iff_ne.mpr c70
                                      by_cases c72 : (bt a0 x9_7) = 34
                                      ·
                                       rw [if_pos c72] at H
                                       have c72b0 : ((bt a0 x9_7) == 34) = true := beq_iff_eq.mpr c72
                                       have c72b1 : ((bt a0 x9_7) != 34) = false := bne_eq_false_iff_eq.mpr c72
                                       clear c72
                                       have H' := Aside0.mk H
                                       clear H
                                       have p69 : 0 ≤ (x9_7 : Int) := of_decide_eq_true (by first | (with_reducible assumption) | assumption)
                                       have q69 : x9_7 < (a0.size : Int) := of_decide_eq_true (by first | (with_reducible assumption) | assumption)
                                       have hx69 := bt_at a0 x9_7
                                       replace p69 := eq_true p69
                                       replace q69 := eq_true q69
                                       have p71 : 0 ≤ (x9_7 : Int) := of_decide_eq_true (by first | (with_reducible assumption) | assumption)
                                       have q71 : x9_7 < (a0.size : Int) := of_decide_eq_true (by first | (with_reducible assumption) | assumption)
                                       have hx71 := bt_at a0 x9_7
                                       replace p71 := eq_true p71
                                       replace q71 := eq_true q71
                                       go_wp2
                                       repeat (go_quiet (fail); try go_wp2)
                                       go_roundg k7
                                       case measure => have := HJ1.out; have := HJ7.out; have := HK3.out; have := HJ41.out; have := HJ53.out; have := HK6.out; have := HK7.out; omega
                                       case rel => exact ⟨(wrap64 (x9_7 + 1)), (x12_6), (by first | rfl | (simp; done) | (simp [*]; done)), (by first | rfl | (simp; done) | (simp [*]; done)), (by first | exact H' | (rw [hji50]; exact H') | (simp only [hji36, hji50]; exact H') | (simp only [hji36, hji50] at H' ⊢; exact H')), ⟨by have := HJ1.out; have := HJ7.out; have := HK3.out; have := HJ41.out; have := HJ53.out; have := HK6.out; have := HK7.out; omega⟩, by repeat (first | exact Drawn0.refl _ | apply Drawn0.step)⟩
                                      ·
                                       rw [if_neg c72] at H
                                       have c72b0 : ((bt a0 x9_7) == 34) = false := beq_eq_false_iff_ne.mpr c72
                                       have c72b1 : ((bt a0 x9_7) != 34) = true := bne_iff_ne.mpr c72
                                       have H' := Aside0.mk H
                                       clear H
                                       have p69 : 0 ≤ (x9_7 : Int) := of_decide_eq_true (by first | (with_reducible assumption) | assumption)
                                       have q69 : x9_7 < (a0.size : Int) := of_decide_eq_true (by first | (with_reducible assumption) | assumption)
                                       have hx69 := bt_at a0 x9_7
                                       replace p69 := eq_true p69
                                       replace q69 := eq_true q69
                                       have p71 : 0 ≤ (x9_7 : Int) := of_decide_eq_true (by first | (with_reducible assumption) | assumption)
                                       have q71 : x9_7 < (a0.size : Int) := of_decide_eq_true (by first | (with_reducible assumption) | assumption)
                                       have hx71 := bt_at a0 x9_7
                                       replace p71 := eq_true p71
                                       replace q71 := eq_true q71
                                       go_wp2
                                       repeat (go_quiet (fail); try go_wp2)
                                       go_roundg k7
                                       case measure => have := HJ1.out; have := HJ7.out; have := HK3.out; have := HJ41.out; have := HJ53.out; have := HK6.out; have := HK7.out; omega
                                       case rel => exact ⟨(wrap64 (x9_7 + 1)), (by first | rfl | (simp; done) | (simp [*]; done)), (by first | exact H' | (rw [hji50]; exact H') | (simp only [hji36, hji50]; exact H') | (simp only [hji36, hji50] at H' ⊢; exact H')), ⟨by have := HJ1.out; have := HJ7.out; have := HK3.out; have := HJ41.out; have := HJ53.out; have := HK6.out; have := HK7.out; omega⟩, by repeat (first | exact Drawn0.refl _ | apply Drawn0.step)⟩
                                    ·
                                     rw [if_neg c68] at H
                                     exact absurd H (by simp)
                                   ·
                                    rw [if_neg c67] at H
                                    have c67b0 : decide (x9_7 < (a0.size : Int)) = false := decide_eq_false c67
                                    clear c67
                                    have H' := Aside0.mk H
                                    clear H
                                    go_wp2
                                    repeat (go_quiet (fail); try go_wp2)
                                    go_roundg k7
                                    case measure => have := HJ1.out; have := HJ7.out; have := HK3.out; have := HJ41.out; have := HJ53.out; have := HK6.out; have := HK7.out; omega
                                    case rel => exact ⟨(wrap64 (x9_7 + 1)), (x12_6), (by first | rfl | (simp; done) | (simp [*]; done)), (by first | rfl | (simp; done) | (simp [*]; done)), (by first | exact H' | (rw [hji50]; exact H') | (simp only [hji36, hji50]; exact H') | (simp only [hji36, hji50] at H' ⊢; exact H')), ⟨by have := HJ1.out; have := HJ7.out; have := HK3.out; have := HJ41.out; have := HJ53.out; have := HK6.out; have := HK7.out; omega⟩, by repeat (first | exact Drawn0.refl _ | apply Drawn0.step)⟩
                                ·
                                 rw [if_neg c66] at H
                                 have c66b0 : ((bt a0 x9_6) == 34) = false := beq_eq_false_iff_ne.mpr c66
                                 have c66b1 : ((bt a0 x9_6) != 34) = true := bne_iff_ne.mpr c66
                                 have H' := Aside0.mk H
                                 clear H
                                 have p58 : 0 ≤ (x9_6 : Int) := of_decide_eq_true (by first | (with_reducible assumption) | assumption)
                                 have q58 : x9_6 < (a0.size : Int) := of_decide_eq_true (by first | (with_reducible assumption) | assumption)
                                 have hx58 := bt_at a0 x9_6
                                 replace p58 := eq_true p58
                                 replace q58 := eq_true q58
                                 have p60 : 0 ≤ (x9_6 : Int) := of_decide_eq_true (by first | (with_reducible assumption) | assumption)
                                 have q60 : x9_6 < (a0.size : Int) := of_decide_eq_true (by first | (with_reducible assumption) | assumption)
                                 have hx60 := bt_at a0 x9_6
                                 replace p60 := eq_true p60
                                 replace q60 := eq_true q60
                                 have p62 : 0 ≤ (x9_6 : Int) := of_decide_eq_true (by first | (with_reducible assumption) | assumption)
                                 have q62 : x9_6 < (a0.size : Int) := of_decide_eq_true (by first | (with_reducible assumption) | assumption)
                                 have hx62 := bt_at a0 x9_6
                                 replace p62 := eq_true p62
                                 replace q62 := eq_true q62
                                 have p65 : 0 ≤ (x9_6 : Int) := of_decide_eq_true (by first | (with_reducible assumption) | assumption)
                                 have q65 : x9_6 < (a0.size : Int) := of_decide_eq_true (by first | (with_reducible assumption) | assumption)
                                 have hx65 := bt_at a0 x9_6
                                 replace p65 := eq_true p65
                                 replace q65 := eq_true q65
                                 go_wp2
                                 repeat (go_quiet (fail); try go_wp2)
                                 go_roundg k6
                                 case measure => have := HJ1.out; have := HJ7.out; have := HK3.out; have := HJ41.out; have := HJ53.out; have := HK6.out; omega
                                 case rel => exact ⟨(wrap64 (x9_6 + 1)), (x12_6), (by first | rfl | (simp; done) | (simp [*]; done)), (by first | rfl | (simp; done) | (simp [*]; done)), (by first | exact H' | (rw [hji50]; exact H') | (simp only [hji36, hji50]; exact H') | (simp only [hji36, hji50] at H' ⊢; exact H')), ⟨by have := HJ1.out; have := HJ7.out; have := HK3.out; have := HJ41.out; have := HJ53.out; have := HK6.out; omega⟩, by repeat (first | exact Drawn0.refl _ | apply Drawn0.step)⟩
                            ·
                             rw [if_neg c57] at H
                             exact absurd H (by simp)
                           ·
                            rw [if_neg c56] at H
                            have c56b0 : decide (x9_6 < (a0.size : Int)) = false := decide_eq_false c56
                            clear c56
                            have H' := Aside0.mk H
                            clear H
                            go_wp2
                            repeat (go_quiet (fail); try go_wp2)
                            go_roundg k6
                            case measure => have := HJ1.out; have := HJ7.out; have := HK3.out; have := HJ41.out; have := HJ53.out; have := HK6.out; omega
                            case rel => exact ⟨(x2_3), (x3_3), (x4_3), (wrap64 (x9_6 + 1)), (by first | rfl | (simp; done) | (simp [*]; done)), (by first | rfl | (simp; done) | (simp [*]; done)), (by first | rfl | (simp; done) | (simp [*]; done)), (by first | rfl | (simp; done) | (simp [*]; done)), (by first | exact H' | (rw [hji50]; exact H') | (simp only [hji36, hji50]; exact H') | (simp only [hji36, hji50] at H' ⊢; exact H')), ⟨by have := HJ1.out; have := HJ7.out; have := HK3.out; have := HJ41.out; have := HJ53.out; have := HK6.out; omega⟩, by repeat (first | exact Drawn0.refl _ | apply Drawn0.step)⟩
                      ·
                       rw [if_neg c52] at H
                       exact absurd H (by simp)
                     ·
                      rw [if_neg c51] at H
                      exact absurd H (by simp)
                    ·
                     replace c49 := Bool.eq_false_iff.mpr c49
                     subst c49
                     have H1 : (gjson_splitPossiblePipe.l1 kj41 a0 x2_3 x3_3 x4_3 (wrap64 ((wrap64 (x9_3 + 2)) + 1))) = some (r1, r2, r3) := by rw [if_neg (show ¬ (false = true) by decide)] at H; exact H
                     clear H
                     have H := H1
                     clear H1
                     have H' := Aside0.mk H
                     clear H
                     go_wp2
                     repeat (go_quiet (fail); try go_wp2)
                     go_roundg kj41
                     case measure => have := HJ1.out; have := HJ7.out; have := HK3.out; have := HJ41.out; omega
                     case rel => exact ⟨(x2_3), (x3_3), (x4_3), (wrap64 ((wrap64 (x9_3 + 2)) + 1)), (by first | rfl | (simp; done) | (simp [*]; done)), (by first | rfl | (simp; done) | (simp [*]; done)), (by first | rfl | (simp; done) | (simp [*]; done)), (by first | rfl | (simp; done) | (simp [*]; done)), (by first | exact H' | (rw [hji36]; exact H') | (simp only [hji36]; exact H') | (simp only [hji36] at H' ⊢; exact H')), ⟨by have := HJ1.out; have := HJ7.out; have := HK3.out; have := HJ41.out; omega⟩, by repeat (first | exact Drawn0.refl _ | apply Drawn0.step)⟩
                ·
                 rw [if_neg c40] at H
                 have c40b0 : ((bt a0 (ji36)) == 35) = false := beq_eq_false_iff_ne.mpr c40
                 have c40b1 : ((bt a0 (ji36)) != 35) = true := bne_iff_ne.mpr c40
                 have H' := Aside0.mk H
                 clear H
                 have p31 : 0 ≤ (x9_3 : Int) := of_decide_eq_true (by first | (with_reducible assumption) | assumption)
                 have q31 : x9_3 < (a0.size : Int) := of_decide_eq_true (by first | (with_reducible assumption) | assumption)
                 have hx31 := bt_at a0 x9_3
                 replace p31 := eq_true p31
                 replace q31 := eq_true q31
                 have p33 : 0 ≤ (x9_3 : Int) := of_decide_eq_true (by first | (with_reducible assumption) | assumption)
                 have q33 : x9_3 < (a0.size : Int) := of_decide_eq_true (by first | (with_reducible assumption) | assumption)
                 have hx33 := bt_at a0 x9_3
                 replace p33 := eq_true p33
                 replace q33 := eq_true q33
                 have p39 : 0 ≤ ((ji36) : Int) := of_decide_eq_true (by first | (with_reducible assumption) | assumption)
                 have q39 : (ji36) < (a0.size : Int) := of_decide_eq_true (by first | (with_reducible assumption) | assumption)
                 have hx39 := bt_at a0 (ji36)
                 replace p39 := eq_true p39
                 replace q39 := eq_true q39
                 go_wp2
                 repeat (go_quiet (fail); try go_wp2)
                 go_roundg k3
                 case measure => have := HJ1.out; have := HJ7.out; have := HK3.out; omega
                 case rel => exact ⟨(x2_3), (x3_3), (x4_3), (ji36), (by first | rfl | (simp; done) | (simp [*]; done)), (by first | rfl | (simp; done) | (simp [*]; done)), (by first | rfl | (simp; done) | (simp [*]; done)), (by first | rfl | (simp; done) | (simp only [← hji36] <;> (first | rfl | simp)) | (simp [*]; done)), (by first | exact H' | (rw [hji36]; exact H') | (simp only [hji36]; exact H') | (simp only [hji36] at H' ⊢; exact H')), ⟨by have := HJ1.out; have := HJ7.out; have := HK3.out; omega⟩, by repeat (first | exact Drawn0.refl _ | apply Drawn0.step)⟩
               ·
                rw [if_neg c38] at H
                exact absurd H (by simp)
              ·
               rw [if_neg c37] at H
               exact absurd H (by simp)
            ·
             rw [if_neg c34] at H
             have c34b0 : ((bt a0 x9_3) == 46) = false := beq_eq_false_iff_ne.mpr c34
             have c34b1 : ((bt a0 x9_3) != 46) = true := bne_iff_ne.mpr c34
             by_cases c74 : (bt a0 x9_3) = 124
             ·
              rw [if_pos c74] at H
              have c74b0 : ((bt a0 x9_3) == 124) = true := beq_iff_eq.mpr c74
              have c74b1 : ((bt a0 x9_3) != 124) = false := bne_eq_false_iff_eq.mpr c74
              clear c74
              have c75b0 := eq_true (of_decide_eq_true (by first | (with_reducible assumption) | assumption) : 0 ≤ x9_3)
              by_cases c76 : x9_3 ≤ (a0.size : Int)
              ·
               rw [if_pos c76] at H
               have c76b0 := eq_true c76
               have c76b1 : decide (x9_3 ≤ (a0.size : Int)) = true := decide_eq_true c76
               clear c76
               obtain ⟨js77, hjs77⟩ : ∃ j_ : ByteArray, (a0.extract 0 (x9_3 : Int).toNat) = j_ := ⟨_, rfl⟩
               replace H : (if 0 ≤ (wrap64 (x9_3 + 1)) then (if (wrap64 (x9_3 + 1)) ≤ (a0.size : Int) then (some (js77, a0.extract ((wrap64 (x9_3 + 1)) : Int).toNat a0.size, true)) else (none)) else (none)) = some (r1, r2, r3) := by first | (rw [hjs77] at H; exact H) | (simp only [hjs77] at H ⊢; exact H)
               obtain ⟨ji78, hji78⟩ : ∃ j_ : Int, (wrap64 (x9_3 + 1)) = j_ := ⟨_, rfl⟩
               replace H : (if 0 ≤ (ji78) then (if (ji78) ≤ (a0.size : Int) then (some (js77, a0.extract ((ji78) : Int).toNat a0.size, true)) else (none)) else (none)) = some (r1, r2, r3) := by first | (rw [hji78] at H; exact H) | (simp only [hji78] at H ⊢; exact H)
               have hji78w : (IntKind.i64.wrap (x9_3 + 1)) = ji78 := (i64_w _).trans hji78
               by_cases c79 : 0 ≤ (ji78)
               ·
                rw [if_pos c79] at H
                have c79b0 := eq_true c79
                have c79b1 : decide (0 ≤ (ji78)) = true := decide_eq_true c79
                clear c79
                by_cases c80 : (ji78) ≤ (a0.size : Int)
                ·
                 rw [if_pos c80] at H
                 have c80b0 := eq_true c80
                 have c80b1 : decide ((ji78) ≤ (a0.size : Int)) = true := decide_eq_true c80
                 clear c80
                 obtain ⟨js81, hjs81⟩ : ∃ j_ : ByteArray, (a0.extract ((ji78) : Int).toNat a0.size) = j_ := ⟨_, rfl⟩
                 replace H : (some (js77, js81, true)) = some (r1, r2, r3) := by first | (rw [hjs81] at H; exact H) | (simp only [hjs81] at H ⊢; exact H)
                 simp only [Option.some.injEq, Prod.mk.injEq] at H
                 obtain ⟨rfl, rfl, rfl⟩ := H
                 have p31 : 0 ≤ (x9_3 : Int) := of_decide_eq_true (by first | (with_reducible assumption) | assumption)
                 have q31 : x9_3 < (a0.size : Int) := of_decide_eq_true (by first | (with_reducible assumption) | assumption)
                 have hx31 := bt_at a0 x9_3
                 replace p31 := eq_true p31
                 replace q31 := eq_true q31
                 have p33 : 0 ≤ (x9_3 : Int) := of_decide_eq_true (by first | (with_reducible assumption) | assumption)
                 have q33 : x9_3 < (a0.size : Int) := of_decide_eq_true (by first | (with_reducible assumption) | assumption)
                 have hx33 := bt_at a0 x9_3
                 replace p33 := eq_true p33
                 replace q33 := eq_true q33
                 have p73 : 0 ≤ (x9_3 : Int) := of_decide_eq_true (by first | (with_reducible assumption) | assumption)
                 have q73 : x9_3 < (a0.size : Int) := of_decide_eq_true (by first | (with_reducible assumption) | assumption)
                 have hx73 := bt_at a0 x9_3
                 replace p73 := eq_true p73
                 replace q73 := eq_true q73
                 go_wp2
                 repeat (go_quiet (fail); try go_wp2)
                 go_ret3
                 exact ⟨by first | rfl | (simp; done) | (simp only [← hjs77, ← hji78, ← hjs81] <;> (first | rfl | simp)) | (simp [*]; done), by repeat (first | exact Drawn0.refl _ | apply Drawn0.step)⟩
                ·
                 rw [if_neg c80] at H
                 exact absurd H (by simp)
               ·
                rw [if_neg c79] at H
                exact absurd H (by simp)
              ·
               rw [if_neg c76] at H
               exact absurd H (by simp)
             ·
              rw [if_neg c74] at H
              have c74b0 : ((bt a0 x9_3) == 124) = false := beq_eq_false_iff_ne.mpr c74
              have c74b1 : ((bt a0 x9_3) != 124) = true := bne_iff_ne.mpr c74
              have H' := Aside0.mk H
              clear H
              have p31 : 0 ≤ (x9_3 : Int) := of_decide_eq_true (by first | (with_reducible assumption) | assumption)
              have q31 : x9_3 < (a0.size : Int) := of_decide_eq_true (by first | (with_reducible assumption) | assumption)
              have hx31 := bt_at a0 x9_3
              replace p31 := eq_true p31
              replace q31 := eq_true q31
              have p33 : 0 ≤ (x9_3 : Int) := of_decide_eq_true (by first | (with_reducible assumption) | assumption)
              have q33 : x9_3 < (a0.size : Int) := of_decide_eq_true (by first | (with_reducible assumption) | assumption)
              have hx33 := bt_at a0 x9_3
              replace p33 := eq_true p33
              replace q33 := eq_true q33
              have p73 : 0 ≤ (x9_3 : Int) := of_decide_eq_true (by first | (with_reducible assumption) | assumption)
              have q73 : x9_3 < (a0.size : Int) := of_decide_eq_true (by first | (with_reducible assumption) | assumption)
              have hx73 := bt_at a0 x9_3
              replace p73 := eq_true p73
              replace q73 := eq_true q73
              go_wp2
              repeat (go_quiet (fail); try go_wp2)
              go_roundg k3
              case measure => have := HJ1.out; have := HJ7.out; have := HK3.out; omega
              case rel => exact ⟨(x2_3), (x3_3), (x4_3), (wrap64 (x9_3 + 1)), (by first | rfl | (simp; done) | (simp [*]; done)), (by first | rfl | (simp; done) | (simp [*]; done)), (by first | rfl | (simp; done) | (simp [*]; done)), (by first | rfl | (simp; done) | (simp [*]; done)), H', ⟨by have := HJ1.out; have := HJ7.out; have := HK3.out; omega⟩, by repeat (first | exact Drawn0.refl _ | apply Drawn0.step)⟩
          ·
           rw [if_neg c30] at H
           exact absurd H (by simp)
         ·
          rw [if_neg c29] at H
          have c29b0 : decide (x9_3 < (a0.size : Int)) = false := decide_eq_false c29
          clear c29
          simp only [Option.some.injEq, Prod.mk.injEq] at H
          obtain ⟨rfl, rfl, rfl⟩ := H
          go_wp2
          repeat (go_quiet (fail); try go_wp2)
          go_ret3
          exact ⟨by first | rfl | (simp; done) | (simp [*]; done), by repeat (first | exact Drawn0.refl _ | apply Drawn0.step)⟩
   ·
    replace c7 := Bool.eq_false_iff.mpr c7
    subst c7
    have H1 : (some ((⟨#[]⟩ : ByteArray), (⟨#[]⟩ : ByteArray), false)) = some (r1, r2, r3) := by rw [if_neg (show ¬ (false = true) by decide)] at H; exact H
    clear H
    have H := H1
    clear H1
    simp only [Option.some.injEq, Prod.mk.injEq] at H
    obtain ⟨rfl, rfl, rfl⟩ := H
    go_wp2
    repeat (go_quiet (fail); try go_wp2)
    go_ret3
    exact ⟨by first | rfl | (simp; done) | (simp [*]; done), by repeat (first | exact Drawn0.refl _ | apply Drawn0.step)⟩
end Go.Proofs.Ytnmbpleneddkhaa.PFnGjSplitAny