-- Written by a program of this session (wip/prx) out of the print of the loaded functions.
import Derived.Test.YtljmeaemonpkoaaDoorPFnMtNoCaseSmallx0
import Derived.Test.YtljmeaemonpkoaaDoorPFnMtNoCaseSmallx4
import Derived.Test.YtljmeaemonpkoaaDoorPFnMtNoCaseSmallx5
import Derived.Test.YtljmeaemonpkoaaDoorGUFnMtNoCaseSmall
import Derived.Test.YtljmeaemonpkoaaDoorHUFnMtNoCaseSmall
namespace Go.Proofs.YtljmeaemonpkoaaDoor.PFnMtNoCaseSmall
open Go.RowKit Go.Proofs.YtljmeaemonpkoaaDoorW.PrintWords Go.Proofs.YtljmeaemonpkoaaDoorW.PrintLast Go.Proofs.YtljmeaemonpkoaaDoorW.PrintMore
attribute [local go_sem] max2_int min2_int max_two min_two max_three min_three max_four min_four   -- for this text's walks alone
set_option linter.unusedVariables false
set_option linter.unusedSimpArgs false

/-! ### match_match: function 45 -/
mutual
def match_match.l0 : Nat → ByteArray → ByteArray → Int → Int → Bool → Option (Int)
  | 0, _, _, _, _, _ => none
  | k + 1, x0, x1, x2, x4, x5 => if (x1.size : Int) > 0 then (if 0 < (x1.size : Int) then (if (wrap32 (bt x1 0)) > 127 then ((utf8_DecodeRuneInString.f x1).bind fun bt163 => (match_match.j1 k x0 x1 x2 x4 x5 false bt163.1 bt163.2)) else (match_match.j1 k x0 x1 x2 x4 x5 false (wrap32 (bt x1 0)) 1)) else (none)) else (if (x0.size : Int) = 0 then (some 1) else (some 0))
def match_match.j1 : Nat → ByteArray → ByteArray → Int → Int → Bool → Bool → Int → Int → Option (Int)
  | 0, _, _, _, _, _, _, _, _ => none
  | k + 1, x0, x1, x2, x4, x5, x13, x14, x15 => if (x0.size : Int) > 0 then (if 0 < (x0.size : Int) then (if (wrap32 (bt x0 0)) > 127 then ((utf8_DecodeRuneInString.f x0).bind fun bt165 => (match_match.j2 k x0 x1 x2 x4 x5 x13 x14 x15 bt165.1 bt165.2)) else (match_match.j2 k x0 x1 x2 x4 x5 x13 x14 x15 (wrap32 (bt x0 0)) 1)) else (none)) else (match_match.j2 k x0 x1 x2 x4 x5 x13 x14 x15 0 0)
def match_match.j2 : Nat → ByteArray → ByteArray → Int → Int → Bool → Bool → Int → Int → Int → Int → Option (Int)
  | 0, _, _, _, _, _, _, _, _, _, _ => none
  | k + 1, x0, x1, x2, x4, x5, x13, x14, x15, x16, x17 => if x14 = 63 then (if x17 = 0 then (some 0) else (if 0 ≤ x17 then (if x17 ≤ (x0.size : Int) then (if x13 = true then (match_match.l0 k (x0.extract (x17 : Int).toNat x0.size) x1 x2 x4 x5) else (if 0 ≤ x15 then (if x15 ≤ (x1.size : Int) then (match_match.l0 k (x0.extract (x17 : Int).toNat x0.size) (x1.extract (x15 : Int).toNat x1.size) x2 x4 x5) else (none)) else (none))) else (none)) else (none))) else (if x14 = 42 then (match_match.l1 k x0 x1 x2 x4 x5 x17) else (if x17 = 0 then (some 0) else (if x14 = 92 then (if 0 ≤ x15 then (if x15 ≤ (x1.size : Int) then ((utf8_DecodeRuneInString.f (x1.extract (x15 : Int).toNat x1.size)).bind fun bt171 => (if bt171.2 = 0 then (some 0) else (match_match.j5 k x0 (x1.extract (x15 : Int).toNat x1.size) x2 x4 x5 x13 bt171.1 bt171.2 x16 x17))) else (none)) else (none)) else (match_match.j5 k x0 x1 x2 x4 x5 x13 x14 x15 x16 x17))))
def match_match.j4 : Nat → ByteArray → ByteArray → Int → Int → Bool → Int → Option (Int)
  | 0, _, _, _, _, _, _ => none
  | k + 1, x0, x1, x2, x4, x5, x17 => if (x1.size : Int) = 1 then (some 1) else ((match_matchTrimSuffix.f k x0 x1 x5).bind fun bt167 => (if bt167.2.2 = true then (if (bt167.2.1.size : Int) = 1 then (some 1) else (if 1 ≤ (bt167.2.1.size : Int) then ((match_match.f k bt167.1 (bt167.2.1.extract 1 bt167.2.1.size) x2 () x4 x5).bind fun t170 => (if t170 = 0 then (if (bt167.1.size : Int) = 0 then (some 0) else (if 0 ≤ x17 then (if x17 ≤ (bt167.1.size : Int) then (match_match.l0 k (bt167.1.extract (x17 : Int).toNat bt167.1.size) bt167.2.1 x2 x4 x5) else (none)) else (none))) else (some t170))) else (none))) else (some 0)))
def match_match.l1 : Nat → ByteArray → ByteArray → Int → Int → Bool → Int → Option (Int)
  | 0, _, _, _, _, _, _ => none
  | k + 1, x0, x1, x2, x4, x5, x17 => if (x1.size : Int) > 1 then (if 1 < (x1.size : Int) then (if (bt x1 1) = 42 then (if 1 ≤ (x1.size : Int) then (match_match.l1 k x0 (x1.extract 1 x1.size) x2 x4 x5 x17) else (none)) else (match_match.j4 k x0 x1 x2 x4 x5 x17)) else (none)) else (match_match.j4 k x0 x1 x2 x4 x5 x17)
def match_match.j5 : Nat → ByteArray → ByteArray → Int → Int → Bool → Bool → Int → Int → Int → Int → Option (Int)
  | 0, _, _, _, _, _, _, _, _, _, _ => none
  | k + 1, x0, x1, x2, x4, x5, x13, x14, x15, x16, x17 => if x5 = true then ((match_tolower.f x16).bind fun t173 => ((match_tolower.f x14).bind fun t174 => (match_match.j6 k x0 x1 x2 x4 x5 x13 t174 x15 t173 x17))) else (match_match.j6 k x0 x1 x2 x4 x5 x13 x14 x15 x16 x17)
def match_match.j6 : Nat → ByteArray → ByteArray → Int → Int → Bool → Bool → Int → Int → Int → Int → Option (Int)
  | 0, _, _, _, _, _, _, _, _, _, _ => none
  | k + 1, x0, x1, x2, x4, x5, x13, x14, x15, x16, x17 => if x16 = x14 then (if 0 ≤ x17 then (if x17 ≤ (x0.size : Int) then (if x13 = true then (match_match.l0 k (x0.extract (x17 : Int).toNat x0.size) x1 x2 x4 x5) else (if 0 ≤ x15 then (if x15 ≤ (x1.size : Int) then (match_match.l0 k (x0.extract (x17 : Int).toNat x0.size) (x1.extract (x15 : Int).toNat x1.size) x2 x4 x5) else (none)) else (none))) else (none)) else (none)) else (some 0)
def match_match.f : Nat → ByteArray → ByteArray → Int → Unit → Int → Bool → Option (Int)
  | 0, _, _, _, _, _, _ => none
  | k + 1, a0, a1, a2, a3, a4, a5 => if a4 > (-1) then (none) else (match_match.l0 k a0 a1 a2 a4 a5)
end
theorem match_match.mono_l : ∀ k, (∀ y0 y1 y2 y3 y4 y5, LeO (match_match.f k y0 y1 y2 y3 y4 y5) (match_match.f (k + 1) y0 y1 y2 y3 y4 y5)) ∧ (∀ y0 y1 y2 y3 y4, LeO (match_match.l0 k y0 y1 y2 y3 y4) (match_match.l0 (k + 1) y0 y1 y2 y3 y4)) ∧ (∀ y0 y1 y2 y3 y4 y5 y6 y7, LeO (match_match.j1 k y0 y1 y2 y3 y4 y5 y6 y7) (match_match.j1 (k + 1) y0 y1 y2 y3 y4 y5 y6 y7)) ∧ (∀ y0 y1 y2 y3 y4 y5 y6 y7 y8 y9, LeO (match_match.j2 k y0 y1 y2 y3 y4 y5 y6 y7 y8 y9) (match_match.j2 (k + 1) y0 y1 y2 y3 y4 y5 y6 y7 y8 y9)) ∧ (∀ y0 y1 y2 y3 y4 y5, LeO (match_match.j4 k y0 y1 y2 y3 y4 y5) (match_match.j4 (k + 1) y0 y1 y2 y3 y4 y5)) ∧ (∀ y0 y1 y2 y3 y4 y5, LeO (match_match.l1 k y0 y1 y2 y3 y4 y5) (match_match.l1 (k + 1) y0 y1 y2 y3 y4 y5)) ∧ (∀ y0 y1 y2 y3 y4 y5 y6 y7 y8 y9, LeO (match_match.j5 k y0 y1 y2 y3 y4 y5 y6 y7 y8 y9) (match_match.j5 (k + 1) y0 y1 y2 y3 y4 y5 y6 y7 y8 y9)) ∧ (∀ y0 y1 y2 y3 y4 y5 y6 y7 y8 y9, LeO (match_match.j6 k y0 y1 y2 y3 y4 y5 y6 y7 y8 y9) (match_match.j6 (k + 1) y0 y1 y2 y3 y4 y5 y6 y7 y8 y9))
  | 0 => ⟨fun _ _ _ _ _ _ r h => by simp [match_match.f] at h, fun _ _ _ _ _ r h => by simp [match_match.l0] at h, fun _ _ _ _ _ _ _ _ r h => by simp [match_match.j1] at h, fun _ _ _ _ _ _ _ _ _ _ r h => by simp [match_match.j2] at h, fun _ _ _ _ _ _ r h => by simp [match_match.j4] at h, fun _ _ _ _ _ _ r h => by simp [match_match.l1] at h, fun _ _ _ _ _ _ _ _ _ _ r h => by simp [match_match.j5] at h, fun _ _ _ _ _ _ _ _ _ _ r h => by simp [match_match.j6] at h⟩
  | k + 1 => by
    obtain ⟨ih0, ih1, ih2, ih3, ih4, ih5, ih6, ih7⟩ := match_match.mono_l k
    refine ⟨?_, ?_, ?_, ?_, ?_, ?_, ?_, ?_⟩
    · intro y0 y1 y2 y3 y4 y5
      unfold match_match.f
      repeat' first
      | (with_reducible exact ih0 _ _ _ _ _ _)
      | (with_reducible exact ih1 _ _ _ _ _)
      | (with_reducible exact ih2 _ _ _ _ _ _ _ _)
      | (with_reducible exact ih3 _ _ _ _ _ _ _ _ _ _)
      | (with_reducible exact ih4 _ _ _ _ _ _)
      | (with_reducible exact ih5 _ _ _ _ _ _)
      | (with_reducible exact ih6 _ _ _ _ _ _ _ _ _ _)
      | (with_reducible exact ih7 _ _ _ _ _ _ _ _ _ _)
      | (with_reducible exact match_matchTrimSuffix.mono _ _ _ _)
      | (with_reducible exact LeO.refl _)
      | (with_reducible exact LeO.none _)
      | (with_reducible refine LeO.ite ?_ ?_)
      | (with_reducible refine LeO.bind ?_ (fun _ => ?_))
      | exact ih0 _ _ _ _ _ _
      | exact ih1 _ _ _ _ _
      | exact ih2 _ _ _ _ _ _ _ _
      | exact ih3 _ _ _ _ _ _ _ _ _ _
      | exact ih4 _ _ _ _ _ _
      | exact ih5 _ _ _ _ _ _
      | exact ih6 _ _ _ _ _ _ _ _ _ _
      | exact ih7 _ _ _ _ _ _ _ _ _ _
      | exact match_matchTrimSuffix.mono _ _ _ _
      | exact LeO.none _
      | refine LeO.ite ?_ ?_
      | refine LeO.bind ?_ (fun _ => ?_)
    · intro y0 y1 y2 y3 y4
      unfold match_match.l0
      repeat' first
      | (with_reducible exact ih0 _ _ _ _ _ _)
      | (with_reducible exact ih1 _ _ _ _ _)
      | (with_reducible exact ih2 _ _ _ _ _ _ _ _)
      | (with_reducible exact ih3 _ _ _ _ _ _ _ _ _ _)
      | (with_reducible exact ih4 _ _ _ _ _ _)
      | (with_reducible exact ih5 _ _ _ _ _ _)
      | (with_reducible exact ih6 _ _ _ _ _ _ _ _ _ _)
      | (with_reducible exact ih7 _ _ _ _ _ _ _ _ _ _)
      | (with_reducible exact match_matchTrimSuffix.mono _ _ _ _)
      | (with_reducible exact LeO.refl _)
      | (with_reducible exact LeO.none _)
      | (with_reducible refine LeO.ite ?_ ?_)
      | (with_reducible refine LeO.bind ?_ (fun _ => ?_))
      | exact ih0 _ _ _ _ _ _
      | exact ih1 _ _ _ _ _
      | exact ih2 _ _ _ _ _ _ _ _
      | exact ih3 _ _ _ _ _ _ _ _ _ _
      | exact ih4 _ _ _ _ _ _
      | exact ih5 _ _ _ _ _ _
      | exact ih6 _ _ _ _ _ _ _ _ _ _
      | exact ih7 _ _ _ _ _ _ _ _ _ _
      | exact match_matchTrimSuffix.mono _ _ _ _
      | exact LeO.none _
      | refine LeO.ite ?_ ?_
      | refine LeO.bind ?_ (fun _ => ?_)
    · intro y0 y1 y2 y3 y4 y5 y6 y7
      unfold match_match.j1
      repeat' first
      | (with_reducible exact ih0 _ _ _ _ _ _)
      | (with_reducible exact ih1 _ _ _ _ _)
      | (with_reducible exact ih2 _ _ _ _ _ _ _ _)
      | (with_reducible exact ih3 _ _ _ _ _ _ _ _ _ _)
      | (with_reducible exact ih4 _ _ _ _ _ _)
      | (with_reducible exact ih5 _ _ _ _ _ _)
      | (with_reducible exact ih6 _ _ _ _ _ _ _ _ _ _)
      | (with_reducible exact ih7 _ _ _ _ _ _ _ _ _ _)
      | (with_reducible exact match_matchTrimSuffix.mono _ _ _ _)
      | (with_reducible exact LeO.refl _)
      | (with_reducible exact LeO.none _)
      | (with_reducible refine LeO.ite ?_ ?_)
      | (with_reducible refine LeO.bind ?_ (fun _ => ?_))
      | exact ih0 _ _ _ _ _ _
      | exact ih1 _ _ _ _ _
      | exact ih2 _ _ _ _ _ _ _ _
      | exact ih3 _ _ _ _ _ _ _ _ _ _
      | exact ih4 _ _ _ _ _ _
      | exact ih5 _ _ _ _ _ _
      | exact ih6 _ _ _ _ _ _ _ _ _ _
      | exact ih7 _ _ _ _ _ _ _ _ _ _
      | exact match_matchTrimSuffix.mono _ _ _ _
      | exact LeO.none _
      | refine LeO.ite ?_ ?_
      | refine LeO.bind ?_ (fun _ => ?_)
    · intro y0 y1 y2 y3 y4 y5 y6 y7 y8 y9
      unfold match_match.j2
      repeat' first
      | (with_reducible exact ih0 _ _ _ _ _ _)
      | (with_reducible exact ih1 _ _ _ _ _)
      | (with_reducible exact ih2 _ _ _ _ _ _ _ _)
      | (with_reducible exact ih3 _ _ _ _ _ _ _ _ _ _)
      | (with_reducible exact ih4 _ _ _ _ _ _)
      | (with_reducible exact ih5 _ _ _ _ _ _)
      | (with_reducible exact ih6 _ _ _ _ _ _ _ _ _ _)
      | (with_reducible exact ih7 _ _ _ _ _ _ _ _ _ _)
      | (with_reducible exact match_matchTrimSuffix.mono _ _ _ _)
      | (with_reducible exact LeO.refl _)
      | (with_reducible exact LeO.none _)
      | (with_reducible refine LeO.ite ?_ ?_)
      | (with_reducible refine LeO.bind ?_ (fun _ => ?_))
      | exact ih0 _ _ _ _ _ _
      | exact ih1 _ _ _ _ _
      | exact ih2 _ _ _ _ _ _ _ _
      | exact ih3 _ _ _ _ _ _ _ _ _ _
      | exact ih4 _ _ _ _ _ _
      | exact ih5 _ _ _ _ _ _
      | exact ih6 _ _ _ _ _ _ _ _ _ _
      | exact ih7 _ _ _ _ _ _ _ _ _ _
      | exact match_matchTrimSuffix.mono _ _ _ _
      | exact LeO.none _
      | refine LeO.ite ?_ ?_
      | refine LeO.bind ?_ (fun _ => ?_)
    · intro y0 y1 y2 y3 y4 y5
      unfold match_match.j4
      repeat' first
      | (with_reducible exact ih0 _ _ _ _ _ _)
      | (with_reducible exact ih1 _ _ _ _ _)
      | (with_reducible exact ih2 _ _ _ _ _ _ _ _)
      | (with_reducible exact ih3 _ _ _ _ _ _ _ _ _ _)
      | (with_reducible exact ih4 _ _ _ _ _ _)
      | (with_reducible exact ih5 _ _ _ _ _ _)
      | (with_reducible exact ih6 _ _ _ _ _ _ _ _ _ _)
      | (with_reducible exact ih7 _ _ _ _ _ _ _ _ _ _)
      | (with_reducible exact match_matchTrimSuffix.mono _ _ _ _)
      | (with_reducible exact LeO.refl _)
      | (with_reducible exact LeO.none _)
      | (with_reducible refine LeO.ite ?_ ?_)
      | (with_reducible refine LeO.bind ?_ (fun _ => ?_))
      | exact ih0 _ _ _ _ _ _
      | exact ih1 _ _ _ _ _
      | exact ih2 _ _ _ _ _ _ _ _
      | exact ih3 _ _ _ _ _ _ _ _ _ _
      | exact ih4 _ _ _ _ _ _
      | exact ih5 _ _ _ _ _ _
      | exact ih6 _ _ _ _ _ _ _ _ _ _
      | exact ih7 _ _ _ _ _ _ _ _ _ _
      | exact match_matchTrimSuffix.mono _ _ _ _
      | exact LeO.none _
      | refine LeO.ite ?_ ?_
      | refine LeO.bind ?_ (fun _ => ?_)
    · intro y0 y1 y2 y3 y4 y5
      unfold match_match.l1
      repeat' first
      | (with_reducible exact ih0 _ _ _ _ _ _)
      | (with_reducible exact ih1 _ _ _ _ _)
      | (with_reducible exact ih2 _ _ _ _ _ _ _ _)
      | (with_reducible exact ih3 _ _ _ _ _ _ _ _ _ _)
      | (with_reducible exact ih4 _ _ _ _ _ _)
      | (with_reducible exact ih5 _ _ _ _ _ _)
      | (with_reducible exact ih6 _ _ _ _ _ _ _ _ _ _)
      | (with_reducible exact ih7 _ _ _ _ _ _ _ _ _ _)
      | (with_reducible exact match_matchTrimSuffix.mono _ _ _ _)
      | (with_reducible exact LeO.refl _)
      | (with_reducible exact LeO.none _)
      | (with_reducible refine LeO.ite ?_ ?_)
      | (with_reducible refine LeO.bind ?_ (fun _ => ?_))
      | exact ih0 _ _ _ _ _ _
      | exact ih1 _ _ _ _ _
      | exact ih2 _ _ _ _ _ _ _ _
      | exact ih3 _ _ _ _ _ _ _ _ _ _
      | exact ih4 _ _ _ _ _ _
      | exact ih5 _ _ _ _ _ _
      | exact ih6 _ _ _ _ _ _ _ _ _ _
      | exact ih7 _ _ _ _ _ _ _ _ _ _
      | exact match_matchTrimSuffix.mono _ _ _ _
      | exact LeO.none _
      | refine LeO.ite ?_ ?_
      | refine LeO.bind ?_ (fun _ => ?_)
    · intro y0 y1 y2 y3 y4 y5 y6 y7 y8 y9
      unfold match_match.j5
      repeat' first
      | (with_reducible exact ih0 _ _ _ _ _ _)
      | (with_reducible exact ih1 _ _ _ _ _)
      | (with_reducible exact ih2 _ _ _ _ _ _ _ _)
      | (with_reducible exact ih3 _ _ _ _ _ _ _ _ _ _)
      | (with_reducible exact ih4 _ _ _ _ _ _)
      | (with_reducible exact ih5 _ _ _ _ _ _)
      | (with_reducible exact ih6 _ _ _ _ _ _ _ _ _ _)
      | (with_reducible exact ih7 _ _ _ _ _ _ _ _ _ _)
      | (with_reducible exact match_matchTrimSuffix.mono _ _ _ _)
      | (with_reducible exact LeO.refl _)
      | (with_reducible exact LeO.none _)
      | (with_reducible refine LeO.ite ?_ ?_)
      | (with_reducible refine LeO.bind ?_ (fun _ => ?_))
      | exact ih0 _ _ _ _ _ _
      | exact ih1 _ _ _ _ _
      | exact ih2 _ _ _ _ _ _ _ _
      | exact ih3 _ _ _ _ _ _ _ _ _ _
      | exact ih4 _ _ _ _ _ _
      | exact ih5 _ _ _ _ _ _
      | exact ih6 _ _ _ _ _ _ _ _ _ _
      | exact ih7 _ _ _ _ _ _ _ _ _ _
      | exact match_matchTrimSuffix.mono _ _ _ _
      | exact LeO.none _
      | refine LeO.ite ?_ ?_
      | refine LeO.bind ?_ (fun _ => ?_)
    · intro y0 y1 y2 y3 y4 y5 y6 y7 y8 y9
      unfold match_match.j6
      repeat' first
      | (with_reducible exact ih0 _ _ _ _ _ _)
      | (with_reducible exact ih1 _ _ _ _ _)
      | (with_reducible exact ih2 _ _ _ _ _ _ _ _)
      | (with_reducible exact ih3 _ _ _ _ _ _ _ _ _ _)
      | (with_reducible exact ih4 _ _ _ _ _ _)
      | (with_reducible exact ih5 _ _ _ _ _ _)
      | (with_reducible exact ih6 _ _ _ _ _ _ _ _ _ _)
      | (with_reducible exact ih7 _ _ _ _ _ _ _ _ _ _)
      | (with_reducible exact match_matchTrimSuffix.mono _ _ _ _)
      | (with_reducible exact LeO.refl _)
      | (with_reducible exact LeO.none _)
      | (with_reducible refine LeO.ite ?_ ?_)
      | (with_reducible refine LeO.bind ?_ (fun _ => ?_))
      | exact ih0 _ _ _ _ _ _
      | exact ih1 _ _ _ _ _
      | exact ih2 _ _ _ _ _ _ _ _
      | exact ih3 _ _ _ _ _ _ _ _ _ _
      | exact ih4 _ _ _ _ _ _
      | exact ih5 _ _ _ _ _ _
      | exact ih6 _ _ _ _ _ _ _ _ _ _
      | exact ih7 _ _ _ _ _ _ _ _ _ _
      | exact match_matchTrimSuffix.mono _ _ _ _
      | exact LeO.none _
      | refine LeO.ite ?_ ?_
      | refine LeO.bind ?_ (fun _ => ?_)
theorem match_match.mono : ∀ a0 a1 a2 a3 a4 a5 k, LeO (match_match.f k a0 a1 a2 a3 a4 a5) (match_match.f (k + 1) a0 a1 a2 a3 a4 a5) := by
  intro a0 a1 a2 a3 a4 a5 k
  obtain ⟨ih0, ih1, ih2, ih3, ih4, ih5, ih6, ih7⟩ := match_match.mono_l k
  exact ih0 a0 a1 a2 a3 a4 a5
set_option maxHeartbeats 8000000 in
set_option maxRecDepth 100000 in
theorem match_match.calls (k : Nat) : ∀ (a0 : ByteArray) (a1 : ByteArray) (a2 : Int) (a3 : Unit) (a4 : Int) (a5 : Bool) (r : Int) (w : World) (h : match_match.f k a0 a1 a2 a3 a4 a5 = some r) (hG : Glob w),
    Calls Tryd.prog 45 #[.string a0, .string a1, .int .i64 a2, .pointer none, .int .i64 a4, .bool a5] w fun e w' => e = .returned (.int .i64 r) ∧ Below w.heap.size w w' := by
 induction k using Nat.strongRecOn with
  | _ k ih =>
 intro a0 a1 a2 a3 a4 a5 r w h hG
 cases k with
  | zero => exact absurd h (by simp [match_match.f])
  | succ k =>
 simp only [match_match.f] at h
 have HB := Aside0.mk (Below.refl w.heap.size w)
 have HG := Aside0.mk hG
 clear hG
 have H : (if a4 > (-1) then (none) else (match_match.l0 k a0 a1 a2 a4 a5)) = some r := h
 clear h
 by_cases c7 : a4 > (-1)
 ·
  rw [if_pos c7] at H
  exact absurd H (by simp)
 ·
  rw [if_neg c7] at H
  have c7b0 : decide ((-1) < a4) = false := decide_eq_false c7
  clear c7
  have H' := Aside0.mk H
  clear H
  go_enter Tryd.func45, Tryd.ntmps45
  go_wp2
  try simp only [Act.put, List.setIfInBounds_toArray, List.set_cons_succ, List.set_cons_zero]
  go_loopg [0, 1] k (fun kq v0 v1 w' => ∃ (x0_1 : ByteArray) (x1_1 : ByteArray), v0 = .string x0_1 ∧ v1 = .string x1_1 ∧ Aside0 (match_match.l0 kq x0_1 x1_1 a2 a4 a5 = some r) ∧ Aside0 (kq ≤ k) ∧ Aside0 (Below w.heap.size w w'))
  case atStart => exact ⟨(a0), (a1), (by first | rfl | (simp; done) | (simp [nil_ne_, nil_eq_]; done) | (simp [*]; done)), (by first | rfl | (simp; done) | (simp [nil_ne_, nil_eq_]; done) | (simp [*]; done)), H', ⟨Nat.le_refl _⟩, ⟨by repeat (first | (with_reducible first | exact HB.out | apply below_alloc | apply pw_below_drewN | apply below_drew1) | exact HB.out)⟩⟩
  case round =>
   clear H'
   try clear p2
   try clear c4
   try clear c7
   try clear c7b0
   obtain ⟨x0_1, x1_1, rfl, rfl, HA, HK1, HB⟩ := hrel
   cases gk with
   | zero => exact absurd HA.out (by simp [match_match.l0])
   | succ k1 =>
    have H := HA.out
    clear HA
    simp only [match_match.l0] at H
    by_cases c8 : (x1_1.size : Int) > 0
    ·
     rw [if_pos c8] at H
     have c8b0 : decide (0 < (x1_1.size : Int)) = true := decide_eq_true c8
     have c8b1 : decide (0 < x1_1.size) = true := decide_eq_true (by omega)
     clear c8
     by_cases c9 : 0 < (x1_1.size : Int)
     ·
      rw [if_pos c9] at H
      have c9b0 : decide (0 < (x1_1.size : Int)) = true := decide_eq_true c9
      have c9b1 : decide (0 < x1_1.size) = true := decide_eq_true (by omega)
      clear c9
      have HC11 := Aside0.mk H
      clear H
      have p10 : 0 ≤ (0 : Int) := (by omega)
      have q10 : 0 < x1_1.size := (by have : (0 : Int) < (x1_1.size : Int) := of_decide_eq_true (by first | (with_reducible assumption) | assumption); omega)
      have hx10 := bt_lit x1_1 0 0 rfl
      clear p10
      have qi10 : (0 < (x1_1.size : Int)) = True := eq_true (of_decide_eq_true (by first | (with_reducible assumption) | assumption))
      replace q10 := eq_true q10
      go_upto_if 41 with (fail)
      go_cut [14, 15] (fun v14 v15 wc => ∃ (kq : Nat) (x14_10 : Int) (x15_10 : Int), v14 = .int .i32 x14_10 ∧ v15 = .int .i64 x15_10 ∧ Aside0 (match_match.j1 kq x0_1 x1_1 a2 a4 a5 false x14_10 x15_10 = some r) ∧ Aside0 (kq ≤ k1) ∧ Aside0 (Below w.heap.size w wc))
      case first =>
       have H := HC11.out
       clear HC11
       by_cases c12 : (wrap32 (bt x1_1 0)) > 127
       ·
        rw [if_pos c12] at H
        have c12b0 : decide (127 < (wrap32 (bt x1_1 0))) = true := decide_eq_true c12
        clear c12
        (first | rw [c12b0] | (simp only [i64_w, i32_w]; rw [c12b0]) | rw [c12b1] | skip)
        replace H := Option.bind_eq_some_iff.mp H
        obtain ⟨⟨t163, t164⟩, A130, H⟩ := H
        replace H : (match_match.j1 k1 x0_1 x1_1 a2 a4 a5 false t163 t164) = some r := H
        have A13 := Aside0.mk A130
        clear A130
        have H' := Aside0.mk H
        clear H
        go_wp2_with (first | ((with_reducible refine gate_callee (f := 48) rfl ?_); refine goesL_ (some 44) rfl rfl Tryd.func48 (by kernel_rfl) rfl #[.string x1_1] rfl (by (try simp only [List.map_toArray, List.map_cons, List.map_nil]); first | done | rfl | (simp only [List.length_drop, List.length_take]; rfl)) ?_; (with_reducible refine (utf8_DecodeRuneInString.calls x1_1 t163 t164 _ A13.out (HG.out.below (by repeat (first | (with_reducible first | exact HB.out | apply below_alloc | apply pw_below_drewN | apply below_drew1) | exact HB.out)))).mono ?_); rintro e w14 ⟨rfl, hb⟩; refine ⟨_, rfl, ?_⟩; have n0_ := Aside0.mk (below_step (by repeat (first | (with_reducible first | exact HB.out | apply below_alloc | apply pw_below_drewN | apply below_drew1) | exact HB.out)) hb); clear HB; have HB := n0_; clear n0_; (try clear hb); (try clear hb2); (try clear hk); (try clear hi)))
        go_meet
        case rel => exact ⟨_, (t163), (t164), (by first | rfl | (simp; done) | (simp [nil_ne_, nil_eq_]; done) | (simp [*]; done)), (by first | rfl | (simp; done) | (simp [nil_ne_, nil_eq_]; done) | (simp [*]; done)), H', ⟨by have := HK1.out; first | omega | exact Nat.le_refl _⟩, ⟨by repeat (first | (with_reducible first | exact HB.out | apply below_alloc | apply pw_below_drewN | apply below_drew1) | exact HB.out)⟩⟩
       ·
        rw [if_neg c12] at H
        have c12b0 : decide (127 < (wrap32 (bt x1_1 0))) = false := decide_eq_false c12
        clear c12
        (first | rw [c12b0] | (simp only [i64_w, i32_w]; rw [c12b0]) | rw [c12b1] | skip)
        have H' := Aside0.mk H
        clear H
        go_wp2
        go_meet
        case rel => exact ⟨_, (wrap32 (bt x1_1 0)), (1), (by first | rfl | (simp; done) | (simp [nil_ne_, nil_eq_]; done) | (simp [*]; done)), (by first | rfl | (simp; done) | (simp [nil_ne_, nil_eq_]; done) | (simp [*]; done)), H', ⟨by have := HK1.out; first | omega | exact Nat.le_refl _⟩, ⟨by repeat (first | (with_reducible first | exact HB.out | apply below_alloc | apply pw_below_drewN | apply below_drew1) | exact HB.out)⟩⟩
      case rest =>
       clear HC11
       try clear c1
       try clear p1
       try clear q1
       try clear hx1
       try clear qi1
       try clear p2
       try clear p3
       try clear c4
       try clear c7
       try clear c7b0
       try clear c8
       try clear c8b0
       try clear c8b1
       try clear c9
       try clear c9b0
       try clear c9b1
       try clear p10
       try clear q10
       try clear hx10
       try clear qi10
       try clear c12
       try clear c12b0
       try clear c12b1
       try clear p10
       try clear p2
       try clear q10
       obtain ⟨kq, x14_10, x15_10, rfl, rfl, HA, HJ10, HB⟩ := hcut
       cases kq with
       | zero => exact absurd HA.out (by simp [match_match.j1])
       | succ kj10 =>
        have H := HA.out
        clear HA
        simp only [match_match.j1] at H
        have HC15 := Aside0.mk H
        clear H
        go_upto_if 49 with (fail)
        go_cut [16, 17] (fun v16 v17 wc => ∃ (kq : Nat) (x16_14 : Int) (x17_14 : Int), v16 = .int .i32 x16_14 ∧ v17 = .int .i64 x17_14 ∧ Aside0 (match_match.j2 kq x0_1 x1_1 a2 a4 a5 false x14_10 x15_10 x16_14 x17_14 = some r) ∧ Aside0 (kq ≤ kj10) ∧ Aside0 (Below w.heap.size w wc))
        case first =>
         have H := HC15.out
         clear HC15
         by_cases c16 : (x0_1.size : Int) > 0
         ·
          rw [if_pos c16] at H
          have c16b0 : decide (0 < (x0_1.size : Int)) = true := decide_eq_true c16
          have c16b1 : decide (0 < x0_1.size) = true := decide_eq_true (by omega)
          clear c16
          (first | rw [c16b0] | (simp only [i64_w, i32_w]; rw [c16b0]) | rw [c16b1] | skip)
          by_cases c17 : 0 < (x0_1.size : Int)
          ·
           rw [if_pos c17] at H
           have c17b0 : decide (0 < (x0_1.size : Int)) = true := decide_eq_true c17
           have c17b1 : decide (0 < x0_1.size) = true := decide_eq_true (by omega)
           clear c17
           by_cases c19 : (wrap32 (bt x0_1 0)) > 127
           ·
            rw [if_pos c19] at H
            have c19b0 : decide (127 < (wrap32 (bt x0_1 0))) = true := decide_eq_true c19
            clear c19
            replace H := Option.bind_eq_some_iff.mp H
            obtain ⟨⟨t165, t166⟩, A200, H⟩ := H
            replace H : (match_match.j2 kj10 x0_1 x1_1 a2 a4 a5 false x14_10 x15_10 t165 t166) = some r := H
            have A20 := Aside0.mk A200
            clear A200
            have H' := Aside0.mk H
            clear H
            have p18 : 0 ≤ (0 : Int) := (by omega)
            have q18 : 0 < x0_1.size := (by have : (0 : Int) < (x0_1.size : Int) := of_decide_eq_true (by first | (with_reducible assumption) | assumption); omega)
            have hx18 := bt_lit x0_1 0 0 rfl
            clear p18
            have qi18 : (0 < (x0_1.size : Int)) = True := eq_true (of_decide_eq_true (by first | (with_reducible assumption) | assumption))
            replace q18 := eq_true q18
            go_wp2_with (first | ((with_reducible refine gate_callee (f := 48) rfl ?_); refine goesL_ (some 57) rfl rfl Tryd.func48 (by kernel_rfl) rfl #[.string x0_1] rfl (by (try simp only [List.map_toArray, List.map_cons, List.map_nil]); first | done | rfl | (simp only [List.length_drop, List.length_take]; rfl)) ?_; (with_reducible refine (utf8_DecodeRuneInString.calls x0_1 t165 t166 _ A20.out (HG.out.below (by repeat (first | (with_reducible first | exact HB.out | apply below_alloc | apply pw_below_drewN | apply below_drew1) | exact HB.out)))).mono ?_); rintro e w21 ⟨rfl, hb⟩; refine ⟨_, rfl, ?_⟩; have n0_ := Aside0.mk (below_step (by repeat (first | (with_reducible first | exact HB.out | apply below_alloc | apply pw_below_drewN | apply below_drew1) | exact HB.out)) hb); clear HB; have HB := n0_; clear n0_; (try clear hb); (try clear hb2); (try clear hk); (try clear hi)))
            go_meet
            case rel => exact ⟨_, (t165), (t166), (by first | rfl | (simp; done) | (simp [nil_ne_, nil_eq_]; done) | (simp [*]; done)), (by first | rfl | (simp; done) | (simp [nil_ne_, nil_eq_]; done) | (simp [*]; done)), H', ⟨by have := HK1.out; have := HJ10.out; first | omega | exact Nat.le_refl _⟩, ⟨by repeat (first | (with_reducible first | exact HB.out | apply below_alloc | apply pw_below_drewN | apply below_drew1) | exact HB.out)⟩⟩
           ·
            rw [if_neg c19] at H
            have c19b0 : decide (127 < (wrap32 (bt x0_1 0))) = false := decide_eq_false c19
            clear c19
            have H' := Aside0.mk H
            clear H
            have p18 : 0 ≤ (0 : Int) := (by omega)
            have q18 : 0 < x0_1.size := (by have : (0 : Int) < (x0_1.size : Int) := of_decide_eq_true (by first | (with_reducible assumption) | assumption); omega)
            have hx18 := bt_lit x0_1 0 0 rfl
            clear p18
            have qi18 : (0 < (x0_1.size : Int)) = True := eq_true (of_decide_eq_true (by first | (with_reducible assumption) | assumption))
            replace q18 := eq_true q18
            go_wp2
            go_meet
            case rel => exact ⟨_, (wrap32 (bt x0_1 0)), (1), (by first | rfl | (simp; done) | (simp [nil_ne_, nil_eq_]; done) | (simp [*]; done)), (by first | rfl | (simp; done) | (simp [nil_ne_, nil_eq_]; done) | (simp [*]; done)), H', ⟨by have := HK1.out; have := HJ10.out; first | omega | exact Nat.le_refl _⟩, ⟨by repeat (first | (with_reducible first | exact HB.out | apply below_alloc | apply pw_below_drewN | apply below_drew1) | exact HB.out)⟩⟩
          ·
           rw [if_neg c17] at H
           exact absurd H (by simp)
         ·
          rw [if_neg c16] at H
          have c16b0 : decide (0 < (x0_1.size : Int)) = false := decide_eq_false c16
          have c16b1 : decide (0 < x0_1.size) = false := decide_eq_false (by omega)
          clear c16
          (first | rw [c16b0] | (simp only [i64_w, i32_w]; rw [c16b0]) | rw [c16b1] | skip)
          have H' := Aside0.mk H
          clear H
          go_wp2
          go_meet
          case rel => exact ⟨_, (0), (0), (by first | rfl | (simp; done) | (simp [nil_ne_, nil_eq_]; done) | (simp [*]; done)), (by first | rfl | (simp; done) | (simp [nil_ne_, nil_eq_]; done) | (simp [*]; done)), H', ⟨by have := HK1.out; have := HJ10.out; first | omega | exact Nat.le_refl _⟩, ⟨by repeat (first | (with_reducible first | exact HB.out | apply below_alloc | apply pw_below_drewN | apply below_drew1) | exact HB.out)⟩⟩
        case rest =>
         clear HC15
         try clear c1
         try clear p1
         try clear q1
         try clear hx1
         try clear qi1
         try clear p2
         try clear p3
         try clear c4
         try clear c7
         try clear c7b0
         try clear c8
         try clear c8b0
         try clear c8b1
         try clear c9
         try clear c9b0
         try clear c9b1
         try clear p10
         try clear q10
         try clear hx10
         try clear qi10
         try clear c12
         try clear c12b0
         try clear c12b1
         try clear c16
         try clear c16b0
         try clear c16b1
         try clear c17
         try clear c17b0
         try clear c17b1
         try clear p18
         try clear q18
         try clear hx18
         try clear qi18
         try clear c19
         try clear c19b0
         try clear p1
         try clear p10
         try clear p18
         try clear p2
         try clear p3
         try clear q1
         try clear q10
         try clear q18
         obtain ⟨kq, x16_14, x17_14, rfl, rfl, HA, HJ14, HB⟩ := hcut
         cases kq with
         | zero => exact absurd HA.out (by simp [match_match.j2])
         | succ kj14 =>
          have H := HA.out
          clear HA
          simp only [match_match.j2] at H
          by_cases c22 : x14_10 = 63
          ·
           rw [if_pos c22] at H
           have c22b0 : (x14_10 == 63) = true := beq_iff_eq.mpr c22
           have c22b1 : (x14_10 != 63) = false := bne_eq_false_iff_eq.mpr c22
           clear c22
           by_cases c23 : x17_14 = 0
           ·
            rw [if_pos c23] at H
            have c23b0 : (x17_14 == 0) = true := beq_iff_eq.mpr c23
            have c23b1 : (x17_14 != 0) = false := bne_eq_false_iff_eq.mpr c23
            clear c23
            obtain rfl := Option.some.inj H
            go_wp2
            go_ret
            exact ⟨by first | rfl | (simp [errX_none, errX_some] <;> rfl) | (simp [*, errX_none, errX_some] <;> rfl), by repeat (first | (with_reducible first | exact HB.out | apply below_alloc | apply pw_below_drewN | apply below_drew1) | exact HB.out)⟩
           ·
            rw [if_neg c23] at H
            have c23b0 : (x17_14 == 0) = false := beq_eq_false_iff_ne.mpr c23
            have c23b1 : (x17_14 != 0) = true := bne_iff_ne.mpr c23
            by_cases c24 : 0 ≤ x17_14
            ·
             rw [if_pos c24] at H
             have c24b0 := eq_true c24
             have c24b1 : decide (0 ≤ x17_14) = true := decide_eq_true c24
             clear c24
             by_cases c25 : x17_14 ≤ (x0_1.size : Int)
             ·
              rw [if_pos c25] at H
              have c25b0 := eq_true c25
              have c25b1 : decide (x17_14 ≤ (x0_1.size : Int)) = true := decide_eq_true c25
              clear c25
              have H1 : (if 0 ≤ x15_10 then (if x15_10 ≤ (x1_1.size : Int) then (match_match.l0 kj14 (x0_1.extract (x17_14 : Int).toNat x0_1.size) (x1_1.extract (x15_10 : Int).toNat x1_1.size) a2 a4 a5) else (none)) else (none)) = some r := by rw [if_neg (show ¬ (false = true) by decide)] at H; exact H
              clear H
              have H := H1
              clear H1
              by_cases c26 : 0 ≤ x15_10
              ·
               rw [if_pos c26] at H
               have c26b0 := eq_true c26
               have c26b1 : decide (0 ≤ x15_10) = true := decide_eq_true c26
               clear c26
               by_cases c27 : x15_10 ≤ (x1_1.size : Int)
               ·
                rw [if_pos c27] at H
                have c27b0 := eq_true c27
                have c27b1 : decide (x15_10 ≤ (x1_1.size : Int)) = true := decide_eq_true c27
                clear c27
                have H' := Aside0.mk H
                clear H
                go_wp2
                go_roundg kj14
                case measure => have := HK1.out; have := HJ10.out; have := HJ14.out; omega
                case rel => exact ⟨(x0_1.extract (x17_14 : Int).toNat x0_1.size), (x1_1.extract (x15_10 : Int).toNat x1_1.size), (by first | rfl | (simp; done) | (simp [nil_ne_, nil_eq_]; done) | (simp [*]; done)), (by first | rfl | (simp; done) | (simp [nil_ne_, nil_eq_]; done) | (simp [*]; done)), H', ⟨by have := HK1.out; have := HJ10.out; have := HJ14.out; omega⟩, ⟨by repeat (first | (with_reducible first | exact HB.out | apply below_alloc | apply pw_below_drewN | apply below_drew1) | exact HB.out)⟩⟩
               ·
                rw [if_neg c27] at H
                exact absurd H (by simp)
              ·
               rw [if_neg c26] at H
               exact absurd H (by simp)
             ·
              rw [if_neg c25] at H
              exact absurd H (by simp)
            ·
             rw [if_neg c24] at H
             exact absurd H (by simp)
          ·
           rw [if_neg c22] at H
           have c22b0 : (x14_10 == 63) = false := beq_eq_false_iff_ne.mpr c22
           have c22b1 : (x14_10 != 63) = true := bne_iff_ne.mpr c22
           by_cases c28 : x14_10 = 42
           ·
            rw [if_pos c28] at H
            have c28b0 : (x14_10 == 42) = true := beq_iff_eq.mpr c28
            have c28b1 : (x14_10 != 42) = false := bne_eq_false_iff_eq.mpr c28
            clear c28
            have HC29 := Aside0.mk H
            clear H
            go_upto_block 3 with (fail)
            go_cut [1] (fun v1 wc => ∃ (kq : Nat) (x1_28 : ByteArray), v1 = .string x1_28 ∧ Aside0 (match_match.j4 kq x0_1 x1_28 a2 a4 a5 x17_14 = some r) ∧ Aside0 (kq ≤ kj14) ∧ Aside0 (Below w.heap.size w wc))
            case first =>
             have H := HC29.out
             clear HC29
             have H' := Aside0.mk H
             clear H
             go_wp2
             try simp only [Act.put, List.setIfInBounds_toArray, List.set_cons_succ, List.set_cons_zero]
             go_loopg [1] kj14 (fun kq v1 w' => ∃ (x1_4 : ByteArray), v1 = .string x1_4 ∧ Aside0 (match_match.l1 kq x0_1 x1_4 a2 a4 a5 x17_14 = some r) ∧ Aside0 (kq ≤ kj14) ∧ Aside0 (Below w.heap.size w w'))
             case atStart => exact ⟨(x1_1), (by first | rfl | (simp; done) | (simp [nil_ne_, nil_eq_]; done) | (simp [*]; done)), H', ⟨Nat.le_refl _⟩, ⟨by repeat (first | (with_reducible first | exact HB.out | apply below_alloc | apply pw_below_drewN | apply below_drew1) | exact HB.out)⟩⟩
             case round =>
              clear H'
              try clear c1
              try clear p1
              try clear q1
              try clear hx1
              try clear qi1
              try clear c2
              try clear p2
              try clear p3
              try clear c4
              try clear c7
              try clear c7b0
              try clear c8
              try clear c8b0
              try clear c8b1
              try clear c9
              try clear c9b0
              try clear c9b1
              try clear p10
              try clear q10
              try clear hx10
              try clear qi10
              try clear c12
              try clear c12b0
              try clear c12b1
              try clear c16
              try clear c16b0
              try clear c16b1
              try clear c17
              try clear c17b0
              try clear c17b1
              try clear p18
              try clear q18
              try clear hx18
              try clear qi18
              try clear c19
              try clear c19b0
              try clear c22
              try clear c22b0
              try clear c22b1
              try clear c23
              try clear c23b0
              try clear c23b1
              try clear c24
              try clear c24b0
              try clear c24b1
              try clear c25
              try clear c25b0
              try clear c25b1
              try clear c26
              try clear c26b0
              try clear c26b1
              try clear c27
              try clear c27b0
              try clear c27b1
              try clear c28
              try clear c28b0
              try clear c28b1
              try clear p1
              try clear p10
              try clear p18
              try clear p2
              try clear p3
              try clear q1
              try clear q10
              try clear q18
              obtain ⟨x1_4, rfl, HA, HK4, HB⟩ := hrel
              cases gk with
              | zero => exact absurd HA.out (by simp [match_match.l1])
              | succ k4 =>
               have H := HA.out
               clear HA
               simp only [match_match.l1] at H
               by_cases c30 : (x1_4.size : Int) > 1
               ·
                rw [if_pos c30] at H
                have c30b0 : decide (1 < (x1_4.size : Int)) = true := decide_eq_true c30
                have c30b1 : decide (1 < x1_4.size) = true := decide_eq_true (by omega)
                clear c30
                (first | rw [c30b0] | (simp only [i64_w, i32_w]; rw [c30b0]) | rw [c30b1] | skip)
                by_cases c31 : 1 < (x1_4.size : Int)
                ·
                 rw [if_pos c31] at H
                 have c31b0 : decide (1 < (x1_4.size : Int)) = true := decide_eq_true c31
                 have c31b1 : decide (1 < x1_4.size) = true := decide_eq_true (by omega)
                 clear c31
                 by_cases c33 : (bt x1_4 1) = 42
                 ·
                  rw [if_pos c33] at H
                  have c33b0 : ((bt x1_4 1) == 42) = true := beq_iff_eq.mpr c33
                  have c33b1 : ((bt x1_4 1) != 42) = false := bne_eq_false_iff_eq.mpr c33
                  clear c33
                  by_cases c34 : 1 ≤ (x1_4.size : Int)
                  ·
                   rw [if_pos c34] at H
                   have c34b0 := eq_true c34
                   have c34b1 : decide (1 ≤ (x1_4.size : Int)) = true := decide_eq_true c34
                   clear c34
                   have H' := Aside0.mk H
                   clear H
                   have p32 : 0 ≤ (1 : Int) := (by omega)
                   have q32 : 1 < x1_4.size := (by have : (1 : Int) < (x1_4.size : Int) := of_decide_eq_true (by first | (with_reducible assumption) | assumption); omega)
                   have hx32 := bt_lit x1_4 1 1 rfl
                   clear p32
                   have qi32 : (1 < (x1_4.size : Int)) = True := eq_true (of_decide_eq_true (by first | (with_reducible assumption) | assumption))
                   replace q32 := eq_true q32
                   go_wp2
                   go_roundg k4
                   case measure => have := HK1.out; have := HJ10.out; have := HJ14.out; have := HK4.out; omega
                   case rel => exact ⟨(x1_4.extract 1 x1_4.size), (by first | rfl | (simp; done) | (simp [nil_ne_, nil_eq_]; done) | (simp [*]; done)), H', ⟨by have := HK1.out; have := HJ10.out; have := HJ14.out; have := HK4.out; omega⟩, ⟨by repeat (first | (with_reducible first | exact HB.out | apply below_alloc | apply pw_below_drewN | apply below_drew1) | exact HB.out)⟩⟩
                  ·
                   rw [if_neg c34] at H
                   exact absurd H (by simp)
                 ·
                  rw [if_neg c33] at H
                  have c33b0 : ((bt x1_4 1) == 42) = false := beq_eq_false_iff_ne.mpr c33
                  have c33b1 : ((bt x1_4 1) != 42) = true := bne_iff_ne.mpr c33
                  have H' := Aside0.mk H
                  clear H
                  have p32 : 0 ≤ (1 : Int) := (by omega)
                  have q32 : 1 < x1_4.size := (by have : (1 : Int) < (x1_4.size : Int) := of_decide_eq_true (by first | (with_reducible assumption) | assumption); omega)
                  have hx32 := bt_lit x1_4 1 1 rfl
                  clear p32
                  have qi32 : (1 < (x1_4.size : Int)) = True := eq_true (of_decide_eq_true (by first | (with_reducible assumption) | assumption))
                  replace q32 := eq_true q32
                  go_wp2
                  go_meet
                  case rel => exact ⟨_, (x1_4), (by first | rfl | (simp; done) | (simp [nil_ne_, nil_eq_]; done) | (simp [*]; done)), H', ⟨by have := HK1.out; have := HJ10.out; have := HJ14.out; have := HK4.out; first | omega | exact Nat.le_refl _⟩, ⟨by repeat (first | (with_reducible first | exact HB.out | apply below_alloc | apply pw_below_drewN | apply below_drew1) | exact HB.out)⟩⟩
                ·
                 rw [if_neg c31] at H
                 exact absurd H (by simp)
               ·
                rw [if_neg c30] at H
                have c30b0 : decide (1 < (x1_4.size : Int)) = false := decide_eq_false c30
                have c30b1 : decide (1 < x1_4.size) = false := decide_eq_false (by omega)
                clear c30
                (first | rw [c30b0] | (simp only [i64_w, i32_w]; rw [c30b0]) | rw [c30b1] | skip)
                have H' := Aside0.mk H
                clear H
                go_wp2
                go_meet
                case rel => exact ⟨_, (x1_4), (by first | rfl | (simp; done) | (simp [nil_ne_, nil_eq_]; done) | (simp [*]; done)), H', ⟨by have := HK1.out; have := HJ10.out; have := HJ14.out; have := HK4.out; first | omega | exact Nat.le_refl _⟩, ⟨by repeat (first | (with_reducible first | exact HB.out | apply below_alloc | apply pw_below_drewN | apply below_drew1) | exact HB.out)⟩⟩
            case rest =>
             clear HC29
             try clear c1
             try clear p1
             try clear q1
             try clear hx1
             try clear qi1
             try clear c2
             try clear p2
             try clear c3
             try clear p3
             try clear q3
             try clear hx3
             try clear qi3
             try clear c4
             try clear c7
             try clear c7b0
             try clear c8
             try clear c8b0
             try clear c8b1
             try clear c9
             try clear c9b0
             try clear c9b1
             try clear p10
             try clear q10
             try clear hx10
             try clear qi10
             try clear c12
             try clear c12b0
             try clear c12b1
             try clear c16
             try clear c16b0
             try clear c16b1
             try clear c17
             try clear c17b0
             try clear c17b1
             try clear p18
             try clear q18
             try clear hx18
             try clear qi18
             try clear c19
             try clear c19b0
             try clear c22
             try clear c22b0
             try clear c22b1
             try clear c23
             try clear c23b0
             try clear c23b1
             try clear c24
             try clear c24b0
             try clear c24b1
             try clear c25
             try clear c25b0
             try clear c25b1
             try clear c26
             try clear c26b0
             try clear c26b1
             try clear c27
             try clear c27b0
             try clear c27b1
             try clear c28
             try clear c28b0
             try clear c28b1
             try clear c30
             try clear c30b0
             try clear c30b1
             try clear c31
             try clear c31b0
             try clear c31b1
             try clear p32
             try clear q32
             try clear hx32
             try clear qi32
             try clear c33
             try clear c33b0
             try clear c33b1
             try clear c34
             try clear c34b0
             try clear c34b1
             try clear p1
             try clear p10
             try clear p18
             try clear p2
             try clear p3
             try clear p32
             try clear q1
             try clear q10
             try clear q18
             try clear q32
             obtain ⟨kq, x1_28, rfl, HA, HJ28, HB⟩ := hcut
             cases kq with
             | zero => exact absurd HA.out (by simp [match_match.j4])
             | succ kj28 =>
              have H := HA.out
              clear HA
              simp only [match_match.j4] at H
              by_cases c35 : (x1_28.size : Int) = 1
              ·
               rw [if_pos c35] at H
               have c35b0 : ((x1_28.size : Int) == 1) = true := beq_iff_eq.mpr c35
               have c35b1 : ((x1_28.size : Int) != 1) = false := bne_eq_false_iff_eq.mpr c35
               clear c35
               obtain rfl := Option.some.inj H
               go_wp2
               go_ret
               exact ⟨by first | rfl | (simp [errX_none, errX_some] <;> rfl) | (simp [*, errX_none, errX_some] <;> rfl), by repeat (first | (with_reducible first | exact HB.out | apply below_alloc | apply pw_below_drewN | apply below_drew1) | exact HB.out)⟩
              ·
               rw [if_neg c35] at H
               have c35b0 : ((x1_28.size : Int) == 1) = false := beq_eq_false_iff_ne.mpr c35
               have c35b1 : ((x1_28.size : Int) != 1) = true := bne_iff_ne.mpr c35
               replace H := Option.bind_eq_some_iff.mp H
               obtain ⟨⟨t167, t168, t169⟩, A360, H⟩ := H
               replace H : (if t169 = true then (if (t168.size : Int) = 1 then (some 1) else (if 1 ≤ (t168.size : Int) then ((match_match.f kj28 t167 (t168.extract 1 t168.size) a2 () a4 a5).bind fun t170 => (if t170 = 0 then (if (t167.size : Int) = 0 then (some 0) else (if 0 ≤ x17_14 then (if x17_14 ≤ (t167.size : Int) then (match_match.l0 kj28 (t167.extract (x17_14 : Int).toNat t167.size) t168 a2 a4 a5) else (none)) else (none))) else (some t170))) else (none))) else (some 0)) = some r := H
               have A36 := Aside0.mk A360
               clear A360
               by_cases c37 : t169 = true
               ·
                subst c37
                have H1 : (if (t168.size : Int) = 1 then (some 1) else (if 1 ≤ (t168.size : Int) then ((match_match.f kj28 t167 (t168.extract 1 t168.size) a2 () a4 a5).bind fun t170 => (if t170 = 0 then (if (t167.size : Int) = 0 then (some 0) else (if 0 ≤ x17_14 then (if x17_14 ≤ (t167.size : Int) then (match_match.l0 kj28 (t167.extract (x17_14 : Int).toNat t167.size) t168 a2 a4 a5) else (none)) else (none))) else (some t170))) else (none))) = some r := by rw [if_pos rfl] at H; exact H
                clear H
                have H := H1
                clear H1
                by_cases c38 : (t168.size : Int) = 1
                ·
                 rw [if_pos c38] at H
                 have c38b0 : ((t168.size : Int) == 1) = true := beq_iff_eq.mpr c38
                 have c38b1 : ((t168.size : Int) != 1) = false := bne_eq_false_iff_eq.mpr c38
                 clear c38
                 obtain rfl := Option.some.inj H
                 go_wp2_with (first | ((with_reducible refine gate_callee (f := 51) rfl ?_); refine goesL_ (some 106) rfl rfl Tryd.func51 (by kernel_rfl) rfl #[.string x0_1, .string x1_28, .bool a5] rfl (by (try simp only [List.map_toArray, List.map_cons, List.map_nil]); first | done | rfl | (simp only [List.length_drop, List.length_take]; rfl)) ?_; (with_reducible refine (match_matchTrimSuffix.calls kj28 x0_1 x1_28 a5 t167 t168 true _ A36.out (HG.out.below (by repeat (first | (with_reducible first | exact HB.out | apply below_alloc | apply pw_below_drewN | apply below_drew1) | exact HB.out)))).mono ?_); rintro e w39 ⟨rfl, hb⟩; refine ⟨_, rfl, ?_⟩; have n0_ := Aside0.mk (below_step (by repeat (first | (with_reducible first | exact HB.out | apply below_alloc | apply pw_below_drewN | apply below_drew1) | exact HB.out)) hb); clear HB; have HB := n0_; clear n0_; (try clear hb); (try clear hb2); (try clear hk); (try clear hi)))
                 go_ret
                 exact ⟨by first | rfl | (simp [errX_none, errX_some] <;> rfl) | (simp [*, errX_none, errX_some] <;> rfl), by repeat (first | (with_reducible first | exact HB.out | apply below_alloc | apply pw_below_drewN | apply below_drew1) | exact HB.out)⟩
                ·
                 rw [if_neg c38] at H
                 have c38b0 : ((t168.size : Int) == 1) = false := beq_eq_false_iff_ne.mpr c38
                 have c38b1 : ((t168.size : Int) != 1) = true := bne_iff_ne.mpr c38
                 by_cases c40 : 1 ≤ (t168.size : Int)
                 ·
                  rw [if_pos c40] at H
                  have c40b0 := eq_true c40
                  have c40b1 : decide (1 ≤ (t168.size : Int)) = true := decide_eq_true c40
                  clear c40
                  replace H := Option.bind_eq_some_iff.mp H
                  obtain ⟨t170, A410, H⟩ := H
                  replace H : (if t170 = 0 then (if (t167.size : Int) = 0 then (some 0) else (if 0 ≤ x17_14 then (if x17_14 ≤ (t167.size : Int) then (match_match.l0 kj28 (t167.extract (x17_14 : Int).toNat t167.size) t168 a2 a4 a5) else (none)) else (none))) else (some t170)) = some r := H
                  have A41 := Aside0.mk A410
                  clear A410
                  by_cases c42 : t170 = 0
                  ·
                   rw [if_pos c42] at H
                   have c42b0 : (t170 == 0) = true := beq_iff_eq.mpr c42
                   have c42b1 : (t170 != 0) = false := bne_eq_false_iff_eq.mpr c42
                   clear c42
                   by_cases c43 : (t167.size : Int) = 0
                   ·
                    rw [if_pos c43] at H
                    have c43b0 : ((t167.size : Int) == 0) = true := beq_iff_eq.mpr c43
                    have c43b1 : ((t167.size : Int) != 0) = false := bne_eq_false_iff_eq.mpr c43
                    clear c43
                    obtain rfl := Option.some.inj H
                    go_wp2_with (first | ((with_reducible refine gate_callee (f := 51) rfl ?_); refine goesL_ (some 106) rfl rfl Tryd.func51 (by kernel_rfl) rfl #[.string x0_1, .string x1_28, .bool a5] rfl (by (try simp only [List.map_toArray, List.map_cons, List.map_nil]); first | done | rfl | (simp only [List.length_drop, List.length_take]; rfl)) ?_; (with_reducible refine (match_matchTrimSuffix.calls kj28 x0_1 x1_28 a5 t167 t168 true _ A36.out (HG.out.below (by repeat (first | (with_reducible first | exact HB.out | apply below_alloc | apply pw_below_drewN | apply below_drew1) | exact HB.out)))).mono ?_); rintro e w44 ⟨rfl, hb⟩; refine ⟨_, rfl, ?_⟩; have n0_ := Aside0.mk (below_step (by repeat (first | (with_reducible first | exact HB.out | apply below_alloc | apply pw_below_drewN | apply below_drew1) | exact HB.out)) hb); clear HB; have HB := n0_; clear n0_; (try clear hb); (try clear hb2); (try clear hk); (try clear hi)) | ((with_reducible refine gate_callee (f := 45) rfl ?_); refine goesL_ (some 122) rfl rfl Tryd.func45 (by kernel_rfl) rfl #[.string t167, .string (t168.extract 1 t168.size), .int .i64 a2, .pointer none, .int .i64 a4, .bool a5] rfl (by (try simp only [List.map_toArray, List.map_cons, List.map_nil]); first | done | rfl | (simp only [List.length_drop, List.length_take]; rfl)) ?_; (with_reducible refine (ih kj28 (by have := HK1.out; have := HJ10.out; have := HJ14.out; have := HJ28.out; omega) t167 (t168.extract 1 t168.size) a2 () a4 a5 t170 _ A41.out (HG.out.below (by repeat (first | (with_reducible first | exact HB.out | apply below_alloc | apply pw_below_drewN | apply below_drew1) | exact HB.out)))).mono ?_); rintro e w45 ⟨rfl, hb⟩; refine ⟨_, rfl, ?_⟩; have n0_ := Aside0.mk (below_step (by repeat (first | (with_reducible first | exact HB.out | apply below_alloc | apply pw_below_drewN | apply below_drew1) | exact HB.out)) hb); clear HB; have HB := n0_; clear n0_; (try clear hb); (try clear hb2); (try clear hk); (try clear hi)))
                    go_ret
                    exact ⟨by first | rfl | (simp [errX_none, errX_some] <;> rfl) | (simp [*, errX_none, errX_some] <;> rfl), by repeat (first | (with_reducible first | exact HB.out | apply below_alloc | apply pw_below_drewN | apply below_drew1) | exact HB.out)⟩
                   ·
                    rw [if_neg c43] at H
                    have c43b0 : ((t167.size : Int) == 0) = false := beq_eq_false_iff_ne.mpr c43
                    have c43b1 : ((t167.size : Int) != 0) = true := bne_iff_ne.mpr c43
                    by_cases c46 : 0 ≤ x17_14
                    ·
                     rw [if_pos c46] at H
                     have c46b0 := eq_true c46
                     have c46b1 : decide (0 ≤ x17_14) = true := decide_eq_true c46
                     clear c46
                     by_cases c47 : x17_14 ≤ (t167.size : Int)
                     ·
                      rw [if_pos c47] at H
                      have c47b0 := eq_true c47
                      have c47b1 : decide (x17_14 ≤ (t167.size : Int)) = true := decide_eq_true c47
                      clear c47
                      have H' := Aside0.mk H
                      clear H
                      go_wp2_with (first | ((with_reducible refine gate_callee (f := 51) rfl ?_); refine goesL_ (some 106) rfl rfl Tryd.func51 (by kernel_rfl) rfl #[.string x0_1, .string x1_28, .bool a5] rfl (by (try simp only [List.map_toArray, List.map_cons, List.map_nil]); first | done | rfl | (simp only [List.length_drop, List.length_take]; rfl)) ?_; (with_reducible refine (match_matchTrimSuffix.calls kj28 x0_1 x1_28 a5 t167 t168 true _ A36.out (HG.out.below (by repeat (first | (with_reducible first | exact HB.out | apply below_alloc | apply pw_below_drewN | apply below_drew1) | exact HB.out)))).mono ?_); rintro e w48 ⟨rfl, hb⟩; refine ⟨_, rfl, ?_⟩; have n0_ := Aside0.mk (below_step (by repeat (first | (with_reducible first | exact HB.out | apply below_alloc | apply pw_below_drewN | apply below_drew1) | exact HB.out)) hb); clear HB; have HB := n0_; clear n0_; (try clear hb); (try clear hb2); (try clear hk); (try clear hi)) | ((with_reducible refine gate_callee (f := 45) rfl ?_); refine goesL_ (some 122) rfl rfl Tryd.func45 (by kernel_rfl) rfl #[.string t167, .string (t168.extract 1 t168.size), .int .i64 a2, .pointer none, .int .i64 a4, .bool a5] rfl (by (try simp only [List.map_toArray, List.map_cons, List.map_nil]); first | done | rfl | (simp only [List.length_drop, List.length_take]; rfl)) ?_; (with_reducible refine (ih kj28 (by have := HK1.out; have := HJ10.out; have := HJ14.out; have := HJ28.out; omega) t167 (t168.extract 1 t168.size) a2 () a4 a5 t170 _ A41.out (HG.out.below (by repeat (first | (with_reducible first | exact HB.out | apply below_alloc | apply pw_below_drewN | apply below_drew1) | exact HB.out)))).mono ?_); rintro e w49 ⟨rfl, hb⟩; refine ⟨_, rfl, ?_⟩; have n0_ := Aside0.mk (below_step (by repeat (first | (with_reducible first | exact HB.out | apply below_alloc | apply pw_below_drewN | apply below_drew1) | exact HB.out)) hb); clear HB; have HB := n0_; clear n0_; (try clear hb); (try clear hb2); (try clear hk); (try clear hi)))
                      go_roundg kj28
                      case measure => have := HK1.out; have := HJ10.out; have := HJ14.out; have := HJ28.out; omega
                      case rel => exact ⟨(t167.extract (x17_14 : Int).toNat t167.size), (t168), (by first | rfl | (simp; done) | (simp [nil_ne_, nil_eq_]; done) | (simp [*]; done)), (by first | rfl | (simp; done) | (simp [nil_ne_, nil_eq_]; done) | (simp [*]; done)), H', ⟨by have := HK1.out; have := HJ10.out; have := HJ14.out; have := HJ28.out; omega⟩, ⟨by repeat (first | (with_reducible first | exact HB.out | apply below_alloc | apply pw_below_drewN | apply below_drew1) | exact HB.out)⟩⟩
                     ·
                      rw [if_neg c47] at H
                      exact absurd H (by simp)
                    ·
                     rw [if_neg c46] at H
                     exact absurd H (by simp)
                  ·
                   rw [if_neg c42] at H
                   have c42b0 : (t170 == 0) = false := beq_eq_false_iff_ne.mpr c42
                   have c42b1 : (t170 != 0) = true := bne_iff_ne.mpr c42
                   obtain rfl := Option.some.inj H
                   go_wp2_with (first | ((with_reducible refine gate_callee (f := 51) rfl ?_); refine goesL_ (some 106) rfl rfl Tryd.func51 (by kernel_rfl) rfl #[.string x0_1, .string x1_28, .bool a5] rfl (by (try simp only [List.map_toArray, List.map_cons, List.map_nil]); first | done | rfl | (simp only [List.length_drop, List.length_take]; rfl)) ?_; (with_reducible refine (match_matchTrimSuffix.calls kj28 x0_1 x1_28 a5 t167 t168 true _ A36.out (HG.out.below (by repeat (first | (with_reducible first | exact HB.out | apply below_alloc | apply pw_below_drewN | apply below_drew1) | exact HB.out)))).mono ?_); rintro e w50 ⟨rfl, hb⟩; refine ⟨_, rfl, ?_⟩; have n0_ := Aside0.mk (below_step (by repeat (first | (with_reducible first | exact HB.out | apply below_alloc | apply pw_below_drewN | apply below_drew1) | exact HB.out)) hb); clear HB; have HB := n0_; clear n0_; (try clear hb); (try clear hb2); (try clear hk); (try clear hi)) | ((with_reducible refine gate_callee (f := 45) rfl ?_); refine goesL_ (some 122) rfl rfl Tryd.func45 (by kernel_rfl) rfl #[.string t167, .string (t168.extract 1 t168.size), .int .i64 a2, .pointer none, .int .i64 a4, .bool a5] rfl (by (try simp only [List.map_toArray, List.map_cons, List.map_nil]); first | done | rfl | (simp only [List.length_drop, List.length_take]; rfl)) ?_; (with_reducible refine (ih kj28 (by have := HK1.out; have := HJ10.out; have := HJ14.out; have := HJ28.out; omega) t167 (t168.extract 1 t168.size) a2 () a4 a5 t170 _ A41.out (HG.out.below (by repeat (first | (with_reducible first | exact HB.out | apply below_alloc | apply pw_below_drewN | apply below_drew1) | exact HB.out)))).mono ?_); rintro e w51 ⟨rfl, hb⟩; refine ⟨_, rfl, ?_⟩; have n0_ := Aside0.mk (below_step (by repeat (first | (with_reducible first | exact HB.out | apply below_alloc | apply pw_below_drewN | apply below_drew1) | exact HB.out)) hb); clear HB; have HB := n0_; clear n0_; (try clear hb); (try clear hb2); (try clear hk); (try clear hi)))
                   go_ret
                   exact ⟨by first | rfl | (simp [errX_none, errX_some] <;> rfl) | (simp [*, errX_none, errX_some] <;> rfl), by repeat (first | (with_reducible first | exact HB.out | apply below_alloc | apply pw_below_drewN | apply below_drew1) | exact HB.out)⟩
                 ·
                  rw [if_neg c40] at H
                  exact absurd H (by simp)
               ·
                replace c37 := Bool.eq_false_iff.mpr c37
                subst c37
                have H1 : (some 0) = some r := by rw [if_neg (show ¬ (false = true) by decide)] at H; exact H
                clear H
                have H := H1
                clear H1
                obtain rfl := Option.some.inj H
                go_wp2_with (first | ((with_reducible refine gate_callee (f := 51) rfl ?_); refine goesL_ (some 106) rfl rfl Tryd.func51 (by kernel_rfl) rfl #[.string x0_1, .string x1_28, .bool a5] rfl (by (try simp only [List.map_toArray, List.map_cons, List.map_nil]); first | done | rfl | (simp only [List.length_drop, List.length_take]; rfl)) ?_; (with_reducible refine (match_matchTrimSuffix.calls kj28 x0_1 x1_28 a5 t167 t168 false _ A36.out (HG.out.below (by repeat (first | (with_reducible first | exact HB.out | apply below_alloc | apply pw_below_drewN | apply below_drew1) | exact HB.out)))).mono ?_); rintro e w52 ⟨rfl, hb⟩; refine ⟨_, rfl, ?_⟩; have n0_ := Aside0.mk (below_step (by repeat (first | (with_reducible first | exact HB.out | apply below_alloc | apply pw_below_drewN | apply below_drew1) | exact HB.out)) hb); clear HB; have HB := n0_; clear n0_; (try clear hb); (try clear hb2); (try clear hk); (try clear hi)))
                go_ret
                exact ⟨by first | rfl | (simp [errX_none, errX_some] <;> rfl) | (simp [*, errX_none, errX_some] <;> rfl), by repeat (first | (with_reducible first | exact HB.out | apply below_alloc | apply pw_below_drewN | apply below_drew1) | exact HB.out)⟩
           ·
            rw [if_neg c28] at H
            have c28b0 : (x14_10 == 42) = false := beq_eq_false_iff_ne.mpr c28
            have c28b1 : (x14_10 != 42) = true := bne_iff_ne.mpr c28
            by_cases c53 : x17_14 = 0
            ·
             rw [if_pos c53] at H
             have c53b0 : (x17_14 == 0) = true := beq_iff_eq.mpr c53
             have c53b1 : (x17_14 != 0) = false := bne_eq_false_iff_eq.mpr c53
             clear c53
             obtain rfl := Option.some.inj H
             go_wp2
             go_ret
             exact ⟨by first | rfl | (simp [errX_none, errX_some] <;> rfl) | (simp [*, errX_none, errX_some] <;> rfl), by repeat (first | (with_reducible first | exact HB.out | apply below_alloc | apply pw_below_drewN | apply below_drew1) | exact HB.out)⟩
            ·
             rw [if_neg c53] at H
             have c53b0 : (x17_14 == 0) = false := beq_eq_false_iff_ne.mpr c53
             have c53b1 : (x17_14 != 0) = true := bne_iff_ne.mpr c53
             have HC54 := Aside0.mk H
             clear H
             go_upto_if 64 with (fail)
             go_cut [1, 14, 15] (fun v1 v14 v15 wc => ∃ (kq : Nat) (x1_53 : ByteArray) (x14_53 : Int) (x15_53 : Int), v1 = .string x1_53 ∧ v14 = .int .i32 x14_53 ∧ v15 = .int .i64 x15_53 ∧ Aside0 (match_match.j5 kq x0_1 x1_53 a2 a4 a5 false x14_53 x15_53 x16_14 x17_14 = some r) ∧ Aside0 (kq ≤ kj14) ∧ Aside0 (Below w.heap.size w wc))
             case first =>
              have H := HC54.out
              clear HC54
              by_cases c55 : x14_10 = 92
              ·
               rw [if_pos c55] at H
               have c55b0 : (x14_10 == 92) = true := beq_iff_eq.mpr c55
               have c55b1 : (x14_10 != 92) = false := bne_eq_false_iff_eq.mpr c55
               clear c55
               (first | rw [c55b0] | (simp only [i64_w, i32_w]; rw [c55b0]) | rw [c55b1] | skip)
               by_cases c56 : 0 ≤ x15_10
               ·
                rw [if_pos c56] at H
                have c56b0 := eq_true c56
                have c56b1 : decide (0 ≤ x15_10) = true := decide_eq_true c56
                clear c56
                by_cases c57 : x15_10 ≤ (x1_1.size : Int)
                ·
                 rw [if_pos c57] at H
                 have c57b0 := eq_true c57
                 have c57b1 : decide (x15_10 ≤ (x1_1.size : Int)) = true := decide_eq_true c57
                 clear c57
                 replace H := Option.bind_eq_some_iff.mp H
                 obtain ⟨⟨t171, t172⟩, A580, H⟩ := H
                 replace H : (if t172 = 0 then (some 0) else (match_match.j5 kj14 x0_1 (x1_1.extract (x15_10 : Int).toNat x1_1.size) a2 a4 a5 false t171 t172 x16_14 x17_14)) = some r := H
                 have A58 := Aside0.mk A580
                 clear A580
                 by_cases c59 : t172 = 0
                 ·
                  rw [if_pos c59] at H
                  have c59b0 : (t172 == 0) = true := beq_iff_eq.mpr c59
                  have c59b1 : (t172 != 0) = false := bne_eq_false_iff_eq.mpr c59
                  clear c59
                  obtain rfl := Option.some.inj H
                  go_wp2_with (first | ((with_reducible refine gate_callee (f := 48) rfl ?_); refine goesL_ (some 70) rfl rfl Tryd.func48 (by kernel_rfl) rfl #[.string (x1_1.extract (x15_10 : Int).toNat x1_1.size)] rfl (by (try simp only [List.map_toArray, List.map_cons, List.map_nil]); first | done | rfl | (simp only [List.length_drop, List.length_take]; rfl)) ?_; (with_reducible refine (utf8_DecodeRuneInString.calls (x1_1.extract (x15_10 : Int).toNat x1_1.size) t171 t172 _ A58.out (HG.out.below (by repeat (first | (with_reducible first | exact HB.out | apply below_alloc | apply pw_below_drewN | apply below_drew1) | exact HB.out)))).mono ?_); rintro e w60 ⟨rfl, hb⟩; refine ⟨_, rfl, ?_⟩; have n0_ := Aside0.mk (below_step (by repeat (first | (with_reducible first | exact HB.out | apply below_alloc | apply pw_below_drewN | apply below_drew1) | exact HB.out)) hb); clear HB; have HB := n0_; clear n0_; (try clear hb); (try clear hb2); (try clear hk); (try clear hi)))
                  go_ret
                  exact ⟨by first | rfl | (simp [errX_none, errX_some] <;> rfl) | (simp [*, errX_none, errX_some] <;> rfl), by repeat (first | (with_reducible first | exact HB.out | apply below_alloc | apply pw_below_drewN | apply below_drew1) | exact HB.out)⟩
                 ·
                  rw [if_neg c59] at H
                  have c59b0 : (t172 == 0) = false := beq_eq_false_iff_ne.mpr c59
                  have c59b1 : (t172 != 0) = true := bne_iff_ne.mpr c59
                  have H' := Aside0.mk H
                  clear H
                  go_wp2_with (first | ((with_reducible refine gate_callee (f := 48) rfl ?_); refine goesL_ (some 70) rfl rfl Tryd.func48 (by kernel_rfl) rfl #[.string (x1_1.extract (x15_10 : Int).toNat x1_1.size)] rfl (by (try simp only [List.map_toArray, List.map_cons, List.map_nil]); first | done | rfl | (simp only [List.length_drop, List.length_take]; rfl)) ?_; (with_reducible refine (utf8_DecodeRuneInString.calls (x1_1.extract (x15_10 : Int).toNat x1_1.size) t171 t172 _ A58.out (HG.out.below (by repeat (first | (with_reducible first | exact HB.out | apply below_alloc | apply pw_below_drewN | apply below_drew1) | exact HB.out)))).mono ?_); rintro e w61 ⟨rfl, hb⟩; refine ⟨_, rfl, ?_⟩; have n0_ := Aside0.mk (below_step (by repeat (first | (with_reducible first | exact HB.out | apply below_alloc | apply pw_below_drewN | apply below_drew1) | exact HB.out)) hb); clear HB; have HB := n0_; clear n0_; (try clear hb); (try clear hb2); (try clear hk); (try clear hi)))
                  go_meet
                  case rel => exact ⟨_, (x1_1.extract (x15_10 : Int).toNat x1_1.size), (t171), (t172), (by first | rfl | (simp; done) | (simp [nil_ne_, nil_eq_]; done) | (simp [*]; done)), (by first | rfl | (simp; done) | (simp [nil_ne_, nil_eq_]; done) | (simp [*]; done)), (by first | rfl | (simp; done) | (simp [nil_ne_, nil_eq_]; done) | (simp [*]; done)), H', ⟨by have := HK1.out; have := HJ10.out; have := HJ14.out; first | omega | exact Nat.le_refl _⟩, ⟨by repeat (first | (with_reducible first | exact HB.out | apply below_alloc | apply pw_below_drewN | apply below_drew1) | exact HB.out)⟩⟩
                ·
                 rw [if_neg c57] at H
                 exact absurd H (by simp)
               ·
                rw [if_neg c56] at H
                exact absurd H (by simp)
              ·
               rw [if_neg c55] at H
               have c55b0 : (x14_10 == 92) = false := beq_eq_false_iff_ne.mpr c55
               have c55b1 : (x14_10 != 92) = true := bne_iff_ne.mpr c55
               (first | rw [c55b0] | (simp only [i64_w, i32_w]; rw [c55b0]) | rw [c55b1] | skip)
               have H' := Aside0.mk H
               clear H
               go_wp2
               go_meet
               case rel => exact ⟨_, (x1_1), (x14_10), (x15_10), (by first | rfl | (simp; done) | (simp [nil_ne_, nil_eq_]; done) | (simp [*]; done)), (by first | rfl | (simp; done) | (simp [nil_ne_, nil_eq_]; done) | (simp [*]; done)), (by first | rfl | (simp; done) | (simp [nil_ne_, nil_eq_]; done) | (simp [*]; done)), H', ⟨by have := HK1.out; have := HJ10.out; have := HJ14.out; first | omega | exact Nat.le_refl _⟩, ⟨by repeat (first | (with_reducible first | exact HB.out | apply below_alloc | apply pw_below_drewN | apply below_drew1) | exact HB.out)⟩⟩
             case rest =>
              clear HC54
              try clear c1
              try clear p1
              try clear q1
              try clear hx1
              try clear qi1
              try clear c2
              try clear p2
              try clear c3
              try clear p3
              try clear q3
              try clear hx3
              try clear qi3
              try clear c4
              try clear c5
              try clear c7
              try clear c7b0
              try clear c8
              try clear c8b0
              try clear c8b1
              try clear c9
              try clear c9b0
              try clear c9b1
              try clear p10
              try clear q10
              try clear hx10
              try clear qi10
              try clear c12
              try clear c12b0
              try clear c12b1
              try clear c16
              try clear c16b0
              try clear c16b1
              try clear c17
              try clear c17b0
              try clear c17b1
              try clear p18
              try clear q18
              try clear hx18
              try clear qi18
              try clear c19
              try clear c19b0
              try clear c22
              try clear c22b0
              try clear c22b1
              try clear c23
              try clear c23b0
              try clear c23b1
              try clear c24
              try clear c24b0
              try clear c24b1
              try clear c25
              try clear c25b0
              try clear c25b1
              try clear c26
              try clear c26b0
              try clear c26b1
              try clear c27
              try clear c27b0
              try clear c27b1
              try clear c28
              try clear c28b0
              try clear c28b1
              try clear c30
              try clear c30b0
              try clear c30b1
              try clear c31
              try clear c31b0
              try clear c31b1
              try clear p32
              try clear q32
              try clear hx32
              try clear qi32
              try clear c33
              try clear c33b0
              try clear c33b1
              try clear c34
              try clear c34b0
              try clear c34b1
              try clear c35
              try clear c35b0
              try clear c35b1
              try clear c37
              try clear c38
              try clear c38b0
              try clear c38b1
              try clear c40
              try clear c40b0
              try clear c40b1
              try clear c42
              try clear c42b0
              try clear c42b1
              try clear c43
              try clear c43b0
              try clear c43b1
              try clear c45
              try clear c46
              try clear c46b0
              try clear c46b1
              try clear c47
              try clear c47b0
              try clear c47b1
              try clear c48
              try clear c51
              try clear c53
              try clear c53b0
              try clear c53b1
              try clear c55
              try clear c55b0
              try clear c55b1
              try clear c56
              try clear c56b0
              try clear c56b1
              try clear c57
              try clear c57b0
              try clear c57b1
              try clear c59
              try clear c59b0
              try clear c59b1
              try clear p1
              try clear p10
              try clear p18
              try clear p2
              try clear p3
              try clear p32
              try clear q1
              try clear q10
              try clear q18
              try clear q3
              try clear q32
              obtain ⟨kq, x1_53, x14_53, x15_53, rfl, rfl, rfl, HA, HJ53, HB⟩ := hcut
              cases kq with
              | zero => exact absurd HA.out (by simp [match_match.j5])
              | succ kj53 =>
               have H := HA.out
               clear HA
               simp only [match_match.j5] at H
               have HC62 := Aside0.mk H
               clear H
               go_upto_if 75 with (fail)
               go_cut [14, 16] (fun v14 v16 wc => ∃ (kq : Nat) (x14_61 : Int) (x16_61 : Int), v14 = .int .i32 x14_61 ∧ v16 = .int .i32 x16_61 ∧ Aside0 (match_match.j6 kq x0_1 x1_53 a2 a4 a5 false x14_61 x15_53 x16_61 x17_14 = some r) ∧ Aside0 (kq ≤ kj53) ∧ Aside0 (Below w.heap.size w wc))
               case first =>
                have H := HC62.out
                clear HC62
                by_cases c63 : a5 = true
                ·
                 subst c63
                 have H1 : ((match_tolower.f x16_14).bind fun t173 => ((match_tolower.f x14_53).bind fun t174 => (match_match.j6 kj53 x0_1 x1_53 a2 a4 true false t174 x15_53 t173 x17_14))) = some r := by rw [if_pos rfl] at H; exact H
                 clear H
                 have H := H1
                 clear H1
                 replace H := Option.bind_eq_some_iff.mp H
                 obtain ⟨t173, A640, H⟩ := H
                 replace H : ((match_tolower.f x14_53).bind fun t174 => (match_match.j6 kj53 x0_1 x1_53 a2 a4 true false t174 x15_53 t173 x17_14)) = some r := H
                 have A64 := Aside0.mk A640
                 clear A640
                 replace H := Option.bind_eq_some_iff.mp H
                 obtain ⟨t174, A650, H⟩ := H
                 replace H : (match_match.j6 kj53 x0_1 x1_53 a2 a4 true false t174 x15_53 t173 x17_14) = some r := H
                 have A65 := Aside0.mk A650
                 clear A650
                 have H' := Aside0.mk H
                 clear H
                 go_wp2_with (first | ((with_reducible refine gate_callee (f := 52) rfl ?_); refine goesL_ (some 77) rfl rfl Tryd.func52 (by kernel_rfl) rfl #[.int .i32 x16_14] rfl (by (try simp only [List.map_toArray, List.map_cons, List.map_nil]); first | done | rfl | (simp only [List.length_drop, List.length_take]; rfl)) ?_; (with_reducible refine (match_tolower.calls x16_14 t173 _ A64.out).mono ?_); rintro e w' ⟨rfl, ⟨nd, rfl⟩⟩; refine ⟨_, rfl, ?_⟩) | ((with_reducible refine gate_callee (f := 52) rfl ?_); refine goesL_ (some 79) rfl rfl Tryd.func52 (by kernel_rfl) rfl #[.int .i32 x14_53] rfl (by (try simp only [List.map_toArray, List.map_cons, List.map_nil]); first | done | rfl | (simp only [List.length_drop, List.length_take]; rfl)) ?_; (with_reducible refine (match_tolower.calls x14_53 t174 _ A65.out).mono ?_); rintro e w' ⟨rfl, ⟨nd, rfl⟩⟩; refine ⟨_, rfl, ?_⟩))
                 go_meet
                 case rel => exact ⟨_, (t174), (t173), (by first | rfl | (simp; done) | (simp [nil_ne_, nil_eq_]; done) | (simp [*]; done)), (by first | rfl | (simp; done) | (simp [nil_ne_, nil_eq_]; done) | (simp [*]; done)), H', ⟨by have := HK1.out; have := HJ10.out; have := HJ14.out; have := HJ53.out; first | omega | exact Nat.le_refl _⟩, ⟨by repeat (first | (with_reducible first | exact HB.out | apply below_alloc | apply pw_below_drewN | apply below_drew1) | exact HB.out)⟩⟩
                ·
                 replace c63 := Bool.eq_false_iff.mpr c63
                 subst c63
                 have H1 : (match_match.j6 kj53 x0_1 x1_53 a2 a4 false false x14_53 x15_53 x16_14 x17_14) = some r := by rw [if_neg (show ¬ (false = true) by decide)] at H; exact H
                 clear H
                 have H := H1
                 clear H1
                 have H' := Aside0.mk H
                 clear H
                 go_wp2
                 go_meet
                 case rel => exact ⟨_, (x14_53), (x16_14), (by first | rfl | (simp; done) | (simp [nil_ne_, nil_eq_]; done) | (simp [*]; done)), (by first | rfl | (simp; done) | (simp [nil_ne_, nil_eq_]; done) | (simp [*]; done)), H', ⟨by have := HK1.out; have := HJ10.out; have := HJ14.out; have := HJ53.out; first | omega | exact Nat.le_refl _⟩, ⟨by repeat (first | (with_reducible first | exact HB.out | apply below_alloc | apply pw_below_drewN | apply below_drew1) | exact HB.out)⟩⟩
               case rest =>
                clear HC62
                try clear c1
                try clear p1
                try clear q1
                try clear hx1
                try clear qi1
                try clear c2
                try clear p2
                try clear c3
                try clear p3
                try clear q3
                try clear hx3
                try clear qi3
                try clear c4
                try clear c5
                try clear c6
                try clear c7
                try clear c7b0
                try clear c8
                try clear c8b0
                try clear c8b1
                try clear c9
                try clear c9b0
                try clear c9b1
                try clear p10
                try clear q10
                try clear hx10
                try clear qi10
                try clear c12
                try clear c12b0
                try clear c12b1
                try clear c16
                try clear c16b0
                try clear c16b1
                try clear c17
                try clear c17b0
                try clear c17b1
                try clear p18
                try clear q18
                try clear hx18
                try clear qi18
                try clear c19
                try clear c19b0
                try clear c22
                try clear c22b0
                try clear c22b1
                try clear c23
                try clear c23b0
                try clear c23b1
                try clear c24
                try clear c24b0
                try clear c24b1
                try clear c25
                try clear c25b0
                try clear c25b1
                try clear c26
                try clear c26b0
                try clear c26b1
                try clear c27
                try clear c27b0
                try clear c27b1
                try clear c28
                try clear c28b0
                try clear c28b1
                try clear c30
                try clear c30b0
                try clear c30b1
                try clear c31
                try clear c31b0
                try clear c31b1
                try clear p32
                try clear q32
                try clear hx32
                try clear qi32
                try clear c33
                try clear c33b0
                try clear c33b1
                try clear c34
                try clear c34b0
                try clear c34b1
                try clear c35
                try clear c35b0
                try clear c35b1
                try clear c37
                try clear c38
                try clear c38b0
                try clear c38b1
                try clear c40
                try clear c40b0
                try clear c40b1
                try clear c42
                try clear c42b0
                try clear c42b1
                try clear c43
                try clear c43b0
                try clear c43b1
                try clear c45
                try clear c46
                try clear c46b0
                try clear c46b1
                try clear c47
                try clear c47b0
                try clear c47b1
                try clear c48
                try clear c51
                try clear c52
                try clear c53
                try clear c53b0
                try clear c53b1
                try clear c55
                try clear c55b0
                try clear c55b1
                try clear c56
                try clear c56b0
                try clear c56b1
                try clear c57
                try clear c57b0
                try clear c57b1
                try clear c59
                try clear c59b0
                try clear c59b1
                try clear c63
                try clear p1
                try clear p10
                try clear p18
                try clear p2
                try clear p3
                try clear p32
                try clear q1
                try clear q10
                try clear q18
                try clear q3
                try clear q32
                obtain ⟨kq, x14_61, x16_61, rfl, rfl, HA, HJ61, HB⟩ := hcut
                cases kq with
                | zero => exact absurd HA.out (by simp [match_match.j6])
                | succ kj61 =>
                 have H := HA.out
                 clear HA
                 simp only [match_match.j6] at H
                 by_cases c66 : x16_61 = x14_61
                 ·
                  rw [if_pos c66] at H
                  have c66b0 : (x16_61 == x14_61) = true := beq_iff_eq.mpr c66
                  have c66b1 : (x16_61 != x14_61) = false := bne_eq_false_iff_eq.mpr c66
                  clear c66
                  by_cases c67 : 0 ≤ x17_14
                  ·
                   rw [if_pos c67] at H
                   have c67b0 := eq_true c67
                   have c67b1 : decide (0 ≤ x17_14) = true := decide_eq_true c67
                   clear c67
                   by_cases c68 : x17_14 ≤ (x0_1.size : Int)
                   ·
                    rw [if_pos c68] at H
                    have c68b0 := eq_true c68
                    have c68b1 : decide (x17_14 ≤ (x0_1.size : Int)) = true := decide_eq_true c68
                    clear c68
                    have H1 : (if 0 ≤ x15_53 then (if x15_53 ≤ (x1_53.size : Int) then (match_match.l0 kj61 (x0_1.extract (x17_14 : Int).toNat x0_1.size) (x1_53.extract (x15_53 : Int).toNat x1_53.size) a2 a4 a5) else (none)) else (none)) = some r := by rw [if_neg (show ¬ (false = true) by decide)] at H; exact H
                    clear H
                    have H := H1
                    clear H1
                    by_cases c69 : 0 ≤ x15_53
                    ·
                     rw [if_pos c69] at H
                     have c69b0 := eq_true c69
                     have c69b1 : decide (0 ≤ x15_53) = true := decide_eq_true c69
                     clear c69
                     by_cases c70 : x15_53 ≤ (x1_53.size : Int)
                     ·
                      rw [if_pos c70] at H
                      have c70b0 := eq_true c70
                      have c70b1 : decide (x15_53 ≤ (x1_53.size : Int)) = true := decide_eq_true c70
                      clear c70
                      have H' := Aside0.mk H
                      clear H
                      go_wp2
                      go_roundg kj61
                      case measure => have := HK1.out; have := HJ10.out; have := HJ14.out; have := HJ53.out; have := HJ61.out; omega
                      case rel => exact ⟨(x0_1.extract (x17_14 : Int).toNat x0_1.size), (x1_53.extract (x15_53 : Int).toNat x1_53.size), (by first | rfl | (simp; done) | (simp [nil_ne_, nil_eq_]; done) | (simp [*]; done)), (by first | rfl | (simp; done) | (simp [nil_ne_, nil_eq_]; done) | (simp [*]; done)), H', ⟨by have := HK1.out; have := HJ10.out; have := HJ14.out; have := HJ53.out; have := HJ61.out; omega⟩, ⟨by repeat (first | (with_reducible first | exact HB.out | apply below_alloc | apply pw_below_drewN | apply below_drew1) | exact HB.out)⟩⟩
                     ·
                      rw [if_neg c70] at H
                      exact absurd H (by simp)
                    ·
                     rw [if_neg c69] at H
                     exact absurd H (by simp)
                   ·
                    rw [if_neg c68] at H
                    exact absurd H (by simp)
                  ·
                   rw [if_neg c67] at H
                   exact absurd H (by simp)
                 ·
                  rw [if_neg c66] at H
                  have c66b0 : (x16_61 == x14_61) = false := beq_eq_false_iff_ne.mpr c66
                  have c66b1 : (x16_61 != x14_61) = true := bne_iff_ne.mpr c66
                  obtain rfl := Option.some.inj H
                  go_wp2
                  go_ret
                  exact ⟨by first | rfl | (simp [errX_none, errX_some] <;> rfl) | (simp [*, errX_none, errX_some] <;> rfl), by repeat (first | (with_reducible first | exact HB.out | apply below_alloc | apply pw_below_drewN | apply below_drew1) | exact HB.out)⟩
     ·
      rw [if_neg c9] at H
      exact absurd H (by simp)
    ·
     rw [if_neg c8] at H
     have c8b0 : decide (0 < (x1_1.size : Int)) = false := decide_eq_false c8
     have c8b1 : decide (0 < x1_1.size) = false := decide_eq_false (by omega)
     clear c8
     by_cases c71 : (x0_1.size : Int) = 0
     ·
      rw [if_pos c71] at H
      have c71b0 : ((x0_1.size : Int) == 0) = true := beq_iff_eq.mpr c71
      have c71b1 : ((x0_1.size : Int) != 0) = false := bne_eq_false_iff_eq.mpr c71
      clear c71
      obtain rfl := Option.some.inj H
      go_wp2
      go_ret
      exact ⟨by first | rfl | (simp [errX_none, errX_some] <;> rfl) | (simp [*, errX_none, errX_some] <;> rfl), by repeat (first | (with_reducible first | exact HB.out | apply below_alloc | apply pw_below_drewN | apply below_drew1) | exact HB.out)⟩
     ·
      rw [if_neg c71] at H
      have c71b0 : ((x0_1.size : Int) == 0) = false := beq_eq_false_iff_ne.mpr c71
      have c71b1 : ((x0_1.size : Int) != 0) = true := bne_iff_ne.mpr c71
      obtain rfl := Option.some.inj H
      go_wp2
      go_ret
      exact ⟨by first | rfl | (simp [errX_none, errX_some] <;> rfl) | (simp [*, errX_none, errX_some] <;> rfl), by repeat (first | (with_reducible first | exact HB.out | apply below_alloc | apply pw_below_drewN | apply below_drew1) | exact HB.out)⟩

end Go.Proofs.YtljmeaemonpkoaaDoor.PFnMtNoCaseSmall
