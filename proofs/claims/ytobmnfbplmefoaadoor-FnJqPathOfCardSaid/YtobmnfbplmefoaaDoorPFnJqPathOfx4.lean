-- Written by a program of this session (wip/prx) out of the print of the loaded functions.
import Derived.Test.YtobmnfbplmefoaaDoorPFnJqPathOfx0
import Derived.Test.YtobmnfbplmefoaaDoorPFnJqPathOfx2
import Derived.Test.YtobmnfbplmefoaaDoorPFnJqPathOfx3
import Derived.Test.YtobmnfbplmefoaaDoorHDCFnJqPathOf
namespace Go.Proofs.YtobmnfbplmefoaaDoor.PFnJqPathOf
open Go.RowKit Go.Proofs.YtobmnfbplmefoaaDoorW.PrintWords Go.Proofs.YtobmnfbplmefoaaDoorW.PrintLast Go.Proofs.YtobmnfbplmefoaaDoorW.PrintMore
attribute [local go_sem] max2_int min2_int max_two min_two max_three min_three max_four min_four   -- for this text's walks alone
set_option linter.unusedVariables false
set_option linter.unusedSimpArgs false

/-! ### laws_jqPathOf: function 6 -/
mutual
noncomputable def laws_jqPathOf.j0 : Nat → List ByteArray → List Int → ByteArray → List ByteArray → Option (ByteArray × List ByteArray)
  | 0, _, _, _, _ => none
  | k + 1, x0, x1, x8, x9 => laws_jqPathOf.l0 k x0 x1 x8 x9 0
noncomputable def laws_jqPathOf.l0 : Nat → List ByteArray → List Int → ByteArray → List ByteArray → Int → Option (ByteArray × List ByteArray)
  | 0, _, _, _, _, _ => none
  | k + 1, x0, x1, x8, x9, x10 => if x10 < (x0.length : Int) then (if (x1.length : Int) > 0 then (if (x1.length : Int) = 0 then (none) else (if 0 ≤ (Int.tmod x10 (x1.length : Int)) then (if (Int.tmod x10 (x1.length : Int)) < (x1.length : Int) then (laws_jqPathOf.j2 k x0 x1 x8 x9 x10 (rd x1 (Int.tmod x10 (x1.length : Int)))) else (none)) else (none))) else (laws_jqPathOf.j2 k x0 x1 x8 x9 x10 0)) else (some (x8, x9))
noncomputable def laws_jqPathOf.j2 : Nat → List ByteArray → List Int → ByteArray → List ByteArray → Int → Int → Option (ByteArray × List ByteArray)
  | 0, _, _, _, _, _, _ => none
  | k + 1, x0, x1, x8, x9, x10, x11 => if x8.toList = ([] : List UInt8) then (laws_jqPathOf.j3 k x0 x1 x8 x9 x10 x11) else (if x8.size + 1 ≤ 9223372036854775807 then (laws_jqPathOf.j3 k x0 x1 (x8 ++ (⟨#[46]⟩ : ByteArray)) x9 x10 x11) else (none))
noncomputable def laws_jqPathOf.j3 : Nat → List ByteArray → List Int → ByteArray → List ByteArray → Int → Int → Option (ByteArray × List ByteArray)
  | 0, _, _, _, _, _, _ => none
  | k + 1, x0, x1, x8, x9, x10, x11 => if 0 ≤ x10 then (if x10 < (x0.length : Int) then ((spec_PlainPart.f k (rdOf ByteArray.empty x0 x10)).bind fun t118 => (if t118 = true then (laws_jqPathOf.j4 k x0 x1 x8 x9 x10 x11 ((Int.tmod x11 2) == 0)) else (laws_jqPathOf.j4 k x0 x1 x8 x9 x10 x11 false))) else (none)) else (none)
noncomputable def laws_jqPathOf.j4 : Nat → List ByteArray → List Int → ByteArray → List ByteArray → Int → Int → Bool → Option (ByteArray × List ByteArray)
  | 0, _, _, _, _, _, _, _ => none
  | k + 1, x0, x1, x8, x9, x10, x11, x45 => if x45 = true then (if 0 ≤ x10 then (if x10 < (x0.length : Int) then (if x8.size + (rdOf ByteArray.empty x0 x10).size ≤ 9223372036854775807 then (laws_jqPathOf.j5 k x0 x1 (x8 ++ (rdOf ByteArray.empty x0 x10)) x9 x10 x11) else (none)) else (none)) else (none)) else (if 0 ≤ x10 then (if x10 < (x0.length : Int) then ((spec_Dress.f 4 (rdOf ByteArray.empty x0 x10) ([] : List ByteArray) ([] : List (S37)) ([] : List Int)).bind fun t121 => (if x8.size + t121.size ≤ 9223372036854775807 then (laws_jqPathOf.j5 k x0 x1 (x8 ++ t121) x9 x10 x11) else (none))) else (none)) else (none))
noncomputable def laws_jqPathOf.j5 : Nat → List ByteArray → List Int → ByteArray → List ByteArray → Int → Int → Option (ByteArray × List ByteArray)
  | 0, _, _, _, _, _, _ => none
  | k + 1, x0, x1, x8, x9, x10, x11 => if 0 ≤ x10 then (if x10 < (x0.length : Int) then (if x9.length < 8796093022208 then (laws_jqPathOf.l1 k x0 x1 x8 (x9 ++ [rdOf ByteArray.empty x0 x10]) x10 x11 0) else (none)) else (none)) else (none)
noncomputable def laws_jqPathOf.l1 : Nat → List ByteArray → List Int → ByteArray → List ByteArray → Int → Int → Int → Option (ByteArray × List ByteArray)
  | 0, _, _, _, _, _, _, _ => none
  | k + 1, x0, x1, x8, x9, x10, x11, x12 => if x12 < (((Int.tdiv x11 2) % 256) % 4) then ((spec_DigitsOf.f k (IntKind.u64.wrap ((IntKind.u64.wrap (x11)) * (IntKind.u64.wrap (x12))))).bind fun t126 => (if 1 + t126.size ≤ 9223372036854775807 then (if ((⟨#[91]⟩ : ByteArray) ++ t126).size + 1 ≤ 9223372036854775807 then (if x11 ≥ 200 then (if x8.size + 3 ≤ 9223372036854775807 then (if x9.length < 8796093022208 then (laws_jqPathOf.l1 k x0 x1 (x8 ++ (⟨#[91, 42, 93]⟩ : ByteArray)) (x9 ++ [(⟨#[91, 42, 93]⟩ : ByteArray)]) x10 x11 (wrap64 (x12 + 1))) else (none)) else (none)) else (if x8.size + (((⟨#[91]⟩ : ByteArray) ++ t126) ++ (⟨#[93]⟩ : ByteArray)).size ≤ 9223372036854775807 then (if x9.length < 8796093022208 then (laws_jqPathOf.l1 k x0 x1 (x8 ++ (((⟨#[91]⟩ : ByteArray) ++ t126) ++ (⟨#[93]⟩ : ByteArray))) (x9 ++ [((⟨#[91]⟩ : ByteArray) ++ t126) ++ (⟨#[93]⟩ : ByteArray)]) x10 x11 (wrap64 (x12 + 1))) else (none)) else (none))) else (none)) else (none))) else (laws_jqPathOf.l0 k x0 x1 x8 x9 (wrap64 (x10 + 1)))
end
noncomputable def laws_jqPathOf.f (k : Nat) (l0 : List ByteArray) (l1 : List Int) (a2 : Bool) : Option (ByteArray × List ByteArray) := (some (([] : List ByteArray) : List ByteArray)).bind fun y113 => (if a2 = true then (laws_jqPathOf.j0 k l0 l1 (⟨#[36]⟩ : ByteArray) y113) else (laws_jqPathOf.j0 k l0 l1 (⟨#[]⟩ : ByteArray) y113))
theorem laws_jqPathOf.mono_l : ∀ k, (∀ y0 y1 y2 y3, LeO (laws_jqPathOf.j0 k y0 y1 y2 y3) (laws_jqPathOf.j0 (k + 1) y0 y1 y2 y3)) ∧ (∀ y0 y1 y2 y3 y4, LeO (laws_jqPathOf.l0 k y0 y1 y2 y3 y4) (laws_jqPathOf.l0 (k + 1) y0 y1 y2 y3 y4)) ∧ (∀ y0 y1 y2 y3 y4 y5, LeO (laws_jqPathOf.j2 k y0 y1 y2 y3 y4 y5) (laws_jqPathOf.j2 (k + 1) y0 y1 y2 y3 y4 y5)) ∧ (∀ y0 y1 y2 y3 y4 y5, LeO (laws_jqPathOf.j3 k y0 y1 y2 y3 y4 y5) (laws_jqPathOf.j3 (k + 1) y0 y1 y2 y3 y4 y5)) ∧ (∀ y0 y1 y2 y3 y4 y5 y6, LeO (laws_jqPathOf.j4 k y0 y1 y2 y3 y4 y5 y6) (laws_jqPathOf.j4 (k + 1) y0 y1 y2 y3 y4 y5 y6)) ∧ (∀ y0 y1 y2 y3 y4 y5, LeO (laws_jqPathOf.j5 k y0 y1 y2 y3 y4 y5) (laws_jqPathOf.j5 (k + 1) y0 y1 y2 y3 y4 y5)) ∧ (∀ y0 y1 y2 y3 y4 y5 y6, LeO (laws_jqPathOf.l1 k y0 y1 y2 y3 y4 y5 y6) (laws_jqPathOf.l1 (k + 1) y0 y1 y2 y3 y4 y5 y6))
  | 0 => ⟨fun _ _ _ _ r h => by simp [laws_jqPathOf.j0] at h, fun _ _ _ _ _ r h => by simp [laws_jqPathOf.l0] at h, fun _ _ _ _ _ _ r h => by simp [laws_jqPathOf.j2] at h, fun _ _ _ _ _ _ r h => by simp [laws_jqPathOf.j3] at h, fun _ _ _ _ _ _ _ r h => by simp [laws_jqPathOf.j4] at h, fun _ _ _ _ _ _ r h => by simp [laws_jqPathOf.j5] at h, fun _ _ _ _ _ _ _ r h => by simp [laws_jqPathOf.l1] at h⟩
  | k + 1 => by
    obtain ⟨ih0, ih1, ih2, ih3, ih4, ih5, ih6⟩ := laws_jqPathOf.mono_l k
    refine ⟨?_, ?_, ?_, ?_, ?_, ?_, ?_⟩
    · intro y0 y1 y2 y3
      unfold laws_jqPathOf.j0
      repeat' first
      | (with_reducible exact ih0 _ _ _ _)
      | (with_reducible exact ih1 _ _ _ _ _)
      | (with_reducible exact ih2 _ _ _ _ _ _)
      | (with_reducible exact ih3 _ _ _ _ _ _)
      | (with_reducible exact ih4 _ _ _ _ _ _ _)
      | (with_reducible exact ih5 _ _ _ _ _ _)
      | (with_reducible exact ih6 _ _ _ _ _ _ _)
      | (with_reducible exact spec_DigitsOf.mono _ _)
      | (with_reducible exact spec_PlainPart.mono _ _)
      | (with_reducible exact LeO.refl _)
      | (with_reducible exact LeO.none _)
      | (with_reducible refine LeO.ite ?_ ?_)
      | (with_reducible refine LeO.bind ?_ (fun _ => ?_))
      | exact ih0 _ _ _ _
      | exact ih1 _ _ _ _ _
      | exact ih2 _ _ _ _ _ _
      | exact ih3 _ _ _ _ _ _
      | exact ih4 _ _ _ _ _ _ _
      | exact ih5 _ _ _ _ _ _
      | exact ih6 _ _ _ _ _ _ _
      | exact spec_DigitsOf.mono _ _
      | exact spec_PlainPart.mono _ _
      | exact LeO.none _
      | refine LeO.ite ?_ ?_
      | refine LeO.bind ?_ (fun _ => ?_)
    · intro y0 y1 y2 y3 y4
      unfold laws_jqPathOf.l0
      repeat' first
      | (with_reducible exact ih0 _ _ _ _)
      | (with_reducible exact ih1 _ _ _ _ _)
      | (with_reducible exact ih2 _ _ _ _ _ _)
      | (with_reducible exact ih3 _ _ _ _ _ _)
      | (with_reducible exact ih4 _ _ _ _ _ _ _)
      | (with_reducible exact ih5 _ _ _ _ _ _)
      | (with_reducible exact ih6 _ _ _ _ _ _ _)
      | (with_reducible exact spec_DigitsOf.mono _ _)
      | (with_reducible exact spec_PlainPart.mono _ _)
      | (with_reducible exact LeO.refl _)
      | (with_reducible exact LeO.none _)
      | (with_reducible refine LeO.ite ?_ ?_)
      | (with_reducible refine LeO.bind ?_ (fun _ => ?_))
      | exact ih0 _ _ _ _
      | exact ih1 _ _ _ _ _
      | exact ih2 _ _ _ _ _ _
      | exact ih3 _ _ _ _ _ _
      | exact ih4 _ _ _ _ _ _ _
      | exact ih5 _ _ _ _ _ _
      | exact ih6 _ _ _ _ _ _ _
      | exact spec_DigitsOf.mono _ _
      | exact spec_PlainPart.mono _ _
      | exact LeO.none _
      | refine LeO.ite ?_ ?_
      | refine LeO.bind ?_ (fun _ => ?_)
    · intro y0 y1 y2 y3 y4 y5
      unfold laws_jqPathOf.j2
      repeat' first
      | (with_reducible exact ih0 _ _ _ _)
      | (with_reducible exact ih1 _ _ _ _ _)
      | (with_reducible exact ih2 _ _ _ _ _ _)
      | (with_reducible exact ih3 _ _ _ _ _ _)
      | (with_reducible exact ih4 _ _ _ _ _ _ _)
      | (with_reducible exact ih5 _ _ _ _ _ _)
      | (with_reducible exact ih6 _ _ _ _ _ _ _)
      | (with_reducible exact spec_DigitsOf.mono _ _)
      | (with_reducible exact spec_PlainPart.mono _ _)
      | (with_reducible exact LeO.refl _)
      | (with_reducible exact LeO.none _)
      | (with_reducible refine LeO.ite ?_ ?_)
      | (with_reducible refine LeO.bind ?_ (fun _ => ?_))
      | exact ih0 _ _ _ _
      | exact ih1 _ _ _ _ _
      | exact ih2 _ _ _ _ _ _
      | exact ih3 _ _ _ _ _ _
      | exact ih4 _ _ _ _ _ _ _
      | exact ih5 _ _ _ _ _ _
      | exact ih6 _ _ _ _ _ _ _
      | exact spec_DigitsOf.mono _ _
      | exact spec_PlainPart.mono _ _
      | exact LeO.none _
      | refine LeO.ite ?_ ?_
      | refine LeO.bind ?_ (fun _ => ?_)
    · intro y0 y1 y2 y3 y4 y5
      unfold laws_jqPathOf.j3
      repeat' first
      | (with_reducible exact ih0 _ _ _ _)
      | (with_reducible exact ih1 _ _ _ _ _)
      | (with_reducible exact ih2 _ _ _ _ _ _)
      | (with_reducible exact ih3 _ _ _ _ _ _)
      | (with_reducible exact ih4 _ _ _ _ _ _ _)
      | (with_reducible exact ih5 _ _ _ _ _ _)
      | (with_reducible exact ih6 _ _ _ _ _ _ _)
      | (with_reducible exact spec_DigitsOf.mono _ _)
      | (with_reducible exact spec_PlainPart.mono _ _)
      | (with_reducible exact LeO.refl _)
      | (with_reducible exact LeO.none _)
      | (with_reducible refine LeO.ite ?_ ?_)
      | (with_reducible refine LeO.bind ?_ (fun _ => ?_))
      | exact ih0 _ _ _ _
      | exact ih1 _ _ _ _ _
      | exact ih2 _ _ _ _ _ _
      | exact ih3 _ _ _ _ _ _
      | exact ih4 _ _ _ _ _ _ _
      | exact ih5 _ _ _ _ _ _
      | exact ih6 _ _ _ _ _ _ _
      | exact spec_DigitsOf.mono _ _
      | exact spec_PlainPart.mono _ _
      | exact LeO.none _
      | refine LeO.ite ?_ ?_
      | refine LeO.bind ?_ (fun _ => ?_)
    · intro y0 y1 y2 y3 y4 y5 y6
      unfold laws_jqPathOf.j4
      repeat' first
      | (with_reducible exact ih0 _ _ _ _)
      | (with_reducible exact ih1 _ _ _ _ _)
      | (with_reducible exact ih2 _ _ _ _ _ _)
      | (with_reducible exact ih3 _ _ _ _ _ _)
      | (with_reducible exact ih4 _ _ _ _ _ _ _)
      | (with_reducible exact ih5 _ _ _ _ _ _)
      | (with_reducible exact ih6 _ _ _ _ _ _ _)
      | (with_reducible exact spec_DigitsOf.mono _ _)
      | (with_reducible exact spec_PlainPart.mono _ _)
      | (with_reducible exact LeO.refl _)
      | (with_reducible exact LeO.none _)
      | (with_reducible refine LeO.ite ?_ ?_)
      | (with_reducible refine LeO.bind ?_ (fun _ => ?_))
      | exact ih0 _ _ _ _
      | exact ih1 _ _ _ _ _
      | exact ih2 _ _ _ _ _ _
      | exact ih3 _ _ _ _ _ _
      | exact ih4 _ _ _ _ _ _ _
      | exact ih5 _ _ _ _ _ _
      | exact ih6 _ _ _ _ _ _ _
      | exact spec_DigitsOf.mono _ _
      | exact spec_PlainPart.mono _ _
      | exact LeO.none _
      | refine LeO.ite ?_ ?_
      | refine LeO.bind ?_ (fun _ => ?_)
    · intro y0 y1 y2 y3 y4 y5
      unfold laws_jqPathOf.j5
      repeat' first
      | (with_reducible exact ih0 _ _ _ _)
      | (with_reducible exact ih1 _ _ _ _ _)
      | (with_reducible exact ih2 _ _ _ _ _ _)
      | (with_reducible exact ih3 _ _ _ _ _ _)
      | (with_reducible exact ih4 _ _ _ _ _ _ _)
      | (with_reducible exact ih5 _ _ _ _ _ _)
      | (with_reducible exact ih6 _ _ _ _ _ _ _)
      | (with_reducible exact spec_DigitsOf.mono _ _)
      | (with_reducible exact spec_PlainPart.mono _ _)
      | (with_reducible exact LeO.refl _)
      | (with_reducible exact LeO.none _)
      | (with_reducible refine LeO.ite ?_ ?_)
      | (with_reducible refine LeO.bind ?_ (fun _ => ?_))
      | exact ih0 _ _ _ _
      | exact ih1 _ _ _ _ _
      | exact ih2 _ _ _ _ _ _
      | exact ih3 _ _ _ _ _ _
      | exact ih4 _ _ _ _ _ _ _
      | exact ih5 _ _ _ _ _ _
      | exact ih6 _ _ _ _ _ _ _
      | exact spec_DigitsOf.mono _ _
      | exact spec_PlainPart.mono _ _
      | exact LeO.none _
      | refine LeO.ite ?_ ?_
      | refine LeO.bind ?_ (fun _ => ?_)
    · intro y0 y1 y2 y3 y4 y5 y6
      unfold laws_jqPathOf.l1
      repeat' first
      | (with_reducible exact ih0 _ _ _ _)
      | (with_reducible exact ih1 _ _ _ _ _)
      | (with_reducible exact ih2 _ _ _ _ _ _)
      | (with_reducible exact ih3 _ _ _ _ _ _)
      | (with_reducible exact ih4 _ _ _ _ _ _ _)
      | (with_reducible exact ih5 _ _ _ _ _ _)
      | (with_reducible exact ih6 _ _ _ _ _ _ _)
      | (with_reducible exact spec_DigitsOf.mono _ _)
      | (with_reducible exact spec_PlainPart.mono _ _)
      | (with_reducible exact LeO.refl _)
      | (with_reducible exact LeO.none _)
      | (with_reducible refine LeO.ite ?_ ?_)
      | (with_reducible refine LeO.bind ?_ (fun _ => ?_))
      | exact ih0 _ _ _ _
      | exact ih1 _ _ _ _ _
      | exact ih2 _ _ _ _ _ _
      | exact ih3 _ _ _ _ _ _
      | exact ih4 _ _ _ _ _ _ _
      | exact ih5 _ _ _ _ _ _
      | exact ih6 _ _ _ _ _ _ _
      | exact spec_DigitsOf.mono _ _
      | exact spec_PlainPart.mono _ _
      | exact LeO.none _
      | refine LeO.ite ?_ ?_
      | refine LeO.bind ?_ (fun _ => ?_)
theorem laws_jqPathOf.mono : ∀ a0 a1 a2 k, LeO (laws_jqPathOf.f k a0 a1 a2) (laws_jqPathOf.f (k + 1) a0 a1 a2) := by
  intro a0 a1 a2 k
  obtain ⟨ih0, ih1, ih2, ih3, ih4, ih5, ih6⟩ := laws_jqPathOf.mono_l k
  unfold laws_jqPathOf.f
  repeat' first
      | (with_reducible exact ih0 _ _ _ _)
      | (with_reducible exact ih1 _ _ _ _ _)
      | (with_reducible exact ih2 _ _ _ _ _ _)
      | (with_reducible exact ih3 _ _ _ _ _ _)
      | (with_reducible exact ih4 _ _ _ _ _ _ _)
      | (with_reducible exact ih5 _ _ _ _ _ _)
      | (with_reducible exact ih6 _ _ _ _ _ _ _)
      | (with_reducible exact spec_DigitsOf.mono _ _)
      | (with_reducible exact spec_PlainPart.mono _ _)
      | (with_reducible exact LeO.refl _)
      | (with_reducible exact LeO.none _)
      | (with_reducible refine LeO.ite ?_ ?_)
      | (with_reducible refine LeO.bind ?_ (fun _ => ?_))
      | exact ih0 _ _ _ _
      | exact ih1 _ _ _ _ _
      | exact ih2 _ _ _ _ _ _
      | exact ih3 _ _ _ _ _ _
      | exact ih4 _ _ _ _ _ _ _
      | exact ih5 _ _ _ _ _ _
      | exact ih6 _ _ _ _ _ _ _
      | exact spec_DigitsOf.mono _ _
      | exact spec_PlainPart.mono _ _
      | exact LeO.none _
      | refine LeO.ite ?_ ?_
      | refine LeO.bind ?_ (fun _ => ?_)
set_option maxHeartbeats 8000000 in
set_option maxRecDepth 100000 in
theorem laws_jqPathOf.calls (k : Nat) (A0 : Option Addr) (c0 : Nat) (l0 : List ByteArray) (A1 : Option Addr) (c1 : Nat) (l1 : List Int) (a2 : Bool) (r1 : ByteArray) (r2 : List ByteArray) (w : World) (hr0 : Kd.C Kd.string w A0 l0.length l0) (hc0 : l0.length ≤ c0) (hr1 : Kd.C (Kd.int .u8) w A1 l1.length l1) (hc1 : l1.length ≤ c1) (h : laws_jqPathOf.f k l0 l1 a2 = some (r1, r2)) :
    Calls Tryd.prog 6 #[.slice A0 l0.length c0, .slice A1 l1.length c1, .bool a2] w fun e w' => ∃ v1_ : Value, e = .returned (.tuple #[.string r1, v1_]) ∧ Kd.R Kd.string 9 w' w.heap.size (fun _ => True) v1_ r2 ∧ Below w.heap.size w w' := by
 have hu37 := Tryd.underlying37
 have HR0 := Aside0.mk hr0
 have HC0 := Aside0.mk hc0
 clear hr0 hc0
 have HR1 := Aside0.mk hr1
 have HC1 := Aside0.mk hc1
 clear hr1 hc1
 have HB := Aside0.mk (Below.refl w.heap.size w)
 have H : ((some (([] : List ByteArray) : List ByteArray)).bind fun y113 => (if a2 = true then (laws_jqPathOf.j0 k l0 l1 (⟨#[36]⟩ : ByteArray) y113) else (laws_jqPathOf.j0 k l0 l1 (⟨#[]⟩ : ByteArray) y113))) = some (r1, r2) := h
 clear h
 obtain ⟨y113, hy113⟩ : ∃ y_ : List ByteArray, y_ = (([] : List ByteArray)) := ⟨_, rfl⟩
 replace H : (if a2 = true then (laws_jqPathOf.j0 k l0 l1 (⟨#[36]⟩ : ByteArray) y113) else (laws_jqPathOf.j0 k l0 l1 (⟨#[]⟩ : ByteArray) y113)) = some (r1, r2) := by first | (rw [hy113]; with_reducible exact H) | (have H2_ := (Option.bind_some _ _).symm.trans H; rw [hy113]; with_reducible exact H2_) | (have H2_ := (Option.bind_some _ _).symm.trans H; with_reducible exact H2_) | with_reducible exact H | (rw [hy113]; exact H) | exact H
 have Ny113 := Aside0.mk hy113
 clear hy113
 have HC4 := Aside0.mk H
 clear H
 go_enter Tryd.func6, Tryd.ntmps6
 go_upto_if 15 with (first | ((with_reducible refine gate_dst (N := 14) rfl ?_); refine Kd.R_lit Kd.string _ 9 ?hg (N := 14) ?hd (xs := ([] : List ByteArray)) (inner := []) (ok := fun _ => True) (okp := fun _ => True) ?hr ?hp (fun _ hk => hk) trivial (Below.refl _ _) (Nat.le_refl _) (by simp) ?_; (case hd => rfl); (case hg => rfl); (case hr => first | (go_simp; done) | (go_simp; rfl)); (case hp => exact (Reps.none _ _)); intro v114 w5 ho6 hb hg_ hnew_; clear hg_ hnew_; (first | rw [← Ny113.out] at ho6 | (simp only [Int.reduceToNat] at ho6; rw [← Ny113.out] at ho6)); have n0_ := Aside0.mk (Kd.R_lower ho6 (below_size (by repeat (first | (with_reducible first | exact HB.out | apply below_alloc | apply pw_below_drewN | apply below_drew1) | exact HB.out)))); have n1_ := Aside0.mk (below_step (by repeat (first | (with_reducible first | exact HB.out | apply below_alloc | apply pw_below_drewN | apply below_drew1) | exact HB.out)) hb); clear HB; have HO115 := n0_; have HB := n1_; clear n0_ n1_; clear hb ho6))
 (try simp only [Act.put, List.setIfInBounds_toArray, List.set_cons_zero, List.set_cons_succ])
 go_cut [8] (fun v8 wc => ∃ (kq : Nat) (x8_3 : ByteArray), v8 = .string x8_3 ∧ Aside0 (laws_jqPathOf.j0 kq l0 l1 x8_3 y113 = some (r1, r2)) ∧ Aside0 (kq ≤ k) ∧ Aside0 (Kd.R Kd.string 9 wc w.heap.size (fun _ => True) v114 y113) ∧ Aside0 (Below w.heap.size w wc))
 case first =>
  have H := HC4.out
  clear HC4
  by_cases c7 : a2 = true
  ·
   subst c7
   have H1 : (laws_jqPathOf.j0 k l0 l1 (⟨#[36]⟩ : ByteArray) y113) = some (r1, r2) := by rw [if_pos rfl] at H; exact H
   clear H
   have H := H1
   clear H1
   have H' := Aside0.mk H
   clear H
   go_wp2
   go_meet
   case rel => exact ⟨_, ((⟨#[36]⟩ : ByteArray)), (by first | rfl | (simp; done) | (simp [nil_ne_, nil_eq_]; done) | (simp [*]; done)), H', ⟨by first | omega | exact Nat.le_refl _⟩, ⟨by (with_reducible repeat (first | apply Kd.R_alloc | apply Kd.R_drewN | apply Kd.R_drew)); exact HO115.out⟩, ⟨by repeat (first | (with_reducible first | exact HB.out | apply below_alloc | apply pw_below_drewN | apply below_drew1) | exact HB.out)⟩⟩
  ·
   replace c7 := Bool.eq_false_iff.mpr c7
   subst c7
   have H1 : (laws_jqPathOf.j0 k l0 l1 (⟨#[]⟩ : ByteArray) y113) = some (r1, r2) := by rw [if_neg (show ¬ (false = true) by decide)] at H; exact H
   clear H
   have H := H1
   clear H1
   have H' := Aside0.mk H
   clear H
   go_wp2
   go_meet
   case rel => exact ⟨_, ((⟨#[]⟩ : ByteArray)), (by first | rfl | (simp; done) | (simp [nil_ne_, nil_eq_]; done) | (simp [*]; done)), H', ⟨by first | omega | exact Nat.le_refl _⟩, ⟨by (with_reducible repeat (first | apply Kd.R_alloc | apply Kd.R_drewN | apply Kd.R_drew)); exact HO115.out⟩, ⟨by repeat (first | (with_reducible first | exact HB.out | apply below_alloc | apply pw_below_drewN | apply below_drew1) | exact HB.out)⟩⟩
 case rest =>
  clear HC4
  try clear c1
  try clear p2
  try clear c6
  try clear c7
  obtain ⟨kq, x8_3, rfl, HA, HJ3, HO_9, HB⟩ := hcut
  cases kq with
  | zero => exact absurd HA.out (by simp [laws_jqPathOf.j0])
  | succ kj3 =>
   have H := HA.out
   clear HA
   simp only [laws_jqPathOf.j0] at H
   have H' := Aside0.mk H
   clear H
   go_wp2
   try simp only [Act.put, List.setIfInBounds_toArray, List.set_cons_succ, List.set_cons_zero]
   go_loopg [8, 9, 10] kj3 (fun kq v8 v9 v10 w' => ∃ (x8_2 : ByteArray) (x9_2 : List ByteArray) (x10_2 : Int), v8 = .string x8_2 ∧ v10 = .int .i64 x10_2 ∧ Aside0 (laws_jqPathOf.l0 kq l0 l1 x8_2 x9_2 x10_2 = some (r1, r2)) ∧ Aside0 (kq ≤ kj3) ∧ Aside0 (Kd.R Kd.string 9 w' w.heap.size (fun _ => True) v9 x9_2) ∧ Aside0 (Below w.heap.size w w'))
   case atStart => exact ⟨(x8_3), (y113), (0), (by first | rfl | (simp; done) | (simp [nil_ne_, nil_eq_]; done) | (simp [*]; done)), (by first | rfl | (simp; done) | (simp [nil_ne_, nil_eq_]; done) | (simp [*]; done)), H', ⟨Nat.le_refl _⟩, ⟨by (with_reducible repeat (first | apply Kd.R_alloc | apply Kd.R_drewN | apply Kd.R_drew)); exact HO_9.out⟩, ⟨by repeat (first | (with_reducible first | exact HB.out | apply below_alloc | apply pw_below_drewN | apply below_drew1) | exact HB.out)⟩⟩
   case round =>
    clear H'
    try clear c1
    try clear p2
    try clear c6
    try clear c7
    try clear p2
    obtain ⟨x8_2, x9_2, x10_2, rfl, rfl, HA, HK2, HO_9, HB⟩ := hrel
    cases gk with
    | zero => exact absurd HA.out (by simp [laws_jqPathOf.l0])
    | succ k2 =>
     have H := HA.out
     clear HA
     simp only [laws_jqPathOf.l0] at H
     by_cases c8 : x10_2 < (l0.length : Int)
     ·
      rw [if_pos c8] at H
      have c8b0 : decide (x10_2 < (l0.length : Int)) = true := decide_eq_true c8
      clear c8
      have HC9 := Aside0.mk H
      clear H
      go_upto_if 24 with (fail)
      go_cut [11] (fun v11 wc => ∃ (kq : Nat) (x11_8 : Int), v11 = .int .u8 x11_8 ∧ Aside0 (laws_jqPathOf.j2 kq l0 l1 x8_2 x9_2 x10_2 x11_8 = some (r1, r2)) ∧ Aside0 (kq ≤ k2) ∧ Aside0 (Kd.R Kd.string 9 wc w.heap.size (fun _ => True) u9 x9_2) ∧ Aside0 (Below w.heap.size w wc))
      case first =>
       have H := HC9.out
       clear HC9
       by_cases c10 : (l1.length : Int) > 0
       ·
        rw [if_pos c10] at H
        have c10b0 : decide (0 < (l1.length : Int)) = true := decide_eq_true c10
        have c10b1 : decide (0 < l1.length) = true := decide_eq_true (by omega)
        clear c10
        (first | rw [c10b0] | (simp only [i64_w, i32_w]; rw [c10b0]) | rw [c10b1] | skip)
        by_cases c11 : (l1.length : Int) = 0
        ·
         rw [if_pos c11] at H
         exact absurd H (by simp)
        ·
         rw [if_neg c11] at H
         have c11b0 : ((l1.length : Int) == 0) = false := beq_eq_false_iff_ne.mpr c11
         have c11b1 : ((l1.length : Int) != 0) = true := bne_iff_ne.mpr c11
         have c11b2 : ¬ (l1 = []) := fun h_ => c11 (by rw [h_]; rfl)
         obtain ⟨ji12, hji12⟩ : ∃ j_ : Int, (Int.tmod x10_2 (l1.length : Int)) = j_ := ⟨_, rfl⟩
         replace H : (if 0 ≤ (ji12) then (if (ji12) < (l1.length : Int) then (laws_jqPathOf.j2 k2 l0 l1 x8_2 x9_2 x10_2 (rd l1 (ji12))) else (none)) else (none)) = some (r1, r2) := by first | (rw [hji12] at H; exact H) | (simp only [hji12] at H ⊢; exact H)
         by_cases c13 : 0 ≤ (ji12)
         ·
          rw [if_pos c13] at H
          have c13b0 : decide (0 ≤ (ji12)) = true := decide_eq_true c13
          clear c13
          by_cases c14 : (ji12) < (l1.length : Int)
          ·
           rw [if_pos c14] at H
           have c14b0 : decide ((ji12) < (l1.length : Int)) = true := decide_eq_true c14
           clear c14
           have H' := Aside0.mk H
           clear H
           have p116 : 0 ≤ ((ji12) : Int) := of_decide_eq_true (by first | (with_reducible assumption) | assumption)
           have q116 : (ji12) < (l1.length : Int) := of_decide_eq_true (by first | (with_reducible assumption) | assumption)
           obtain ⟨ad116, e116, hx116_0⟩ := Kd.at_int HR1.out (ji12) p116 q116
           cases e116
           replace hx116_0 := (HB.out.cell (World.block_lt_of_cell? w _ hx116_0)).trans hx116_0
           replace p116 := eq_true p116
           replace q116 := eq_true q116
           go_wp2
           go_meet
           case rel => exact ⟨_, (rd l1 (ji12)), (by first | rfl | (simp; done) | (simp only [← hji12] <;> (first | rfl | simp); done) | (simp [nil_ne_, nil_eq_]; done) | (simp [*]; done)), (by first | exact H' | (rw [hji12]; exact H') | (simp only [hji12]; exact H') | (simp only [hji12] at H' ⊢; exact H')), ⟨by have := HJ3.out; have := HK2.out; first | omega | exact Nat.le_refl _⟩, ⟨by (with_reducible repeat (first | apply Kd.R_alloc | apply Kd.R_drewN | apply Kd.R_drew)); exact HO_9.out⟩, ⟨by repeat (first | (with_reducible first | exact HB.out | apply below_alloc | apply pw_below_drewN | apply below_drew1) | exact HB.out)⟩⟩
          ·
           rw [if_neg c14] at H
           exact absurd H (by simp)
         ·
          rw [if_neg c13] at H
          exact absurd H (by simp)
       ·
        rw [if_neg c10] at H
        have c10b0 : decide (0 < (l1.length : Int)) = false := decide_eq_false c10
        have c10b1 : decide (0 < l1.length) = false := decide_eq_false (by omega)
        clear c10
        (first | rw [c10b0] | (simp only [i64_w, i32_w]; rw [c10b0]) | rw [c10b1] | skip)
        have H' := Aside0.mk H
        clear H
        go_wp2
        go_meet
        case rel => exact ⟨_, (0), (by first | rfl | (simp; done) | (simp [nil_ne_, nil_eq_]; done) | (simp [*]; done)), H', ⟨by have := HJ3.out; have := HK2.out; first | omega | exact Nat.le_refl _⟩, ⟨by (with_reducible repeat (first | apply Kd.R_alloc | apply Kd.R_drewN | apply Kd.R_drew)); exact HO_9.out⟩, ⟨by repeat (first | (with_reducible first | exact HB.out | apply below_alloc | apply pw_below_drewN | apply below_drew1) | exact HB.out)⟩⟩
      case rest =>
       clear HC9
       try clear c1
       try clear p1
       try clear q1
       try clear hx1
       try clear p2
       try clear c6
       try clear c7
       try clear c8
       try clear c8b0
       try clear c10
       try clear c10b0
       try clear c10b1
       try clear c11
       try clear c11b0
       try clear c11b1
       try clear c11b2
       try clear p11
       try clear q11
       try clear hx11
       try clear c13
       try clear c13b0
       try clear c14
       try clear c14b0
       try clear hx116_0
       try clear p116
       try clear p2
       try clear q116
       obtain ⟨kq, x11_8, rfl, HA, HJ8, HO_9, HB⟩ := hcut
       cases kq with
       | zero => exact absurd HA.out (by simp [laws_jqPathOf.j2])
       | succ kj8 =>
        have H := HA.out
        clear HA
        simp only [laws_jqPathOf.j2] at H
        have HC15 := Aside0.mk H
        clear H
        go_upto_if 33 with (fail)
        go_cut [8] (fun v8 wc => ∃ (kq : Nat) (x8_14 : ByteArray), v8 = .string x8_14 ∧ Aside0 (laws_jqPathOf.j3 kq l0 l1 x8_14 x9_2 x10_2 x11_8 = some (r1, r2)) ∧ Aside0 (kq ≤ kj8) ∧ Aside0 (Kd.R Kd.string 9 wc w.heap.size (fun _ => True) u9 x9_2) ∧ Aside0 (Below w.heap.size w wc))
        case first =>
         have H := HC15.out
         clear HC15
         by_cases c16 : x8_2.toList = ([] : List UInt8)
         ·
          rw [if_pos c16] at H
          have c16b0 : (x8_2.toList == ([] : List UInt8)) = true := beq_iff_eq.mpr c16
          have c16b1 : (x8_2.toList != ([] : List UInt8)) = false := bne_eq_false_iff_eq.mpr c16
          clear c16
          try (have c16be := c16b0; simp only [nil_eq_] at c16be)
          try rw [c16be]
          (first | rw [c16b0] | (simp only [i64_w, i32_w]; rw [c16b0]) | rw [c16b1] | skip)
          have H' := Aside0.mk H
          clear H
          go_wp2
          go_meet
          case rel => exact ⟨_, (x8_2), (by first | rfl | (simp; done) | (simp [nil_ne_, nil_eq_]; done) | (simp [*]; done)), H', ⟨by have := HJ3.out; have := HK2.out; have := HJ8.out; first | omega | exact Nat.le_refl _⟩, ⟨by (with_reducible repeat (first | apply Kd.R_alloc | apply Kd.R_drewN | apply Kd.R_drew)); exact HO_9.out⟩, ⟨by repeat (first | (with_reducible first | exact HB.out | apply below_alloc | apply pw_below_drewN | apply below_drew1) | exact HB.out)⟩⟩
         ·
          rw [if_neg c16] at H
          have c16b0 : (x8_2.toList == ([] : List UInt8)) = false := beq_eq_false_iff_ne.mpr c16
          have c16b1 : (x8_2.toList != ([] : List UInt8)) = true := bne_iff_ne.mpr c16
          try (have c16be := c16b0; simp only [nil_eq_] at c16be)
          try rw [c16be]
          (first | rw [c16b0] | (simp only [i64_w, i32_w]; rw [c16b0]) | rw [c16b1] | skip)
          by_cases c17 : x8_2.size + 1 ≤ 9223372036854775807
          ·
           rw [if_pos c17] at H
           have c17b0 := eq_true c17
           have c17b1 : decide (x8_2.size + 1 ≤ 9223372036854775807) = true := decide_eq_true c17
           try have c17b2 : (9223372036854775807 < x8_2.size + 1) = False := eq_false (Nat.not_lt.2 c17)
           have H' := Aside0.mk H
           clear H
           go_wp2
           go_meet
           case rel => exact ⟨_, (x8_2 ++ (⟨#[46]⟩ : ByteArray)), (by first | rfl | (simp; done) | (simp [nil_ne_, nil_eq_]; done) | (simp [*]; done)), H', ⟨by have := HJ3.out; have := HK2.out; have := HJ8.out; first | omega | exact Nat.le_refl _⟩, ⟨by (with_reducible repeat (first | apply Kd.R_alloc | apply Kd.R_drewN | apply Kd.R_drew)); exact HO_9.out⟩, ⟨by repeat (first | (with_reducible first | exact HB.out | apply below_alloc | apply pw_below_drewN | apply below_drew1) | exact HB.out)⟩⟩
          ·
           rw [if_neg c17] at H
           exact absurd H (by simp)
        case rest =>
         clear HC15
         try clear c1
         try clear p1
         try clear q1
         try clear hx1
         try clear p2
         try clear c6
         try clear c7
         try clear c8
         try clear c8b0
         try clear c10
         try clear c10b0
         try clear c10b1
         try clear c11
         try clear c11b0
         try clear c11b1
         try clear c11b2
         try clear p11
         try clear q11
         try clear hx11
         try clear c13
         try clear c13b0
         try clear c14
         try clear c14b0
         try clear c16
         try clear c16b0
         try clear c16b1
         try clear c17
         try clear c17b0
         try clear c17b1
         try clear c17b2
         try clear hx116_0
         try clear p1
         try clear p11
         try clear p116
         try clear p2
         try clear q1
         try clear q11
         try clear q116
         obtain ⟨kq, x8_14, rfl, HA, HJ14, HO_9, HB⟩ := hcut
         cases kq with
         | zero => exact absurd HA.out (by simp [laws_jqPathOf.j3])
         | succ kj14 =>
          have H := HA.out
          clear HA
          simp only [laws_jqPathOf.j3] at H
          have HC18 := Aside0.mk H
          clear H
          go_upto_region 12 with (fail)
          go_cut [45] (fun v45 wc => ∃ (kq : Nat) (x45_17 : Bool), v45 = .bool x45_17 ∧ Aside0 (laws_jqPathOf.j4 kq l0 l1 x8_14 x9_2 x10_2 x11_8 x45_17 = some (r1, r2)) ∧ Aside0 (kq ≤ kj14) ∧ Aside0 (Kd.R Kd.string 9 wc w.heap.size (fun _ => True) u9 x9_2) ∧ Aside0 (Below w.heap.size w wc))
          case first =>
           have H := HC18.out
           clear HC18
           by_cases c19 : 0 ≤ x10_2
           ·
            rw [if_pos c19] at H
            have c19b0 : decide (0 ≤ x10_2) = true := decide_eq_true c19
            clear c19
            (first | rw [c19b0] | (simp only [i64_w, i32_w]; rw [c19b0]) | rw [c19b1] | skip)
            by_cases c20 : x10_2 < (l0.length : Int)
            ·
             rw [if_pos c20] at H
             have c20b0 : decide (x10_2 < (l0.length : Int)) = true := decide_eq_true c20
             clear c20
             replace H := Option.bind_eq_some_iff.mp H
             obtain ⟨t118, A210, H⟩ := H
             replace H : (if t118 = true then (laws_jqPathOf.j4 kj14 l0 l1 x8_14 x9_2 x10_2 x11_8 ((Int.tmod x11_8 2) == 0)) else (laws_jqPathOf.j4 kj14 l0 l1 x8_14 x9_2 x10_2 x11_8 false)) = some (r1, r2) := H
             have A21 := Aside0.mk A210
             clear A210
             by_cases c22 : t118 = true
             ·
              subst c22
              have H1 : (laws_jqPathOf.j4 kj14 l0 l1 x8_14 x9_2 x10_2 x11_8 ((Int.tmod x11_8 2) == 0)) = some (r1, r2) := by rw [if_pos rfl] at H; exact H
              clear H
              have H := H1
              clear H1
              have H' := Aside0.mk H
              clear H
              have p117 : 0 ≤ (x10_2 : Int) := of_decide_eq_true (by first | (with_reducible assumption) | assumption)
              have q117 : x10_2 < (l0.length : Int) := of_decide_eq_true (by first | (with_reducible assumption) | assumption)
              obtain ⟨ad117, e117, hx117_0⟩ := Kd.at_string HR0.out x10_2 p117 q117
              cases e117
              replace hx117_0 := (HB.out.cell (World.block_lt_of_cell? w _ hx117_0)).trans hx117_0
              replace p117 := eq_true p117
              replace q117 := eq_true q117
              go_wp2_with (first | ((with_reducible refine gate_callee (f := 10) rfl ?_); refine goesL_ (some 40) rfl rfl Tryd.func10 (by kernel_rfl) rfl #[.string (rdOf ByteArray.empty l0 x10_2)] rfl (by (try simp only [List.map_toArray, List.map_cons, List.map_nil]); first | done | rfl | (simp only [List.length_drop, List.length_take]; rfl)) ?_; (with_reducible refine (spec_PlainPart.calls kj14 (rdOf ByteArray.empty l0 x10_2) true _ A21.out).mono ?_); rintro e w' ⟨rfl, ⟨nd, rfl⟩⟩; refine ⟨_, rfl, ?_⟩))
              go_meet
              case rel => exact ⟨_, (((Int.tmod x11_8 2) == 0)), (by first | rfl | (simp; done) | (simp [nil_ne_, nil_eq_]; done) | (simp [*]; done)), H', ⟨by have := HJ3.out; have := HK2.out; have := HJ8.out; have := HJ14.out; first | omega | exact Nat.le_refl _⟩, ⟨by (with_reducible repeat (first | apply Kd.R_alloc | apply Kd.R_drewN | apply Kd.R_drew)); exact HO_9.out⟩, ⟨by repeat (first | (with_reducible first | exact HB.out | apply below_alloc | apply pw_below_drewN | apply below_drew1) | exact HB.out)⟩⟩
             ·
              replace c22 := Bool.eq_false_iff.mpr c22
              subst c22
              have H1 : (laws_jqPathOf.j4 kj14 l0 l1 x8_14 x9_2 x10_2 x11_8 false) = some (r1, r2) := by rw [if_neg (show ¬ (false = true) by decide)] at H; exact H
              clear H
              have H := H1
              clear H1
              have H' := Aside0.mk H
              clear H
              have p117 : 0 ≤ (x10_2 : Int) := of_decide_eq_true (by first | (with_reducible assumption) | assumption)
              have q117 : x10_2 < (l0.length : Int) := of_decide_eq_true (by first | (with_reducible assumption) | assumption)
              obtain ⟨ad117, e117, hx117_0⟩ := Kd.at_string HR0.out x10_2 p117 q117
              cases e117
              replace hx117_0 := (HB.out.cell (World.block_lt_of_cell? w _ hx117_0)).trans hx117_0
              replace p117 := eq_true p117
              replace q117 := eq_true q117
              go_wp2_with (first | ((with_reducible refine gate_callee (f := 10) rfl ?_); refine goesL_ (some 40) rfl rfl Tryd.func10 (by kernel_rfl) rfl #[.string (rdOf ByteArray.empty l0 x10_2)] rfl (by (try simp only [List.map_toArray, List.map_cons, List.map_nil]); first | done | rfl | (simp only [List.length_drop, List.length_take]; rfl)) ?_; (with_reducible refine (spec_PlainPart.calls kj14 (rdOf ByteArray.empty l0 x10_2) false _ A21.out).mono ?_); rintro e w' ⟨rfl, ⟨nd, rfl⟩⟩; refine ⟨_, rfl, ?_⟩))
              go_meet
              case rel => exact ⟨_, (false), (by first | rfl | (simp; done) | (simp [nil_ne_, nil_eq_]; done) | (simp [*]; done)), H', ⟨by have := HJ3.out; have := HK2.out; have := HJ8.out; have := HJ14.out; first | omega | exact Nat.le_refl _⟩, ⟨by (with_reducible repeat (first | apply Kd.R_alloc | apply Kd.R_drewN | apply Kd.R_drew)); exact HO_9.out⟩, ⟨by repeat (first | (with_reducible first | exact HB.out | apply below_alloc | apply pw_below_drewN | apply below_drew1) | exact HB.out)⟩⟩
            ·
             rw [if_neg c20] at H
             exact absurd H (by simp)
           ·
            rw [if_neg c19] at H
            exact absurd H (by simp)
          case rest =>
           clear HC18
           try clear c1
           try clear p1
           try clear q1
           try clear hx1
           try clear c2
           try clear p2
           try clear c6
           try clear c7
           try clear c8
           try clear c8b0
           try clear c10
           try clear c10b0
           try clear c10b1
           try clear c11
           try clear c11b0
           try clear c11b1
           try clear c11b2
           try clear p11
           try clear q11
           try clear hx11
           try clear c13
           try clear c13b0
           try clear c14
           try clear c14b0
           try clear c16
           try clear c16b0
           try clear c16b1
           try clear c17
           try clear c17b0
           try clear c17b1
           try clear c17b2
           try clear c19
           try clear c19b0
           try clear c19b1
           try clear c20
           try clear c20b0
           try clear c22
           try clear hx116_0
           try clear hx117_0
           try clear p1
           try clear p11
           try clear p116
           try clear p117
           try clear p2
           try clear q1
           try clear q11
           try clear q116
           try clear q117
           obtain ⟨kq, x45_17, rfl, HA, HJ17, HO_9, HB⟩ := hcut
           cases kq with
           | zero => exact absurd HA.out (by simp [laws_jqPathOf.j4])
           | succ kj17 =>
            have H := HA.out
            clear HA
            simp only [laws_jqPathOf.j4] at H
            have HC23 := Aside0.mk H
            clear H
            go_upto_if 45 with (fail)
            go_cut [8] (fun v8 wc => ∃ (kq : Nat) (x8_22 : ByteArray), v8 = .string x8_22 ∧ Aside0 (laws_jqPathOf.j5 kq l0 l1 x8_22 x9_2 x10_2 x11_8 = some (r1, r2)) ∧ Aside0 (kq ≤ kj17) ∧ Aside0 (Kd.R Kd.string 9 wc w.heap.size (fun _ => True) u9 x9_2) ∧ Aside0 (Below w.heap.size w wc))
            case first =>
             have H := HC23.out
             clear HC23
             by_cases c24 : x45_17 = true
             ·
              subst c24
              have H1 : (if 0 ≤ x10_2 then (if x10_2 < (l0.length : Int) then (if x8_14.size + (rdOf ByteArray.empty l0 x10_2).size ≤ 9223372036854775807 then (laws_jqPathOf.j5 kj17 l0 l1 (x8_14 ++ (rdOf ByteArray.empty l0 x10_2)) x9_2 x10_2 x11_8) else (none)) else (none)) else (none)) = some (r1, r2) := by rw [if_pos rfl] at H; exact H
              clear H
              have H := H1
              clear H1
              by_cases c25 : 0 ≤ x10_2
              ·
               rw [if_pos c25] at H
               have c25b0 : decide (0 ≤ x10_2) = true := decide_eq_true c25
               clear c25
               (first | rw [c25b0] | (simp only [i64_w, i32_w]; rw [c25b0]) | rw [c25b1] | skip)
               by_cases c26 : x10_2 < (l0.length : Int)
               ·
                rw [if_pos c26] at H
                have c26b0 : decide (x10_2 < (l0.length : Int)) = true := decide_eq_true c26
                clear c26
                by_cases c27 : x8_14.size + (rdOf ByteArray.empty l0 x10_2).size ≤ 9223372036854775807
                ·
                 rw [if_pos c27] at H
                 have c27b0 := eq_true c27
                 have c27b1 : decide (x8_14.size + (rdOf ByteArray.empty l0 x10_2).size ≤ 9223372036854775807) = true := decide_eq_true c27
                 try have c27b2 : (9223372036854775807 < x8_14.size + (rdOf ByteArray.empty l0 x10_2).size) = False := eq_false (Nat.not_lt.2 c27)
                 have H' := Aside0.mk H
                 clear H
                 have p119 : 0 ≤ (x10_2 : Int) := of_decide_eq_true (by first | (with_reducible assumption) | assumption)
                 have q119 : x10_2 < (l0.length : Int) := of_decide_eq_true (by first | (with_reducible assumption) | assumption)
                 obtain ⟨ad119, e119, hx119_0⟩ := Kd.at_string HR0.out x10_2 p119 q119
                 cases e119
                 replace hx119_0 := (HB.out.cell (World.block_lt_of_cell? w _ hx119_0)).trans hx119_0
                 replace p119 := eq_true p119
                 replace q119 := eq_true q119
                 go_wp2
                 go_meet
                 case rel => exact ⟨_, (x8_14 ++ (rdOf ByteArray.empty l0 x10_2)), (by first | rfl | (simp; done) | (simp [nil_ne_, nil_eq_]; done) | (simp [*]; done)), H', ⟨by have := HJ3.out; have := HK2.out; have := HJ8.out; have := HJ14.out; have := HJ17.out; first | omega | exact Nat.le_refl _⟩, ⟨by (with_reducible repeat (first | apply Kd.R_alloc | apply Kd.R_drewN | apply Kd.R_drew)); exact HO_9.out⟩, ⟨by repeat (first | (with_reducible first | exact HB.out | apply below_alloc | apply pw_below_drewN | apply below_drew1) | exact HB.out)⟩⟩
                ·
                 rw [if_neg c27] at H
                 exact absurd H (by simp)
               ·
                rw [if_neg c26] at H
                exact absurd H (by simp)
              ·
               rw [if_neg c25] at H
               exact absurd H (by simp)
             ·
              replace c24 := Bool.eq_false_iff.mpr c24
              subst c24
              have H1 : (if 0 ≤ x10_2 then (if x10_2 < (l0.length : Int) then ((spec_Dress.f 4 (rdOf ByteArray.empty l0 x10_2) ([] : List ByteArray) ([] : List (S37)) ([] : List Int)).bind fun t121 => (if x8_14.size + t121.size ≤ 9223372036854775807 then (laws_jqPathOf.j5 kj17 l0 l1 (x8_14 ++ t121) x9_2 x10_2 x11_8) else (none))) else (none)) else (none)) = some (r1, r2) := by rw [if_neg (show ¬ (false = true) by decide)] at H; exact H
              clear H
              have H := H1
              clear H1
              by_cases c28 : 0 ≤ x10_2
              ·
               rw [if_pos c28] at H
               have c28b0 : decide (0 ≤ x10_2) = true := decide_eq_true c28
               clear c28
               by_cases c29 : x10_2 < (l0.length : Int)
               ·
                rw [if_pos c29] at H
                have c29b0 : decide (x10_2 < (l0.length : Int)) = true := decide_eq_true c29
                clear c29
                replace H := Option.bind_eq_some_iff.mp H
                obtain ⟨t121, A300, H⟩ := H
                replace H : (if x8_14.size + t121.size ≤ 9223372036854775807 then (laws_jqPathOf.j5 kj17 l0 l1 (x8_14 ++ t121) x9_2 x10_2 x11_8) else (none)) = some (r1, r2) := H
                have A30 := Aside0.mk A300
                clear A300
                by_cases c31 : x8_14.size + t121.size ≤ 9223372036854775807
                ·
                 rw [if_pos c31] at H
                 have c31b0 := eq_true c31
                 have c31b1 : decide (x8_14.size + t121.size ≤ 9223372036854775807) = true := decide_eq_true c31
                 try have c31b2 : (9223372036854775807 < x8_14.size + t121.size) = False := eq_false (Nat.not_lt.2 c31)
                 have H' := Aside0.mk H
                 clear H
                 have p120 : 0 ≤ (x10_2 : Int) := of_decide_eq_true (by first | (with_reducible assumption) | assumption)
                 have q120 : x10_2 < (l0.length : Int) := of_decide_eq_true (by first | (with_reducible assumption) | assumption)
                 obtain ⟨ad120, e120, hx120_0⟩ := Kd.at_string HR0.out x10_2 p120 q120
                 cases e120
                 replace hx120_0 := (HB.out.cell (World.block_lt_of_cell? w _ hx120_0)).trans hx120_0
                 replace p120 := eq_true p120
                 replace q120 := eq_true q120
                 go_wp2_with (first | ((with_reducible refine gate_callee (f := 11) rfl ?_); refine goesL_ (some 58) rfl rfl Tryd.func11 (by kernel_rfl) rfl #[.agg #[.int .i64 4, .string (rdOf ByteArray.empty l0 x10_2), .slice none 0 0, .slice none 0 0], .slice none 0 0] rfl (by (try simp only [List.map_toArray, List.map_cons, List.map_nil]); first | done | rfl | (simp only [List.length_drop, List.length_take]; rfl)) ?_; (refine (spec_Dress.calls 4 (rdOf ByteArray.empty l0 x10_2) _ _ ([] : List ByteArray) _ _ ([] : List (S37)) _ _ ([] : List Int) t121 _ ?side1 ?side2 ?side3 ?side4 ?side5 ?side6 A30.out).mono ?_); (case side1 => exact Kd.C_nil _ _); (case side2 => exact Nat.le_refl _); (case side3 => exact Kd.C_nil _ _); (case side4 => exact Nat.le_refl _); (case side5 => exact Kd.C_nil _ _); (case side6 => exact Nat.le_refl _); rintro e w32 ⟨rfl, hb⟩; refine ⟨_, rfl, ?_⟩; have n0_ := Aside0.mk (Kd.R_below (by (with_reducible repeat (first | apply Kd.R_alloc | apply Kd.R_drewN | apply Kd.R_drew)); exact HO_9.out) hb); have n1_ := Aside0.mk (below_step (by repeat (first | (with_reducible first | exact HB.out | apply below_alloc | apply pw_below_drewN | apply below_drew1) | exact HB.out)) hb); clear HO_9; clear HB; have HO_9 := n0_; have HB := n1_; clear n0_ n1_; (try clear hb); (try clear hb2); (try clear hk); (try clear hi)))
                 go_meet
                 case rel => exact ⟨_, (x8_14 ++ t121), (by first | rfl | (simp; done) | (simp [nil_ne_, nil_eq_]; done) | (simp [*]; done)), H', ⟨by have := HJ3.out; have := HK2.out; have := HJ8.out; have := HJ14.out; have := HJ17.out; first | omega | exact Nat.le_refl _⟩, ⟨by (with_reducible repeat (first | apply Kd.R_alloc | apply Kd.R_drewN | apply Kd.R_drew)); exact HO_9.out⟩, ⟨by repeat (first | (with_reducible first | exact HB.out | apply below_alloc | apply pw_below_drewN | apply below_drew1) | exact HB.out)⟩⟩
                ·
                 rw [if_neg c31] at H
                 exact absurd H (by simp)
               ·
                rw [if_neg c29] at H
                exact absurd H (by simp)
              ·
               rw [if_neg c28] at H
               exact absurd H (by simp)
            case rest =>
             clear HC23
             try clear c1
             try clear p1
             try clear q1
             try clear hx1
             try clear c2
             try clear p2
             try clear c3
             try clear c6
             try clear c7
             try clear c8
             try clear c8b0
             try clear c10
             try clear c10b0
             try clear c10b1
             try clear c11
             try clear c11b0
             try clear c11b1
             try clear c11b2
             try clear p11
             try clear q11
             try clear hx11
             try clear p12
             try clear q12
             try clear hx12
             try clear c13
             try clear c13b0
             try clear c14
             try clear c14b0
             try clear c16
             try clear c16b0
             try clear c16b1
             try clear c17
             try clear c17b0
             try clear c17b1
             try clear c17b2
             try clear c19
             try clear c19b0
             try clear c19b1
             try clear c20
             try clear c20b0
             try clear c22
             try clear c24
             try clear c25
             try clear c25b0
             try clear c25b1
             try clear c26
             try clear c26b0
             try clear c27
             try clear c27b0
             try clear c27b1
             try clear c27b2
             try clear c28
             try clear c28b0
             try clear c29
             try clear c29b0
             try clear c31
             try clear c31b0
             try clear c31b1
             try clear c31b2
             try clear hx116_0
             try clear hx117_0
             try clear hx119_0
             try clear hx120_0
             try clear p1
             try clear p11
             try clear p116
             try clear p117
             try clear p119
             try clear p120
             try clear p2
             try clear q1
             try clear q11
             try clear q116
             try clear q117
             try clear q119
             try clear q120
             obtain ⟨kq, x8_22, rfl, HA, HJ22, HO_9, HB⟩ := hcut
             cases kq with
             | zero => exact absurd HA.out (by simp [laws_jqPathOf.j5])
             | succ kj22 =>
              have H := HA.out
              clear HA
              simp only [laws_jqPathOf.j5] at H
              by_cases c33 : 0 ≤ x10_2
              ·
               rw [if_pos c33] at H
               have c33b0 : decide (0 ≤ x10_2) = true := decide_eq_true c33
               clear c33
               by_cases c34 : x10_2 < (l0.length : Int)
               ·
                rw [if_pos c34] at H
                have c34b0 : decide (x10_2 < (l0.length : Int)) = true := decide_eq_true c34
                clear c34
                by_cases c35 : x9_2.length < 8796093022208
                ·
                 rw [if_pos c35] at H
                 have LMc35 := Aside0.mk c35
                 clear c35
                 obtain ⟨y123, hy123⟩ : ∃ y_ : List ByteArray, y_ = (x9_2 ++ [rdOf ByteArray.empty l0 x10_2]) := ⟨_, rfl⟩
                 replace H : (laws_jqPathOf.l1 kj22 l0 l1 x8_22 y123 x10_2 x11_8 0) = some (r1, r2) := by first | (rw [hy123]; with_reducible exact H) | (have H2_ := (Option.bind_some _ _).symm.trans H; rw [hy123]; with_reducible exact H2_) | (have H2_ := (Option.bind_some _ _).symm.trans H; with_reducible exact H2_) | with_reducible exact H | (rw [hy123]; exact H) | exact H
                 have Ny123 := Aside0.mk hy123
                 clear hy123
                 have H' := Aside0.mk H
                 clear H
                 have p122 : 0 ≤ (x10_2 : Int) := of_decide_eq_true (by first | (with_reducible assumption) | assumption)
                 have q122 : x10_2 < (l0.length : Int) := of_decide_eq_true (by first | (with_reducible assumption) | assumption)
                 obtain ⟨ad122, e122, hx122_0⟩ := Kd.at_string HR0.out x10_2 p122 q122
                 cases e122
                 replace hx122_0 := (HB.out.cell (World.block_lt_of_cell? w _ hx122_0)).trans hx122_0
                 replace p122 := eq_true p122
                 replace q122 := eq_true q122
                 go_wp2_with (first | ((with_reducible refine gate_builtin (b := .append) (xs := #[.tmp 60, .tmp 65]) rfl ?_); at_builtin; refine Kd.R_append Kd.string (w0 := w) w.heap.size rfl (.tmp 60) (.tmp 65) 22 9 (.string ⟨#[]⟩) 16 rfl Tryd.underlying22 info9 rfl (by decide) (by omega) u9 x9_2 (rdOf ByteArray.empty l0 x10_2) [.string (rdOf ByteArray.empty l0 x10_2)] (fun _ => True) (fun _ => False) rfl rfl ?aP (fun _ hk => hk.elim) ?aF ?aO ?aB ?aS ?aL ?_; (case aP => exact rfl); (case aB => exact (by repeat (first | (with_reducible first | exact HB.out | apply below_alloc | apply pw_below_drewN | apply below_drew1) | exact HB.out))); (case aF => exact (fun _ _ => trivial)); (case aO => exact (by (with_reducible repeat (first | apply Kd.R_alloc | apply Kd.R_drewN | apply Kd.R_drew)); exact HO_9.out)); (case aS => exact (below_size (by repeat (first | (with_reducible first | exact HB.out | apply below_alloc | apply pw_below_drewN | apply below_drew1) | exact HB.out)))); (case aL => have := LMc35.out; omega); intro v124 w36 ho hb hg hat; rw [← Ny123.out] at ho; have n0_ := Aside0.mk (hb); have n1_ := Aside0.mk (ho); clear HB; clear HO_9; have HB := n0_; have HO125 := n1_; clear n0_ n1_; clear ho hb hg hat))
                 try simp only [Act.put, List.setIfInBounds_toArray, List.set_cons_succ, List.set_cons_zero]
                 go_loopg [8, 9, 12] kj22 (fun kq v8 v9 v12 w' => ∃ (x8_7 : ByteArray) (x9_7 : List ByteArray) (x12_7 : Int), v8 = .string x8_7 ∧ v12 = .int .i64 x12_7 ∧ Aside0 (laws_jqPathOf.l1 kq l0 l1 x8_7 x9_7 x10_2 x11_8 x12_7 = some (r1, r2)) ∧ Aside0 (kq ≤ kj22) ∧ Aside0 (Kd.R Kd.string 9 w' w.heap.size (fun _ => True) v9 x9_7) ∧ Aside0 (Below w.heap.size w w'))
                 case atStart => exact ⟨(x8_22), (y123), (0), (by first | rfl | (simp; done) | (simp [nil_ne_, nil_eq_]; done) | (simp [*]; done)), (by first | rfl | (simp; done) | (simp [nil_ne_, nil_eq_]; done) | (simp [*]; done)), H', ⟨Nat.le_refl _⟩, ⟨by (with_reducible repeat (first | apply Kd.R_alloc | apply Kd.R_drewN | apply Kd.R_drew)); exact HO125.out⟩, ⟨by repeat (first | (with_reducible first | exact HB.out | apply below_alloc | apply pw_below_drewN | apply below_drew1) | exact HB.out)⟩⟩
                 case round =>
                  clear H'
                  try clear c1
                  try clear p1
                  try clear q1
                  try clear hx1
                  try clear c2
                  try clear p2
                  try clear c3
                  try clear c6
                  try clear c7
                  try clear c8
                  try clear c8b0
                  try clear c10
                  try clear c10b0
                  try clear c10b1
                  try clear c11
                  try clear c11b0
                  try clear c11b1
                  try clear c11b2
                  try clear p11
                  try clear q11
                  try clear hx11
                  try clear p12
                  try clear q12
                  try clear hx12
                  try clear c13
                  try clear c13b0
                  try clear c14
                  try clear c14b0
                  try clear c16
                  try clear c16b0
                  try clear c16b1
                  try clear c17
                  try clear c17b0
                  try clear c17b1
                  try clear c17b2
                  try clear c19
                  try clear c19b0
                  try clear c19b1
                  try clear c20
                  try clear c20b0
                  try clear c22
                  try clear c24
                  try clear c25
                  try clear c25b0
                  try clear c25b1
                  try clear c26
                  try clear c26b0
                  try clear c27
                  try clear c27b0
                  try clear c27b1
                  try clear c27b2
                  try clear c28
                  try clear c28b0
                  try clear c29
                  try clear c29b0
                  try clear c31
                  try clear c31b0
                  try clear c31b1
                  try clear c31b2
                  try clear c33
                  try clear c33b0
                  try clear c34
                  try clear c34b0
                  try clear c35
                  try clear hx116_0
                  try clear hx117_0
                  try clear hx119_0
                  try clear hx120_0
                  try clear hx122_0
                  try clear p1
                  try clear p11
                  try clear p116
                  try clear p117
                  try clear p119
                  try clear p12
                  try clear p120
                  try clear p122
                  try clear p2
                  try clear q1
                  try clear q11
                  try clear q116
                  try clear q117
                  try clear q119
                  try clear q12
                  try clear q120
                  try clear q122
                  obtain ⟨x8_7, x9_7, x12_7, rfl, rfl, HA, HK7, HO_9, HB⟩ := hrel
                  cases gk with
                  | zero => exact absurd HA.out (by simp [laws_jqPathOf.l1])
                  | succ k7 =>
                   have H := HA.out
                   clear HA
                   simp only [laws_jqPathOf.l1] at H
                   by_cases c37 : x12_7 < (((Int.tdiv x11_8 2) % 256) % 4)
                   ·
                    rw [if_pos c37] at H
                    have c37b0 : decide (x12_7 < (((Int.tdiv x11_8 2) % 256) % 4)) = true := decide_eq_true c37
                    clear c37
                    try (have c37b08 := c37b0; simp only [em256_2, em256_4, em256_8] at c37b08)
                    try (have c37b18 := c37b1; simp only [em256_2, em256_4, em256_8] at c37b18)
                    replace H := Option.bind_eq_some_iff.mp H
                    obtain ⟨t126, A380, H⟩ := H
                    replace H : (if 1 + t126.size ≤ 9223372036854775807 then (if ((⟨#[91]⟩ : ByteArray) ++ t126).size + 1 ≤ 9223372036854775807 then (if x11_8 ≥ 200 then (if x8_7.size + 3 ≤ 9223372036854775807 then (if x9_7.length < 8796093022208 then (laws_jqPathOf.l1 k7 l0 l1 (x8_7 ++ (⟨#[91, 42, 93]⟩ : ByteArray)) (x9_7 ++ [(⟨#[91, 42, 93]⟩ : ByteArray)]) x10_2 x11_8 (wrap64 (x12_7 + 1))) else (none)) else (none)) else (if x8_7.size + (((⟨#[91]⟩ : ByteArray) ++ t126) ++ (⟨#[93]⟩ : ByteArray)).size ≤ 9223372036854775807 then (if x9_7.length < 8796093022208 then (laws_jqPathOf.l1 k7 l0 l1 (x8_7 ++ (((⟨#[91]⟩ : ByteArray) ++ t126) ++ (⟨#[93]⟩ : ByteArray))) (x9_7 ++ [((⟨#[91]⟩ : ByteArray) ++ t126) ++ (⟨#[93]⟩ : ByteArray)]) x10_2 x11_8 (wrap64 (x12_7 + 1))) else (none)) else (none))) else (none)) else (none)) = some (r1, r2) := H
                    have A38 := Aside0.mk A380
                    clear A380
                    by_cases c39 : 1 + t126.size ≤ 9223372036854775807
                    ·
                     rw [if_pos c39] at H
                     have c39b0 := eq_true c39
                     have c39b1 : decide (1 + t126.size ≤ 9223372036854775807) = true := decide_eq_true c39
                     try have c39b2 : (9223372036854775807 < 1 + t126.size) = False := eq_false (Nat.not_lt.2 c39)
                     by_cases c40 : ((⟨#[91]⟩ : ByteArray) ++ t126).size + 1 ≤ 9223372036854775807
                     ·
                      rw [if_pos c40] at H
                      have c40b0 := eq_true c40
                      have c40b1 : decide (((⟨#[91]⟩ : ByteArray) ++ t126).size + 1 ≤ 9223372036854775807) = true := decide_eq_true c40
                      try have c40b2 : (9223372036854775807 < ((⟨#[91]⟩ : ByteArray) ++ t126).size + 1) = False := eq_false (Nat.not_lt.2 c40)
                      try (have c40b3 := c40b2; simp only [ByteArray.size_append, sz_mk, List.size_toArray, List.length_cons, List.length_nil, Nat.reduceAdd, Nat.zero_add] at c40b3)
                      by_cases c41 : x11_8 ≥ 200
                      ·
                       rw [if_pos c41] at H
                       have c41b0 : decide (200 ≤ x11_8) = true := decide_eq_true c41
                       clear c41
                       by_cases c42 : x8_7.size + 3 ≤ 9223372036854775807
                       ·
                        rw [if_pos c42] at H
                        have c42b0 := eq_true c42
                        have c42b1 : decide (x8_7.size + 3 ≤ 9223372036854775807) = true := decide_eq_true c42
                        try have c42b2 : (9223372036854775807 < x8_7.size + 3) = False := eq_false (Nat.not_lt.2 c42)
                        by_cases c43 : x9_7.length < 8796093022208
                        ·
                         rw [if_pos c43] at H
                         have LMc43 := Aside0.mk c43
                         clear c43
                         obtain ⟨y127, hy127⟩ : ∃ y_ : List ByteArray, y_ = (x9_7 ++ [(⟨#[91, 42, 93]⟩ : ByteArray)]) := ⟨_, rfl⟩
                         replace H : (laws_jqPathOf.l1 k7 l0 l1 (x8_7 ++ (⟨#[91, 42, 93]⟩ : ByteArray)) y127 x10_2 x11_8 (wrap64 (x12_7 + 1))) = some (r1, r2) := by first | (rw [hy127]; with_reducible exact H) | (have H2_ := (Option.bind_some _ _).symm.trans H; rw [hy127]; with_reducible exact H2_) | (have H2_ := (Option.bind_some _ _).symm.trans H; with_reducible exact H2_) | with_reducible exact H | (rw [hy127]; exact H) | exact H
                         have Ny127 := Aside0.mk hy127
                         clear hy127
                         have H' := Aside0.mk H
                         clear H
                         go_wp2_with (first | ((with_reducible refine gate_callee (f := 12) rfl ?_); refine goesL_ (some 80) rfl rfl Tryd.func12 (by kernel_rfl) rfl #[.int .u64 (IntKind.u64.wrap ((IntKind.u64.wrap (x11_8)) * (IntKind.u64.wrap (x12_7))))] rfl (by (try simp only [List.map_toArray, List.map_cons, List.map_nil]); first | done | rfl | (simp only [List.length_drop, List.length_take]; rfl)) ?_; (with_reducible refine (spec_DigitsOf.calls k7 (IntKind.u64.wrap ((IntKind.u64.wrap (x11_8)) * (IntKind.u64.wrap (x12_7)))) t126 _ A38.out).mono ?_); rintro e w44 ⟨rfl, hb⟩; refine ⟨_, rfl, ?_⟩; have n0_ := Aside0.mk (Kd.R_below (by (with_reducible repeat (first | apply Kd.R_alloc | apply Kd.R_drewN | apply Kd.R_drew)); exact HO_9.out) hb); have n1_ := Aside0.mk (below_step (by repeat (first | (with_reducible first | exact HB.out | apply below_alloc | apply pw_below_drewN | apply below_drew1) | exact HB.out)) hb); clear HO_9; clear HB; have HO_9 := n0_; have HB := n1_; clear n0_ n1_; (try clear hb); (try clear hb2); (try clear hk); (try clear hi)) | ((with_reducible refine gate_builtin (b := .append) (xs := #[.tmp 88, .tmp 90]) rfl ?_); at_builtin; refine Kd.R_append Kd.string (w0 := w) w.heap.size rfl (.tmp 88) (.tmp 90) 22 9 (.string ⟨#[]⟩) 16 rfl Tryd.underlying22 info9 rfl (by decide) (by omega) u9 x9_7 (⟨#[91, 42, 93]⟩ : ByteArray) [.string (⟨#[91, 42, 93]⟩ : ByteArray)] (fun _ => True) (fun _ => False) rfl rfl ?aP (fun _ hk => hk.elim) ?aF ?aO ?aB ?aS ?aL ?_; (case aP => exact rfl); (case aB => exact (by repeat (first | (with_reducible first | exact HB.out | apply below_alloc | apply pw_below_drewN | apply below_drew1) | exact HB.out))); (case aF => exact (fun _ _ => trivial)); (case aO => exact (by (with_reducible repeat (first | apply Kd.R_alloc | apply Kd.R_drewN | apply Kd.R_drew)); exact HO_9.out)); (case aS => exact (below_size (by repeat (first | (with_reducible first | exact HB.out | apply below_alloc | apply pw_below_drewN | apply below_drew1) | exact HB.out)))); (case aL => have := LMc43.out; omega); intro v128 w45 ho hb hg hat; rw [← Ny127.out] at ho; have n0_ := Aside0.mk (hb); have n1_ := Aside0.mk (ho); clear HB; clear HO_9; have HB := n0_; have HO129 := n1_; clear n0_ n1_; clear ho hb hg hat))
                         go_roundg k7
                         case measure => have := HJ3.out; have := HK2.out; have := HJ8.out; have := HJ14.out; have := HJ17.out; have := HJ22.out; have := HK7.out; omega
                         case rel => exact ⟨(x8_7 ++ (⟨#[91, 42, 93]⟩ : ByteArray)), (y127), (wrap64 (x12_7 + 1)), (by first | rfl | (simp; done) | (simp [nil_ne_, nil_eq_]; done) | (simp [*]; done)), (by first | rfl | (simp; done) | (simp [nil_ne_, nil_eq_]; done) | (simp [*]; done)), H', ⟨by have := HJ3.out; have := HK2.out; have := HJ8.out; have := HJ14.out; have := HJ17.out; have := HJ22.out; have := HK7.out; omega⟩, ⟨by (with_reducible repeat (first | apply Kd.R_alloc | apply Kd.R_drewN | apply Kd.R_drew)); exact HO129.out⟩, ⟨by repeat (first | (with_reducible first | exact HB.out | apply below_alloc | apply pw_below_drewN | apply below_drew1) | exact HB.out)⟩⟩
                        ·
                         rw [if_neg c43] at H
                         exact absurd H (by simp)
                       ·
                        rw [if_neg c42] at H
                        exact absurd H (by simp)
                      ·
                       rw [if_neg c41] at H
                       have c41b0 : decide (200 ≤ x11_8) = false := decide_eq_false c41
                       clear c41
                       by_cases c46 : x8_7.size + (((⟨#[91]⟩ : ByteArray) ++ t126) ++ (⟨#[93]⟩ : ByteArray)).size ≤ 9223372036854775807
                       ·
                        rw [if_pos c46] at H
                        have c46b0 := eq_true c46
                        have c46b1 : decide (x8_7.size + (((⟨#[91]⟩ : ByteArray) ++ t126) ++ (⟨#[93]⟩ : ByteArray)).size ≤ 9223372036854775807) = true := decide_eq_true c46
                        try have c46b2 : (9223372036854775807 < x8_7.size + (((⟨#[91]⟩ : ByteArray) ++ t126) ++ (⟨#[93]⟩ : ByteArray)).size) = False := eq_false (Nat.not_lt.2 c46)
                        try (have c46b3 := c46b2; simp only [ByteArray.size_append, sz_mk, List.size_toArray, List.length_cons, List.length_nil, Nat.reduceAdd, Nat.zero_add] at c46b3)
                        by_cases c47 : x9_7.length < 8796093022208
                        ·
                         rw [if_pos c47] at H
                         have LMc47 := Aside0.mk c47
                         clear c47
                         obtain ⟨y130, hy130⟩ : ∃ y_ : List ByteArray, y_ = (x9_7 ++ [((⟨#[91]⟩ : ByteArray) ++ t126) ++ (⟨#[93]⟩ : ByteArray)]) := ⟨_, rfl⟩
                         replace H : (laws_jqPathOf.l1 k7 l0 l1 (x8_7 ++ (((⟨#[91]⟩ : ByteArray) ++ t126) ++ (⟨#[93]⟩ : ByteArray))) y130 x10_2 x11_8 (wrap64 (x12_7 + 1))) = some (r1, r2) := by first | (rw [hy130]; with_reducible exact H) | (have H2_ := (Option.bind_some _ _).symm.trans H; rw [hy130]; with_reducible exact H2_) | (have H2_ := (Option.bind_some _ _).symm.trans H; with_reducible exact H2_) | with_reducible exact H | (rw [hy130]; exact H) | exact H
                         have Ny130 := Aside0.mk hy130
                         clear hy130
                         have H' := Aside0.mk H
                         clear H
                         go_wp2_with (first | ((with_reducible refine gate_callee (f := 12) rfl ?_); refine goesL_ (some 80) rfl rfl Tryd.func12 (by kernel_rfl) rfl #[.int .u64 (IntKind.u64.wrap ((IntKind.u64.wrap (x11_8)) * (IntKind.u64.wrap (x12_7))))] rfl (by (try simp only [List.map_toArray, List.map_cons, List.map_nil]); first | done | rfl | (simp only [List.length_drop, List.length_take]; rfl)) ?_; (with_reducible refine (spec_DigitsOf.calls k7 (IntKind.u64.wrap ((IntKind.u64.wrap (x11_8)) * (IntKind.u64.wrap (x12_7)))) t126 _ A38.out).mono ?_); rintro e w48 ⟨rfl, hb⟩; refine ⟨_, rfl, ?_⟩; have n0_ := Aside0.mk (Kd.R_below (by (with_reducible repeat (first | apply Kd.R_alloc | apply Kd.R_drewN | apply Kd.R_drew)); exact HO_9.out) hb); have n1_ := Aside0.mk (below_step (by repeat (first | (with_reducible first | exact HB.out | apply below_alloc | apply pw_below_drewN | apply below_drew1) | exact HB.out)) hb); clear HO_9; clear HB; have HO_9 := n0_; have HB := n1_; clear n0_ n1_; (try clear hb); (try clear hb2); (try clear hk); (try clear hi)) | ((with_reducible refine gate_builtin (b := .append) (xs := #[.tmp 88, .tmp 90]) rfl ?_); at_builtin; refine Kd.R_append Kd.string (w0 := w) w.heap.size rfl (.tmp 88) (.tmp 90) 22 9 (.string ⟨#[]⟩) 16 rfl Tryd.underlying22 info9 rfl (by decide) (by omega) u9 x9_7 (((⟨#[91]⟩ : ByteArray) ++ t126) ++ (⟨#[93]⟩ : ByteArray)) [.string (((⟨#[91]⟩ : ByteArray) ++ t126) ++ (⟨#[93]⟩ : ByteArray))] (fun _ => True) (fun _ => False) rfl rfl ?aP (fun _ hk => hk.elim) ?aF ?aO ?aB ?aS ?aL ?_; (case aP => exact rfl); (case aB => exact (by repeat (first | (with_reducible first | exact HB.out | apply below_alloc | apply pw_below_drewN | apply below_drew1) | exact HB.out))); (case aF => exact (fun _ _ => trivial)); (case aO => exact (by (with_reducible repeat (first | apply Kd.R_alloc | apply Kd.R_drewN | apply Kd.R_drew)); exact HO_9.out)); (case aS => exact (below_size (by repeat (first | (with_reducible first | exact HB.out | apply below_alloc | apply pw_below_drewN | apply below_drew1) | exact HB.out)))); (case aL => have := LMc47.out; omega); intro v131 w49 ho hb hg hat; rw [← Ny130.out] at ho; have n0_ := Aside0.mk (hb); have n1_ := Aside0.mk (ho); clear HB; clear HO_9; have HB := n0_; have HO132 := n1_; clear n0_ n1_; clear ho hb hg hat))
                         go_roundg k7
                         case measure => have := HJ3.out; have := HK2.out; have := HJ8.out; have := HJ14.out; have := HJ17.out; have := HJ22.out; have := HK7.out; omega
                         case rel => exact ⟨(x8_7 ++ (((⟨#[91]⟩ : ByteArray) ++ t126) ++ (⟨#[93]⟩ : ByteArray))), (y130), (wrap64 (x12_7 + 1)), (by first | rfl | (simp; done) | (simp [nil_ne_, nil_eq_]; done) | (simp [*]; done)), (by first | rfl | (simp; done) | (simp [nil_ne_, nil_eq_]; done) | (simp [*]; done)), H', ⟨by have := HJ3.out; have := HK2.out; have := HJ8.out; have := HJ14.out; have := HJ17.out; have := HJ22.out; have := HK7.out; omega⟩, ⟨by (with_reducible repeat (first | apply Kd.R_alloc | apply Kd.R_drewN | apply Kd.R_drew)); exact HO132.out⟩, ⟨by repeat (first | (with_reducible first | exact HB.out | apply below_alloc | apply pw_below_drewN | apply below_drew1) | exact HB.out)⟩⟩
                        ·
                         rw [if_neg c47] at H
                         exact absurd H (by simp)
                       ·
                        rw [if_neg c46] at H
                        exact absurd H (by simp)
                     ·
                      rw [if_neg c40] at H
                      exact absurd H (by simp)
                    ·
                     rw [if_neg c39] at H
                     exact absurd H (by simp)
                   ·
                    rw [if_neg c37] at H
                    have c37b0 : decide (x12_7 < (((Int.tdiv x11_8 2) % 256) % 4)) = false := decide_eq_false c37
                    clear c37
                    try (have c37b08 := c37b0; simp only [em256_2, em256_4, em256_8] at c37b08)
                    try (have c37b18 := c37b1; simp only [em256_2, em256_4, em256_8] at c37b18)
                    have H' := Aside0.mk H
                    clear H
                    go_wp2
                    go_roundg k7
                    case measure => have := HJ3.out; have := HK2.out; have := HJ8.out; have := HJ14.out; have := HJ17.out; have := HJ22.out; have := HK7.out; omega
                    case rel => exact ⟨(x8_7), (x9_7), (wrap64 (x10_2 + 1)), (by first | rfl | (simp; done) | (simp [nil_ne_, nil_eq_]; done) | (simp [*]; done)), (by first | rfl | (simp; done) | (simp [nil_ne_, nil_eq_]; done) | (simp [*]; done)), H', ⟨by have := HJ3.out; have := HK2.out; have := HJ8.out; have := HJ14.out; have := HJ17.out; have := HJ22.out; have := HK7.out; omega⟩, ⟨by (with_reducible repeat (first | apply Kd.R_alloc | apply Kd.R_drewN | apply Kd.R_drew)); exact HO_9.out⟩, ⟨by repeat (first | (with_reducible first | exact HB.out | apply below_alloc | apply pw_below_drewN | apply below_drew1) | exact HB.out)⟩⟩
                ·
                 rw [if_neg c35] at H
                 exact absurd H (by simp)
               ·
                rw [if_neg c34] at H
                exact absurd H (by simp)
              ·
               rw [if_neg c33] at H
               exact absurd H (by simp)
     ·
      rw [if_neg c8] at H
      have c8b0 : decide (x10_2 < (l0.length : Int)) = false := decide_eq_false c8
      clear c8
      simp only [Option.some.injEq, Prod.mk.injEq] at H
      obtain ⟨rfl, rfl⟩ := H
      go_wp2
      go_ret2
      exact ⟨_, by first | rfl | (simp [errX_none, errX_some] <;> rfl) | (simp [*, errX_none, errX_some] <;> rfl), by (with_reducible repeat (first | apply Kd.R_alloc | apply Kd.R_drewN | apply Kd.R_drew)); exact HO_9.out, by repeat (first | (with_reducible first | exact HB.out | apply below_alloc | apply pw_below_drewN | apply below_drew1) | exact HB.out)⟩

end Go.Proofs.YtobmnfbplmefoaaDoor.PFnJqPathOf
