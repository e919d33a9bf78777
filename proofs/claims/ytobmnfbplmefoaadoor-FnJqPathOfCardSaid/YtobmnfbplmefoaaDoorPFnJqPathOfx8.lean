-- Written by a program of this session (wip/prx) out of the print of the loaded functions.
import Derived.Test.YtobmnfbplmefoaaDoorPFnJqPathOfx0
import Derived.Test.YtobmnfbplmefoaaDoorPFnJqPathOfx5
import Derived.Test.YtobmnfbplmefoaaDoorPFnJqPathOfx6
import Derived.Test.YtobmnfbplmefoaaDoorPFnJqPathOfx7
import Derived.Test.YtobmnfbplmefoaaDoorGXFnJqPathOf
import Derived.Test.YtobmnfbplmefoaaDoorHCFnJqPathOf
import Derived.Test.YtobmnfbplmefoaaDoorWMFnJqPathOf
namespace Go.Proofs.YtobmnfbplmefoaaDoor.PFnJqPathOf
open Go.RowKit Go.Proofs.YtobmnfbplmefoaaDoorW.PrintWords Go.Proofs.YtobmnfbplmefoaaDoorW.PrintLast Go.Proofs.YtobmnfbplmefoaaDoorW.PrintMore
attribute [local go_sem] max2_int min2_int max_two min_two max_three min_three max_four min_four   -- for this text's walks alone
set_option linter.unusedVariables false
set_option linter.unusedSimpArgs false

/-! ### jsonparser_ParsePath: function 13 -/
mutual
def jsonparser_ParsePath.j0 : Nat → ByteArray → Option (List ByteArray × Option Int)
  | 0, _ => none
  | k + 1, x0 => if x0.toList = ([] : List UInt8) then (some (([] : List ByteArray), some 1)) else ((jsonparser_zzCount.f x0 (⟨#[46]⟩ : ByteArray)).bind fun t165 => ((jsonparser_zzCount.f x0 (⟨#[91]⟩ : ByteArray)).bind fun t166 => (if 0 ≤ (wrap64 ((wrap64 (1 + t165)) + t166)) then (if (wrap64 ((wrap64 (1 + t165)) + t166) : Int).toNat ≤ 17592186044416 then (jsonparser_ParsePath.l0 k x0 (([] : List ByteArray)) 0) else (none)) else (none))))
def jsonparser_ParsePath.l0 : Nat → ByteArray → List ByteArray → Int → Option (List ByteArray × Option Int)
  | 0, _, _, _ => none
  | k + 1, x0, x4, x5 => if x5 < (x0.size : Int) then (if 0 ≤ x5 then (if (bt x0 x5) = 46 then (some (([] : List ByteArray), some 1)) else (if (bt x0 x5) = 34 then ((jsonparser_parseQuotedPathKey.f k x0 x5).bind fun bt170 => (if bt170.2.2.isNone = true then (if x4.length < 8796093022208 then (jsonparser_ParsePath.j4 k x0 (x4 ++ [bt170.1]) bt170.2.1) else (none)) else (some (([] : List ByteArray), some (bt170.2.2.getD 0))))) else (if (bt x0 x5) = 91 then (jsonparser_ParsePath.j4 k x0 x4 x5) else (jsonparser_ParsePath.l1 k x0 x4 x5 x5)))) else (none)) else (if (x4.length : Int) = 0 then (some (([] : List ByteArray), some 1)) else (some (x4, none)))
def jsonparser_ParsePath.j4 : Nat → ByteArray → List ByteArray → Int → Option (List ByteArray × Option Int)
  | 0, _, _, _ => none
  | k + 1, x0, x4, x5 => jsonparser_ParsePath.l2 k x0 x4 x5
def jsonparser_ParsePath.l2 : Nat → ByteArray → List ByteArray → Int → Option (List ByteArray × Option Int)
  | 0, _, _, _ => none
  | k + 1, x0, x4, x5 => if x5 < (x0.size : Int) then (if 0 ≤ x5 then (jsonparser_ParsePath.j6 k x0 x4 x5 ((bt x0 x5) == 91)) else (none)) else (jsonparser_ParsePath.j6 k x0 x4 x5 false)
def jsonparser_ParsePath.j6 : Nat → ByteArray → List ByteArray → Int → Bool → Option (List ByteArray × Option Int)
  | 0, _, _, _, _ => none
  | k + 1, x0, x4, x5, x124 => if x124 = true then ((jsonparser_parseBracketPathComponent.f k x0 x5).bind fun bt180 => (if bt180.2.2.isNone = true then (if x4.length < 8796093022208 then (jsonparser_ParsePath.l2 k x0 (x4 ++ [bt180.1]) bt180.2.1) else (none)) else (some (([] : List ByteArray), some (bt180.2.2.getD 0))))) else (if x5 = (x0.size : Int) then (if (x4.length : Int) = 0 then (some (([] : List ByteArray), some 1)) else (some (x4, none))) else (if 0 ≤ x5 then (if x5 < (x0.size : Int) then (if (bt x0 x5) = 46 then (if (wrap64 (x5 + 1)) = (x0.size : Int) then (some (([] : List ByteArray), some 1)) else (jsonparser_ParsePath.l0 k x0 x4 (wrap64 (x5 + 1)))) else (some (([] : List ByteArray), some 1))) else (none)) else (none)))
def jsonparser_ParsePath.l1 : Nat → ByteArray → List ByteArray → Int → Int → Option (List ByteArray × Option Int)
  | 0, _, _, _, _ => none
  | k + 1, x0, x4, x5, x9 => if x5 < (x0.size : Int) then (if 0 ≤ x5 then (if (bt x0 x5) = 46 then (jsonparser_ParsePath.j3 k x0 x4 x5 x9 false) else (jsonparser_ParsePath.j3 k x0 x4 x5 x9 ((bt x0 x5) != 91))) else (none)) else (jsonparser_ParsePath.j3 k x0 x4 x5 x9 false)
def jsonparser_ParsePath.j3 : Nat → ByteArray → List ByteArray → Int → Int → Bool → Option (List ByteArray × Option Int)
  | 0, _, _, _, _, _ => none
  | k + 1, x0, x4, x5, x9, x68 => if x68 = true then (if 0 ≤ x5 then (if x5 < (x0.size : Int) then (if (bt x0 x5) = 93 then (some (([] : List ByteArray), some 1)) else (if (bt x0 x5) = 34 then (some (([] : List ByteArray), some 1)) else (jsonparser_ParsePath.l1 k x0 x4 (wrap64 (x5 + 1)) x9))) else (none)) else (none)) else (if x9 = x5 then (some (([] : List ByteArray), some 1)) else (if 0 ≤ x9 then (if x9 ≤ x5 then (if x5 ≤ (x0.size : Int) then (if x4.length < 8796093022208 then (jsonparser_ParsePath.j4 k x0 (x4 ++ [x0.extract (x9 : Int).toNat (x5 : Int).toNat]) x5) else (none)) else (none)) else (none)) else (none)))
end
def jsonparser_ParsePath.f (k : Nat) (a0 : ByteArray) : Option (List ByteArray × Option Int) := if a0.toList = ([] : List UInt8) then (some (([] : List ByteArray), some 0)) else (if a0.toList = ([36] : List UInt8) then (some ((([] : List ByteArray)), none)) else ((strings_HasPrefix.f a0 (⟨#[36, 46]⟩ : ByteArray)).bind fun t163 => (if t163 = true then (if 2 ≤ (a0.size : Int) then (jsonparser_ParsePath.j0 k (a0.extract 2 a0.size)) else (none)) else ((strings_HasPrefix.f a0 (⟨#[36, 91]⟩ : ByteArray)).bind fun t164 => (if t164 = true then (if 1 ≤ (a0.size : Int) then (jsonparser_ParsePath.j0 k (a0.extract 1 a0.size)) else (none)) else (if 0 < (a0.size : Int) then (if (bt a0 0) = 36 then (some (([] : List ByteArray), some 1)) else (jsonparser_ParsePath.j0 k a0)) else (none)))))))
theorem jsonparser_ParsePath.mono_l : ∀ k, (∀ y0, LeO (jsonparser_ParsePath.j0 k y0) (jsonparser_ParsePath.j0 (k + 1) y0)) ∧ (∀ y0 y1 y2, LeO (jsonparser_ParsePath.l0 k y0 y1 y2) (jsonparser_ParsePath.l0 (k + 1) y0 y1 y2)) ∧ (∀ y0 y1 y2, LeO (jsonparser_ParsePath.j4 k y0 y1 y2) (jsonparser_ParsePath.j4 (k + 1) y0 y1 y2)) ∧ (∀ y0 y1 y2, LeO (jsonparser_ParsePath.l2 k y0 y1 y2) (jsonparser_ParsePath.l2 (k + 1) y0 y1 y2)) ∧ (∀ y0 y1 y2 y3, LeO (jsonparser_ParsePath.j6 k y0 y1 y2 y3) (jsonparser_ParsePath.j6 (k + 1) y0 y1 y2 y3)) ∧ (∀ y0 y1 y2 y3, LeO (jsonparser_ParsePath.l1 k y0 y1 y2 y3) (jsonparser_ParsePath.l1 (k + 1) y0 y1 y2 y3)) ∧ (∀ y0 y1 y2 y3 y4, LeO (jsonparser_ParsePath.j3 k y0 y1 y2 y3 y4) (jsonparser_ParsePath.j3 (k + 1) y0 y1 y2 y3 y4))
  | 0 => ⟨fun _ r h => by simp [jsonparser_ParsePath.j0] at h, fun _ _ _ r h => by simp [jsonparser_ParsePath.l0] at h, fun _ _ _ r h => by simp [jsonparser_ParsePath.j4] at h, fun _ _ _ r h => by simp [jsonparser_ParsePath.l2] at h, fun _ _ _ _ r h => by simp [jsonparser_ParsePath.j6] at h, fun _ _ _ _ r h => by simp [jsonparser_ParsePath.l1] at h, fun _ _ _ _ _ r h => by simp [jsonparser_ParsePath.j3] at h⟩
  | k + 1 => by
    obtain ⟨ih0, ih1, ih2, ih3, ih4, ih5, ih6⟩ := jsonparser_ParsePath.mono_l k
    refine ⟨?_, ?_, ?_, ?_, ?_, ?_, ?_⟩
    · intro y0
      unfold jsonparser_ParsePath.j0
      repeat' first
      | (with_reducible exact ih0 _)
      | (with_reducible exact ih1 _ _ _)
      | (with_reducible exact ih2 _ _ _)
      | (with_reducible exact ih3 _ _ _)
      | (with_reducible exact ih4 _ _ _ _)
      | (with_reducible exact ih5 _ _ _ _)
      | (with_reducible exact ih6 _ _ _ _ _)
      | (with_reducible exact jsonparser_parseBracketPathComponent.mono _ _ _)
      | (with_reducible exact jsonparser_parseQuotedPathKey.mono _ _ _)
      | (with_reducible exact LeO.refl _)
      | (with_reducible exact LeO.none _)
      | (with_reducible refine LeO.ite ?_ ?_)
      | (with_reducible refine LeO.bind ?_ (fun _ => ?_))
      | exact ih0 _
      | exact ih1 _ _ _
      | exact ih2 _ _ _
      | exact ih3 _ _ _
      | exact ih4 _ _ _ _
      | exact ih5 _ _ _ _
      | exact ih6 _ _ _ _ _
      | exact jsonparser_parseBracketPathComponent.mono _ _ _
      | exact jsonparser_parseQuotedPathKey.mono _ _ _
      | exact LeO.none _
      | refine LeO.ite ?_ ?_
      | refine LeO.bind ?_ (fun _ => ?_)
    · intro y0 y1 y2
      unfold jsonparser_ParsePath.l0
      repeat' first
      | (with_reducible exact ih0 _)
      | (with_reducible exact ih1 _ _ _)
      | (with_reducible exact ih2 _ _ _)
      | (with_reducible exact ih3 _ _ _)
      | (with_reducible exact ih4 _ _ _ _)
      | (with_reducible exact ih5 _ _ _ _)
      | (with_reducible exact ih6 _ _ _ _ _)
      | (with_reducible exact jsonparser_parseBracketPathComponent.mono _ _ _)
      | (with_reducible exact jsonparser_parseQuotedPathKey.mono _ _ _)
      | (with_reducible exact LeO.refl _)
      | (with_reducible exact LeO.none _)
      | (with_reducible refine LeO.ite ?_ ?_)
      | (with_reducible refine LeO.bind ?_ (fun _ => ?_))
      | exact ih0 _
      | exact ih1 _ _ _
      | exact ih2 _ _ _
      | exact ih3 _ _ _
      | exact ih4 _ _ _ _
      | exact ih5 _ _ _ _
      | exact ih6 _ _ _ _ _
      | exact jsonparser_parseBracketPathComponent.mono _ _ _
      | exact jsonparser_parseQuotedPathKey.mono _ _ _
      | exact LeO.none _
      | refine LeO.ite ?_ ?_
      | refine LeO.bind ?_ (fun _ => ?_)
    · intro y0 y1 y2
      unfold jsonparser_ParsePath.j4
      repeat' first
      | (with_reducible exact ih0 _)
      | (with_reducible exact ih1 _ _ _)
      | (with_reducible exact ih2 _ _ _)
      | (with_reducible exact ih3 _ _ _)
      | (with_reducible exact ih4 _ _ _ _)
      | (with_reducible exact ih5 _ _ _ _)
      | (with_reducible exact ih6 _ _ _ _ _)
      | (with_reducible exact jsonparser_parseBracketPathComponent.mono _ _ _)
      | (with_reducible exact jsonparser_parseQuotedPathKey.mono _ _ _)
      | (with_reducible exact LeO.refl _)
      | (with_reducible exact LeO.none _)
      | (with_reducible refine LeO.ite ?_ ?_)
      | (with_reducible refine LeO.bind ?_ (fun _ => ?_))
      | exact ih0 _
      | exact ih1 _ _ _
      | exact ih2 _ _ _
      | exact ih3 _ _ _
      | exact ih4 _ _ _ _
      | exact ih5 _ _ _ _
      | exact ih6 _ _ _ _ _
      | exact jsonparser_parseBracketPathComponent.mono _ _ _
      | exact jsonparser_parseQuotedPathKey.mono _ _ _
      | exact LeO.none _
      | refine LeO.ite ?_ ?_
      | refine LeO.bind ?_ (fun _ => ?_)
    · intro y0 y1 y2
      unfold jsonparser_ParsePath.l2
      repeat' first
      | (with_reducible exact ih0 _)
      | (with_reducible exact ih1 _ _ _)
      | (with_reducible exact ih2 _ _ _)
      | (with_reducible exact ih3 _ _ _)
      | (with_reducible exact ih4 _ _ _ _)
      | (with_reducible exact ih5 _ _ _ _)
      | (with_reducible exact ih6 _ _ _ _ _)
      | (with_reducible exact jsonparser_parseBracketPathComponent.mono _ _ _)
      | (with_reducible exact jsonparser_parseQuotedPathKey.mono _ _ _)
      | (with_reducible exact LeO.refl _)
      | (with_reducible exact LeO.none _)
      | (with_reducible refine LeO.ite ?_ ?_)
      | (with_reducible refine LeO.bind ?_ (fun _ => ?_))
      | exact ih0 _
      | exact ih1 _ _ _
      | exact ih2 _ _ _
      | exact ih3 _ _ _
      | exact ih4 _ _ _ _
      | exact ih5 _ _ _ _
      | exact ih6 _ _ _ _ _
      | exact jsonparser_parseBracketPathComponent.mono _ _ _
      | exact jsonparser_parseQuotedPathKey.mono _ _ _
      | exact LeO.none _
      | refine LeO.ite ?_ ?_
      | refine LeO.bind ?_ (fun _ => ?_)
    · intro y0 y1 y2 y3
      unfold jsonparser_ParsePath.j6
      repeat' first
      | (with_reducible exact ih0 _)
      | (with_reducible exact ih1 _ _ _)
      | (with_reducible exact ih2 _ _ _)
      | (with_reducible exact ih3 _ _ _)
      | (with_reducible exact ih4 _ _ _ _)
      | (with_reducible exact ih5 _ _ _ _)
      | (with_reducible exact ih6 _ _ _ _ _)
      | (with_reducible exact jsonparser_parseBracketPathComponent.mono _ _ _)
      | (with_reducible exact jsonparser_parseQuotedPathKey.mono _ _ _)
      | (with_reducible exact LeO.refl _)
      | (with_reducible exact LeO.none _)
      | (with_reducible refine LeO.ite ?_ ?_)
      | (with_reducible refine LeO.bind ?_ (fun _ => ?_))
      | exact ih0 _
      | exact ih1 _ _ _
      | exact ih2 _ _ _
      | exact ih3 _ _ _
      | exact ih4 _ _ _ _
      | exact ih5 _ _ _ _
      | exact ih6 _ _ _ _ _
      | exact jsonparser_parseBracketPathComponent.mono _ _ _
      | exact jsonparser_parseQuotedPathKey.mono _ _ _
      | exact LeO.none _
      | refine LeO.ite ?_ ?_
      | refine LeO.bind ?_ (fun _ => ?_)
    · intro y0 y1 y2 y3
      unfold jsonparser_ParsePath.l1
      repeat' first
      | (with_reducible exact ih0 _)
      | (with_reducible exact ih1 _ _ _)
      | (with_reducible exact ih2 _ _ _)
      | (with_reducible exact ih3 _ _ _)
      | (with_reducible exact ih4 _ _ _ _)
      | (with_reducible exact ih5 _ _ _ _)
      | (with_reducible exact ih6 _ _ _ _ _)
      | (with_reducible exact jsonparser_parseBracketPathComponent.mono _ _ _)
      | (with_reducible exact jsonparser_parseQuotedPathKey.mono _ _ _)
      | (with_reducible exact LeO.refl _)
      | (with_reducible exact LeO.none _)
      | (with_reducible refine LeO.ite ?_ ?_)
      | (with_reducible refine LeO.bind ?_ (fun _ => ?_))
      | exact ih0 _
      | exact ih1 _ _ _
      | exact ih2 _ _ _
      | exact ih3 _ _ _
      | exact ih4 _ _ _ _
      | exact ih5 _ _ _ _
      | exact ih6 _ _ _ _ _
      | exact jsonparser_parseBracketPathComponent.mono _ _ _
      | exact jsonparser_parseQuotedPathKey.mono _ _ _
      | exact LeO.none _
      | refine LeO.ite ?_ ?_
      | refine LeO.bind ?_ (fun _ => ?_)
    · intro y0 y1 y2 y3 y4
      unfold jsonparser_ParsePath.j3
      repeat' first
      | (with_reducible exact ih0 _)
      | (with_reducible exact ih1 _ _ _)
      | (with_reducible exact ih2 _ _ _)
      | (with_reducible exact ih3 _ _ _)
      | (with_reducible exact ih4 _ _ _ _)
      | (with_reducible exact ih5 _ _ _ _)
      | (with_reducible exact ih6 _ _ _ _ _)
      | (with_reducible exact jsonparser_parseBracketPathComponent.mono _ _ _)
      | (with_reducible exact jsonparser_parseQuotedPathKey.mono _ _ _)
      | (with_reducible exact LeO.refl _)
      | (with_reducible exact LeO.none _)
      | (with_reducible refine LeO.ite ?_ ?_)
      | (with_reducible refine LeO.bind ?_ (fun _ => ?_))
      | exact ih0 _
      | exact ih1 _ _ _
      | exact ih2 _ _ _
      | exact ih3 _ _ _
      | exact ih4 _ _ _ _
      | exact ih5 _ _ _ _
      | exact ih6 _ _ _ _ _
      | exact jsonparser_parseBracketPathComponent.mono _ _ _
      | exact jsonparser_parseQuotedPathKey.mono _ _ _
      | exact LeO.none _
      | refine LeO.ite ?_ ?_
      | refine LeO.bind ?_ (fun _ => ?_)
theorem jsonparser_ParsePath.mono : ∀ a0 k, LeO (jsonparser_ParsePath.f k a0) (jsonparser_ParsePath.f (k + 1) a0) := by
  intro a0 k
  obtain ⟨ih0, ih1, ih2, ih3, ih4, ih5, ih6⟩ := jsonparser_ParsePath.mono_l k
  unfold jsonparser_ParsePath.f
  repeat' first
      | (with_reducible exact ih0 _)
      | (with_reducible exact ih1 _ _ _)
      | (with_reducible exact ih2 _ _ _)
      | (with_reducible exact ih3 _ _ _)
      | (with_reducible exact ih4 _ _ _ _)
      | (with_reducible exact ih5 _ _ _ _)
      | (with_reducible exact ih6 _ _ _ _ _)
      | (with_reducible exact jsonparser_parseBracketPathComponent.mono _ _ _)
      | (with_reducible exact jsonparser_parseQuotedPathKey.mono _ _ _)
      | (with_reducible exact LeO.refl _)
      | (with_reducible exact LeO.none _)
      | (with_reducible refine LeO.ite ?_ ?_)
      | (with_reducible refine LeO.bind ?_ (fun _ => ?_))
      | exact ih0 _
      | exact ih1 _ _ _
      | exact ih2 _ _ _
      | exact ih3 _ _ _
      | exact ih4 _ _ _ _
      | exact ih5 _ _ _ _
      | exact ih6 _ _ _ _ _
      | exact jsonparser_parseBracketPathComponent.mono _ _ _
      | exact jsonparser_parseQuotedPathKey.mono _ _ _
      | exact LeO.none _
      | refine LeO.ite ?_ ?_
      | refine LeO.bind ?_ (fun _ => ?_)
set_option maxHeartbeats 8000000 in
set_option maxRecDepth 100000 in
theorem jsonparser_ParsePath.calls (k : Nat) (a0 : ByteArray) (r1 : List ByteArray) (r2 : Option Int) (w : World) (h : jsonparser_ParsePath.f k a0 = some (r1, r2)) (hG : Glob w) :
    Calls Tryd.prog 13 #[.string a0] w fun e w' => ∃ v0_ : Value, ∃ evr2 : TypeId × Value, e = .returned (.tuple #[v0_, errX r2 evr2]) ∧ Kd.R Kd.string 9 w' w.heap.size (fun _ => True) v0_ r1 ∧ Below w.heap.size w w' := by
 have hu41 := Tryd.underlying41
 have HB := Aside0.mk (Below.refl w.heap.size w)
 obtain ⟨gt0, gp0, hgv0_⟩ := hG.e0
 have hgv0 := Aside0.mk hgv0_
 clear hgv0_
 obtain ⟨gt1, gp1, hgv1_⟩ := hG.e1
 have hgv1 := Aside0.mk hgv1_
 clear hgv1_
 have HG := Aside0.mk hG
 clear hG
 have H : (if a0.toList = ([] : List UInt8) then (some (([] : List ByteArray), some 0)) else (if a0.toList = ([36] : List UInt8) then (some ((([] : List ByteArray)), none)) else ((strings_HasPrefix.f a0 (⟨#[36, 46]⟩ : ByteArray)).bind fun t163 => (if t163 = true then (if 2 ≤ (a0.size : Int) then (jsonparser_ParsePath.j0 k (a0.extract 2 a0.size)) else (none)) else ((strings_HasPrefix.f a0 (⟨#[36, 91]⟩ : ByteArray)).bind fun t164 => (if t164 = true then (if 1 ≤ (a0.size : Int) then (jsonparser_ParsePath.j0 k (a0.extract 1 a0.size)) else (none)) else (if 0 < (a0.size : Int) then (if (bt a0 0) = 36 then (some (([] : List ByteArray), some 1)) else (jsonparser_ParsePath.j0 k a0)) else (none)))))))) = some (r1, r2) := h
 clear h
 by_cases c2 : a0.toList = ([] : List UInt8)
 ·
  rw [if_pos c2] at H
  have c2b0 : (a0.toList == ([] : List UInt8)) = true := beq_iff_eq.mpr c2
  have c2b1 : (a0.toList != ([] : List UInt8)) = false := bne_eq_false_iff_eq.mpr c2
  clear c2
  simp only [Option.some.injEq, Prod.mk.injEq] at H
  obtain ⟨rfl, rfl⟩ := H
  have hgl3 : w.cell? ⟨0, 0, none⟩ = some (.iface gt0 gp0) := ((show Below w.heap.size w w from Below.refl _ _).cell (World.block_lt_of_cell? w _ hgv0.out)).trans hgv0.out
  go_enter Tryd.func13, Tryd.ntmps13
  go_wp2
  repeat (go_quiet (fail); try go_wp2)
  go_ret2
  exact ⟨_, (gt0, gp0), by first | rfl | (simp [errX_none, errX_some] <;> rfl) | (simp [*, errX_none, errX_some] <;> rfl), by first | exact Kd.R_nil _ _ _ _ _ | exact Kd.N_nil _ _ _ _ _ | exact Kd.V_nil _ _ _ _ _ | exact Kd.Q_nil _ _ _ _ _ | exact Kd.S_nil _ _ _ _ _, by repeat (first | (with_reducible first | exact HB.out | apply below_alloc | apply pw_below_drewN | apply below_drew1) | exact HB.out)⟩
 ·
  rw [if_neg c2] at H
  have c2b0 : (a0.toList == ([] : List UInt8)) = false := beq_eq_false_iff_ne.mpr c2
  have c2b1 : (a0.toList != ([] : List UInt8)) = true := bne_iff_ne.mpr c2
  have HC4 := Aside0.mk H
  clear H
  go_enter Tryd.func13, Tryd.ntmps13
  go_upto_block 0 with (fail)
  repeat (go_quiet (fail); go_upto_block 0 with (fail))
  go_cut [0] (fun v0 wc => ∃ (kq : Nat) (x0_3 : ByteArray), v0 = .string x0_3 ∧ Aside0 (jsonparser_ParsePath.j0 kq x0_3 = some (r1, r2)) ∧ Aside0 (kq ≤ k) ∧ Aside0 (Below w.heap.size w wc))
  case first =>
   have H := HC4.out
   clear HC4
   by_cases c5 : a0.toList = ([36] : List UInt8)
   ·
    rw [if_pos c5] at H
    have c5b0 : (a0.toList == ([36] : List UInt8)) = true := beq_iff_eq.mpr c5
    have c5b1 : (a0.toList != ([36] : List UInt8)) = false := bne_eq_false_iff_eq.mpr c5
    clear c5
    (first | rw [c5b0] | (simp only [i64_w, i32_w]; rw [c5b0]) | rw [c5b1] | skip)
    obtain ⟨y160, hy160⟩ : ∃ y_ : List ByteArray, y_ = (([] : List ByteArray)) := ⟨_, rfl⟩
    replace H : (some (y160, none)) = some (r1, r2) := by first | (rw [hy160]; with_reducible exact H) | (have H2_ := (Option.bind_some _ _).symm.trans H; rw [hy160]; with_reducible exact H2_) | (have H2_ := (Option.bind_some _ _).symm.trans H; with_reducible exact H2_) | with_reducible exact H | (rw [hy160]; exact H) | exact H
    have Ny160 := Aside0.mk hy160
    clear hy160
    simp only [Option.some.injEq, Prod.mk.injEq] at H
    obtain ⟨rfl, rfl⟩ := H
    iterate 11 (try go_wp2_with (first | ((with_reducible refine gate_dst (N := 19) rfl ?_); refine Kd.R_lit Kd.string _ 9 ?hg (N := 19) ?hd (xs := ([] : List ByteArray)) (inner := []) (ok := fun _ => True) (okp := fun _ => True) ?hr ?hp (fun _ hk => hk) trivial (Below.refl _ _) (Nat.le_refl _) (by simp) ?_; (case hd => rfl); (case hg => rfl); (case hr => first | (go_simp; done) | (go_simp; rfl)); (case hp => exact (Reps.none _ _)); intro v161 w6 ho7 hb hg_ hnew_; clear hg_ hnew_; (first | rw [← Ny160.out] at ho7 | (simp only [Int.reduceToNat] at ho7; rw [← Ny160.out] at ho7)); have n0_ := Aside0.mk (Kd.R_lower ho7 (below_size (by repeat (first | (with_reducible first | exact HB.out | apply below_alloc | apply pw_below_drewN | apply below_drew1) | exact HB.out)))); have n1_ := Aside0.mk (below_step (by repeat (first | (with_reducible first | exact HB.out | apply below_alloc | apply pw_below_drewN | apply below_drew1) | exact HB.out)) hb); clear HB; have HO162 := n0_; have HB := n1_; clear n0_ n1_; clear hb ho7)); try go_quiet (first | ((with_reducible refine gate_dst (N := 19) rfl ?_); refine Kd.R_lit Kd.string _ 9 ?hg (N := 19) ?hd (xs := ([] : List ByteArray)) (inner := []) (ok := fun _ => True) (okp := fun _ => True) ?hr ?hp (fun _ hk => hk) trivial (Below.refl _ _) (Nat.le_refl _) (by simp) ?_; (case hd => rfl); (case hg => rfl); (case hr => first | (go_simp; done) | (go_simp; rfl)); (case hp => exact (Reps.none _ _)); intro v161 w6 ho7 hb hg_ hnew_; clear hg_ hnew_; (first | rw [← Ny160.out] at ho7 | (simp only [Int.reduceToNat] at ho7; rw [← Ny160.out] at ho7)); have n0_ := Aside0.mk (Kd.R_lower ho7 (below_size (by repeat (first | (with_reducible first | exact HB.out | apply below_alloc | apply pw_below_drewN | apply below_drew1) | exact HB.out)))); have n1_ := Aside0.mk (below_step (by repeat (first | (with_reducible first | exact HB.out | apply below_alloc | apply pw_below_drewN | apply below_drew1) | exact HB.out)) hb); clear HB; have HO162 := n0_; have HB := n1_; clear n0_ n1_; clear hb ho7)))
    go_ret2
    exact ⟨_, (0, Value.nilIface), by first | rfl | (simp [errX_none, errX_some] <;> rfl) | (simp [*, errX_none, errX_some] <;> rfl), by (with_reducible repeat (first | apply Kd.R_alloc | apply Kd.R_drewN | apply Kd.R_drew)); exact HO162.out, by repeat (first | (with_reducible first | exact HB.out | apply below_alloc | apply pw_below_drewN | apply below_drew1) | exact HB.out)⟩
   ·
    rw [if_neg c5] at H
    have c5b0 : (a0.toList == ([36] : List UInt8)) = false := beq_eq_false_iff_ne.mpr c5
    have c5b1 : (a0.toList != ([36] : List UInt8)) = true := bne_iff_ne.mpr c5
    (first | rw [c5b0] | (simp only [i64_w, i32_w]; rw [c5b0]) | rw [c5b1] | skip)
    replace H := Option.bind_eq_some_iff.mp H
    obtain ⟨t163, A80, H⟩ := H
    replace H : (if t163 = true then (if 2 ≤ (a0.size : Int) then (jsonparser_ParsePath.j0 k (a0.extract 2 a0.size)) else (none)) else ((strings_HasPrefix.f a0 (⟨#[36, 91]⟩ : ByteArray)).bind fun t164 => (if t164 = true then (if 1 ≤ (a0.size : Int) then (jsonparser_ParsePath.j0 k (a0.extract 1 a0.size)) else (none)) else (if 0 < (a0.size : Int) then (if (bt a0 0) = 36 then (some (([] : List ByteArray), some 1)) else (jsonparser_ParsePath.j0 k a0)) else (none))))) = some (r1, r2) := H
    have A8 := Aside0.mk A80
    clear A80
    by_cases c9 : t163 = true
    ·
     subst c9
     have H1 : (if 2 ≤ (a0.size : Int) then (jsonparser_ParsePath.j0 k (a0.extract 2 a0.size)) else (none)) = some (r1, r2) := by rw [if_pos rfl] at H; exact H
     clear H
     have H := H1
     clear H1
     by_cases c10 : 2 ≤ (a0.size : Int)
     ·
      rw [if_pos c10] at H
      have c10b0 := eq_true c10
      have c10b1 : decide (2 ≤ (a0.size : Int)) = true := decide_eq_true c10
      clear c10
      have H' := Aside0.mk H
      clear H
      go_wp2_with (first | (go_at_call 18; (with_reducible refine (strings_HasPrefix.calls a0 (⟨#[36, 46]⟩ : ByteArray) true _ A8.out).mono ?_); rintro e w' ⟨rfl, ⟨nd, rfl⟩⟩; (try first | ((with_reducible refine ⟨?_, _, World.drewN_drewN _ _ _⟩); rfl) | ((with_reducible refine ⟨?_, _, Eq.trans (World.drewN_drewN _ _ _) (congrArg (World.drewN _) (Nat.add_assoc _ _ _))⟩); rfl))))
      repeat (go_quiet (first | (go_at_call 18; (with_reducible refine (strings_HasPrefix.calls a0 (⟨#[36, 46]⟩ : ByteArray) true _ A8.out).mono ?_); rintro e w' ⟨rfl, ⟨nd, rfl⟩⟩; (try first | ((with_reducible refine ⟨?_, _, World.drewN_drewN _ _ _⟩); rfl) | ((with_reducible refine ⟨?_, _, Eq.trans (World.drewN_drewN _ _ _) (congrArg (World.drewN _) (Nat.add_assoc _ _ _))⟩); rfl)))); try go_wp2_with (first | (go_at_call 18; (with_reducible refine (strings_HasPrefix.calls a0 (⟨#[36, 46]⟩ : ByteArray) true _ A8.out).mono ?_); rintro e w' ⟨rfl, ⟨nd, rfl⟩⟩; (try first | ((with_reducible refine ⟨?_, _, World.drewN_drewN _ _ _⟩); rfl) | ((with_reducible refine ⟨?_, _, Eq.trans (World.drewN_drewN _ _ _) (congrArg (World.drewN _) (Nat.add_assoc _ _ _))⟩); rfl)))))
      go_meet
      case rel => exact ⟨_, (a0.extract 2 a0.size), (by first | rfl | (simp; done) | (simp [nil_ne_, nil_eq_]; done) | (simp [*]; done)), H', ⟨by first | omega | exact Nat.le_refl _⟩, ⟨by repeat (first | (with_reducible first | exact HB.out | apply below_alloc | apply pw_below_drewN | apply below_drew1) | exact HB.out)⟩⟩
     ·
      rw [if_neg c10] at H
      exact absurd H (by simp)
    ·
     replace c9 := Bool.eq_false_iff.mpr c9
     subst c9
     have H1 : ((strings_HasPrefix.f a0 (⟨#[36, 91]⟩ : ByteArray)).bind fun t164 => (if t164 = true then (if 1 ≤ (a0.size : Int) then (jsonparser_ParsePath.j0 k (a0.extract 1 a0.size)) else (none)) else (if 0 < (a0.size : Int) then (if (bt a0 0) = 36 then (some (([] : List ByteArray), some 1)) else (jsonparser_ParsePath.j0 k a0)) else (none)))) = some (r1, r2) := by rw [if_neg (show ¬ (false = true) by decide)] at H; exact H
     clear H
     have H := H1
     clear H1
     replace H := Option.bind_eq_some_iff.mp H
     obtain ⟨t164, A110, H⟩ := H
     replace H : (if t164 = true then (if 1 ≤ (a0.size : Int) then (jsonparser_ParsePath.j0 k (a0.extract 1 a0.size)) else (none)) else (if 0 < (a0.size : Int) then (if (bt a0 0) = 36 then (some (([] : List ByteArray), some 1)) else (jsonparser_ParsePath.j0 k a0)) else (none))) = some (r1, r2) := H
     have A11 := Aside0.mk A110
     clear A110
     by_cases c12 : t164 = true
     ·
      subst c12
      have H1 : (if 1 ≤ (a0.size : Int) then (jsonparser_ParsePath.j0 k (a0.extract 1 a0.size)) else (none)) = some (r1, r2) := by rw [if_pos rfl] at H; exact H
      clear H
      have H := H1
      clear H1
      by_cases c13 : 1 ≤ (a0.size : Int)
      ·
       rw [if_pos c13] at H
       have c13b0 := eq_true c13
       have c13b1 : decide (1 ≤ (a0.size : Int)) = true := decide_eq_true c13
       clear c13
       have H' := Aside0.mk H
       clear H
       iterate 11 (try go_wp2_with (first | (go_at_call 18; (with_reducible refine (strings_HasPrefix.calls a0 (⟨#[36, 46]⟩ : ByteArray) false _ A8.out).mono ?_); rintro e w' ⟨rfl, ⟨nd, rfl⟩⟩; (try first | ((with_reducible refine ⟨?_, _, World.drewN_drewN _ _ _⟩); rfl) | ((with_reducible refine ⟨?_, _, Eq.trans (World.drewN_drewN _ _ _) (congrArg (World.drewN _) (Nat.add_assoc _ _ _))⟩); rfl))) | (go_at_call 18; (with_reducible refine (strings_HasPrefix.calls a0 (⟨#[36, 91]⟩ : ByteArray) true _ A11.out).mono ?_); rintro e w' ⟨rfl, ⟨nd, rfl⟩⟩; (try first | ((with_reducible refine ⟨?_, _, World.drewN_drewN _ _ _⟩); rfl) | ((with_reducible refine ⟨?_, _, Eq.trans (World.drewN_drewN _ _ _) (congrArg (World.drewN _) (Nat.add_assoc _ _ _))⟩); rfl)))); try go_quiet (first | (go_at_call 18; (with_reducible refine (strings_HasPrefix.calls a0 (⟨#[36, 46]⟩ : ByteArray) false _ A8.out).mono ?_); rintro e w' ⟨rfl, ⟨nd, rfl⟩⟩; (try first | ((with_reducible refine ⟨?_, _, World.drewN_drewN _ _ _⟩); rfl) | ((with_reducible refine ⟨?_, _, Eq.trans (World.drewN_drewN _ _ _) (congrArg (World.drewN _) (Nat.add_assoc _ _ _))⟩); rfl))) | (go_at_call 18; (with_reducible refine (strings_HasPrefix.calls a0 (⟨#[36, 91]⟩ : ByteArray) true _ A11.out).mono ?_); rintro e w' ⟨rfl, ⟨nd, rfl⟩⟩; (try first | ((with_reducible refine ⟨?_, _, World.drewN_drewN _ _ _⟩); rfl) | ((with_reducible refine ⟨?_, _, Eq.trans (World.drewN_drewN _ _ _) (congrArg (World.drewN _) (Nat.add_assoc _ _ _))⟩); rfl)))))
       go_meet
       case rel => exact ⟨_, (a0.extract 1 a0.size), (by first | rfl | (simp; done) | (simp [nil_ne_, nil_eq_]; done) | (simp [*]; done)), H', ⟨by first | omega | exact Nat.le_refl _⟩, ⟨by repeat (first | (with_reducible first | exact HB.out | apply below_alloc | apply pw_below_drewN | apply below_drew1) | exact HB.out)⟩⟩
      ·
       rw [if_neg c13] at H
       exact absurd H (by simp)
     ·
      replace c12 := Bool.eq_false_iff.mpr c12
      subst c12
      have H1 : (if 0 < (a0.size : Int) then (if (bt a0 0) = 36 then (some (([] : List ByteArray), some 1)) else (jsonparser_ParsePath.j0 k a0)) else (none)) = some (r1, r2) := by rw [if_neg (show ¬ (false = true) by decide)] at H; exact H
      clear H
      have H := H1
      clear H1
      by_cases c14 : 0 < (a0.size : Int)
      ·
       rw [if_pos c14] at H
       have c14b0 : decide (0 < (a0.size : Int)) = true := decide_eq_true c14
       have c14b1 : decide (0 < a0.size) = true := decide_eq_true (by omega)
       clear c14
       by_cases c16 : (bt a0 0) = 36
       ·
        rw [if_pos c16] at H
        have c16b0 : ((bt a0 0) == 36) = true := beq_iff_eq.mpr c16
        have c16b1 : ((bt a0 0) != 36) = false := bne_eq_false_iff_eq.mpr c16
        clear c16
        simp only [Option.some.injEq, Prod.mk.injEq] at H
        obtain ⟨rfl, rfl⟩ := H
        iterate 11 (try go_wp2_with (first | (go_at_call 18; (with_reducible refine (strings_HasPrefix.calls a0 (⟨#[36, 46]⟩ : ByteArray) false _ A8.out).mono ?_); rintro e w' ⟨rfl, ⟨nd, rfl⟩⟩; (try first | ((with_reducible refine ⟨?_, _, World.drewN_drewN _ _ _⟩); rfl) | ((with_reducible refine ⟨?_, _, Eq.trans (World.drewN_drewN _ _ _) (congrArg (World.drewN _) (Nat.add_assoc _ _ _))⟩); rfl))) | (go_at_call 18; (with_reducible refine (strings_HasPrefix.calls a0 (⟨#[36, 91]⟩ : ByteArray) false _ A11.out).mono ?_); rintro e w' ⟨rfl, ⟨nd, rfl⟩⟩; (try first | ((with_reducible refine ⟨?_, _, World.drewN_drewN _ _ _⟩); rfl) | ((with_reducible refine ⟨?_, _, Eq.trans (World.drewN_drewN _ _ _) (congrArg (World.drewN _) (Nat.add_assoc _ _ _))⟩); rfl)); have p15 : 0 ≤ (0 : Int) := (by omega); have q15 : 0 < a0.size := (by have : (0 : Int) < (a0.size : Int) := of_decide_eq_true (by first | (with_reducible assumption) | assumption); omega); have hx15 := bt_lit a0 0 0 rfl; clear p15; have qi15 : (0 < (a0.size : Int)) = True := eq_true (of_decide_eq_true (by first | (with_reducible assumption) | assumption)); replace q15 := eq_true q15; have hgl17 : w.cell? ⟨1, 0, none⟩ = some (.iface gt1 gp1) := ((show Below w.heap.size w w from HB.out).cell (World.block_lt_of_cell? w _ hgv1.out)).trans hgv1.out)); try go_quiet (first | (go_at_call 18; (with_reducible refine (strings_HasPrefix.calls a0 (⟨#[36, 46]⟩ : ByteArray) false _ A8.out).mono ?_); rintro e w' ⟨rfl, ⟨nd, rfl⟩⟩; (try first | ((with_reducible refine ⟨?_, _, World.drewN_drewN _ _ _⟩); rfl) | ((with_reducible refine ⟨?_, _, Eq.trans (World.drewN_drewN _ _ _) (congrArg (World.drewN _) (Nat.add_assoc _ _ _))⟩); rfl))) | (go_at_call 18; (with_reducible refine (strings_HasPrefix.calls a0 (⟨#[36, 91]⟩ : ByteArray) false _ A11.out).mono ?_); rintro e w' ⟨rfl, ⟨nd, rfl⟩⟩; (try first | ((with_reducible refine ⟨?_, _, World.drewN_drewN _ _ _⟩); rfl) | ((with_reducible refine ⟨?_, _, Eq.trans (World.drewN_drewN _ _ _) (congrArg (World.drewN _) (Nat.add_assoc _ _ _))⟩); rfl)); have p15 : 0 ≤ (0 : Int) := (by omega); have q15 : 0 < a0.size := (by have : (0 : Int) < (a0.size : Int) := of_decide_eq_true (by first | (with_reducible assumption) | assumption); omega); have hx15 := bt_lit a0 0 0 rfl; clear p15; have qi15 : (0 < (a0.size : Int)) = True := eq_true (of_decide_eq_true (by first | (with_reducible assumption) | assumption)); replace q15 := eq_true q15; have hgl17 : w.cell? ⟨1, 0, none⟩ = some (.iface gt1 gp1) := ((show Below w.heap.size w w from HB.out).cell (World.block_lt_of_cell? w _ hgv1.out)).trans hgv1.out)))
        go_ret2
        exact ⟨_, (gt1, gp1), by first | rfl | (simp [errX_none, errX_some] <;> rfl) | (simp [*, errX_none, errX_some] <;> rfl), by first | exact Kd.R_nil _ _ _ _ _ | exact Kd.N_nil _ _ _ _ _ | exact Kd.V_nil _ _ _ _ _ | exact Kd.Q_nil _ _ _ _ _ | exact Kd.S_nil _ _ _ _ _, by repeat (first | (with_reducible first | exact HB.out | apply below_alloc | apply pw_below_drewN | apply below_drew1) | exact HB.out)⟩
       ·
        rw [if_neg c16] at H
        have c16b0 : ((bt a0 0) == 36) = false := beq_eq_false_iff_ne.mpr c16
        have c16b1 : ((bt a0 0) != 36) = true := bne_iff_ne.mpr c16
        have H' := Aside0.mk H
        clear H
        iterate 11 (try go_wp2_with (first | (go_at_call 18; (with_reducible refine (strings_HasPrefix.calls a0 (⟨#[36, 46]⟩ : ByteArray) false _ A8.out).mono ?_); rintro e w' ⟨rfl, ⟨nd, rfl⟩⟩; (try first | ((with_reducible refine ⟨?_, _, World.drewN_drewN _ _ _⟩); rfl) | ((with_reducible refine ⟨?_, _, Eq.trans (World.drewN_drewN _ _ _) (congrArg (World.drewN _) (Nat.add_assoc _ _ _))⟩); rfl))) | (go_at_call 18; (with_reducible refine (strings_HasPrefix.calls a0 (⟨#[36, 91]⟩ : ByteArray) false _ A11.out).mono ?_); rintro e w' ⟨rfl, ⟨nd, rfl⟩⟩; (try first | ((with_reducible refine ⟨?_, _, World.drewN_drewN _ _ _⟩); rfl) | ((with_reducible refine ⟨?_, _, Eq.trans (World.drewN_drewN _ _ _) (congrArg (World.drewN _) (Nat.add_assoc _ _ _))⟩); rfl)); have p15 : 0 ≤ (0 : Int) := (by omega); have q15 : 0 < a0.size := (by have : (0 : Int) < (a0.size : Int) := of_decide_eq_true (by first | (with_reducible assumption) | assumption); omega); have hx15 := bt_lit a0 0 0 rfl; clear p15; have qi15 : (0 < (a0.size : Int)) = True := eq_true (of_decide_eq_true (by first | (with_reducible assumption) | assumption)); replace q15 := eq_true q15)); try go_quiet (first | (go_at_call 18; (with_reducible refine (strings_HasPrefix.calls a0 (⟨#[36, 46]⟩ : ByteArray) false _ A8.out).mono ?_); rintro e w' ⟨rfl, ⟨nd, rfl⟩⟩; (try first | ((with_reducible refine ⟨?_, _, World.drewN_drewN _ _ _⟩); rfl) | ((with_reducible refine ⟨?_, _, Eq.trans (World.drewN_drewN _ _ _) (congrArg (World.drewN _) (Nat.add_assoc _ _ _))⟩); rfl))) | (go_at_call 18; (with_reducible refine (strings_HasPrefix.calls a0 (⟨#[36, 91]⟩ : ByteArray) false _ A11.out).mono ?_); rintro e w' ⟨rfl, ⟨nd, rfl⟩⟩; (try first | ((with_reducible refine ⟨?_, _, World.drewN_drewN _ _ _⟩); rfl) | ((with_reducible refine ⟨?_, _, Eq.trans (World.drewN_drewN _ _ _) (congrArg (World.drewN _) (Nat.add_assoc _ _ _))⟩); rfl)); have p15 : 0 ≤ (0 : Int) := (by omega); have q15 : 0 < a0.size := (by have : (0 : Int) < (a0.size : Int) := of_decide_eq_true (by first | (with_reducible assumption) | assumption); omega); have hx15 := bt_lit a0 0 0 rfl; clear p15; have qi15 : (0 < (a0.size : Int)) = True := eq_true (of_decide_eq_true (by first | (with_reducible assumption) | assumption)); replace q15 := eq_true q15)))
        go_meet
        case rel => exact ⟨_, (a0), (by first | rfl | (simp; done) | (simp [nil_ne_, nil_eq_]; done) | (simp [*]; done)), H', ⟨by first | omega | exact Nat.le_refl _⟩, ⟨by repeat (first | (with_reducible first | exact HB.out | apply below_alloc | apply pw_below_drewN | apply below_drew1) | exact HB.out)⟩⟩
      ·
       rw [if_neg c14] at H
       exact absurd H (by simp)
  case rest =>
   clear HC4
   try clear c1
   try clear p1
   try clear q1
   try clear hx1
   try clear qi1
   try clear c2
   try clear c2b0
   try clear c2b1
   try clear p2
   try clear c5
   try clear c5b0
   try clear c5b1
   try clear c9
   try clear c10
   try clear c10b0
   try clear c10b1
   try clear c12
   try clear c13
   try clear c13b0
   try clear c13b1
   try clear c14
   try clear c14b0
   try clear c14b1
   try clear p15
   try clear q15
   try clear hx15
   try clear qi15
   try clear c16
   try clear c16b0
   try clear c16b1
   try clear p15
   try clear q15
   obtain ⟨kq, x0_3, rfl, HA, HJ3, HB⟩ := hcut
   cases kq with
   | zero => exact absurd HA.out (by simp [jsonparser_ParsePath.j0])
   | succ kj3 =>
    have H := HA.out
    clear HA
    simp only [jsonparser_ParsePath.j0] at H
    by_cases c18 : x0_3.toList = ([] : List UInt8)
    ·
     rw [if_pos c18] at H
     have c18b0 : (x0_3.toList == ([] : List UInt8)) = true := beq_iff_eq.mpr c18
     have c18b1 : (x0_3.toList != ([] : List UInt8)) = false := bne_eq_false_iff_eq.mpr c18
     clear c18
     simp only [Option.some.injEq, Prod.mk.injEq] at H
     obtain ⟨rfl, rfl⟩ := H
     have hgl19 : wc.cell? ⟨1, 0, none⟩ = some (.iface gt1 gp1) := ((show Below w.heap.size w wc from HB.out).cell (World.block_lt_of_cell? w _ hgv1.out)).trans hgv1.out
     go_wp2
     repeat (go_quiet (fail); try go_wp2)
     go_ret2
     exact ⟨_, (gt1, gp1), by first | rfl | (simp [errX_none, errX_some] <;> rfl) | (simp [*, errX_none, errX_some] <;> rfl), by first | exact Kd.R_nil _ _ _ _ _ | exact Kd.N_nil _ _ _ _ _ | exact Kd.V_nil _ _ _ _ _ | exact Kd.Q_nil _ _ _ _ _ | exact Kd.S_nil _ _ _ _ _, by repeat (first | (with_reducible first | exact HB.out | apply below_alloc | apply pw_below_drewN | apply below_drew1) | exact HB.out)⟩
    ·
     rw [if_neg c18] at H
     have c18b0 : (x0_3.toList == ([] : List UInt8)) = false := beq_eq_false_iff_ne.mpr c18
     have c18b1 : (x0_3.toList != ([] : List UInt8)) = true := bne_iff_ne.mpr c18
     replace H := Option.bind_eq_some_iff.mp H
     obtain ⟨t165, A200, H⟩ := H
     replace H : ((jsonparser_zzCount.f x0_3 (⟨#[91]⟩ : ByteArray)).bind fun t166 => (if 0 ≤ (wrap64 ((wrap64 (1 + t165)) + t166)) then (if (wrap64 ((wrap64 (1 + t165)) + t166) : Int).toNat ≤ 17592186044416 then (jsonparser_ParsePath.l0 kj3 x0_3 (([] : List ByteArray)) 0) else (none)) else (none))) = some (r1, r2) := H
     have A20 := Aside0.mk A200
     clear A200
     replace H := Option.bind_eq_some_iff.mp H
     obtain ⟨t166, A210, H⟩ := H
     replace H : (if 0 ≤ (wrap64 ((wrap64 (1 + t165)) + t166)) then (if (wrap64 ((wrap64 (1 + t165)) + t166) : Int).toNat ≤ 17592186044416 then (jsonparser_ParsePath.l0 kj3 x0_3 (([] : List ByteArray)) 0) else (none)) else (none)) = some (r1, r2) := H
     have A21 := Aside0.mk A210
     clear A210
     obtain ⟨ji22, hji22⟩ : ∃ j_ : Int, (wrap64 ((wrap64 (1 + t165)) + t166)) = j_ := ⟨_, rfl⟩
     replace H : (if 0 ≤ (ji22) then (if (ji22 : Int).toNat ≤ 17592186044416 then (jsonparser_ParsePath.l0 kj3 x0_3 (([] : List ByteArray)) 0) else (none)) else (none)) = some (r1, r2) := by first | (rw [hji22] at H; exact H) | (simp only [hji22] at H ⊢; exact H)
     (try rw [hji22] at A20)
     (try rw [hji22] at A21)
     have hji22w : (IntKind.i64.wrap ((wrap64 (1 + t165)) + t166)) = ji22 := (i64_w _).trans hji22
     by_cases c23 : 0 ≤ (ji22)
     ·
      rw [if_pos c23] at H
      have c23b0 := eq_true c23
      have c23b1 : decide (0 ≤ (ji22)) = true := decide_eq_true c23
      clear c23
      by_cases c24 : (ji22 : Int).toNat ≤ 17592186044416
      ·
       rw [if_pos c24] at H
       have c24b0 := eq_true c24
       have c24b1 : decide ((ji22 : Int).toNat ≤ 17592186044416) = true := decide_eq_true c24
       clear c24
       obtain ⟨y167, hy167⟩ : ∃ y_ : List ByteArray, y_ = (([] : List ByteArray)) := ⟨_, rfl⟩
       replace H : (jsonparser_ParsePath.l0 kj3 x0_3 y167 0) = some (r1, r2) := by first | (rw [hy167]; with_reducible exact H) | (have H2_ := (Option.bind_some _ _).symm.trans H; rw [hy167]; with_reducible exact H2_) | (have H2_ := (Option.bind_some _ _).symm.trans H; with_reducible exact H2_) | with_reducible exact H | (rw [hy167]; exact H) | exact H
       have Ny167 := Aside0.mk hy167
       clear hy167
       have H' := Aside0.mk H
       clear H
       iterate 11 (try go_wp2_with (first | (go_at_call 19; (with_reducible refine (jsonparser_zzCount.calls x0_3 (⟨#[46]⟩ : ByteArray) t165 _ A20.out).mono ?_); rintro e w' ⟨rfl, ⟨nd, rfl⟩⟩; (try first | ((with_reducible refine ⟨?_, _, World.drewN_drewN _ _ _⟩); rfl) | ((with_reducible refine ⟨?_, _, Eq.trans (World.drewN_drewN _ _ _) (congrArg (World.drewN _) (Nat.add_assoc _ _ _))⟩); rfl))) | (go_at_call 19; (with_reducible refine (jsonparser_zzCount.calls x0_3 (⟨#[91]⟩ : ByteArray) t166 _ A21.out).mono ?_); rintro e w' ⟨rfl, ⟨nd, rfl⟩⟩; (try first | ((with_reducible refine ⟨?_, _, World.drewN_drewN _ _ _⟩); rfl) | ((with_reducible refine ⟨?_, _, Eq.trans (World.drewN_drewN _ _ _) (congrArg (World.drewN _) (Nat.add_assoc _ _ _))⟩); rfl))) | ((with_reducible refine gate_dst (N := 44) rfl ?_); refine Kd.R_make0 Kd.string _ 9 rfl (N := 44) rfl 22 _ _ rfl ji22 rfl rfl Tryd.underlying22 (.string ⟨#[]⟩) 16 info9 rfl (by decide) (by omega) (ok := fun _ => True) trivial (of_decide_eq_true (by first | (with_reducible assumption) | assumption)) (Nat.le_trans (Nat.mul_le_mul_right _ (of_decide_eq_true (by first | (with_reducible assumption) | assumption) : (ji22 : Int).toNat ≤ 17592186044416)) (by omega)) (Below.refl _ _) (Nat.le_refl _) ?_; intro v168 w25 ho26 hb hg_ hnew_; clear hg_ hnew_; (first | rw [← Ny167.out] at ho26 | (simp only [Int.reduceToNat] at ho26; rw [← Ny167.out] at ho26)); have n0_ := Aside0.mk (Kd.R_lower ho26 (below_size (by repeat (first | (with_reducible first | exact HB.out | apply below_alloc | apply pw_below_drewN | apply below_drew1) | exact HB.out)))); have n1_ := Aside0.mk (below_step (by repeat (first | (with_reducible first | exact HB.out | apply below_alloc | apply pw_below_drewN | apply below_drew1) | exact HB.out)) hb); clear HB; have HO169 := n0_; have HB := n1_; clear n0_ n1_; clear hb ho26)); try go_quiet (first | (go_at_call 19; (with_reducible refine (jsonparser_zzCount.calls x0_3 (⟨#[46]⟩ : ByteArray) t165 _ A20.out).mono ?_); rintro e w' ⟨rfl, ⟨nd, rfl⟩⟩; (try first | ((with_reducible refine ⟨?_, _, World.drewN_drewN _ _ _⟩); rfl) | ((with_reducible refine ⟨?_, _, Eq.trans (World.drewN_drewN _ _ _) (congrArg (World.drewN _) (Nat.add_assoc _ _ _))⟩); rfl))) | (go_at_call 19; (with_reducible refine (jsonparser_zzCount.calls x0_3 (⟨#[91]⟩ : ByteArray) t166 _ A21.out).mono ?_); rintro e w' ⟨rfl, ⟨nd, rfl⟩⟩; (try first | ((with_reducible refine ⟨?_, _, World.drewN_drewN _ _ _⟩); rfl) | ((with_reducible refine ⟨?_, _, Eq.trans (World.drewN_drewN _ _ _) (congrArg (World.drewN _) (Nat.add_assoc _ _ _))⟩); rfl))) | ((with_reducible refine gate_dst (N := 44) rfl ?_); refine Kd.R_make0 Kd.string _ 9 rfl (N := 44) rfl 22 _ _ rfl ji22 rfl rfl Tryd.underlying22 (.string ⟨#[]⟩) 16 info9 rfl (by decide) (by omega) (ok := fun _ => True) trivial (of_decide_eq_true (by first | (with_reducible assumption) | assumption)) (Nat.le_trans (Nat.mul_le_mul_right _ (of_decide_eq_true (by first | (with_reducible assumption) | assumption) : (ji22 : Int).toNat ≤ 17592186044416)) (by omega)) (Below.refl _ _) (Nat.le_refl _) ?_; intro v168 w25 ho26 hb hg_ hnew_; clear hg_ hnew_; (first | rw [← Ny167.out] at ho26 | (simp only [Int.reduceToNat] at ho26; rw [← Ny167.out] at ho26)); have n0_ := Aside0.mk (Kd.R_lower ho26 (below_size (by repeat (first | (with_reducible first | exact HB.out | apply below_alloc | apply pw_below_drewN | apply below_drew1) | exact HB.out)))); have n1_ := Aside0.mk (below_step (by repeat (first | (with_reducible first | exact HB.out | apply below_alloc | apply pw_below_drewN | apply below_drew1) | exact HB.out)) hb); clear HB; have HO169 := n0_; have HB := n1_; clear n0_ n1_; clear hb ho26)))
       try simp only [Act.put, List.setIfInBounds_toArray, List.set_cons_succ, List.set_cons_zero]
       go_loopg [4, 5] kj3 (fun kq v4 v5 w' => ∃ (x4_2 : List ByteArray) (x5_2 : Int), v5 = .int .i64 x5_2 ∧ Aside0 (jsonparser_ParsePath.l0 kq x0_3 x4_2 x5_2 = some (r1, r2)) ∧ Aside0 (kq ≤ kj3) ∧ Aside0 (Kd.R Kd.string 9 w' w.heap.size (fun _ => True) v4 x4_2) ∧ Aside0 (Below w.heap.size w w'))
       case atStart => exact ⟨(y167), (0), (by first | rfl | (simp; done) | (simp [nil_ne_, nil_eq_]; done) | (simp [*]; done)), H', ⟨Nat.le_refl _⟩, ⟨by (with_reducible repeat (first | apply Kd.R_alloc | apply Kd.R_drewN | apply Kd.R_drew)); exact HO169.out⟩, ⟨by repeat (first | (with_reducible first | exact HB.out | apply below_alloc | apply pw_below_drewN | apply below_drew1) | exact HB.out)⟩⟩
       case round =>
        clear H'
        try clear c1
        try clear p1
        try clear q1
        try clear hx1
        try clear qi1
        try clear c2
        try clear c2b0
        try clear c2b1
        try clear p2
        try clear c5
        try clear c5b0
        try clear c5b1
        try clear p6
        try clear c9
        try clear c10
        try clear c10b0
        try clear c10b1
        try clear c12
        try clear c13
        try clear c13b0
        try clear c13b1
        try clear c14
        try clear c14b0
        try clear c14b1
        try clear p15
        try clear q15
        try clear hx15
        try clear qi15
        try clear c16
        try clear c16b0
        try clear c16b1
        try clear c18
        try clear c18b0
        try clear c18b1
        try clear c23
        try clear c23b0
        try clear c23b1
        try clear c24
        try clear c24b0
        try clear c24b1
        try clear p1
        try clear p15
        try clear p2
        try clear q1
        try clear q15
        obtain ⟨x4_2, x5_2, rfl, HA, HK2, HO_4, HB⟩ := hrel
        cases gk with
        | zero => exact absurd HA.out (by simp [jsonparser_ParsePath.l0])
        | succ k2 =>
         have H := HA.out
         clear HA
         simp only [jsonparser_ParsePath.l0] at H
         by_cases c27 : x5_2 < (x0_3.size : Int)
         ·
          rw [if_pos c27] at H
          have c27b0 : decide (x5_2 < (x0_3.size : Int)) = true := decide_eq_true c27
          clear c27
          by_cases c28 : 0 ≤ x5_2
          ·
           rw [if_pos c28] at H
           have c28b0 : decide (0 ≤ x5_2) = true := decide_eq_true c28
           clear c28
           have HC30 := Aside0.mk H
           clear H
           have p29 : 0 ≤ (x5_2 : Int) := of_decide_eq_true (by first | (with_reducible assumption) | assumption)
           have q29 : x5_2 < (x0_3.size : Int) := of_decide_eq_true (by first | (with_reducible assumption) | assumption)
           have hx29 := bt_at x0_3 x5_2
           replace p29 := eq_true p29
           replace q29 := eq_true q29
           go_upto_block 3 with (fail)
           repeat (go_quiet (fail); go_upto_block 3 with (fail))
           go_cut [4, 5] (fun v4 v5 wc => ∃ (kq : Nat) (x4_29 : List ByteArray) (x5_29 : Int), v5 = .int .i64 x5_29 ∧ Aside0 (jsonparser_ParsePath.j4 kq x0_3 x4_29 x5_29 = some (r1, r2)) ∧ Aside0 (kq ≤ k2) ∧ Aside0 (Kd.R Kd.string 9 wc w.heap.size (fun _ => True) v4 x4_29) ∧ Aside0 (Below w.heap.size w wc))
           case first =>
            have H := HC30.out
            clear HC30
            by_cases c31 : (bt x0_3 x5_2) = 46
            ·
             rw [if_pos c31] at H
             have c31b0 : ((bt x0_3 x5_2) == 46) = true := beq_iff_eq.mpr c31
             have c31b1 : ((bt x0_3 x5_2) != 46) = false := bne_eq_false_iff_eq.mpr c31
             clear c31
             (first | rw [c31b0] | (simp only [i64_w, i32_w]; rw [c31b0]) | rw [c31b1] | skip)
             simp only [Option.some.injEq, Prod.mk.injEq] at H
             obtain ⟨rfl, rfl⟩ := H
             have hgl32 : wr.cell? ⟨1, 0, none⟩ = some (.iface gt1 gp1) := ((show Below w.heap.size w wr from HB.out).cell (World.block_lt_of_cell? w _ hgv1.out)).trans hgv1.out
             go_wp2
             repeat (go_quiet (fail); try go_wp2)
             go_ret2
             exact ⟨_, (gt1, gp1), by first | rfl | (simp [errX_none, errX_some] <;> rfl) | (simp only [← hji22]; first | rfl | (simp [errX_none, errX_some] <;> rfl)) | (simp [*, errX_none, errX_some] <;> rfl), by first | exact Kd.R_nil _ _ _ _ _ | exact Kd.N_nil _ _ _ _ _ | exact Kd.V_nil _ _ _ _ _ | exact Kd.Q_nil _ _ _ _ _ | exact Kd.S_nil _ _ _ _ _, by repeat (first | (with_reducible first | exact HB.out | apply below_alloc | apply pw_below_drewN | apply below_drew1) | exact HB.out)⟩
            ·
             rw [if_neg c31] at H
             have c31b0 : ((bt x0_3 x5_2) == 46) = false := beq_eq_false_iff_ne.mpr c31
             have c31b1 : ((bt x0_3 x5_2) != 46) = true := bne_iff_ne.mpr c31
             (first | rw [c31b0] | (simp only [i64_w, i32_w]; rw [c31b0]) | rw [c31b1] | skip)
             by_cases c33 : (bt x0_3 x5_2) = 34
             ·
              rw [if_pos c33] at H
              have c33b0 : ((bt x0_3 x5_2) == 34) = true := beq_iff_eq.mpr c33
              have c33b1 : ((bt x0_3 x5_2) != 34) = false := bne_eq_false_iff_eq.mpr c33
              clear c33
              replace H := Option.bind_eq_some_iff.mp H
              obtain ⟨⟨t170, t171, t172⟩, A340, H⟩ := H
              replace H : (if t172.isNone = true then (if x4_2.length < 8796093022208 then (jsonparser_ParsePath.j4 k2 x0_3 (x4_2 ++ [t170]) t171) else (none)) else (some (([] : List ByteArray), some (t172.getD 0)))) = some (r1, r2) := H
              have A34 := Aside0.mk A340
              clear A340
              rcases t172 with _ | q173
              ·
               have H1 : (if x4_2.length < 8796093022208 then (jsonparser_ParsePath.j4 k2 x0_3 (x4_2 ++ [t170]) t171) else (none)) = some (r1, r2) := by rw [if_pos (show (none : Option Int).isNone = true by rfl)] at H; exact H
               clear H
               have H := H1
               clear H1
               try simp only [errX_none, errX_some]
               by_cases c35 : x4_2.length < 8796093022208
               ·
                rw [if_pos c35] at H
                have LMc35 := Aside0.mk c35
                clear c35
                obtain ⟨y174, hy174⟩ : ∃ y_ : List ByteArray, y_ = (x4_2 ++ [t170]) := ⟨_, rfl⟩
                replace H : (jsonparser_ParsePath.j4 k2 x0_3 y174 t171) = some (r1, r2) := by first | (rw [hy174]; with_reducible exact H) | (have H2_ := (Option.bind_some _ _).symm.trans H; rw [hy174]; with_reducible exact H2_) | (have H2_ := (Option.bind_some _ _).symm.trans H; with_reducible exact H2_) | with_reducible exact H | (rw [hy174]; exact H) | exact H
                have Ny174 := Aside0.mk hy174
                clear hy174
                have H' := Aside0.mk H
                clear H
                iterate 11 (try go_wp2_with (first | (go_at_call 20; (with_reducible refine (jsonparser_parseQuotedPathKey.calls k2 x0_3 x5_2 t170 t171 none _ A34.out (HG.out.below (by repeat (first | (with_reducible first | exact HB.out | apply below_alloc | apply pw_below_drewN | apply below_drew1) | exact HB.out)))).mono ?_); rintro e w36 ⟨evz_, rfl, hb⟩; have n0_ := Aside0.mk (Kd.R_below (by (with_reducible repeat (first | apply Kd.R_alloc | apply Kd.R_drewN | apply Kd.R_drew)); exact HO_4.out) hb); have n1_ := Aside0.mk (below_step (by repeat (first | (with_reducible first | exact HB.out | apply below_alloc | apply pw_below_drewN | apply below_drew1) | exact HB.out)) hb); clear HO_4; clear HB; have HO_4 := n0_; have HB := n1_; clear n0_ n1_; (try clear hb); (try clear hb2); (try clear hk); (try clear hi); (try simp only [errX_none, errX_some])) | ((with_reducible refine gate_builtin (b := .append) (xs := #[.tmp 108, .tmp 110]) rfl ?_); at_builtin; refine Kd.R_append Kd.string (w0 := w) w.heap.size rfl (.tmp 108) (.tmp 110) 22 9 (.string ⟨#[]⟩) 16 rfl Tryd.underlying22 info9 rfl (by decide) (by omega) u4 x4_2 t170 [.string t170] (fun _ => True) (fun _ => False) rfl rfl ?aP (fun _ hk => hk.elim) ?aF ?aO ?aB ?aS ?aL ?_; (case aP => exact rfl); (case aB => exact (by repeat (first | (with_reducible first | exact HB.out | apply below_alloc | apply pw_below_drewN | apply below_drew1) | exact HB.out))); (case aF => exact (fun _ _ => trivial)); (case aO => exact (by (with_reducible repeat (first | apply Kd.R_alloc | apply Kd.R_drewN | apply Kd.R_drew)); exact HO_4.out)); (case aS => exact (below_size (by repeat (first | (with_reducible first | exact HB.out | apply below_alloc | apply pw_below_drewN | apply below_drew1) | exact HB.out)))); (case aL => have := LMc35.out; omega); intro v175 w37 ho hb hg hat; rw [← Ny174.out] at ho; have n0_ := Aside0.mk (hb); have n1_ := Aside0.mk (ho); clear HB; clear HO_4; have HB := n0_; have HO176 := n1_; clear n0_ n1_; clear ho hb hg hat)); try go_quiet (first | (go_at_call 20; (with_reducible refine (jsonparser_parseQuotedPathKey.calls k2 x0_3 x5_2 t170 t171 none _ A34.out (HG.out.below (by repeat (first | (with_reducible first | exact HB.out | apply below_alloc | apply pw_below_drewN | apply below_drew1) | exact HB.out)))).mono ?_); rintro e w36 ⟨evz_, rfl, hb⟩; have n0_ := Aside0.mk (Kd.R_below (by (with_reducible repeat (first | apply Kd.R_alloc | apply Kd.R_drewN | apply Kd.R_drew)); exact HO_4.out) hb); have n1_ := Aside0.mk (below_step (by repeat (first | (with_reducible first | exact HB.out | apply below_alloc | apply pw_below_drewN | apply below_drew1) | exact HB.out)) hb); clear HO_4; clear HB; have HO_4 := n0_; have HB := n1_; clear n0_ n1_; (try clear hb); (try clear hb2); (try clear hk); (try clear hi); (try simp only [errX_none, errX_some])) | ((with_reducible refine gate_builtin (b := .append) (xs := #[.tmp 108, .tmp 110]) rfl ?_); at_builtin; refine Kd.R_append Kd.string (w0 := w) w.heap.size rfl (.tmp 108) (.tmp 110) 22 9 (.string ⟨#[]⟩) 16 rfl Tryd.underlying22 info9 rfl (by decide) (by omega) u4 x4_2 t170 [.string t170] (fun _ => True) (fun _ => False) rfl rfl ?aP (fun _ hk => hk.elim) ?aF ?aO ?aB ?aS ?aL ?_; (case aP => exact rfl); (case aB => exact (by repeat (first | (with_reducible first | exact HB.out | apply below_alloc | apply pw_below_drewN | apply below_drew1) | exact HB.out))); (case aF => exact (fun _ _ => trivial)); (case aO => exact (by (with_reducible repeat (first | apply Kd.R_alloc | apply Kd.R_drewN | apply Kd.R_drew)); exact HO_4.out)); (case aS => exact (below_size (by repeat (first | (with_reducible first | exact HB.out | apply below_alloc | apply pw_below_drewN | apply below_drew1) | exact HB.out)))); (case aL => have := LMc35.out; omega); intro v175 w37 ho hb hg hat; rw [← Ny174.out] at ho; have n0_ := Aside0.mk (hb); have n1_ := Aside0.mk (ho); clear HB; clear HO_4; have HB := n0_; have HO176 := n1_; clear n0_ n1_; clear ho hb hg hat)))
                go_meet
                case rel => exact ⟨_, (y174), (t171), (by first | rfl | (simp; done) | (simp [nil_ne_, nil_eq_]; done) | (simp [*]; done)), (by first | exact H' | (rw [hji22]; exact H') | (simp only [hji22]; exact H') | (simp only [hji22] at H' ⊢; exact H')), ⟨by have := HJ3.out; have := HK2.out; first | omega | exact Nat.le_refl _⟩, ⟨by (with_reducible repeat (first | apply Kd.R_alloc | apply Kd.R_drewN | apply Kd.R_drew)); exact HO176.out⟩, ⟨by repeat (first | (with_reducible first | exact HB.out | apply below_alloc | apply pw_below_drewN | apply below_drew1) | exact HB.out)⟩⟩
               ·
                rw [if_neg c35] at H
                exact absurd H (by simp)
              ·
               have H1 : (some (([] : List ByteArray), some q173)) = some (r1, r2) := by rw [if_neg (show ¬ (some q173).isNone = true by simp)] at H; exact H
               clear H
               have H := H1
               clear H1
               try simp only [errX_none, errX_some]
               simp only [Option.some.injEq, Prod.mk.injEq] at H
               obtain ⟨rfl, rfl⟩ := H
               iterate 11 (try go_wp2_with (first | (go_at_call 20; (with_reducible refine (jsonparser_parseQuotedPathKey.calls k2 x0_3 x5_2 t170 t171 (some q173) _ A34.out (HG.out.below (by repeat (first | (with_reducible first | exact HB.out | apply below_alloc | apply pw_below_drewN | apply below_drew1) | exact HB.out)))).mono ?_); rintro e w38 ⟨evt172, rfl, hb⟩; have n0_ := Aside0.mk (Kd.R_below (by (with_reducible repeat (first | apply Kd.R_alloc | apply Kd.R_drewN | apply Kd.R_drew)); exact HO_4.out) hb); have n1_ := Aside0.mk (below_step (by repeat (first | (with_reducible first | exact HB.out | apply below_alloc | apply pw_below_drewN | apply below_drew1) | exact HB.out)) hb); clear HO_4; clear HB; have HO_4 := n0_; have HB := n1_; clear n0_ n1_; (try clear hb); (try clear hb2); (try clear hk); (try clear hi); (try simp only [errX_none, errX_some]))); try go_quiet (first | (go_at_call 20; (with_reducible refine (jsonparser_parseQuotedPathKey.calls k2 x0_3 x5_2 t170 t171 (some q173) _ A34.out (HG.out.below (by repeat (first | (with_reducible first | exact HB.out | apply below_alloc | apply pw_below_drewN | apply below_drew1) | exact HB.out)))).mono ?_); rintro e w38 ⟨evt172, rfl, hb⟩; have n0_ := Aside0.mk (Kd.R_below (by (with_reducible repeat (first | apply Kd.R_alloc | apply Kd.R_drewN | apply Kd.R_drew)); exact HO_4.out) hb); have n1_ := Aside0.mk (below_step (by repeat (first | (with_reducible first | exact HB.out | apply below_alloc | apply pw_below_drewN | apply below_drew1) | exact HB.out)) hb); clear HO_4; clear HB; have HO_4 := n0_; have HB := n1_; clear n0_ n1_; (try clear hb); (try clear hb2); (try clear hk); (try clear hi); (try simp only [errX_none, errX_some]))))
               go_ret2
               exact ⟨_, evt172, by first | rfl | (simp [errX_none, errX_some] <;> rfl) | (simp only [← hji22]; first | rfl | (simp [errX_none, errX_some] <;> rfl)) | (simp [*, errX_none, errX_some] <;> rfl), by first | exact Kd.R_nil _ _ _ _ _ | exact Kd.N_nil _ _ _ _ _ | exact Kd.V_nil _ _ _ _ _ | exact Kd.Q_nil _ _ _ _ _ | exact Kd.S_nil _ _ _ _ _, by repeat (first | (with_reducible first | exact HB.out | apply below_alloc | apply pw_below_drewN | apply below_drew1) | exact HB.out)⟩
             ·
              rw [if_neg c33] at H
              have c33b0 : ((bt x0_3 x5_2) == 34) = false := beq_eq_false_iff_ne.mpr c33
              have c33b1 : ((bt x0_3 x5_2) != 34) = true := bne_iff_ne.mpr c33
              by_cases c39 : (bt x0_3 x5_2) = 91
              ·
               rw [if_pos c39] at H
               have c39b0 : ((bt x0_3 x5_2) == 91) = true := beq_iff_eq.mpr c39
               have c39b1 : ((bt x0_3 x5_2) != 91) = false := bne_eq_false_iff_eq.mpr c39
               clear c39
               have H' := Aside0.mk H
               clear H
               go_wp2
               repeat (go_quiet (fail); try go_wp2)
               go_meet
               case rel => exact ⟨_, (x4_2), (x5_2), (by first | rfl | (simp; done) | (simp [nil_ne_, nil_eq_]; done) | (simp [*]; done)), (by first | exact H' | (rw [hji22]; exact H') | (simp only [hji22]; exact H') | (simp only [hji22] at H' ⊢; exact H')), ⟨by have := HJ3.out; have := HK2.out; first | omega | exact Nat.le_refl _⟩, ⟨by (with_reducible repeat (first | apply Kd.R_alloc | apply Kd.R_drewN | apply Kd.R_drew)); exact HO_4.out⟩, ⟨by repeat (first | (with_reducible first | exact HB.out | apply below_alloc | apply pw_below_drewN | apply below_drew1) | exact HB.out)⟩⟩
              ·
               rw [if_neg c39] at H
               have c39b0 : ((bt x0_3 x5_2) == 91) = false := beq_eq_false_iff_ne.mpr c39
               have c39b1 : ((bt x0_3 x5_2) != 91) = true := bne_iff_ne.mpr c39
               have H' := Aside0.mk H
               clear H
               go_wp2
               repeat (go_quiet (fail); try go_wp2)
               try simp only [Act.put, List.setIfInBounds_toArray, List.set_cons_succ, List.set_cons_zero]
               go_loopg [5] k2 (fun kq v5 w' => ∃ (x5_3 : Int), v5 = .int .i64 x5_3 ∧ Aside0 (jsonparser_ParsePath.l1 kq x0_3 x4_2 x5_3 x5_2 = some (r1, r2)) ∧ Aside0 (kq ≤ k2) ∧ Aside0 (Kd.R Kd.string 9 w' w.heap.size (fun _ => True) u4 x4_2) ∧ Aside0 (Below w.heap.size w w'))
               case atStart => exact ⟨(x5_2), (by first | rfl | (simp; done) | (simp [nil_ne_, nil_eq_]; done) | (simp [*]; done)), H', ⟨Nat.le_refl _⟩, ⟨by (with_reducible repeat (first | apply Kd.R_alloc | apply Kd.R_drewN | apply Kd.R_drew)); exact HO_4.out⟩, ⟨by repeat (first | (with_reducible first | exact HB.out | apply below_alloc | apply pw_below_drewN | apply below_drew1) | exact HB.out)⟩⟩
               case round =>
                clear H'
                try clear c1
                try clear p1
                try clear q1
                try clear hx1
                try clear qi1
                try clear c2
                try clear c2b0
                try clear c2b1
                try clear p2
                try clear q2
                try clear hx2
                try clear c3
                try clear c5
                try clear c5b0
                try clear c5b1
                try clear p6
                try clear c9
                try clear c10
                try clear c10b0
                try clear c10b1
                try clear c12
                try clear c13
                try clear c13b0
                try clear c13b1
                try clear c14
                try clear c14b0
                try clear c14b1
                try clear p15
                try clear q15
                try clear hx15
                try clear qi15
                try clear c16
                try clear c16b0
                try clear c16b1
                try clear q17
                try clear c18
                try clear c18b0
                try clear c18b1
                try clear c23
                try clear c23b0
                try clear c23b1
                try clear c24
                try clear c24b0
                try clear c24b1
                try clear c27
                try clear c27b0
                try clear c28
                try clear c28b0
                try clear p29
                try clear q29
                try clear hx29
                try clear c31
                try clear c31b0
                try clear c31b1
                try clear c33
                try clear c33b0
                try clear c33b1
                try clear c35
                try clear c39
                try clear c39b0
                try clear c39b1
                try clear p1
                try clear p15
                try clear p2
                try clear p29
                try clear p6
                try clear q1
                try clear q15
                try clear q173
                try clear q29
                obtain ⟨x5_3, rfl, HA, HK3, HO_4, HB⟩ := hrel
                cases gk with
                | zero => exact absurd HA.out (by simp [jsonparser_ParsePath.l1])
                | succ k3 =>
                 have H := HA.out
                 clear HA
                 simp only [jsonparser_ParsePath.l1] at H
                 have HC40 := Aside0.mk H
                 clear H
                 go_upto_region 18 with (fail)
                 repeat (go_quiet (fail); go_upto_region 18 with (fail))
                 go_cut [68] (fun v68 wc => ∃ (kq : Nat) (x68_39 : Bool), v68 = .bool x68_39 ∧ Aside0 (jsonparser_ParsePath.j3 kq x0_3 x4_2 x5_3 x5_2 x68_39 = some (r1, r2)) ∧ Aside0 (kq ≤ k3) ∧ Aside0 (Kd.R Kd.string 9 wc w.heap.size (fun _ => True) u4 x4_2) ∧ Aside0 (Below w.heap.size w wc))
                 case first =>
                  have H := HC40.out
                  clear HC40
                  by_cases c41 : x5_3 < (x0_3.size : Int)
                  ·
                   rw [if_pos c41] at H
                   have c41b0 : decide (x5_3 < (x0_3.size : Int)) = true := decide_eq_true c41
                   clear c41
                   (first | rw [c41b0] | (simp only [i64_w, i32_w]; rw [c41b0]) | rw [c41b1] | skip)
                   by_cases c42 : 0 ≤ x5_3
                   ·
                    rw [if_pos c42] at H
                    have c42b0 : decide (0 ≤ x5_3) = true := decide_eq_true c42
                    clear c42
                    by_cases c44 : (bt x0_3 x5_3) = 46
                    ·
                     rw [if_pos c44] at H
                     have c44b0 : ((bt x0_3 x5_3) == 46) = true := beq_iff_eq.mpr c44
                     have c44b1 : ((bt x0_3 x5_3) != 46) = false := bne_eq_false_iff_eq.mpr c44
                     clear c44
                     have H' := Aside0.mk H
                     clear H
                     have p43 : 0 ≤ (x5_3 : Int) := of_decide_eq_true (by first | (with_reducible assumption) | assumption)
                     have q43 : x5_3 < (x0_3.size : Int) := of_decide_eq_true (by first | (with_reducible assumption) | assumption)
                     have hx43 := bt_at x0_3 x5_3
                     replace p43 := eq_true p43
                     replace q43 := eq_true q43
                     go_wp2
                     repeat (go_quiet (fail); try go_wp2)
                     go_meet
                     case rel => exact ⟨_, (false), (by first | rfl | (simp; done) | (simp [nil_ne_, nil_eq_]; done) | (simp [*]; done)), (by first | exact H' | (rw [hji22]; exact H') | (simp only [hji22]; exact H') | (simp only [hji22] at H' ⊢; exact H')), ⟨by have := HJ3.out; have := HK2.out; have := HK3.out; first | omega | exact Nat.le_refl _⟩, ⟨by (with_reducible repeat (first | apply Kd.R_alloc | apply Kd.R_drewN | apply Kd.R_drew)); exact HO_4.out⟩, ⟨by repeat (first | (with_reducible first | exact HB.out | apply below_alloc | apply pw_below_drewN | apply below_drew1) | exact HB.out)⟩⟩
                    ·
                     rw [if_neg c44] at H
                     have c44b0 : ((bt x0_3 x5_3) == 46) = false := beq_eq_false_iff_ne.mpr c44
                     have c44b1 : ((bt x0_3 x5_3) != 46) = true := bne_iff_ne.mpr c44
                     have H' := Aside0.mk H
                     clear H
                     have p43 : 0 ≤ (x5_3 : Int) := of_decide_eq_true (by first | (with_reducible assumption) | assumption)
                     have q43 : x5_3 < (x0_3.size : Int) := of_decide_eq_true (by first | (with_reducible assumption) | assumption)
                     have hx43 := bt_at x0_3 x5_3
                     replace p43 := eq_true p43
                     replace q43 := eq_true q43
                     have p45 : 0 ≤ (x5_3 : Int) := of_decide_eq_true (by first | (with_reducible assumption) | assumption)
                     have q45 : x5_3 < (x0_3.size : Int) := of_decide_eq_true (by first | (with_reducible assumption) | assumption)
                     have hx45 := bt_at x0_3 x5_3
                     replace p45 := eq_true p45
                     replace q45 := eq_true q45
                     go_wp2
                     repeat (go_quiet (fail); try go_wp2)
                     go_meet
                     case rel => exact ⟨_, (((bt x0_3 x5_3) != 91)), (by first | rfl | (simp; done) | (simp [nil_ne_, nil_eq_]; done) | (simp [*]; done)), (by first | exact H' | (rw [hji22]; exact H') | (simp only [hji22]; exact H') | (simp only [hji22] at H' ⊢; exact H')), ⟨by have := HJ3.out; have := HK2.out; have := HK3.out; first | omega | exact Nat.le_refl _⟩, ⟨by (with_reducible repeat (first | apply Kd.R_alloc | apply Kd.R_drewN | apply Kd.R_drew)); exact HO_4.out⟩, ⟨by repeat (first | (with_reducible first | exact HB.out | apply below_alloc | apply pw_below_drewN | apply below_drew1) | exact HB.out)⟩⟩
                   ·
                    rw [if_neg c42] at H
                    exact absurd H (by simp)
                  ·
                   rw [if_neg c41] at H
                   have c41b0 : decide (x5_3 < (x0_3.size : Int)) = false := decide_eq_false c41
                   clear c41
                   (first | rw [c41b0] | (simp only [i64_w, i32_w]; rw [c41b0]) | rw [c41b1] | skip)
                   have H' := Aside0.mk H
                   clear H
                   go_wp2
                   repeat (go_quiet (fail); try go_wp2)
                   go_meet
                   case rel => exact ⟨_, (false), (by first | rfl | (simp; done) | (simp [nil_ne_, nil_eq_]; done) | (simp [*]; done)), (by first | exact H' | (rw [hji22]; exact H') | (simp only [hji22]; exact H') | (simp only [hji22] at H' ⊢; exact H')), ⟨by have := HJ3.out; have := HK2.out; have := HK3.out; first | omega | exact Nat.le_refl _⟩, ⟨by (with_reducible repeat (first | apply Kd.R_alloc | apply Kd.R_drewN | apply Kd.R_drew)); exact HO_4.out⟩, ⟨by repeat (first | (with_reducible first | exact HB.out | apply below_alloc | apply pw_below_drewN | apply below_drew1) | exact HB.out)⟩⟩
                 case rest =>
                  clear HC40
                  try clear c1
                  try clear p1
                  try clear q1
                  try clear hx1
                  try clear qi1
                  try clear c2
                  try clear c2b0
                  try clear c2b1
                  try clear p2
                  try clear q2
                  try clear hx2
                  try clear c3
                  try clear c4
                  try clear p4
                  try clear q4
                  try clear hx4
                  try clear c5
                  try clear c5b0
                  try clear c5b1
                  try clear p6
                  try clear c9
                  try clear c10
                  try clear c10b0
                  try clear c10b1
                  try clear c12
                  try clear c13
                  try clear c13b0
                  try clear c13b1
                  try clear c14
                  try clear c14b0
                  try clear c14b1
                  try clear p15
                  try clear q15
                  try clear hx15
                  try clear qi15
                  try clear c16
                  try clear c16b0
                  try clear c16b1
                  try clear q17
                  try clear c18
                  try clear c18b0
                  try clear c18b1
                  try clear c23
                  try clear c23b0
                  try clear c23b1
                  try clear c24
                  try clear c24b0
                  try clear c24b1
                  try clear c27
                  try clear c27b0
                  try clear c28
                  try clear c28b0
                  try clear p29
                  try clear q29
                  try clear hx29
                  try clear c31
                  try clear c31b0
                  try clear c31b1
                  try clear c33
                  try clear c33b0
                  try clear c33b1
                  try clear c35
                  try clear c39
                  try clear c39b0
                  try clear c39b1
                  try clear c41
                  try clear c41b0
                  try clear c41b1
                  try clear c42
                  try clear c42b0
                  try clear p43
                  try clear q43
                  try clear hx43
                  try clear c44
                  try clear c44b0
                  try clear c44b1
                  try clear p45
                  try clear q45
                  try clear hx45
                  try clear p1
                  try clear p15
                  try clear p2
                  try clear p29
                  try clear p43
                  try clear p45
                  try clear p6
                  try clear q1
                  try clear q15
                  try clear q17
                  try clear q173
                  try clear q2
                  try clear q29
                  try clear q43
                  try clear q45
                  obtain ⟨kq, x68_39, rfl, HA, HJ39, HO_4, HB⟩ := hcut
                  cases kq with
                  | zero => exact absurd HA.out (by simp [jsonparser_ParsePath.j3])
                  | succ kj39 =>
                   have H := HA.out
                   clear HA
                   simp only [jsonparser_ParsePath.j3] at H
                   by_cases c46 : x68_39 = true
                   ·
                    subst c46
                    have H1 : (if 0 ≤ x5_3 then (if x5_3 < (x0_3.size : Int) then (if (bt x0_3 x5_3) = 93 then (some (([] : List ByteArray), some 1)) else (if (bt x0_3 x5_3) = 34 then (some (([] : List ByteArray), some 1)) else (jsonparser_ParsePath.l1 kj39 x0_3 x4_2 (wrap64 (x5_3 + 1)) x5_2))) else (none)) else (none)) = some (r1, r2) := by rw [if_pos rfl] at H; exact H
                    clear H
                    have H := H1
                    clear H1
                    by_cases c47 : 0 ≤ x5_3
                    ·
                     rw [if_pos c47] at H
                     have c47b0 : decide (0 ≤ x5_3) = true := decide_eq_true c47
                     clear c47
                     by_cases c48 : x5_3 < (x0_3.size : Int)
                     ·
                      rw [if_pos c48] at H
                      have c48b0 : decide (x5_3 < (x0_3.size : Int)) = true := decide_eq_true c48
                      clear c48
                      by_cases c50 : (bt x0_3 x5_3) = 93
                      ·
                       rw [if_pos c50] at H
                       have c50b0 : ((bt x0_3 x5_3) == 93) = true := beq_iff_eq.mpr c50
                       have c50b1 : ((bt x0_3 x5_3) != 93) = false := bne_eq_false_iff_eq.mpr c50
                       clear c50
                       simp only [Option.some.injEq, Prod.mk.injEq] at H
                       obtain ⟨rfl, rfl⟩ := H
                       have p49 : 0 ≤ (x5_3 : Int) := of_decide_eq_true (by first | (with_reducible assumption) | assumption)
                       have q49 : x5_3 < (x0_3.size : Int) := of_decide_eq_true (by first | (with_reducible assumption) | assumption)
                       have hx49 := bt_at x0_3 x5_3
                       replace p49 := eq_true p49
                       replace q49 := eq_true q49
                       have hgl51 : wc.cell? ⟨1, 0, none⟩ = some (.iface gt1 gp1) := ((show Below w.heap.size w wc from HB.out).cell (World.block_lt_of_cell? w _ hgv1.out)).trans hgv1.out
                       go_wp2
                       repeat (go_quiet (fail); try go_wp2)
                       go_ret2
                       exact ⟨_, (gt1, gp1), by first | rfl | (simp [errX_none, errX_some] <;> rfl) | (simp only [← hji22]; first | rfl | (simp [errX_none, errX_some] <;> rfl)) | (simp [*, errX_none, errX_some] <;> rfl), by first | exact Kd.R_nil _ _ _ _ _ | exact Kd.N_nil _ _ _ _ _ | exact Kd.V_nil _ _ _ _ _ | exact Kd.Q_nil _ _ _ _ _ | exact Kd.S_nil _ _ _ _ _, by repeat (first | (with_reducible first | exact HB.out | apply below_alloc | apply pw_below_drewN | apply below_drew1) | exact HB.out)⟩
                      ·
                       rw [if_neg c50] at H
                       have c50b0 : ((bt x0_3 x5_3) == 93) = false := beq_eq_false_iff_ne.mpr c50
                       have c50b1 : ((bt x0_3 x5_3) != 93) = true := bne_iff_ne.mpr c50
                       by_cases c53 : (bt x0_3 x5_3) = 34
                       ·
                        rw [if_pos c53] at H
                        have c53b0 : ((bt x0_3 x5_3) == 34) = true := beq_iff_eq.mpr c53
                        have c53b1 : ((bt x0_3 x5_3) != 34) = false := bne_eq_false_iff_eq.mpr c53
                        clear c53
                        simp only [Option.some.injEq, Prod.mk.injEq] at H
                        obtain ⟨rfl, rfl⟩ := H
                        have p49 : 0 ≤ (x5_3 : Int) := of_decide_eq_true (by first | (with_reducible assumption) | assumption)
                        have q49 : x5_3 < (x0_3.size : Int) := of_decide_eq_true (by first | (with_reducible assumption) | assumption)
                        have hx49 := bt_at x0_3 x5_3
                        replace p49 := eq_true p49
                        replace q49 := eq_true q49
                        have p52 : 0 ≤ (x5_3 : Int) := of_decide_eq_true (by first | (with_reducible assumption) | assumption)
                        have q52 : x5_3 < (x0_3.size : Int) := of_decide_eq_true (by first | (with_reducible assumption) | assumption)
                        have hx52 := bt_at x0_3 x5_3
                        replace p52 := eq_true p52
                        replace q52 := eq_true q52
                        have hgl54 : wc.cell? ⟨1, 0, none⟩ = some (.iface gt1 gp1) := ((show Below w.heap.size w wc from HB.out).cell (World.block_lt_of_cell? w _ hgv1.out)).trans hgv1.out
                        go_wp2
                        repeat (go_quiet (fail); try go_wp2)
                        go_ret2
                        exact ⟨_, (gt1, gp1), by first | rfl | (simp [errX_none, errX_some] <;> rfl) | (simp only [← hji22]; first | rfl | (simp [errX_none, errX_some] <;> rfl)) | (simp [*, errX_none, errX_some] <;> rfl), by first | exact Kd.R_nil _ _ _ _ _ | exact Kd.N_nil _ _ _ _ _ | exact Kd.V_nil _ _ _ _ _ | exact Kd.Q_nil _ _ _ _ _ | exact Kd.S_nil _ _ _ _ _, by repeat (first | (with_reducible first | exact HB.out | apply below_alloc | apply pw_below_drewN | apply below_drew1) | exact HB.out)⟩
                       ·
                        rw [if_neg c53] at H
                        have c53b0 : ((bt x0_3 x5_3) == 34) = false := beq_eq_false_iff_ne.mpr c53
                        have c53b1 : ((bt x0_3 x5_3) != 34) = true := bne_iff_ne.mpr c53
                        have H' := Aside0.mk H
                        clear H
                        have p49 : 0 ≤ (x5_3 : Int) := of_decide_eq_true (by first | (with_reducible assumption) | assumption)
                        have q49 : x5_3 < (x0_3.size : Int) := of_decide_eq_true (by first | (with_reducible assumption) | assumption)
                        have hx49 := bt_at x0_3 x5_3
                        replace p49 := eq_true p49
                        replace q49 := eq_true q49
                        have p52 : 0 ≤ (x5_3 : Int) := of_decide_eq_true (by first | (with_reducible assumption) | assumption)
                        have q52 : x5_3 < (x0_3.size : Int) := of_decide_eq_true (by first | (with_reducible assumption) | assumption)
                        have hx52 := bt_at x0_3 x5_3
                        replace p52 := eq_true p52
                        replace q52 := eq_true q52
                        go_wp2
                        repeat (go_quiet (fail); try go_wp2)
                        go_roundg kj39
                        case measure => have := HJ3.out; have := HK2.out; have := HK3.out; have := HJ39.out; omega
                        case rel => exact ⟨(wrap64 (x5_3 + 1)), (by first | rfl | (simp; done) | (simp [nil_ne_, nil_eq_]; done) | (simp [*]; done)), (by first | exact H' | (rw [hji22]; exact H') | (simp only [hji22]; exact H') | (simp only [hji22] at H' ⊢; exact H')), ⟨by have := HJ3.out; have := HK2.out; have := HK3.out; have := HJ39.out; omega⟩, ⟨by (with_reducible repeat (first | apply Kd.R_alloc | apply Kd.R_drewN | apply Kd.R_drew)); exact HO_4.out⟩, ⟨by repeat (first | (with_reducible first | exact HB.out | apply below_alloc | apply pw_below_drewN | apply below_drew1) | exact HB.out)⟩⟩
                     ·
                      rw [if_neg c48] at H
                      exact absurd H (by simp)
                    ·
                     rw [if_neg c47] at H
                     exact absurd H (by simp)
                   ·
                    replace c46 := Bool.eq_false_iff.mpr c46
                    subst c46
                    have H1 : (if x5_2 = x5_3 then (some (([] : List ByteArray), some 1)) else (if 0 ≤ x5_2 then (if x5_2 ≤ x5_3 then (if x5_3 ≤ (x0_3.size : Int) then (if x4_2.length < 8796093022208 then (jsonparser_ParsePath.j4 kj39 x0_3 (x4_2 ++ [x0_3.extract (x5_2 : Int).toNat (x5_3 : Int).toNat]) x5_3) else (none)) else (none)) else (none)) else (none))) = some (r1, r2) := by rw [if_neg (show ¬ (false = true) by decide)] at H; exact H
                    clear H
                    have H := H1
                    clear H1
                    by_cases c55 : x5_2 = x5_3
                    ·
                     rw [if_pos c55] at H
                     have c55b0 : (x5_2 == x5_3) = true := beq_iff_eq.mpr c55
                     have c55b1 : (x5_2 != x5_3) = false := bne_eq_false_iff_eq.mpr c55
                     clear c55
                     simp only [Option.some.injEq, Prod.mk.injEq] at H
                     obtain ⟨rfl, rfl⟩ := H
                     have hgl56 : wc.cell? ⟨1, 0, none⟩ = some (.iface gt1 gp1) := ((show Below w.heap.size w wc from HB.out).cell (World.block_lt_of_cell? w _ hgv1.out)).trans hgv1.out
                     go_wp2
                     repeat (go_quiet (fail); try go_wp2)
                     go_ret2
                     exact ⟨_, (gt1, gp1), by first | rfl | (simp [errX_none, errX_some] <;> rfl) | (simp only [← hji22]; first | rfl | (simp [errX_none, errX_some] <;> rfl)) | (simp [*, errX_none, errX_some] <;> rfl), by first | exact Kd.R_nil _ _ _ _ _ | exact Kd.N_nil _ _ _ _ _ | exact Kd.V_nil _ _ _ _ _ | exact Kd.Q_nil _ _ _ _ _ | exact Kd.S_nil _ _ _ _ _, by repeat (first | (with_reducible first | exact HB.out | apply below_alloc | apply pw_below_drewN | apply below_drew1) | exact HB.out)⟩
                    ·
                     rw [if_neg c55] at H
                     have c55b0 : (x5_2 == x5_3) = false := beq_eq_false_iff_ne.mpr c55
                     have c55b1 : (x5_2 != x5_3) = true := bne_iff_ne.mpr c55
                     by_cases c57 : 0 ≤ x5_2
                     ·
                      rw [if_pos c57] at H
                      have c57b0 := eq_true c57
                      have c57b1 : decide (0 ≤ x5_2) = true := decide_eq_true c57
                      clear c57
                      by_cases c58 : x5_2 ≤ x5_3
                      ·
                       rw [if_pos c58] at H
                       have c58b0 := eq_true c58
                       have c58b1 : decide (x5_2 ≤ x5_3) = true := decide_eq_true c58
                       clear c58
                       by_cases c59 : x5_3 ≤ (x0_3.size : Int)
                       ·
                        rw [if_pos c59] at H
                        have c59b0 := eq_true c59
                        have c59b1 : decide (x5_3 ≤ (x0_3.size : Int)) = true := decide_eq_true c59
                        clear c59
                        by_cases c60 : x4_2.length < 8796093022208
                        ·
                         rw [if_pos c60] at H
                         have LMc60 := Aside0.mk c60
                         clear c60
                         obtain ⟨y177, hy177⟩ : ∃ y_ : List ByteArray, y_ = (x4_2 ++ [x0_3.extract (x5_2 : Int).toNat (x5_3 : Int).toNat]) := ⟨_, rfl⟩
                         replace H : (jsonparser_ParsePath.j4 kj39 x0_3 y177 x5_3) = some (r1, r2) := by first | (rw [hy177]; with_reducible exact H) | (have H2_ := (Option.bind_some _ _).symm.trans H; rw [hy177]; with_reducible exact H2_) | (have H2_ := (Option.bind_some _ _).symm.trans H; with_reducible exact H2_) | with_reducible exact H | (rw [hy177]; exact H) | exact H
                         have Ny177 := Aside0.mk hy177
                         clear hy177
                         have H' := Aside0.mk H
                         clear H
                         iterate 11 (try go_wp2_with (first | ((with_reducible refine gate_builtin (b := .append) (xs := #[.tmp 86, .tmp 91]) rfl ?_); at_builtin; refine Kd.R_append Kd.string (w0 := w) w.heap.size rfl (.tmp 86) (.tmp 91) 22 9 (.string ⟨#[]⟩) 16 rfl Tryd.underlying22 info9 rfl (by decide) (by omega) u4 x4_2 (x0_3.extract (x5_2 : Int).toNat (x5_3 : Int).toNat) [.string (x0_3.extract (x5_2 : Int).toNat (x5_3 : Int).toNat)] (fun _ => True) (fun _ => False) rfl rfl ?aP (fun _ hk => hk.elim) ?aF ?aO ?aB ?aS ?aL ?_; (case aP => exact rfl); (case aB => exact (by repeat (first | (with_reducible first | exact HB.out | apply below_alloc | apply pw_below_drewN | apply below_drew1) | exact HB.out))); (case aF => exact (fun _ _ => trivial)); (case aO => exact (by (with_reducible repeat (first | apply Kd.R_alloc | apply Kd.R_drewN | apply Kd.R_drew)); exact HO_4.out)); (case aS => exact (below_size (by repeat (first | (with_reducible first | exact HB.out | apply below_alloc | apply pw_below_drewN | apply below_drew1) | exact HB.out)))); (case aL => have := LMc60.out; omega); intro v178 w61 ho hb hg hat; rw [← Ny177.out] at ho; have n0_ := Aside0.mk (hb); have n1_ := Aside0.mk (ho); clear HB; clear HO_4; have HB := n0_; have HO179 := n1_; clear n0_ n1_; clear ho hb hg hat)); try go_quiet (first | ((with_reducible refine gate_builtin (b := .append) (xs := #[.tmp 86, .tmp 91]) rfl ?_); at_builtin; refine Kd.R_append Kd.string (w0 := w) w.heap.size rfl (.tmp 86) (.tmp 91) 22 9 (.string ⟨#[]⟩) 16 rfl Tryd.underlying22 info9 rfl (by decide) (by omega) u4 x4_2 (x0_3.extract (x5_2 : Int).toNat (x5_3 : Int).toNat) [.string (x0_3.extract (x5_2 : Int).toNat (x5_3 : Int).toNat)] (fun _ => True) (fun _ => False) rfl rfl ?aP (fun _ hk => hk.elim) ?aF ?aO ?aB ?aS ?aL ?_; (case aP => exact rfl); (case aB => exact (by repeat (first | (with_reducible first | exact HB.out | apply below_alloc | apply pw_below_drewN | apply below_drew1) | exact HB.out))); (case aF => exact (fun _ _ => trivial)); (case aO => exact (by (with_reducible repeat (first | apply Kd.R_alloc | apply Kd.R_drewN | apply Kd.R_drew)); exact HO_4.out)); (case aS => exact (below_size (by repeat (first | (with_reducible first | exact HB.out | apply below_alloc | apply pw_below_drewN | apply below_drew1) | exact HB.out)))); (case aL => have := LMc60.out; omega); intro v178 w61 ho hb hg hat; rw [← Ny177.out] at ho; have n0_ := Aside0.mk (hb); have n1_ := Aside0.mk (ho); clear HB; clear HO_4; have HB := n0_; have HO179 := n1_; clear n0_ n1_; clear ho hb hg hat)))
                         go_meet
                         case rel => exact ⟨_, (y177), (x5_3), (by first | rfl | (simp; done) | (simp [nil_ne_, nil_eq_]; done) | (simp [*]; done)), (by first | exact H' | (rw [hji22]; exact H') | (simp only [hji22]; exact H') | (simp only [hji22] at H' ⊢; exact H')), ⟨by have := HJ3.out; have := HK2.out; have := HK3.out; have := HJ39.out; first | omega | exact Nat.le_refl _⟩, ⟨by (with_reducible repeat (first | apply Kd.R_alloc | apply Kd.R_drewN | apply Kd.R_drew)); exact HO179.out⟩, ⟨by repeat (first | (with_reducible first | exact HB.out | apply below_alloc | apply pw_below_drewN | apply below_drew1) | exact HB.out)⟩⟩
                        ·
                         rw [if_neg c60] at H
                         exact absurd H (by simp)
                       ·
                        rw [if_neg c59] at H
                        exact absurd H (by simp)
                      ·
                       rw [if_neg c58] at H
                       exact absurd H (by simp)
                     ·
                      rw [if_neg c57] at H
                      exact absurd H (by simp)
           case rest =>
            clear HC30
            try clear c1
            try clear p1
            try clear q1
            try clear hx1
            try clear qi1
            try clear c2
            try clear c2b0
            try clear c2b1
            try clear p2
            try clear q2
            try clear hx2
            try clear c3
            try clear c4
            try clear p4
            try clear q4
            try clear hx4
            try clear c5
            try clear c5b0
            try clear c5b1
            try clear p5
            try clear q5
            try clear hx5
            try clear c6
            try clear p6
            try clear c9
            try clear c10
            try clear c10b0
            try clear c10b1
            try clear c12
            try clear c13
            try clear c13b0
            try clear c13b1
            try clear c14
            try clear c14b0
            try clear c14b1
            try clear p15
            try clear q15
            try clear hx15
            try clear qi15
            try clear c16
            try clear c16b0
            try clear c16b1
            try clear q17
            try clear c18
            try clear c18b0
            try clear c18b1
            try clear c23
            try clear c23b0
            try clear c23b1
            try clear c24
            try clear c24b0
            try clear c24b1
            try clear c27
            try clear c27b0
            try clear c28
            try clear c28b0
            try clear p29
            try clear q29
            try clear hx29
            try clear c31
            try clear c31b0
            try clear c31b1
            try clear c33
            try clear c33b0
            try clear c33b1
            try clear c35
            try clear c39
            try clear c39b0
            try clear c39b1
            try clear c41
            try clear c41b0
            try clear c41b1
            try clear c42
            try clear c42b0
            try clear p43
            try clear q43
            try clear hx43
            try clear c44
            try clear c44b0
            try clear c44b1
            try clear p45
            try clear q45
            try clear hx45
            try clear c46
            try clear c47
            try clear c47b0
            try clear c48
            try clear c48b0
            try clear p49
            try clear q49
            try clear hx49
            try clear c50
            try clear c50b0
            try clear c50b1
            try clear p52
            try clear q52
            try clear hx52
            try clear c53
            try clear c53b0
            try clear c53b1
            try clear c55
            try clear c55b0
            try clear c55b1
            try clear c57
            try clear c57b0
            try clear c57b1
            try clear c58
            try clear c58b0
            try clear c58b1
            try clear c59
            try clear c59b0
            try clear c59b1
            try clear c60
            try clear p1
            try clear p15
            try clear p2
            try clear p29
            try clear p4
            try clear p43
            try clear p45
            try clear p49
            try clear p52
            try clear p6
            try clear q1
            try clear q15
            try clear q17
            try clear q173
            try clear q2
            try clear q29
            try clear q4
            try clear q43
            try clear q45
            try clear q49
            try clear q52
            obtain ⟨kq, x4_29, x5_29, rfl, HA, HJ29, HO_4, HB⟩ := hcut
            cases kq with
            | zero => exact absurd HA.out (by simp [jsonparser_ParsePath.j4])
            | succ kj29 =>
             have H := HA.out
             clear HA
             simp only [jsonparser_ParsePath.j4] at H
             have H' := Aside0.mk H
             clear H
             go_wp2
             repeat (go_quiet (fail); try go_wp2)
             try simp only [Act.put, List.setIfInBounds_toArray, List.set_cons_succ, List.set_cons_zero]
             go_loopg [4, 5] kj29 (fun kq v4 v5 w' => ∃ (x4_4 : List ByteArray) (x5_4 : Int), v5 = .int .i64 x5_4 ∧ Aside0 (jsonparser_ParsePath.l2 kq x0_3 x4_4 x5_4 = some (r1, r2)) ∧ Aside0 (kq ≤ kj29) ∧ Aside0 (Kd.R Kd.string 9 w' w.heap.size (fun _ => True) v4 x4_4) ∧ Aside0 (Below w.heap.size w w'))
             case atStart => exact ⟨(x4_29), (x5_29), (by first | rfl | (simp; done) | (simp [nil_ne_, nil_eq_]; done) | (simp [*]; done)), H', ⟨Nat.le_refl _⟩, ⟨by (with_reducible repeat (first | apply Kd.R_alloc | apply Kd.R_drewN | apply Kd.R_drew)); exact HO_4.out⟩, ⟨by repeat (first | (with_reducible first | exact HB.out | apply below_alloc | apply pw_below_drewN | apply below_drew1) | exact HB.out)⟩⟩
             case round =>
              clear H'
              try clear c1
              try clear p1
              try clear q1
              try clear hx1
              try clear qi1
              try clear c2
              try clear c2b0
              try clear c2b1
              try clear p2
              try clear q2
              try clear hx2
              try clear c3
              try clear c4
              try clear p4
              try clear q4
              try clear hx4
              try clear c5
              try clear c5b0
              try clear c5b1
              try clear p5
              try clear q5
              try clear hx5
              try clear c6
              try clear p6
              try clear c9
              try clear c10
              try clear c10b0
              try clear c10b1
              try clear c12
              try clear c13
              try clear c13b0
              try clear c13b1
              try clear c14
              try clear c14b0
              try clear c14b1
              try clear p15
              try clear q15
              try clear hx15
              try clear qi15
              try clear c16
              try clear c16b0
              try clear c16b1
              try clear q17
              try clear c18
              try clear c18b0
              try clear c18b1
              try clear c23
              try clear c23b0
              try clear c23b1
              try clear c24
              try clear c24b0
              try clear c24b1
              try clear c27
              try clear c27b0
              try clear c28
              try clear c28b0
              try clear p29
              try clear q29
              try clear hx29
              try clear c31
              try clear c31b0
              try clear c31b1
              try clear c33
              try clear c33b0
              try clear c33b1
              try clear c35
              try clear c39
              try clear c39b0
              try clear c39b1
              try clear c41
              try clear c41b0
              try clear c41b1
              try clear c42
              try clear c42b0
              try clear p43
              try clear q43
              try clear hx43
              try clear c44
              try clear c44b0
              try clear c44b1
              try clear p45
              try clear q45
              try clear hx45
              try clear c46
              try clear c47
              try clear c47b0
              try clear c48
              try clear c48b0
              try clear p49
              try clear q49
              try clear hx49
              try clear c50
              try clear c50b0
              try clear c50b1
              try clear p52
              try clear q52
              try clear hx52
              try clear c53
              try clear c53b0
              try clear c53b1
              try clear c55
              try clear c55b0
              try clear c55b1
              try clear c57
              try clear c57b0
              try clear c57b1
              try clear c58
              try clear c58b0
              try clear c58b1
              try clear c59
              try clear c59b0
              try clear c59b1
              try clear c60
              try clear p1
              try clear p15
              try clear p2
              try clear p29
              try clear p4
              try clear p43
              try clear p45
              try clear p49
              try clear p5
              try clear p52
              try clear p6
              try clear q1
              try clear q15
              try clear q17
              try clear q173
              try clear q2
              try clear q29
              try clear q4
              try clear q43
              try clear q45
              try clear q49
              try clear q5
              try clear q52
              obtain ⟨x4_4, x5_4, rfl, HA, HK4, HO_4, HB⟩ := hrel
              cases gk with
              | zero => exact absurd HA.out (by simp [jsonparser_ParsePath.l2])
              | succ k4 =>
               have H := HA.out
               clear HA
               simp only [jsonparser_ParsePath.l2] at H
               have HC62 := Aside0.mk H
               clear H
               go_upto_region 34 with (fail)
               repeat (go_quiet (fail); go_upto_region 34 with (fail))
               go_cut [124] (fun v124 wc => ∃ (kq : Nat) (x124_61 : Bool), v124 = .bool x124_61 ∧ Aside0 (jsonparser_ParsePath.j6 kq x0_3 x4_4 x5_4 x124_61 = some (r1, r2)) ∧ Aside0 (kq ≤ k4) ∧ Aside0 (Kd.R Kd.string 9 wc w.heap.size (fun _ => True) u4 x4_4) ∧ Aside0 (Below w.heap.size w wc))
               case first =>
                have H := HC62.out
                clear HC62
                by_cases c63 : x5_4 < (x0_3.size : Int)
                ·
                 rw [if_pos c63] at H
                 have c63b0 : decide (x5_4 < (x0_3.size : Int)) = true := decide_eq_true c63
                 clear c63
                 (first | rw [c63b0] | (simp only [i64_w, i32_w]; rw [c63b0]) | rw [c63b1] | skip)
                 by_cases c64 : 0 ≤ x5_4
                 ·
                  rw [if_pos c64] at H
                  have c64b0 : decide (0 ≤ x5_4) = true := decide_eq_true c64
                  clear c64
                  have H' := Aside0.mk H
                  clear H
                  have p65 : 0 ≤ (x5_4 : Int) := of_decide_eq_true (by first | (with_reducible assumption) | assumption)
                  have q65 : x5_4 < (x0_3.size : Int) := of_decide_eq_true (by first | (with_reducible assumption) | assumption)
                  have hx65 := bt_at x0_3 x5_4
                  replace p65 := eq_true p65
                  replace q65 := eq_true q65
                  go_wp2
                  repeat (go_quiet (fail); try go_wp2)
                  go_meet
                  case rel => exact ⟨_, (((bt x0_3 x5_4) == 91)), (by first | rfl | (simp; done) | (simp [nil_ne_, nil_eq_]; done) | (simp [*]; done)), (by first | exact H' | (rw [hji22]; exact H') | (simp only [hji22]; exact H') | (simp only [hji22] at H' ⊢; exact H')), ⟨by have := HJ3.out; have := HK2.out; have := HJ29.out; have := HK4.out; first | omega | exact Nat.le_refl _⟩, ⟨by (with_reducible repeat (first | apply Kd.R_alloc | apply Kd.R_drewN | apply Kd.R_drew)); exact HO_4.out⟩, ⟨by repeat (first | (with_reducible first | exact HB.out | apply below_alloc | apply pw_below_drewN | apply below_drew1) | exact HB.out)⟩⟩
                 ·
                  rw [if_neg c64] at H
                  exact absurd H (by simp)
                ·
                 rw [if_neg c63] at H
                 have c63b0 : decide (x5_4 < (x0_3.size : Int)) = false := decide_eq_false c63
                 clear c63
                 (first | rw [c63b0] | (simp only [i64_w, i32_w]; rw [c63b0]) | rw [c63b1] | skip)
                 have H' := Aside0.mk H
                 clear H
                 go_wp2
                 repeat (go_quiet (fail); try go_wp2)
                 go_meet
                 case rel => exact ⟨_, (false), (by first | rfl | (simp; done) | (simp [nil_ne_, nil_eq_]; done) | (simp [*]; done)), (by first | exact H' | (rw [hji22]; exact H') | (simp only [hji22]; exact H') | (simp only [hji22] at H' ⊢; exact H')), ⟨by have := HJ3.out; have := HK2.out; have := HJ29.out; have := HK4.out; first | omega | exact Nat.le_refl _⟩, ⟨by (with_reducible repeat (first | apply Kd.R_alloc | apply Kd.R_drewN | apply Kd.R_drew)); exact HO_4.out⟩, ⟨by repeat (first | (with_reducible first | exact HB.out | apply below_alloc | apply pw_below_drewN | apply below_drew1) | exact HB.out)⟩⟩
               case rest =>
                clear HC62
                try clear c1
                try clear p1
                try clear q1
                try clear hx1
                try clear qi1
                try clear c2
                try clear c2b0
                try clear c2b1
                try clear p2
                try clear q2
                try clear hx2
                try clear c3
                try clear c4
                try clear p4
                try clear q4
                try clear hx4
                try clear c5
                try clear c5b0
                try clear c5b1
                try clear p5
                try clear q5
                try clear hx5
                try clear c6
                try clear p6
                try clear q6
                try clear hx6
                try clear c9
                try clear c10
                try clear c10b0
                try clear c10b1
                try clear c12
                try clear c13
                try clear c13b0
                try clear c13b1
                try clear c14
                try clear c14b0
                try clear c14b1
                try clear p15
                try clear q15
                try clear hx15
                try clear qi15
                try clear c16
                try clear c16b0
                try clear c16b1
                try clear q17
                try clear c18
                try clear c18b0
                try clear c18b1
                try clear c23
                try clear c23b0
                try clear c23b1
                try clear c24
                try clear c24b0
                try clear c24b1
                try clear c27
                try clear c27b0
                try clear c28
                try clear c28b0
                try clear p29
                try clear q29
                try clear hx29
                try clear c31
                try clear c31b0
                try clear c31b1
                try clear c33
                try clear c33b0
                try clear c33b1
                try clear c35
                try clear c39
                try clear c39b0
                try clear c39b1
                try clear c41
                try clear c41b0
                try clear c41b1
                try clear c42
                try clear c42b0
                try clear p43
                try clear q43
                try clear hx43
                try clear c44
                try clear c44b0
                try clear c44b1
                try clear p45
                try clear q45
                try clear hx45
                try clear c46
                try clear c47
                try clear c47b0
                try clear c48
                try clear c48b0
                try clear p49
                try clear q49
                try clear hx49
                try clear c50
                try clear c50b0
                try clear c50b1
                try clear p52
                try clear q52
                try clear hx52
                try clear c53
                try clear c53b0
                try clear c53b1
                try clear c55
                try clear c55b0
                try clear c55b1
                try clear c57
                try clear c57b0
                try clear c57b1
                try clear c58
                try clear c58b0
                try clear c58b1
                try clear c59
                try clear c59b0
                try clear c59b1
                try clear c60
                try clear c63
                try clear c63b0
                try clear c63b1
                try clear c64
                try clear c64b0
                try clear p64
                try clear p65
                try clear q65
                try clear hx65
                try clear p1
                try clear p15
                try clear p2
                try clear p29
                try clear p4
                try clear p43
                try clear p45
                try clear p49
                try clear p5
                try clear p52
                try clear p6
                try clear p65
                try clear q1
                try clear q15
                try clear q17
                try clear q173
                try clear q2
                try clear q29
                try clear q4
                try clear q43
                try clear q45
                try clear q49
                try clear q5
                try clear q52
                try clear q65
                obtain ⟨kq, x124_61, rfl, HA, HJ61, HO_4, HB⟩ := hcut
                cases kq with
                | zero => exact absurd HA.out (by simp [jsonparser_ParsePath.j6])
                | succ kj61 =>
                 have H := HA.out
                 clear HA
                 simp only [jsonparser_ParsePath.j6] at H
                 by_cases c66 : x124_61 = true
                 ·
                  subst c66
                  have H1 : ((jsonparser_parseBracketPathComponent.f kj61 x0_3 x5_4).bind fun bt180 => (if bt180.2.2.isNone = true then (if x4_4.length < 8796093022208 then (jsonparser_ParsePath.l2 kj61 x0_3 (x4_4 ++ [bt180.1]) bt180.2.1) else (none)) else (some (([] : List ByteArray), some (bt180.2.2.getD 0))))) = some (r1, r2) := by rw [if_pos rfl] at H; exact H
                  clear H
                  have H := H1
                  clear H1
                  replace H := Option.bind_eq_some_iff.mp H
                  obtain ⟨⟨t180, t181, t182⟩, A670, H⟩ := H
                  replace H : (if t182.isNone = true then (if x4_4.length < 8796093022208 then (jsonparser_ParsePath.l2 kj61 x0_3 (x4_4 ++ [t180]) t181) else (none)) else (some (([] : List ByteArray), some (t182.getD 0)))) = some (r1, r2) := H
                  have A67 := Aside0.mk A670
                  clear A670
                  rcases t182 with _ | q183
                  ·
                   have H1 : (if x4_4.length < 8796093022208 then (jsonparser_ParsePath.l2 kj61 x0_3 (x4_4 ++ [t180]) t181) else (none)) = some (r1, r2) := by rw [if_pos (show (none : Option Int).isNone = true by rfl)] at H; exact H
                   clear H
                   have H := H1
                   clear H1
                   try simp only [errX_none, errX_some]
                   by_cases c68 : x4_4.length < 8796093022208
                   ·
                    rw [if_pos c68] at H
                    have LMc68 := Aside0.mk c68
                    clear c68
                    obtain ⟨y184, hy184⟩ : ∃ y_ : List ByteArray, y_ = (x4_4 ++ [t180]) := ⟨_, rfl⟩
                    replace H : (jsonparser_ParsePath.l2 kj61 x0_3 y184 t181) = some (r1, r2) := by first | (rw [hy184]; with_reducible exact H) | (have H2_ := (Option.bind_some _ _).symm.trans H; rw [hy184]; with_reducible exact H2_) | (have H2_ := (Option.bind_some _ _).symm.trans H; with_reducible exact H2_) | with_reducible exact H | (rw [hy184]; exact H) | exact H
                    have Ny184 := Aside0.mk hy184
                    clear hy184
                    have H' := Aside0.mk H
                    clear H
                    iterate 11 (try go_wp2_with (first | (go_at_call 21; (with_reducible refine (jsonparser_parseBracketPathComponent.calls kj61 x0_3 x5_4 t180 t181 none _ A67.out (HG.out.below (by repeat (first | (with_reducible first | exact HB.out | apply below_alloc | apply pw_below_drewN | apply below_drew1) | exact HB.out)))).mono ?_); rintro e w' ⟨evz_, rfl, ⟨nd, rfl⟩⟩; (try simp only [errX_none, errX_some]); (try first | ((with_reducible refine ⟨?_, _, World.drewN_drewN _ _ _⟩); rfl) | ((with_reducible refine ⟨?_, _, Eq.trans (World.drewN_drewN _ _ _) (congrArg (World.drewN _) (Nat.add_assoc _ _ _))⟩); rfl))) | ((with_reducible refine gate_builtin (b := .append) (xs := #[.tmp 135, .tmp 137]) rfl ?_); at_builtin; refine Kd.R_append Kd.string (w0 := w) w.heap.size rfl (.tmp 135) (.tmp 137) 22 9 (.string ⟨#[]⟩) 16 rfl Tryd.underlying22 info9 rfl (by decide) (by omega) u4 x4_4 t180 [.string t180] (fun _ => True) (fun _ => False) rfl rfl ?aP (fun _ hk => hk.elim) ?aF ?aO ?aB ?aS ?aL ?_; (case aP => exact rfl); (case aB => exact (by repeat (first | (with_reducible first | exact HB.out | apply below_alloc | apply pw_below_drewN | apply below_drew1) | exact HB.out))); (case aF => exact (fun _ _ => trivial)); (case aO => exact (by (with_reducible repeat (first | apply Kd.R_alloc | apply Kd.R_drewN | apply Kd.R_drew)); exact HO_4.out)); (case aS => exact (below_size (by repeat (first | (with_reducible first | exact HB.out | apply below_alloc | apply pw_below_drewN | apply below_drew1) | exact HB.out)))); (case aL => have := LMc68.out; omega); intro v185 w69 ho hb hg hat; rw [← Ny184.out] at ho; have n0_ := Aside0.mk (hb); have n1_ := Aside0.mk (ho); clear HB; clear HO_4; have HB := n0_; have HO186 := n1_; clear n0_ n1_; clear ho hb hg hat)); try go_quiet (first | (go_at_call 21; (with_reducible refine (jsonparser_parseBracketPathComponent.calls kj61 x0_3 x5_4 t180 t181 none _ A67.out (HG.out.below (by repeat (first | (with_reducible first | exact HB.out | apply below_alloc | apply pw_below_drewN | apply below_drew1) | exact HB.out)))).mono ?_); rintro e w' ⟨evz_, rfl, ⟨nd, rfl⟩⟩; (try simp only [errX_none, errX_some]); (try first | ((with_reducible refine ⟨?_, _, World.drewN_drewN _ _ _⟩); rfl) | ((with_reducible refine ⟨?_, _, Eq.trans (World.drewN_drewN _ _ _) (congrArg (World.drewN _) (Nat.add_assoc _ _ _))⟩); rfl))) | ((with_reducible refine gate_builtin (b := .append) (xs := #[.tmp 135, .tmp 137]) rfl ?_); at_builtin; refine Kd.R_append Kd.string (w0 := w) w.heap.size rfl (.tmp 135) (.tmp 137) 22 9 (.string ⟨#[]⟩) 16 rfl Tryd.underlying22 info9 rfl (by decide) (by omega) u4 x4_4 t180 [.string t180] (fun _ => True) (fun _ => False) rfl rfl ?aP (fun _ hk => hk.elim) ?aF ?aO ?aB ?aS ?aL ?_; (case aP => exact rfl); (case aB => exact (by repeat (first | (with_reducible first | exact HB.out | apply below_alloc | apply pw_below_drewN | apply below_drew1) | exact HB.out))); (case aF => exact (fun _ _ => trivial)); (case aO => exact (by (with_reducible repeat (first | apply Kd.R_alloc | apply Kd.R_drewN | apply Kd.R_drew)); exact HO_4.out)); (case aS => exact (below_size (by repeat (first | (with_reducible first | exact HB.out | apply below_alloc | apply pw_below_drewN | apply below_drew1) | exact HB.out)))); (case aL => have := LMc68.out; omega); intro v185 w69 ho hb hg hat; rw [← Ny184.out] at ho; have n0_ := Aside0.mk (hb); have n1_ := Aside0.mk (ho); clear HB; clear HO_4; have HB := n0_; have HO186 := n1_; clear n0_ n1_; clear ho hb hg hat)))
                    go_roundg kj61
                    case measure => have := HJ3.out; have := HK2.out; have := HJ29.out; have := HK4.out; have := HJ61.out; omega
                    case rel => exact ⟨(y184), (t181), (by first | rfl | (simp; done) | (simp [nil_ne_, nil_eq_]; done) | (simp [*]; done)), (by first | exact H' | (rw [hji22]; exact H') | (simp only [hji22]; exact H') | (simp only [hji22] at H' ⊢; exact H')), ⟨by have := HJ3.out; have := HK2.out; have := HJ29.out; have := HK4.out; have := HJ61.out; omega⟩, ⟨by (with_reducible repeat (first | apply Kd.R_alloc | apply Kd.R_drewN | apply Kd.R_drew)); exact HO186.out⟩, ⟨by repeat (first | (with_reducible first | exact HB.out | apply below_alloc | apply pw_below_drewN | apply below_drew1) | exact HB.out)⟩⟩
                   ·
                    rw [if_neg c68] at H
                    exact absurd H (by simp)
                  ·
                   have H1 : (some (([] : List ByteArray), some q183)) = some (r1, r2) := by rw [if_neg (show ¬ (some q183).isNone = true by simp)] at H; exact H
                   clear H
                   have H := H1
                   clear H1
                   try simp only [errX_none, errX_some]
                   simp only [Option.some.injEq, Prod.mk.injEq] at H
                   obtain ⟨rfl, rfl⟩ := H
                   iterate 11 (try go_wp2_with (first | (go_at_call 21; (with_reducible refine (jsonparser_parseBracketPathComponent.calls kj61 x0_3 x5_4 t180 t181 (some q183) _ A67.out (HG.out.below (by repeat (first | (with_reducible first | exact HB.out | apply below_alloc | apply pw_below_drewN | apply below_drew1) | exact HB.out)))).mono ?_); rintro e w' ⟨evt182, rfl, ⟨nd, rfl⟩⟩; (try simp only [errX_none, errX_some]); (try first | ((with_reducible refine ⟨?_, _, World.drewN_drewN _ _ _⟩); rfl) | ((with_reducible refine ⟨?_, _, Eq.trans (World.drewN_drewN _ _ _) (congrArg (World.drewN _) (Nat.add_assoc _ _ _))⟩); rfl)))); try go_quiet (first | (go_at_call 21; (with_reducible refine (jsonparser_parseBracketPathComponent.calls kj61 x0_3 x5_4 t180 t181 (some q183) _ A67.out (HG.out.below (by repeat (first | (with_reducible first | exact HB.out | apply below_alloc | apply pw_below_drewN | apply below_drew1) | exact HB.out)))).mono ?_); rintro e w' ⟨evt182, rfl, ⟨nd, rfl⟩⟩; (try simp only [errX_none, errX_some]); (try first | ((with_reducible refine ⟨?_, _, World.drewN_drewN _ _ _⟩); rfl) | ((with_reducible refine ⟨?_, _, Eq.trans (World.drewN_drewN _ _ _) (congrArg (World.drewN _) (Nat.add_assoc _ _ _))⟩); rfl)))))
                   go_ret2
                   exact ⟨_, evt182, by first | rfl | (simp [errX_none, errX_some] <;> rfl) | (simp only [← hji22]; first | rfl | (simp [errX_none, errX_some] <;> rfl)) | (simp [*, errX_none, errX_some] <;> rfl), by first | exact Kd.R_nil _ _ _ _ _ | exact Kd.N_nil _ _ _ _ _ | exact Kd.V_nil _ _ _ _ _ | exact Kd.Q_nil _ _ _ _ _ | exact Kd.S_nil _ _ _ _ _, by repeat (first | (with_reducible first | exact HB.out | apply below_alloc | apply pw_below_drewN | apply below_drew1) | exact HB.out)⟩
                 ·
                  replace c66 := Bool.eq_false_iff.mpr c66
                  subst c66
                  have H1 : (if x5_4 = (x0_3.size : Int) then (if (x4_4.length : Int) = 0 then (some (([] : List ByteArray), some 1)) else (some (x4_4, none))) else (if 0 ≤ x5_4 then (if x5_4 < (x0_3.size : Int) then (if (bt x0_3 x5_4) = 46 then (if (wrap64 (x5_4 + 1)) = (x0_3.size : Int) then (some (([] : List ByteArray), some 1)) else (jsonparser_ParsePath.l0 kj61 x0_3 x4_4 (wrap64 (x5_4 + 1)))) else (some (([] : List ByteArray), some 1))) else (none)) else (none))) = some (r1, r2) := by rw [if_neg (show ¬ (false = true) by decide)] at H; exact H
                  clear H
                  have H := H1
                  clear H1
                  by_cases c70 : x5_4 = (x0_3.size : Int)
                  ·
                   rw [if_pos c70] at H
                   have c70b0 : (x5_4 == (x0_3.size : Int)) = true := beq_iff_eq.mpr c70
                   have c70b1 : (x5_4 != (x0_3.size : Int)) = false := bne_eq_false_iff_eq.mpr c70
                   clear c70
                   by_cases c71 : (x4_4.length : Int) = 0
                   ·
                    rw [if_pos c71] at H
                    have c71b0 : ((x4_4.length : Int) == 0) = true := beq_iff_eq.mpr c71
                    have c71b1 : ((x4_4.length : Int) != 0) = false := bne_eq_false_iff_eq.mpr c71
                    clear c71
                    simp only [Option.some.injEq, Prod.mk.injEq] at H
                    obtain ⟨rfl, rfl⟩ := H
                    obtain ⟨Ao72, co72, eo72⟩ := Kd.R_slice HO_4.out
                    subst eo72
                    have hgl73 : wc.cell? ⟨1, 0, none⟩ = some (.iface gt1 gp1) := ((show Below w.heap.size w wc from HB.out).cell (World.block_lt_of_cell? w _ hgv1.out)).trans hgv1.out
                    go_wp2
                    repeat (go_quiet (fail); try go_wp2)
                    go_ret2
                    exact ⟨_, (gt1, gp1), by first | rfl | (simp [errX_none, errX_some] <;> rfl) | (simp only [← hji22]; first | rfl | (simp [errX_none, errX_some] <;> rfl)) | (simp [*, errX_none, errX_some] <;> rfl), by first | exact Kd.R_nil _ _ _ _ _ | exact Kd.N_nil _ _ _ _ _ | exact Kd.V_nil _ _ _ _ _ | exact Kd.Q_nil _ _ _ _ _ | exact Kd.S_nil _ _ _ _ _, by repeat (first | (with_reducible first | exact HB.out | apply below_alloc | apply pw_below_drewN | apply below_drew1) | exact HB.out)⟩
                   ·
                    rw [if_neg c71] at H
                    have c71b0 : ((x4_4.length : Int) == 0) = false := beq_eq_false_iff_ne.mpr c71
                    have c71b1 : ((x4_4.length : Int) != 0) = true := bne_iff_ne.mpr c71
                    have c71b2 : ¬ (x4_4 = []) := fun h_ => c71 (by rw [h_]; rfl)
                    simp only [Option.some.injEq, Prod.mk.injEq] at H
                    obtain ⟨rfl, rfl⟩ := H
                    obtain ⟨Ao74, co74, eo74⟩ := Kd.R_slice HO_4.out
                    subst eo74
                    go_wp2
                    repeat (go_quiet (fail); try go_wp2)
                    go_ret2
                    exact ⟨_, (0, Value.nilIface), by first | rfl | (simp [errX_none, errX_some] <;> rfl) | (simp only [← hji22]; first | rfl | (simp [errX_none, errX_some] <;> rfl)) | (simp [*, errX_none, errX_some] <;> rfl), by (with_reducible repeat (first | apply Kd.R_alloc | apply Kd.R_drewN | apply Kd.R_drew)); exact HO_4.out, by repeat (first | (with_reducible first | exact HB.out | apply below_alloc | apply pw_below_drewN | apply below_drew1) | exact HB.out)⟩
                  ·
                   rw [if_neg c70] at H
                   have c70b0 : (x5_4 == (x0_3.size : Int)) = false := beq_eq_false_iff_ne.mpr c70
                   have c70b1 : (x5_4 != (x0_3.size : Int)) = true := bne_iff_ne.mpr c70
                   by_cases c75 : 0 ≤ x5_4
                   ·
                    rw [if_pos c75] at H
                    have c75b0 : decide (0 ≤ x5_4) = true := decide_eq_true c75
                    clear c75
                    by_cases c76 : x5_4 < (x0_3.size : Int)
                    ·
                     rw [if_pos c76] at H
                     have c76b0 : decide (x5_4 < (x0_3.size : Int)) = true := decide_eq_true c76
                     clear c76
                     by_cases c78 : (bt x0_3 x5_4) = 46
                     ·
                      rw [if_pos c78] at H
                      have c78b0 : ((bt x0_3 x5_4) == 46) = true := beq_iff_eq.mpr c78
                      have c78b1 : ((bt x0_3 x5_4) != 46) = false := bne_eq_false_iff_eq.mpr c78
                      clear c78
                      by_cases c79 : (wrap64 (x5_4 + 1)) = (x0_3.size : Int)
                      ·
                       rw [if_pos c79] at H
                       have c79b0 : ((wrap64 (x5_4 + 1)) == (x0_3.size : Int)) = true := beq_iff_eq.mpr c79
                       have c79b1 : ((wrap64 (x5_4 + 1)) != (x0_3.size : Int)) = false := bne_eq_false_iff_eq.mpr c79
                       clear c79
                       simp only [Option.some.injEq, Prod.mk.injEq] at H
                       obtain ⟨rfl, rfl⟩ := H
                       have p77 : 0 ≤ (x5_4 : Int) := of_decide_eq_true (by first | (with_reducible assumption) | assumption)
                       have q77 : x5_4 < (x0_3.size : Int) := of_decide_eq_true (by first | (with_reducible assumption) | assumption)
                       have hx77 := bt_at x0_3 x5_4
                       replace p77 := eq_true p77
                       replace q77 := eq_true q77
                       have hgl80 : wc.cell? ⟨1, 0, none⟩ = some (.iface gt1 gp1) := ((show Below w.heap.size w wc from HB.out).cell (World.block_lt_of_cell? w _ hgv1.out)).trans hgv1.out
                       go_wp2
                       repeat (go_quiet (fail); try go_wp2)
                       go_ret2
                       exact ⟨_, (gt1, gp1), by first | rfl | (simp [errX_none, errX_some] <;> rfl) | (simp only [← hji22]; first | rfl | (simp [errX_none, errX_some] <;> rfl)) | (simp [*, errX_none, errX_some] <;> rfl), by first | exact Kd.R_nil _ _ _ _ _ | exact Kd.N_nil _ _ _ _ _ | exact Kd.V_nil _ _ _ _ _ | exact Kd.Q_nil _ _ _ _ _ | exact Kd.S_nil _ _ _ _ _, by repeat (first | (with_reducible first | exact HB.out | apply below_alloc | apply pw_below_drewN | apply below_drew1) | exact HB.out)⟩
                      ·
                       rw [if_neg c79] at H
                       have c79b0 : ((wrap64 (x5_4 + 1)) == (x0_3.size : Int)) = false := beq_eq_false_iff_ne.mpr c79
                       have c79b1 : ((wrap64 (x5_4 + 1)) != (x0_3.size : Int)) = true := bne_iff_ne.mpr c79
                       have H' := Aside0.mk H
                       clear H
                       have p77 : 0 ≤ (x5_4 : Int) := of_decide_eq_true (by first | (with_reducible assumption) | assumption)
                       have q77 : x5_4 < (x0_3.size : Int) := of_decide_eq_true (by first | (with_reducible assumption) | assumption)
                       have hx77 := bt_at x0_3 x5_4
                       replace p77 := eq_true p77
                       replace q77 := eq_true q77
                       go_wp2
                       repeat (go_quiet (fail); try go_wp2)
                       go_roundg kj61
                       case measure => have := HJ3.out; have := HK2.out; have := HJ29.out; have := HK4.out; have := HJ61.out; omega
                       case rel => exact ⟨(x4_4), (wrap64 (x5_4 + 1)), (by first | rfl | (simp; done) | (simp [nil_ne_, nil_eq_]; done) | (simp [*]; done)), (by first | exact H' | (rw [hji22]; exact H') | (simp only [hji22]; exact H') | (simp only [hji22] at H' ⊢; exact H')), ⟨by have := HJ3.out; have := HK2.out; have := HJ29.out; have := HK4.out; have := HJ61.out; omega⟩, ⟨by (with_reducible repeat (first | apply Kd.R_alloc | apply Kd.R_drewN | apply Kd.R_drew)); exact HO_4.out⟩, ⟨by repeat (first | (with_reducible first | exact HB.out | apply below_alloc | apply pw_below_drewN | apply below_drew1) | exact HB.out)⟩⟩
                     ·
                      rw [if_neg c78] at H
                      have c78b0 : ((bt x0_3 x5_4) == 46) = false := beq_eq_false_iff_ne.mpr c78
                      have c78b1 : ((bt x0_3 x5_4) != 46) = true := bne_iff_ne.mpr c78
                      simp only [Option.some.injEq, Prod.mk.injEq] at H
                      obtain ⟨rfl, rfl⟩ := H
                      have p77 : 0 ≤ (x5_4 : Int) := of_decide_eq_true (by first | (with_reducible assumption) | assumption)
                      have q77 : x5_4 < (x0_3.size : Int) := of_decide_eq_true (by first | (with_reducible assumption) | assumption)
                      have hx77 := bt_at x0_3 x5_4
                      replace p77 := eq_true p77
                      replace q77 := eq_true q77
                      have hgl81 : wc.cell? ⟨1, 0, none⟩ = some (.iface gt1 gp1) := ((show Below w.heap.size w wc from HB.out).cell (World.block_lt_of_cell? w _ hgv1.out)).trans hgv1.out
                      go_wp2
                      repeat (go_quiet (fail); try go_wp2)
                      go_ret2
                      exact ⟨_, (gt1, gp1), by first | rfl | (simp [errX_none, errX_some] <;> rfl) | (simp only [← hji22]; first | rfl | (simp [errX_none, errX_some] <;> rfl)) | (simp [*, errX_none, errX_some] <;> rfl), by first | exact Kd.R_nil _ _ _ _ _ | exact Kd.N_nil _ _ _ _ _ | exact Kd.V_nil _ _ _ _ _ | exact Kd.Q_nil _ _ _ _ _ | exact Kd.S_nil _ _ _ _ _, by repeat (first | (with_reducible first | exact HB.out | apply below_alloc | apply pw_below_drewN | apply below_drew1) | exact HB.out)⟩
                    ·
                     rw [if_neg c76] at H
                     exact absurd H (by simp)
                   ·
                    rw [if_neg c75] at H
                    exact absurd H (by simp)
          ·
           rw [if_neg c28] at H
           exact absurd H (by simp)
         ·
          rw [if_neg c27] at H
          have c27b0 : decide (x5_2 < (x0_3.size : Int)) = false := decide_eq_false c27
          clear c27
          by_cases c82 : (x4_2.length : Int) = 0
          ·
           rw [if_pos c82] at H
           have c82b0 : ((x4_2.length : Int) == 0) = true := beq_iff_eq.mpr c82
           have c82b1 : ((x4_2.length : Int) != 0) = false := bne_eq_false_iff_eq.mpr c82
           clear c82
           simp only [Option.some.injEq, Prod.mk.injEq] at H
           obtain ⟨rfl, rfl⟩ := H
           obtain ⟨Ao83, co83, eo83⟩ := Kd.R_slice HO_4.out
           subst eo83
           have hgl84 : wr.cell? ⟨1, 0, none⟩ = some (.iface gt1 gp1) := ((show Below w.heap.size w wr from HB.out).cell (World.block_lt_of_cell? w _ hgv1.out)).trans hgv1.out
           go_wp2
           repeat (go_quiet (fail); try go_wp2)
           go_ret2
           exact ⟨_, (gt1, gp1), by first | rfl | (simp [errX_none, errX_some] <;> rfl) | (simp only [← hji22]; first | rfl | (simp [errX_none, errX_some] <;> rfl)) | (simp [*, errX_none, errX_some] <;> rfl), by first | exact Kd.R_nil _ _ _ _ _ | exact Kd.N_nil _ _ _ _ _ | exact Kd.V_nil _ _ _ _ _ | exact Kd.Q_nil _ _ _ _ _ | exact Kd.S_nil _ _ _ _ _, by repeat (first | (with_reducible first | exact HB.out | apply below_alloc | apply pw_below_drewN | apply below_drew1) | exact HB.out)⟩
          ·
           rw [if_neg c82] at H
           have c82b0 : ((x4_2.length : Int) == 0) = false := beq_eq_false_iff_ne.mpr c82
           have c82b1 : ((x4_2.length : Int) != 0) = true := bne_iff_ne.mpr c82
           have c82b2 : ¬ (x4_2 = []) := fun h_ => c82 (by rw [h_]; rfl)
           simp only [Option.some.injEq, Prod.mk.injEq] at H
           obtain ⟨rfl, rfl⟩ := H
           obtain ⟨Ao85, co85, eo85⟩ := Kd.R_slice HO_4.out
           subst eo85
           go_wp2
           repeat (go_quiet (fail); try go_wp2)
           go_ret2
           exact ⟨_, (0, Value.nilIface), by first | rfl | (simp [errX_none, errX_some] <;> rfl) | (simp only [← hji22]; first | rfl | (simp [errX_none, errX_some] <;> rfl)) | (simp [*, errX_none, errX_some] <;> rfl), by (with_reducible repeat (first | apply Kd.R_alloc | apply Kd.R_drewN | apply Kd.R_drew)); exact HO_4.out, by repeat (first | (with_reducible first | exact HB.out | apply below_alloc | apply pw_below_drewN | apply below_drew1) | exact HB.out)⟩
      ·
       rw [if_neg c24] at H
       exact absurd H (by simp)
     ·
      rw [if_neg c23] at H
      exact absurd H (by simp)

end Go.Proofs.YtobmnfbplmefoaaDoor.PFnJqPathOf
