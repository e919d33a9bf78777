/- what the Go functions that the law FnJpLength reaches compute, each as a plain function, with the proof that the Go code computes just that; no condition beside those that each theorem states. -/
import Derived.Test.YtmneeighbkcadaaDoorPFnJpLengthx0
import Derived.Test.YtmneeighbkcadaaDoorPFnJpLengthx13
import Derived.Test.YtmneeighbkcadaaDoorGXFnJpLength
namespace Go.Proofs.YtmneeighbkcadaaDoor.PFnJpLength
open Go.RowKit Go.Proofs.YtmneeighbkcadaaDoorW.PrintWords Go.Proofs.YtmneeighbkcadaaDoorW.PrintLast Go.Proofs.YtmneeighbkcadaaDoorW.PrintMore
set_option linter.unusedVariables false
set_option linter.unusedSimpArgs false
def sE_.f (k : Nat) (l0 : List Int) : Option (Int × Bool) := (sEC_.f k false false 0 l0 34).bind fun bt435 => (some (bt435.1, bt435.2))
set_option maxHeartbeats 8000000 in
set_option maxRecDepth 100000 in
theorem sE_.calls (k : Nat) (A0 : Option Addr) (c0 : Nat) (l0 : List Int) (r1 : Int) (r2 : Bool) (w : World) (hr0 : Kd.C (Kd.int .u8) w A0 l0.length l0) (hc0 : l0.length ≤ c0) (h : sE_.f k l0 = some (r1, r2)) (hG : Glob w) :
    Calls Tryd.prog 25 #[.slice A0 l0.length c0] w fun e w' => e = .returned (.tuple #[.int .i64 r1, .bool r2]) ∧ Below w.heap.size w w' := by
 have hu69 := Tryd.underlying69
 have HR0 := Aside0.mk hr0
 have HC0 := Aside0.mk hc0
 clear hr0 hc0
 have HB := Aside0.mk (Below.refl w.heap.size w)
 have hgv2_0 := Aside0.mk hG.e2_0
 have hgv2_1 := Aside0.mk hG.e2_1
 have hgv2_2 := Aside0.mk hG.e2_2
 have HG := Aside0.mk hG
 clear hG
 have H : ((sEC_.f k false false 0 l0 34).bind fun bt435 => (some (bt435.1, bt435.2))) = some (r1, r2) := h
 clear h
 replace H := Option.bind_eq_some_iff.mp H
 obtain ⟨⟨t435, t436⟩, A20, H⟩ := H
 try dsimp only at H
 have A2 := Aside0.mk A20
 clear A20
 simp only [Option.some.injEq, Prod.mk.injEq] at H
 obtain ⟨rfl, rfl⟩ := H
 have hgl3 : w.cell? ⟨2, 0, none⟩ = some (.bool false) := ((show Below w.heap.size w w from Below.refl _ _).cell (World.block_lt_of_cell? w _ hgv2_0.out)).trans hgv2_0.out
 have hgl4 : w.cell? ⟨2, 1, none⟩ = some (.bool false) := ((show Below w.heap.size w w from Below.refl _ _).cell (World.block_lt_of_cell? w _ hgv2_1.out)).trans hgv2_1.out
 have hgl5 : w.cell? ⟨2, 2, none⟩ = some (.int .i64 0) := ((show Below w.heap.size w w from Below.refl _ _).cell (World.block_lt_of_cell? w _ hgv2_2.out)).trans hgv2_2.out
 go_enter Tryd.func25, Tryd.ntmps25
 go_wp2_with (first | ((with_reducible refine gate_callee (f := 36) rfl ?_); refine goesL_ (some 6) rfl rfl Tryd.func36 (by kernel_rfl) rfl #[.agg #[.bool false, .bool false, .int .i64 0], .slice A0 l0.length c0, .int .u8 34] rfl zM ?_; (with_reducible refine (sEC_.calls k false false 0 _ _ l0 34 t435 t436 _ ?side1 ?side2 A2.out (HG.out.below (zB HB.out))).mono ?_); (case side1 => repeat (first | exact HR0.out | (with_reducible refine Kd.C_alloc ?_ _) | (with_reducible refine Kd.C_drewN ?_ _) | (with_reducible refine Kd.C_drew ?_))); (case side2 => exact HC0.out); rintro e w6 ⟨rfl, hb⟩; refine ⟨_, rfl, ?_⟩; have n0_ := Aside0.mk (below_step (zB HB.out) hb); clear HB; have HB := n0_; clear n0_; clear hb))
 go_ret2
 exact ⟨zX, zB HB.out⟩
def iCW_.f (a0 : Int) : Option (Bool) := if a0 = 32 then (some true) else (if a0 = 10 then (some true) else (if a0 = 13 then (some true) else (some (a0 == 9))))
set_option maxHeartbeats 8000000 in
set_option maxRecDepth 100000 in
theorem iCW_.calls (a0 : Int) (r : Bool) (w : World) (h : iCW_.f a0 = some r) :
    Calls Tryd.prog 26 #[.int .u8 a0] w fun e w' => e = .returned (.bool r) ∧ Drawn0 w w' := by
 have H : (if a0 = 32 then (some true) else (if a0 = 10 then (some true) else (if a0 = 13 then (some true) else (some (a0 == 9))))) = some r := h
 clear h
 by_cases c2 : a0 = 32
 ·
  rw [if_pos c2] at H
  have c2b0 : (a0 == 32) = true := beq_iff_eq.mpr c2
  have c2b1 : (a0 != 32) = false := bne_eq_false_iff_eq.mpr c2
  clear c2
  obtain rfl := Option.some.inj H
  go_enter Tryd.func26, Tryd.ntmps26
  go_wp2
  go_ret
  exact ⟨by first | rfl | (simp; done) | (simp [nil_ne_, nil_eq_]; done) | (simp [*]; done), zD⟩
 rw [if_neg c2] at H
 have c2b0 : (a0 == 32) = false := beq_eq_false_iff_ne.mpr c2
 have c2b1 : (a0 != 32) = true := bne_iff_ne.mpr c2
 by_cases c3 : a0 = 10
 ·
  rw [if_pos c3] at H
  have c3b0 : (a0 == 10) = true := beq_iff_eq.mpr c3
  have c3b1 : (a0 != 10) = false := bne_eq_false_iff_eq.mpr c3
  clear c3
  obtain rfl := Option.some.inj H
  go_enter Tryd.func26, Tryd.ntmps26
  go_wp2
  go_ret
  exact ⟨by first | rfl | (simp; done) | (simp [nil_ne_, nil_eq_]; done) | (simp [*]; done), zD⟩
 rw [if_neg c3] at H
 have c3b0 : (a0 == 10) = false := beq_eq_false_iff_ne.mpr c3
 have c3b1 : (a0 != 10) = true := bne_iff_ne.mpr c3
 by_cases c4 : a0 = 13
 ·
  rw [if_pos c4] at H
  have c4b0 : (a0 == 13) = true := beq_iff_eq.mpr c4
  have c4b1 : (a0 != 13) = false := bne_eq_false_iff_eq.mpr c4
  clear c4
  obtain rfl := Option.some.inj H
  go_enter Tryd.func26, Tryd.ntmps26
  go_wp2
  go_ret
  exact ⟨by first | rfl | (simp; done) | (simp [nil_ne_, nil_eq_]; done) | (simp [*]; done), zD⟩
 rw [if_neg c4] at H
 have c4b0 : (a0 == 13) = false := beq_eq_false_iff_ne.mpr c4
 have c4b1 : (a0 != 13) = true := bne_iff_ne.mpr c4
 obtain rfl := Option.some.inj H
 go_enter Tryd.func26, Tryd.ntmps26
 go_wp2
 go_ret
 exact ⟨by first | rfl | (simp; done) | (simp [nil_ne_, nil_eq_]; done) | (simp [*]; done), zD⟩
end Go.Proofs.YtmneeighbkcadaaDoor.PFnJpLength