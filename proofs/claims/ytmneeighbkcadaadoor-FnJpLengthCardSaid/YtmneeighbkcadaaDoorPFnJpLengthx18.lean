/- what the Go functions that the law FnJpLength reaches compute, each as a plain function, with the proof that the Go code computes just that; no condition beside those that each theorem states. -/
import Derived.Test.YtmneeighbkcadaaDoorPFnJpLengthx0
import Derived.Test.YtmneeighbkcadaaDoorPFnJpLengthx17
import Derived.Test.YtmneeighbkcadaaDoorGXFnJpLength
import Derived.Test.YtmneeighbkcadaaDoorWordsFnJpLength
namespace Go.Proofs.YtmneeighbkcadaaDoor.PFnJpLength
open Go.RowKit Go.Proofs.YtmneeighbkcadaaDoorW.PrintWords Go.Proofs.YtmneeighbkcadaaDoorW.PrintLast Go.Proofs.YtmneeighbkcadaaDoorW.PrintMore
set_option linter.unusedVariables false
set_option linter.unusedSimpArgs false
def DDL_.f (k : Nat) (a0 : ByteArray) (a1 : Int) (a2 : Int) : Option (Int × Option Int) := if a0.size ≤ 140737488355328 then ((sCL_.f k (bytesOf a0) a1 a2).bind fun bt521 => (some (bt521.1, bt521.2))) else (none)
set_option maxHeartbeats 8000000 in
set_option maxRecDepth 100000 in
theorem DDL_.calls (k : Nat) (a0 : ByteArray) (a1 : Int) (a2 : Int) (r1 : Int) (r2 : Option Int) (w : World) (h : DDL_.f k a0 a1 a2 = some (r1, r2)) (hG : Glob w) :
    Calls Tryd.prog 11 #[.string a0, .int .i64 a1, .int .u8 a2] w fun e w' => ∃ evr2 : TypeId × Value, e = .returned (.tuple #[.int .i64 r1, errX r2 evr2]) ∧ Below w.heap.size w w' := by
 have HB := Aside0.mk (Below.refl w.heap.size w)
 have HG := Aside0.mk hG
 clear hG
 have H : (if a0.size ≤ 140737488355328 then ((sCL_.f k (bytesOf a0) a1 a2).bind fun bt521 => (some (bt521.1, bt521.2))) else (none)) = some (r1, r2) := h
 clear h
 by_cases c4 : a0.size ≤ 140737488355328
 ·
  rw [if_pos c4] at H
  have c4b0 := eq_true c4
  have c4b1 : decide (a0.size ≤ 140737488355328) = true := decide_eq_true c4
  clear c4
  obtain ⟨y518, hy518⟩ : ∃ y_ : List Int, y_ = (bytesOf a0) := ⟨_, rfl⟩
  replace H : ((sCL_.f k y518 a1 a2).bind fun bt521 => (some (bt521.1, bt521.2))) = some (r1, r2) := by first | (rw [hy518]; with_reducible exact H) | (have H2_ := (Option.bind_some _ _).symm.trans H; rw [hy518]; with_reducible exact H2_) | (have H2_ := (Option.bind_some _ _).symm.trans H; with_reducible exact H2_) | with_reducible exact H | (rw [hy518]; exact H) | exact H
  have Ny518 := Aside0.mk hy518
  clear hy518
  replace H := Option.bind_eq_some_iff.mp H
  obtain ⟨⟨t521, t522⟩, A50, H⟩ := H
  try dsimp only at H
  have A5 := Aside0.mk A50
  clear A50
  simp only [Option.some.injEq, Prod.mk.injEq] at H
  obtain ⟨rfl, rfl⟩ := H
  go_enter Tryd.func11, Tryd.ntmps11
  go_wp2_with (first | ((with_reducible refine gate_dst (N := 9) rfl ?_); refine Kd.V_bytes _ 5 rfl (N := 9) rfl 9 47 _ rfl a0 rfl Tryd.underlying9 Tryd.underlying47 Tryd.underlying5 (ok := fun k_ => w.heap.size ≤ k_) (Nat.le_refl _) (Nat.le_trans (dT : a0.size ≤ 140737488355328) (by omega)) (Below.refl _ _) (Nat.le_refl _) ?_; intro v519 w6 ho7 hb hg_ hnew_; clear hg_ hnew_; (first | rw [← Ny518.out] at ho7 | (simp only [Int.reduceToNat] at ho7; rw [← Ny518.out] at ho7)); have n0_ := Aside0.mk (Kd.V_lower (Kd.V_mono (ok' := fun k_ => True) ho7 (fun k_ hk_ => trivial)) (below_size (zB HB.out))); have n1_ := Aside0.mk (below_step (zB HB.out) hb); clear HB; have HO520 := n0_; have HB := n1_; clear n0_ n1_; clear hb ho7; obtain ⟨Ao8, co8, eo8⟩ := Kd.V_slice HO520.out; subst eo8) | ((with_reducible refine gate_callee (f := 16) rfl ?_); refine goesL_ (some 12) rfl rfl Tryd.func16 (by kernel_rfl) rfl #[.slice Ao8 y518.length co8, .int .i64 a1, .int .u8 a2] rfl zM ?_; (with_reducible refine (sCL_.calls k _ _ y518 a1 a2 t521 t522 _ ?side1 ?side2 A5.out (HG.out.below (zB HB.out))).mono ?_); (case side1 => repeat (first | exact (Kd.V_reads' HO520.out).2.2 | (with_reducible refine Kd.C_alloc ?_ _) | (with_reducible refine Kd.C_drewN ?_ _) | (with_reducible refine Kd.C_drew ?_))); (case side2 => exact (Kd.V_reads' HO520.out).2.1); rintro e w9 ⟨evt522, rfl, hb⟩; refine ⟨_, rfl, ?_⟩; have n0_ := Aside0.mk (Kd.V_below (zV HO520.out) hb); have n1_ := Aside0.mk (below_step (zB HB.out) hb); clear HO520 HB; have HO520 := n0_; have HB := n1_; clear n0_ n1_; clear hb; (try simp only [errX_none, errX_some])))
  go_ret2
  first | exact ⟨evt522, zX, zB HB.out⟩ | exact ⟨⟨(evt522).1, (evt522).2, zX⟩, zB HB.out⟩
 rw [if_neg c4] at H
 exact absurd H (by simp)
def JJL_.f (k : Nat) (a0 : ByteArray) (a1 : Int) (a2 : Int) : Option (Int × Bool) := (DDL_.f k a0 a1 a2).bind fun bt523 => (if bt523.2.isNone = true then (some (bt523.1, true)) else (some (bt523.1, false)))
set_option maxHeartbeats 8000000 in
set_option maxRecDepth 100000 in
theorem JJL_.calls (k : Nat) (a0 : ByteArray) (a1 : Int) (a2 : Int) (r1 : Int) (r2 : Bool) (w : World) (h : JJL_.f k a0 a1 a2 = some (r1, r2)) (hG : Glob w) :
    Calls Tryd.prog 6 #[.string a0, .int .i64 a1, .int .u8 a2] w fun e w' => e = .returned (.tuple #[.int .i64 r1, .bool r2]) ∧ Below w.heap.size w w' := by
 have hu38 := Tryd.underlying38
 have HB := Aside0.mk (Below.refl w.heap.size w)
 have HG := Aside0.mk hG
 clear hG
 have H : ((DDL_.f k a0 a1 a2).bind fun bt523 => (if bt523.2.isNone = true then (some (bt523.1, true)) else (some (bt523.1, false)))) = some (r1, r2) := h
 clear h
 replace H := Option.bind_eq_some_iff.mp H
 obtain ⟨⟨t523, t524⟩, A40, H⟩ := H
 try dsimp only at H
 have A4 := Aside0.mk A40
 clear A40
 rcases t524 with _ | q525
 ·
  rw [if_pos (show (none : Option Int).isNone = true by rfl)] at H
  try simp only [errX_none, errX_some]
  simp only [Option.some.injEq, Prod.mk.injEq] at H
  obtain ⟨rfl, rfl⟩ := H
  go_enter Tryd.func6, Tryd.ntmps6
  iterate 3 (try go_wp2_with (first | (go_at_call 11; (with_reducible refine (DDL_.calls k a0 a1 a2 t523 none _ A4.out (HG.out.below (zB HB.out))).mono ?_); rintro e w5 ⟨evz_, rfl, hb⟩; have n0_ := Aside0.mk (below_step (zB HB.out) hb); clear HB; have HB := n0_; clear n0_ hb; (try simp only [errX_none, errX_some]))); try go_quiet (first | (go_at_call 11; (with_reducible refine (DDL_.calls k a0 a1 a2 t523 none _ A4.out (HG.out.below (zB HB.out))).mono ?_); rintro e w5 ⟨evz_, rfl, hb⟩; have n0_ := Aside0.mk (below_step (zB HB.out) hb); clear HB; have HB := n0_; clear n0_ hb; (try simp only [errX_none, errX_some]))))
  go_ret2
  exact ⟨zX, zB HB.out⟩
 rw [if_neg (show ¬ (some q525).isNone = true by simp)] at H
 try simp only [errX_none, errX_some]
 simp only [Option.some.injEq, Prod.mk.injEq] at H
 obtain ⟨rfl, rfl⟩ := H
 go_enter Tryd.func6, Tryd.ntmps6
 iterate 3 (try go_wp2_with (first | (go_at_call 11; (with_reducible refine (DDL_.calls k a0 a1 a2 t523 (some q525) _ A4.out (HG.out.below (zB HB.out))).mono ?_); rintro e w6 ⟨evt524, rfl, hb⟩; have n0_ := Aside0.mk (below_step (zB HB.out) hb); clear HB; have HB := n0_; clear n0_ hb; (try simp only [errX_none, errX_some]))); try go_quiet (first | (go_at_call 11; (with_reducible refine (DDL_.calls k a0 a1 a2 t523 (some q525) _ A4.out (HG.out.below (zB HB.out))).mono ?_); rintro e w6 ⟨evt524, rfl, hb⟩; have n0_ := Aside0.mk (below_step (zB HB.out) hb); clear HB; have HB := n0_; clear n0_ hb; (try simp only [errX_none, errX_some]))))
 go_ret2
 exact ⟨zX, zB HB.out⟩
end Go.Proofs.YtmneeighbkcadaaDoor.PFnJpLength