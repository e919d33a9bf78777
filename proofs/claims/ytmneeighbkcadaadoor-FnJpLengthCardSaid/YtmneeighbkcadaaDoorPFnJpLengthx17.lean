/- what the Go functions that the law FnJpLength reaches compute, each as a plain function, with the proof that the Go code computes just that; no condition beside those that each theorem states. -/
import Derived.Test.YtmneeighbkcadaaDoorPFnJpLengthx0
import Derived.Test.YtmneeighbkcadaaDoorPFnJpLengthx14
import Derived.Test.YtmneeighbkcadaaDoorPFnJpLengthx16
import Derived.Test.YtmneeighbkcadaaDoorGXFnJpLength
import Derived.Test.YtmneeighbkcadaaDoorWordsFnJpLength
namespace Go.Proofs.YtmneeighbkcadaaDoor.PFnJpLength
open Go.RowKit Go.Proofs.YtmneeighbkcadaaDoorW.PrintWords Go.Proofs.YtmneeighbkcadaaDoorW.PrintLast Go.Proofs.YtmneeighbkcadaaDoorW.PrintMore
set_option linter.unusedVariables false
set_option linter.unusedSimpArgs false
theorem zRA {α : Type} {d : Kd α} {e b : Nat} {ok : Nat → Prop} {w w1 : World} {v : Value} {xs : List α} (h : Kd.RA d e w b ok v xs) (m : Below w.heap.size w w1 := by (with_reducible repeat (first | apply below_alloc | apply pw_below_drewN | apply below_drew1)); exact Below.refl _ _) : Kd.RA d e w1 b ok v xs := Kd.RA_below h m
mutual
def sCL_.j0 : Nat → List Int → Int → Int → Option Int → Int → Option (Int × Option Int)
  | 0, _, _, _, _, _ => none
  | k + 1, x0, x1, x8, x9, x10 => (some ((List.replicate 32 (0 : Int)).take (1 : Int).toNat : List Int)).bind fun y465 => (if 0 < (y465.length : Int) then (sCL_.l0 k x0 x8 x9 x10 (y465.set (0 : Int).toNat x8) 0 (-1) (wrap64 (x1 + 1))) else (none))
def sCL_.l0 : Nat → List Int → Int → Option Int → Int → List Int → Int → Int → Int → Option (Int × Option Int)
  | 0, _, _, _, _, _, _, _, _ => none
  | k + 1, x0, x8, x9, x10, x12, x13, x14, x15 => if x15 < (x0.length : Int) then (if 0 ≤ x15 then (if (x12.length : Int) > 1 then (if (rd x0 x15) = 34 then (if 0 ≤ (wrap64 (x15 + 1)) then (if (wrap64 (x15 + 1)) ≤ (x0.length : Int) then ((sE_.f k (x0.drop ((wrap64 (x15 + 1)) : Int).toNat)).bind fun bt471 => (if bt471.1 = (-1) then (some (0, x9)) else (sCL_.l0 k x0 x8 x9 x10 x12 x13 x14 (wrap64 ((wrap64 (x15 + bt471.1)) + 1))))) else (none)) else (none)) else (if (rd x0 x15) = 91 then (if x12.length < 140737488355328 then (sCL_.l0 k x0 x8 x9 x10 (x12 ++ [93]) x13 x14 (wrap64 (x15 + 1))) else (none)) else (if (rd x0 x15) = 123 then (if x12.length < 140737488355328 then (sCL_.l0 k x0 x8 x9 x10 (x12 ++ [125]) x13 x14 (wrap64 (x15 + 1))) else (none)) else (if (rd x0 x15) = 93 then (sCL_.j2 k x0 x8 x9 x10 x12 x13 x14 x15 (rd x0 x15) ((rd x0 x15) == 93)) else (sCL_.j2 k x0 x8 x9 x10 x12 x13 x14 x15 (rd x0 x15) ((rd x0 x15) == 125)))))) else (if x10 = 0 then ((iCW_.f (rd x0 x15)).bind fun t483 => (if t483 = true then (sCL_.l0 k x0 x8 x9 x10 x12 x13 x14 (wrap64 (x15 + 1))) else (if (rd x0 x15) = x8 then (if x13 = 0 then (some (0, none)) else (some (0, x9))) else (if (rd x0 x15) = 44 then (sCL_.j3 k x0 x8 x9 x12 x13 x14 x15 (rd x0 x15) true) else (if (rd x0 x15) = 125 then (sCL_.j3 k x0 x8 x9 x12 x13 x14 x15 (rd x0 x15) true) else (sCL_.j3 k x0 x8 x9 x12 x13 x14 x15 (rd x0 x15) ((rd x0 x15) == 58))))))) else (if x10 = 1 then (if (rd x0 x15) = 44 then (if 0 ≤ x14 then (if x14 ≤ x15 then (if x15 ≤ (x0.length : Int) then ((vCP_.f k ((x0.take (x15 : Int).toNat).drop (x14 : Int).toNat)).bind fun t494 => (if t494 = true then (sCL_.l0 k x0 x8 x9 0 x12 x13 x14 (wrap64 (x15 + 1))) else (some (0, x9)))) else (none)) else (none)) else (none)) else (if (rd x0 x15) = 93 then (if 0 ≤ x14 then (if x14 ≤ x15 then (if x15 ≤ (x0.length : Int) then ((vCP_.f k ((x0.take (x15 : Int).toNat).drop (x14 : Int).toNat)).bind fun t496 => (if t496 = true then (some (x13, none)) else (some (0, x9)))) else (none)) else (none)) else (none)) else (if (rd x0 x15) = 125 then (some (0, x9)) else (sCL_.l0 k x0 x8 x9 x10 x12 x13 x14 (wrap64 (x15 + 1)))))) else (if x10 = 2 then ((iCW_.f (rd x0 x15)).bind fun t497 => (if t497 = true then (sCL_.l0 k x0 x8 x9 x10 x12 x13 x14 (wrap64 (x15 + 1))) else (if (rd x0 x15) = 44 then (sCL_.l0 k x0 x8 x9 0 x12 x13 x14 (wrap64 (x15 + 1))) else (if (rd x0 x15) = 93 then (some (x13, none)) else (some (0, x9)))))) else (if x10 = 3 then ((iCW_.f (rd x0 x15)).bind fun t498 => (if t498 = true then (sCL_.l0 k x0 x8 x9 x10 x12 x13 x14 (wrap64 (x15 + 1))) else (if (rd x0 x15) = x8 then (if x13 = 0 then (some (0, none)) else (some (0, x9))) else (if (rd x0 x15) = 34 then (if 0 ≤ (wrap64 (x15 + 1)) then (if (wrap64 (x15 + 1)) ≤ (x0.length : Int) then ((sE_.f k (x0.drop ((wrap64 (x15 + 1)) : Int).toNat)).bind fun bt500 => (if bt500.1 = (-1) then (some (0, x9)) else (sCL_.l0 k x0 x8 x9 4 x12 x13 x14 (wrap64 ((wrap64 (x15 + bt500.1)) + 1))))) else (none)) else (none)) else (some (0, x9)))))) else (if x10 = 4 then ((iCW_.f (rd x0 x15)).bind fun t502 => (if t502 = true then (sCL_.l0 k x0 x8 x9 x10 x12 x13 x14 (wrap64 (x15 + 1))) else (if (rd x0 x15) = 58 then (sCL_.l0 k x0 x8 x9 5 x12 x13 x14 (wrap64 (x15 + 1))) else (some (0, x9))))) else (if x10 = 5 then ((iCW_.f (rd x0 x15)).bind fun t503 => (if t503 = true then (sCL_.l0 k x0 x8 x9 x10 x12 x13 x14 (wrap64 (x15 + 1))) else (if (rd x0 x15) = 44 then (sCL_.j4 k x0 x8 x9 x12 x13 x14 x15 (rd x0 x15) true) else (if (rd x0 x15) = 125 then (sCL_.j4 k x0 x8 x9 x12 x13 x14 x15 (rd x0 x15) true) else (if (rd x0 x15) = 93 then (sCL_.j4 k x0 x8 x9 x12 x13 x14 x15 (rd x0 x15) true) else (sCL_.j4 k x0 x8 x9 x12 x13 x14 x15 (rd x0 x15) ((rd x0 x15) == 58))))))) else (if x10 = 6 then (if (rd x0 x15) = 44 then (if 0 ≤ x14 then (if x14 ≤ x15 then (if x15 ≤ (x0.length : Int) then ((vCP_.f k ((x0.take (x15 : Int).toNat).drop (x14 : Int).toNat)).bind fun t514 => (if t514 = true then (sCL_.l0 k x0 x8 x9 3 x12 x13 x14 (wrap64 (x15 + 1))) else (some (0, x9)))) else (none)) else (none)) else (none)) else (if (rd x0 x15) = 125 then (if 0 ≤ x14 then (if x14 ≤ x15 then (if x15 ≤ (x0.length : Int) then ((vCP_.f k ((x0.take (x15 : Int).toNat).drop (x14 : Int).toNat)).bind fun t516 => (if t516 = true then (some (x13, none)) else (some (0, x9)))) else (none)) else (none)) else (none)) else (if (rd x0 x15) = 93 then (some (0, x9)) else (sCL_.l0 k x0 x8 x9 x10 x12 x13 x14 (wrap64 (x15 + 1)))))) else (if x10 = 7 then ((iCW_.f (rd x0 x15)).bind fun t517 => (if t517 = true then (sCL_.l0 k x0 x8 x9 x10 x12 x13 x14 (wrap64 (x15 + 1))) else (if (rd x0 x15) = 44 then (sCL_.l0 k x0 x8 x9 3 x12 x13 x14 (wrap64 (x15 + 1))) else (if (rd x0 x15) = 125 then (some (x13, none)) else (some (0, x9)))))) else (sCL_.l0 k x0 x8 x9 x10 x12 x13 x14 (wrap64 (x15 + 1)))))))))))) else (none)) else (some (0, x9))
def sCL_.j2 : Nat → List Int → Int → Option Int → Int → List Int → Int → Int → Int → Int → Bool → Option (Int × Option Int)
  | 0, _, _, _, _, _, _, _, _, _, _ => none
  | k + 1, x0, x8, x9, x10, x12, x13, x14, x15, x16, x75 => if x75 = true then (if 0 ≤ (wrap64 ((x12.length : Int) - 1)) then (if (wrap64 ((x12.length : Int) - 1)) < (x12.length : Int) then (if x16 = (rd x12 (wrap64 ((x12.length : Int) - 1))) then (if (wrap64 ((x12.length : Int) - 1)) ≤ (x12.length : Int) then (sCL_.l0 k x0 x8 x9 x10 (x12.take ((wrap64 ((x12.length : Int) - 1)) : Int).toNat) x13 x14 (wrap64 (x15 + 1))) else (none)) else (some (0, x9))) else (none)) else (none)) else (sCL_.l0 k x0 x8 x9 x10 x12 x13 x14 (wrap64 (x15 + 1)))
def sCL_.j3 : Nat → List Int → Int → Option Int → List Int → Int → Int → Int → Int → Bool → Option (Int × Option Int)
  | 0, _, _, _, _, _, _, _, _, _ => none
  | k + 1, x0, x8, x9, x12, x13, x14, x15, x16, x112 => if x112 = true then (some (0, x9)) else (if x16 = 34 then (if 0 ≤ (wrap64 (x15 + 1)) then (if (wrap64 (x15 + 1)) ≤ (x0.length : Int) then ((sE_.f k (x0.drop ((wrap64 (x15 + 1)) : Int).toNat)).bind fun bt485 => (if bt485.1 = (-1) then (some (0, x9)) else (sCL_.l0 k x0 x8 x9 2 x12 (wrap64 (x13 + 1)) x14 (wrap64 ((wrap64 (x15 + bt485.1)) + 1))))) else (none)) else (none)) else (if x16 = 91 then (if x12.length < 140737488355328 then (sCL_.l0 k x0 x8 x9 2 (x12 ++ [93]) (wrap64 (x13 + 1)) x14 (wrap64 (x15 + 1))) else (none)) else (if x16 = 123 then (if x12.length < 140737488355328 then (sCL_.l0 k x0 x8 x9 2 (x12 ++ [125]) (wrap64 (x13 + 1)) x14 (wrap64 (x15 + 1))) else (none)) else (sCL_.l0 k x0 x8 x9 1 x12 (wrap64 (x13 + 1)) x15 (wrap64 (x15 + 1))))))
def sCL_.j4 : Nat → List Int → Int → Option Int → List Int → Int → Int → Int → Int → Bool → Option (Int × Option Int)
  | 0, _, _, _, _, _, _, _, _, _ => none
  | k + 1, x0, x8, x9, x12, x13, x14, x15, x16, x231 => if x231 = true then (some (0, x9)) else (if x16 = 34 then (if 0 ≤ (wrap64 (x15 + 1)) then (if (wrap64 (x15 + 1)) ≤ (x0.length : Int) then ((sE_.f k (x0.drop ((wrap64 (x15 + 1)) : Int).toNat)).bind fun bt505 => (if bt505.1 = (-1) then (some (0, x9)) else (sCL_.l0 k x0 x8 x9 7 x12 (wrap64 (x13 + 1)) x14 (wrap64 ((wrap64 (x15 + bt505.1)) + 1))))) else (none)) else (none)) else (if x16 = 91 then (if x12.length < 140737488355328 then (sCL_.l0 k x0 x8 x9 7 (x12 ++ [93]) (wrap64 (x13 + 1)) x14 (wrap64 (x15 + 1))) else (none)) else (if x16 = 123 then (if x12.length < 140737488355328 then (sCL_.l0 k x0 x8 x9 7 (x12 ++ [125]) (wrap64 (x13 + 1)) x14 (wrap64 (x15 + 1))) else (none)) else (sCL_.l0 k x0 x8 x9 6 x12 (wrap64 (x13 + 1)) x15 (wrap64 (x15 + 1))))))
end
def sCL_.f (k : Nat) (l0 : List Int) (a1 : Int) (a2 : Int) : Option (Int × Option Int) := if a2 = 123 then (sCL_.j0 k l0 a1 125 (some 1) 3) else (sCL_.j0 k l0 a1 93 (some 0) 0)
set_option maxHeartbeats 8000000 in
set_option maxRecDepth 100000 in
theorem sCL_.calls (k : Nat) (A0 : Option Addr) (c0 : Nat) (l0 : List Int) (a1 : Int) (a2 : Int) (r1 : Int) (r2 : Option Int) (w : World) (hr0 : Kd.C (Kd.int .u8) w A0 l0.length l0) (hc0 : l0.length ≤ c0) (h : sCL_.f k l0 a1 a2 = some (r1, r2)) (hG : Glob w) :
    Calls Tryd.prog 16 #[.slice A0 l0.length c0, .int .i64 a1, .int .u8 a2] w fun e w' => ∃ evr2 : TypeId × Value, e = .returned (.tuple #[.int .i64 r1, errX r2 evr2]) ∧ Below w.heap.size w w' := by
 have HR0 := Aside0.mk hr0
 have HC0 := Aside0.mk hc0
 clear hr0 hc0
 have HB := Aside0.mk (Below.refl w.heap.size w)
 obtain ⟨gt0, gp0, hgv0_⟩ := hG.e0
 have hgv0 := Aside0.mk hgv0_
 clear hgv0_
 obtain ⟨gt1, gp1, hgv1_⟩ := hG.e1
 have hgv1 := Aside0.mk hgv1_
 clear hgv1_
 have HG := Aside0.mk hG
 clear hG
 have H : (if a2 = 123 then (sCL_.j0 k l0 a1 125 (some 1) 3) else (sCL_.j0 k l0 a1 93 (some 0) 0)) = some (r1, r2) := h
 clear h
 have HC4 := Aside0.mk H
 clear H
 have hgl5 : w.cell? ⟨0, 0, none⟩ = some (.iface gt0 gp0) := ((show Below w.heap.size w w from Below.refl _ _).cell (World.block_lt_of_cell? w _ hgv0.out)).trans hgv0.out
 go_enter Tryd.func16, Tryd.ntmps16
 go_upto_if 27 with (fail)
 go_cut [8, 9, 10] (fun v8 v9 v10 wc => ∃ (kq : Nat) (x8_3 : Int) (x9_3 : Option Int) (evx9_3 : TypeId × Value) (x10_3 : Int), v8 = .int .u8 x8_3 ∧ v9 = errX x9_3 evx9_3 ∧ v10 = .int .i64 x10_3 ∧ Aside0 (sCL_.j0 kq l0 a1 x8_3 x9_3 x10_3 = some (r1, r2)) ∧ Aside0 (kq ≤ k) ∧ Aside0 (Below w.heap.size w wc))
 case first => as_aux_lemma =>
  have H := HC4.out
  clear HC4
  by_cases c6 : a2 = 123
  ·
   rw [if_pos c6] at H
   have c6b0 : (a2 == 123) = true := beq_iff_eq.mpr c6
   have c6b1 : (a2 != 123) = false := bne_eq_false_iff_eq.mpr c6
   clear c6
   (first | rw [c6b0] | (simp only [i64_w, i32_w]; rw [c6b0]) | rw [c6b1] | skip)
   as_aux_lemma =>
    have H' := Aside0.mk H
    clear H
    have hgl7 : w.cell? ⟨1, 0, none⟩ = some (.iface gt1 gp1) := ((show Below w.heap.size w w from HB.out).cell (World.block_lt_of_cell? w _ hgv1.out)).trans hgv1.out
    go_wp2
    go_meet
    case rel => exact ⟨_, (125), (some 1), (gt1, gp1), (3), zE, zE, zE, H', ⟨by first | omega | exact Nat.le_refl _⟩, ⟨zB HB.out⟩⟩
  rw [if_neg c6] at H
  have c6b0 : (a2 == 123) = false := beq_eq_false_iff_ne.mpr c6
  have c6b1 : (a2 != 123) = true := bne_iff_ne.mpr c6
  (first | rw [c6b0] | (simp only [i64_w, i32_w]; rw [c6b0]) | rw [c6b1] | skip)
  as_aux_lemma =>
   have H' := Aside0.mk H
   clear H
   go_wp2
   go_meet
   case rel => exact ⟨_, (93), (some 0), (gt0, gp0), (0), zE, zE, zE, H', ⟨by first | omega | exact Nat.le_refl _⟩, ⟨zB HB.out⟩⟩
 case rest => as_aux_lemma =>
  clear HC4
  obtain ⟨kq, x8_3, x9_3, evx9_3, x10_3, rfl, rfl, rfl, HA, HJ3, HB⟩ := hcut
  rcases kq with _ | kj3
  · exact absurd HA.out (by simp [sCL_.j0])
  have H := HA.out
  clear HA
  simp only [sCL_.j0] at H
  obtain ⟨y462, hy462⟩ : ∃ y_ : List Int, y_ = (List.replicate 32 (0 : Int)) := ⟨_, rfl⟩
  replace H : ((some (y462.take (1 : Int).toNat : List Int)).bind fun y465 => (if 0 < (y465.length : Int) then (sCL_.l0 kj3 l0 x8_3 x9_3 x10_3 (y465.set (0 : Int).toNat x8_3) 0 (-1) (wrap64 (a1 + 1))) else (none))) = some (r1, r2) := by first | (rw [hy462]; with_reducible exact H) | (have H2_ := (Option.bind_some _ _).symm.trans H; rw [hy462]; with_reducible exact H2_) | (have H2_ := (Option.bind_some _ _).symm.trans H; with_reducible exact H2_) | with_reducible exact H | (rw [hy462]; exact H) | exact H
  have Ny462 := Aside0.mk hy462
  clear hy462
  obtain ⟨y465, hy465⟩ : ∃ y_ : List Int, y_ = (y462.take (1 : Int).toNat) := ⟨_, rfl⟩
  replace H : (if 0 < (y465.length : Int) then (sCL_.l0 kj3 l0 x8_3 x9_3 x10_3 (y465.set (0 : Int).toNat x8_3) 0 (-1) (wrap64 (a1 + 1))) else (none)) = some (r1, r2) := by first | (rw [hy465]; with_reducible exact H) | (have H2_ := (Option.bind_some _ _).symm.trans H; rw [hy465]; with_reducible exact H2_) | (have H2_ := (Option.bind_some _ _).symm.trans H; with_reducible exact H2_) | with_reducible exact H | (rw [hy465]; exact H) | exact H
  have Ny465 := Aside0.mk hy465
  clear hy465
  by_cases c8 : 0 < (y465.length : Int)
  ·
   rw [if_pos c8] at H
   have c8b0 : decide (0 < (y465.length : Int)) = true := decide_eq_true c8
   have c8b1 : decide (0 < y465.length) = true := decide_eq_true (by omega)
   clear c8
   obtain ⟨y468, hy468⟩ : ∃ y_ : List Int, y_ = (y465.set (0 : Int).toNat x8_3) := ⟨_, rfl⟩
   replace H : (sCL_.l0 kj3 l0 x8_3 x9_3 x10_3 y468 0 (-1) (wrap64 (a1 + 1))) = some (r1, r2) := by first | (rw [hy468]; with_reducible exact H) | (have H2_ := (Option.bind_some _ _).symm.trans H; rw [hy468]; with_reducible exact H2_) | (have H2_ := (Option.bind_some _ _).symm.trans H; with_reducible exact H2_) | with_reducible exact H | (rw [hy468]; exact H) | exact H
   have Ny468 := Aside0.mk hy468
   clear hy468
   have H' := Aside0.mk H
   clear H
   go_wp2_with (first | ((with_reducible refine gate_dst (N := 11) rfl ?_); refine Kd.RA_arr (e := 5) (k := .u8) _ rfl (N := 11) rfl 55 32 rfl (by kernel_rfl) (by decide) (ok := fun _ => True) trivial (Below.refl _ _) (Nat.le_refl _) ?_; intro v463 w10 ho11 hb hg_ hnew_; clear hg_; have harr_v463 := hnew_; clear hnew_; (first | rw [← Ny462.out] at ho11 | (simp only [Int.reduceToNat] at ho11; rw [← Ny462.out] at ho11)); have n0_ := Aside0.mk (Kd.RA_lower ho11 (below_size (zB HB.out))); have n1_ := Aside0.mk (below_step (zB HB.out) hb); clear HB; have HO464 := n0_; have HB := n1_; clear n0_ n1_; clear hb ho11; obtain ⟨Ao12, co12, eo12⟩ := Kd.RA_slice HO464.out; subst eo12; have q13 : (1 : Int) ≤ ((y462.length : Int) : Int) := (by rw [Ny462.out, List.length_replicate]; omega); obtain ⟨i013, hi013, _, hsz13, _⟩ := info_parts info5; have hcut13 := Kd.arr_to (P := Tryd.prog) 55 5 32 Tryd.underlying55 harr_v463 hi013 1 (by omega) (by omega); have hr13 := Kd.RA_take (m := (1 : Int).toNat) HO464.out (by omega); have hy13 : y465.length = (1 : Int).toNat := (by rw [Ny465.out, List.length_take]; omega); rw [← Ny465.out] at hr13; rw [← hy13] at hr13 hcut13; clear hy13 hi013 hsz13 HO464; have HO467 := Aside0.mk hr13; clear hr13; replace q13 := eq_true q13; have p9 : 0 ≤ (0 : Int) := (by omega); have q9 : (0 : Int) < ((y465.length : Int) : Int) := dT; have qi9 : (0 < y465.length) = True := eq_true (by omega); obtain ⟨go9, co9, eo9, gb9, gl9, cl9, HG9⟩ := Kd.RA_form HO467.out (by omega); (first | cases eo9 | (injection eo9 with ea_ en_ ec_; (first | subst ea_ | (injection ea_ with ea_; subst ea_)); subst ec_; clear en_)); have GB9 := Aside0.mk gb9; have GG9 := Aside0.mk HG9; clear gb9 gl9 HG9; obtain ⟨hx9_0, hf9_0⟩ := Kd.RA_celln 0 HO467.out (0 : Int) p9 q9; (try rw [show ((0 : Int)).toNat = 0 from rfl] at hx9_0); (try simp only [Nat.reduceMul, Nat.zero_mul, Nat.zero_add, Nat.reduceAdd] at hx9_0); (try rw [show ((0 : Int)).toNat = 0 from rfl] at hf9_0); (try simp only [Nat.reduceMul, Nat.zero_mul, Nat.zero_add, Nat.reduceAdd] at hf9_0); replace p9 := eq_true p9; replace q9 := eq_true q9; obtain ⟨hy14_, hz14_⟩ := Kd.RA_celln 0 HO467.out (0 : Int) (by omega) (dT); (try simp only [Int.reduceToNat, Int.toNat_zero, Int.toNat_ofNat, Nat.reduceMul, Nat.zero_mul, Nat.zero_add] at hy14_ hz14_); (try rw [show ((0 : Int)).toNat = 0 from rfl] at hy14_); (try rw [show ((0 : Int)).toNat = 0 from rfl] at hz14_); have HP14 := Kd.RA_putg HO467.out (0 : Int) x8_3) | ((with_reducible refine gate_store (t := 5) (p := 32) rfl ?_); refine store_event (t := 5) (p := 32) (v := ?vo_w15) (w1 := (w10.setCell ⟨go9, (0 : Int).toNat, none⟩ (.int .u8 x8_3))) ?hg ?ho ?hn ?hr ?_; (case ho => rfl); (case hg => rfl); (case hn => rfl); (case hr => first | (go_simp; done) | (go_simp; rfl)); intro w15 hw; have hg : w10.grownBy w15 (some go9) := (by rw [hw]; exact HP14.2); have hp_ : Kd.RA (Kd.int .u8) 5 w15 w.heap.size (fun _ => True) (.slice (some ⟨go9, 0, none⟩) y465.length co12) y468 := (by rw [hw, Ny468.out]; exact HP14.1); clear HP14; have n0_ := Aside0.mk (hp_); have n1_ := Aside0.mk ((by rw [hw]; exact below_set (HB.out) GB9.out : Below w.heap.size w w15)); clear HO467 HB; have HO467 := n0_; have HB := n1_; clear n0_ n1_; clear hg hw hp_))
   try simp only [Act.put, List.setIfInBounds_toArray, List.set_cons_succ, List.set_cons_zero]
   go_loopg [10, 12, 13, 14, 15] kj3 (fun kq v10 v12 v13 v14 v15 w' => ∃ (x10_2 : Int) (x12_2 : List Int) (x13_2 : Int) (x14_2 : Int) (x15_2 : Int), v10 = .int .i64 x10_2 ∧ v13 = .int .i64 x13_2 ∧ v14 = .int .i64 x14_2 ∧ v15 = .int .i64 x15_2 ∧ Aside0 (sCL_.l0 kq l0 x8_3 x9_3 x10_2 x12_2 x13_2 x14_2 x15_2 = some (r1, r2)) ∧ Aside0 (kq ≤ kj3) ∧ Aside0 (Kd.RA (Kd.int .u8) 5 w' w.heap.size (fun _ => True) v12 x12_2) ∧ Aside0 (Below w.heap.size w w'))
   case atStart => exact ⟨(x10_3), (y468), (0), ((-1)), (wrap64 (a1 + 1)), zE, zE, zE, zE, H', ⟨Nat.le_refl _⟩, ⟨by (with_reducible repeat (first | apply Kd.RA_alloc | apply Kd.RA_drewN | apply Kd.RA_drew)); exact HO467.out⟩, ⟨zB HB.out⟩⟩
   case round =>
    clear H'
    (try clear c8b0); (try clear c8b1); (try clear p9); (try clear q9); (try clear qi9); (try clear q13); (try clear hx9_0); (try clear p9); (try clear q13); (try clear q9)
    obtain ⟨x10_2, x12_2, x13_2, x14_2, x15_2, rfl, rfl, rfl, rfl, HA, HK2, HO_12, HB⟩ := hrel
    rcases gk with _ | k2
    · exact absurd HA.out (by simp [sCL_.l0])
    have H := HA.out
    clear HA
    simp only [sCL_.l0] at H
    by_cases c16 : x15_2 < (l0.length : Int)
    ·
     rw [if_pos c16] at H
     have c16b0 : decide (x15_2 < (l0.length : Int)) = true := decide_eq_true c16
     clear c16
     by_cases c17 : 0 ≤ x15_2
     ·
      rw [if_pos c17] at H
      have c17b0 : decide (0 ≤ x15_2) = true := decide_eq_true c17
      clear c17
      by_cases c18 : (x12_2.length : Int) > 1
      ·
       rw [if_pos c18] at H
       have c18b0 : decide (1 < (x12_2.length : Int)) = true := decide_eq_true c18
       have c18b1 : decide (1 < x12_2.length) = true := decide_eq_true (by omega)
       clear c18
       by_cases c19 : (rd l0 x15_2) = 34
       ·
        rw [if_pos c19] at H
        have c19b0 : ((rd l0 x15_2) == 34) = true := beq_iff_eq.mpr c19
        have c19b1 : ((rd l0 x15_2) != 34) = false := bne_eq_false_iff_eq.mpr c19
        clear c19
        obtain ⟨ji20, hji20⟩ : ∃ j_ : Int, (wrap64 (x15_2 + 1)) = j_ := ⟨_, rfl⟩
        replace H : (if 0 ≤ (ji20) then (if (ji20) ≤ (l0.length : Int) then ((sE_.f k2 (l0.drop ((ji20) : Int).toNat)).bind fun bt471 => (if bt471.1 = (-1) then (some (0, x9_3)) else (sCL_.l0 k2 l0 x8_3 x9_3 x10_2 x12_2 x13_2 x14_2 (wrap64 ((wrap64 (x15_2 + bt471.1)) + 1))))) else (none)) else (none)) = some (r1, r2) := by first | (rw [hji20] at H; exact H) | (simp only [hji20] at H ⊢; exact H)
        have hji20w : (IntKind.i64.wrap (x15_2 + 1)) = ji20 := (i64_w _).trans hji20
        by_cases c21 : 0 ≤ (ji20)
        ·
         rw [if_pos c21] at H
         have c21b0 := eq_true c21
         have c21b1 : decide (0 ≤ (ji20)) = true := decide_eq_true c21
         clear c21
         by_cases c22 : (ji20) ≤ (l0.length : Int)
         ·
          rw [if_pos c22] at H
          have c22b0 := eq_true c22
          have c22b1 : decide ((ji20) ≤ (l0.length : Int)) = true := decide_eq_true c22
          clear c22
          replace H := Option.bind_eq_some_iff.mp H
          obtain ⟨⟨t471, t472⟩, A230, H⟩ := H
          try dsimp only at H
          have A23 := Aside0.mk A230
          clear A230
          by_cases c24 : t471 = (-1)
          ·
           rw [if_pos c24] at H
           have c24b0 : (t471 == (-1)) = true := beq_iff_eq.mpr c24
           have c24b1 : (t471 != (-1)) = false := bne_eq_false_iff_eq.mpr c24
           clear c24
           as_aux_lemma =>
            simp only [Option.some.injEq, Prod.mk.injEq] at H
            obtain ⟨rfl, rfl⟩ := H
            have p469 : 0 ≤ (x15_2 : Int) := dT
            have q469 : x15_2 < (l0.length : Int) := dT
            obtain ⟨ad469, e469, hx469_0⟩ := Kd.at_int HR0.out x15_2 p469 q469
            cases e469
            replace hx469_0 := zH HB.out hx469_0
            replace p469 := eq_true p469
            replace q469 := eq_true q469
            obtain ⟨Ao25, co25, eo25⟩ := Kd.RA_slice HO_12.out
            subst eo25
            obtain ⟨i026, hi026, _, hsz26, _⟩ := info_parts info5
            obtain ⟨A26, hcut26, hA26, hC26⟩ := print_drop_of (P := Tryd.prog) (Value.int .u8) 0 47 5 .i64 Tryd.underlying47 hi026 hsz26 (some ad469) c0 l0 (ji20) (dT) (dT) HC0.out
            have HR470 := Aside0.mk (Kd.C_of_reads (h1 := fun _ => rfl) (hA26 _ (Kd.reads_of_C HR0.out)))
            have HC470 := Aside0.mk hC26
            clear hA26 hC26 hi026 hsz26
            go_wp2_with (first | ((with_reducible refine gate_callee (f := 25) rfl ?_); refine goesL_ (some 56) rfl rfl Tryd.func25 (by kernel_rfl) rfl #[.slice A26 (l0.drop ((ji20) : Int).toNat).length (c0 - (ji20).toNat)] rfl (by (try simp only [List.map_toArray, List.map_cons, List.map_nil]); first | done | (rw [show (l0.drop ((ji20) : Int).toNat).length = (l0.length - (ji20).toNat) from List.length_drop] <;> rfl) | (simp only [hji20]; rfl) | rfl | (simp only [List.length_drop, List.length_take]; rfl)) ?_; (with_reducible refine (sE_.calls k2 _ _ (l0.drop ((ji20) : Int).toNat) t471 t472 _ ?side1 ?side2 A23.out (HG.out.below (zB HB.out))).mono ?_); (case side1 => repeat (first | exact (Kd.C_below HR470.out HB.out) | (with_reducible refine Kd.C_alloc ?_ _) | (with_reducible refine Kd.C_drewN ?_ _) | (with_reducible refine Kd.C_drew ?_))); (case side2 => exact HC470.out); rintro e w27 ⟨rfl, hb⟩; refine ⟨_, rfl, ?_⟩; have n0_ := Aside0.mk (Kd.RA_below (zRA HO_12.out) hb); have n1_ := Aside0.mk (below_step (zB HB.out) hb); clear HO_12 HB; have HO_12 := n0_; have HB := n1_; clear n0_ n1_; clear hb))
            go_ret2
            first | exact ⟨evx9_3, by first | rfl | (simp [errX_none, errX_some] <;> rfl) | (simp only [← hji20]; first | rfl | (simp [errX_none, errX_some] <;> rfl)) | (simp [*, errX_none, errX_some] <;> rfl), zB HB.out⟩ | exact ⟨⟨(evx9_3).1, (evx9_3).2, by first | rfl | (simp [errX_none, errX_some] <;> rfl) | (simp only [← hji20]; first | rfl | (simp [errX_none, errX_some] <;> rfl)) | (simp [*, errX_none, errX_some] <;> rfl)⟩, zB HB.out⟩
          rw [if_neg c24] at H
          have c24b0 : (t471 == (-1)) = false := beq_eq_false_iff_ne.mpr c24
          have c24b1 : (t471 != (-1)) = true := bne_iff_ne.mpr c24
          as_aux_lemma =>
           have H' := Aside0.mk H
           clear H
           have p469 : 0 ≤ (x15_2 : Int) := dT
           have q469 : x15_2 < (l0.length : Int) := dT
           obtain ⟨ad469, e469, hx469_0⟩ := Kd.at_int HR0.out x15_2 p469 q469
           cases e469
           replace hx469_0 := zH HB.out hx469_0
           replace p469 := eq_true p469
           replace q469 := eq_true q469
           obtain ⟨Ao28, co28, eo28⟩ := Kd.RA_slice HO_12.out
           subst eo28
           obtain ⟨i029, hi029, _, hsz29, _⟩ := info_parts info5
           obtain ⟨A29, hcut29, hA29, hC29⟩ := print_drop_of (P := Tryd.prog) (Value.int .u8) 0 47 5 .i64 Tryd.underlying47 hi029 hsz29 (some ad469) c0 l0 (ji20) (dT) (dT) HC0.out
           have HR470 := Aside0.mk (Kd.C_of_reads (h1 := fun _ => rfl) (hA29 _ (Kd.reads_of_C HR0.out)))
           have HC470 := Aside0.mk hC29
           clear hA29 hC29 hi029 hsz29
           go_wp2_with (first | ((with_reducible refine gate_callee (f := 25) rfl ?_); refine goesL_ (some 56) rfl rfl Tryd.func25 (by kernel_rfl) rfl #[.slice A29 (l0.drop ((ji20) : Int).toNat).length (c0 - (ji20).toNat)] rfl (by (try simp only [List.map_toArray, List.map_cons, List.map_nil]); first | done | (rw [show (l0.drop ((ji20) : Int).toNat).length = (l0.length - (ji20).toNat) from List.length_drop] <;> rfl) | (simp only [hji20]; rfl) | rfl | (simp only [List.length_drop, List.length_take]; rfl)) ?_; (with_reducible refine (sE_.calls k2 _ _ (l0.drop ((ji20) : Int).toNat) t471 t472 _ ?side1 ?side2 A23.out (HG.out.below (zB HB.out))).mono ?_); (case side1 => repeat (first | exact (Kd.C_below HR470.out HB.out) | (with_reducible refine Kd.C_alloc ?_ _) | (with_reducible refine Kd.C_drewN ?_ _) | (with_reducible refine Kd.C_drew ?_))); (case side2 => exact HC470.out); rintro e w30 ⟨rfl, hb⟩; refine ⟨_, rfl, ?_⟩; have n0_ := Aside0.mk (Kd.RA_below (zRA HO_12.out) hb); have n1_ := Aside0.mk (below_step (zB HB.out) hb); clear HO_12 HB; have HO_12 := n0_; have HB := n1_; clear n0_ n1_; clear hb))
           go_roundg k2
           case measure => have := HJ3.out; have := HK2.out; omega
           case rel => exact ⟨(x10_2), (x12_2), (x13_2), (x14_2), (wrap64 ((wrap64 (x15_2 + t471)) + 1)), zE, zE, zE, zE, (by first | exact H' | (rw [hji20]; exact H') | (simp only [hji20]; exact H') | (simp only [hji20] at H' ⊢; exact H')), ⟨by have := HJ3.out; have := HK2.out; omega⟩, ⟨by (with_reducible repeat (first | apply Kd.RA_alloc | apply Kd.RA_drewN | apply Kd.RA_drew)); exact HO_12.out⟩, ⟨zB HB.out⟩⟩
         rw [if_neg c22] at H
         exact absurd H (by simp)
        rw [if_neg c21] at H
        exact absurd H (by simp)
       rw [if_neg c19] at H
       have c19b0 : ((rd l0 x15_2) == 34) = false := beq_eq_false_iff_ne.mpr c19
       have c19b1 : ((rd l0 x15_2) != 34) = true := bne_iff_ne.mpr c19
       by_cases c31 : (rd l0 x15_2) = 91
       ·
        rw [if_pos c31] at H
        have c31b0 : ((rd l0 x15_2) == 91) = true := beq_iff_eq.mpr c31
        have c31b1 : ((rd l0 x15_2) != 91) = false := bne_eq_false_iff_eq.mpr c31
        clear c31
        by_cases c32 : x12_2.length < 140737488355328
        ·
         rw [if_pos c32] at H
         have LMc32 := Aside0.mk c32
         clear c32
         obtain ⟨y473, hy473⟩ : ∃ y_ : List Int, y_ = (x12_2 ++ [93]) := ⟨_, rfl⟩
         replace H : (sCL_.l0 k2 l0 x8_3 x9_3 x10_2 y473 x13_2 x14_2 (wrap64 (x15_2 + 1))) = some (r1, r2) := by first | (rw [hy473]; with_reducible exact H) | (have H2_ := (Option.bind_some _ _).symm.trans H; rw [hy473]; with_reducible exact H2_) | (have H2_ := (Option.bind_some _ _).symm.trans H; with_reducible exact H2_) | with_reducible exact H | (rw [hy473]; exact H) | exact H
         have Ny473 := Aside0.mk hy473
         clear hy473
         as_aux_lemma =>
          have H' := Aside0.mk H
          clear H
          have p469 : 0 ≤ (x15_2 : Int) := dT
          have q469 : x15_2 < (l0.length : Int) := dT
          obtain ⟨ad469, e469, hx469_0⟩ := Kd.at_int HR0.out x15_2 p469 q469
          cases e469
          replace hx469_0 := zH HB.out hx469_0
          replace p469 := eq_true p469
          replace q469 := eq_true q469
          obtain ⟨Ao33, co33, eo33⟩ := Kd.RA_slice HO_12.out
          subst eo33
          go_wp2_with (first | ((with_reducible refine gate_builtin (b := .append) (xs := #[.tmp 67, .tmp 68]) rfl ?_); at_builtin; refine Kd.RA_append (Kd.int .u8) (w0 := w) w.heap.size rfl (.tmp 67) (.tmp 68) 47 5 (.int .u8 0) 1 rfl Tryd.underlying47 info5 rfl (by decide) (by omega) (.slice Ao33 x12_2.length co33) x12_2 93 [.int .u8 93] (fun _ => True) (fun _ => False) rfl rfl ?aP (fun _ hk => hk.elim) ?aF ?aO ?aB ?aS ?aL ?_; (case aP => exact rfl); (case aB => exact (zB HB.out)); (case aF => exact (fun _ _ => trivial)); (case aO => exact (zRA HO_12.out)); (case aS => exact (below_size (zB HB.out))); (case aL => have := LMc32.out; omega); intro v474 w34 ho hb hg hat; rw [← Ny473.out] at ho; have n0_ := Aside0.mk (hb); have n1_ := Aside0.mk (ho); clear HB HO_12; have HB := n0_; have HO475 := n1_; clear n0_ n1_; clear ho hb hg hat))
          go_roundg k2
          case measure => have := HJ3.out; have := HK2.out; omega
          case rel => exact ⟨(x10_2), (y473), (x13_2), (x14_2), (wrap64 (x15_2 + 1)), zE, zE, zE, zE, H', ⟨by have := HJ3.out; have := HK2.out; omega⟩, ⟨by (with_reducible repeat (first | apply Kd.RA_alloc | apply Kd.RA_drewN | apply Kd.RA_drew)); exact HO475.out⟩, ⟨zB HB.out⟩⟩
        rw [if_neg c32] at H
        exact absurd H (by simp)
       rw [if_neg c31] at H
       have c31b0 : ((rd l0 x15_2) == 91) = false := beq_eq_false_iff_ne.mpr c31
       have c31b1 : ((rd l0 x15_2) != 91) = true := bne_iff_ne.mpr c31
       by_cases c35 : (rd l0 x15_2) = 123
       ·
        rw [if_pos c35] at H
        have c35b0 : ((rd l0 x15_2) == 123) = true := beq_iff_eq.mpr c35
        have c35b1 : ((rd l0 x15_2) != 123) = false := bne_eq_false_iff_eq.mpr c35
        clear c35
        by_cases c36 : x12_2.length < 140737488355328
        ·
         rw [if_pos c36] at H
         have LMc36 := Aside0.mk c36
         clear c36
         obtain ⟨y476, hy476⟩ : ∃ y_ : List Int, y_ = (x12_2 ++ [125]) := ⟨_, rfl⟩
         replace H : (sCL_.l0 k2 l0 x8_3 x9_3 x10_2 y476 x13_2 x14_2 (wrap64 (x15_2 + 1))) = some (r1, r2) := by first | (rw [hy476]; with_reducible exact H) | (have H2_ := (Option.bind_some _ _).symm.trans H; rw [hy476]; with_reducible exact H2_) | (have H2_ := (Option.bind_some _ _).symm.trans H; with_reducible exact H2_) | with_reducible exact H | (rw [hy476]; exact H) | exact H
         have Ny476 := Aside0.mk hy476
         clear hy476
         as_aux_lemma =>
          have H' := Aside0.mk H
          clear H
          have p469 : 0 ≤ (x15_2 : Int) := dT
          have q469 : x15_2 < (l0.length : Int) := dT
          obtain ⟨ad469, e469, hx469_0⟩ := Kd.at_int HR0.out x15_2 p469 q469
          cases e469
          replace hx469_0 := zH HB.out hx469_0
          replace p469 := eq_true p469
          replace q469 := eq_true q469
          obtain ⟨Ao37, co37, eo37⟩ := Kd.RA_slice HO_12.out
          subst eo37
          go_wp2_with (first | ((with_reducible refine gate_builtin (b := .append) (xs := #[.tmp 72, .tmp 73]) rfl ?_); at_builtin; refine Kd.RA_append (Kd.int .u8) (w0 := w) w.heap.size rfl (.tmp 72) (.tmp 73) 47 5 (.int .u8 0) 1 rfl Tryd.underlying47 info5 rfl (by decide) (by omega) (.slice Ao37 x12_2.length co37) x12_2 125 [.int .u8 125] (fun _ => True) (fun _ => False) rfl rfl ?aP (fun _ hk => hk.elim) ?aF ?aO ?aB ?aS ?aL ?_; (case aP => exact rfl); (case aB => exact (zB HB.out)); (case aF => exact (fun _ _ => trivial)); (case aO => exact (zRA HO_12.out)); (case aS => exact (below_size (zB HB.out))); (case aL => have := LMc36.out; omega); intro v477 w38 ho hb hg hat; rw [← Ny476.out] at ho; have n0_ := Aside0.mk (hb); have n1_ := Aside0.mk (ho); clear HB HO_12; have HB := n0_; have HO478 := n1_; clear n0_ n1_; clear ho hb hg hat))
          go_roundg k2
          case measure => have := HJ3.out; have := HK2.out; omega
          case rel => exact ⟨(x10_2), (y476), (x13_2), (x14_2), (wrap64 (x15_2 + 1)), zE, zE, zE, zE, H', ⟨by have := HJ3.out; have := HK2.out; omega⟩, ⟨by (with_reducible repeat (first | apply Kd.RA_alloc | apply Kd.RA_drewN | apply Kd.RA_drew)); exact HO478.out⟩, ⟨zB HB.out⟩⟩
        rw [if_neg c36] at H
        exact absurd H (by simp)
       rw [if_neg c35] at H
       have c35b0 : ((rd l0 x15_2) == 123) = false := beq_eq_false_iff_ne.mpr c35
       have c35b1 : ((rd l0 x15_2) != 123) = true := bne_iff_ne.mpr c35
       have HC39 := Aside0.mk H
       clear H
       have p469 : 0 ≤ (x15_2 : Int) := dT
       have q469 : x15_2 < (l0.length : Int) := dT
       obtain ⟨ad469, e469, hx469_0⟩ := Kd.at_int HR0.out x15_2 p469 q469
       cases e469
       replace hx469_0 := zH HB.out hx469_0
       replace p469 := eq_true p469
       replace q469 := eq_true q469
       obtain ⟨Ao40, co40, eo40⟩ := Kd.RA_slice HO_12.out
       subst eo40
       go_upto_if 75 with (fail)
       go_cut [75] (fun v75 wc => ∃ (kq : Nat) (x75_38 : Bool), v75 = .bool x75_38 ∧ Aside0 (sCL_.j2 kq l0 x8_3 x9_3 x10_2 x12_2 x13_2 x14_2 x15_2 (rd l0 x15_2) x75_38 = some (r1, r2)) ∧ Aside0 (kq ≤ k2) ∧ Aside0 (Kd.RA (Kd.int .u8) 5 wc w.heap.size (fun _ => True) (.slice Ao40 x12_2.length co40) x12_2) ∧ Aside0 (Below w.heap.size w wc))
       case first => as_aux_lemma =>
        have H := HC39.out
        clear HC39
        by_cases c41 : (rd l0 x15_2) = 93
        ·
         rw [if_pos c41] at H
         have c41b0 : ((rd l0 x15_2) == 93) = true := beq_iff_eq.mpr c41
         have c41b1 : ((rd l0 x15_2) != 93) = false := bne_eq_false_iff_eq.mpr c41
         clear c41
         (first | rw [c41b0] | (simp only [i64_w, i32_w]; rw [c41b0]) | rw [c41b1] | skip)
         as_aux_lemma =>
          have H' := Aside0.mk H
          clear H
          go_wp2
          go_meet
          case rel => exact ⟨_, (((rd l0 x15_2) == 93)), zE, H', ⟨by have := HJ3.out; have := HK2.out; first | omega | exact Nat.le_refl _⟩, ⟨by (with_reducible repeat (first | apply Kd.RA_alloc | apply Kd.RA_drewN | apply Kd.RA_drew)); exact HO_12.out⟩, ⟨zB HB.out⟩⟩
        rw [if_neg c41] at H
        have c41b0 : ((rd l0 x15_2) == 93) = false := beq_eq_false_iff_ne.mpr c41
        have c41b1 : ((rd l0 x15_2) != 93) = true := bne_iff_ne.mpr c41
        (first | rw [c41b0] | (simp only [i64_w, i32_w]; rw [c41b0]) | rw [c41b1] | skip)
        as_aux_lemma =>
         have H' := Aside0.mk H
         clear H
         go_wp2
         go_meet
         case rel => exact ⟨_, (((rd l0 x15_2) == 125)), zE, H', ⟨by have := HJ3.out; have := HK2.out; first | omega | exact Nat.le_refl _⟩, ⟨by (with_reducible repeat (first | apply Kd.RA_alloc | apply Kd.RA_drewN | apply Kd.RA_drew)); exact HO_12.out⟩, ⟨zB HB.out⟩⟩
       case rest => as_aux_lemma =>
        clear HC39
        (try clear c8b0); (try clear c8b1); (try clear p9); (try clear q9); (try clear qi9); (try clear q13); (try clear c16b0); (try clear c17b0); (try clear c18b0); (try clear c18b1); (try clear c19); (try clear c19b0); (try clear c19b1); (try clear c31); (try clear c31b0); (try clear c31b1); (try clear c35); (try clear c35b0); (try clear c35b1); (try clear hx469_0); (try clear hx9_0); (try clear p469); (try clear p9); (try clear q13); (try clear q469); (try clear q9)
        obtain ⟨kq, x75_38, rfl, HA, HJ38, HO_12, HB⟩ := hcut
        rcases kq with _ | kj38
        · exact absurd HA.out (by simp [sCL_.j2])
        have H := HA.out
        clear HA
        simp only [sCL_.j2] at H
        by_cases c42 : x75_38 = true
        ·
         subst c42
         rw [if_pos rfl] at H
         obtain ⟨ji43, hji43⟩ : ∃ j_ : Int, (wrap64 ((x12_2.length : Int) - 1)) = j_ := ⟨_, rfl⟩
         replace H : (if 0 ≤ (ji43) then (if (ji43) < (x12_2.length : Int) then (if (rd l0 x15_2) = (rd x12_2 (ji43)) then (if (ji43) ≤ (x12_2.length : Int) then (sCL_.l0 kj38 l0 x8_3 x9_3 x10_2 (x12_2.take ((ji43) : Int).toNat) x13_2 x14_2 (wrap64 (x15_2 + 1))) else (none)) else (some (0, x9_3))) else (none)) else (none)) = some (r1, r2) := by first | (rw [hji43] at H; exact H) | (simp only [hji43] at H ⊢; exact H)
         have hji43w : (IntKind.i64.wrap ((x12_2.length : Int) - 1)) = ji43 := (i64_w _).trans hji43
         by_cases c44 : 0 ≤ (ji43)
         ·
          rw [if_pos c44] at H
          have c44b0 : decide (0 ≤ (ji43)) = true := decide_eq_true c44
          clear c44
          by_cases c45 : (ji43) < (x12_2.length : Int)
          ·
           rw [if_pos c45] at H
           have c45b0 : decide ((ji43) < (x12_2.length : Int)) = true := decide_eq_true c45
           clear c45
           by_cases c46 : (rd l0 x15_2) = (rd x12_2 (ji43))
           ·
            rw [if_pos c46] at H
            have c46b0 : ((rd l0 x15_2) == (rd x12_2 (ji43))) = true := beq_iff_eq.mpr c46
            have c46b1 : ((rd l0 x15_2) != (rd x12_2 (ji43))) = false := bne_eq_false_iff_eq.mpr c46
            clear c46
            by_cases c47 : (ji43) ≤ (x12_2.length : Int)
            ·
             rw [if_pos c47] at H
             have c47b0 := eq_true c47
             have c47b1 : decide ((ji43) ≤ (x12_2.length : Int)) = true := decide_eq_true c47
             clear c47
             obtain ⟨y480, hy480⟩ : ∃ y_ : List Int, y_ = (x12_2.take ((ji43) : Int).toNat) := ⟨_, rfl⟩
             replace H : (sCL_.l0 kj38 l0 x8_3 x9_3 x10_2 y480 x13_2 x14_2 (wrap64 (x15_2 + 1))) = some (r1, r2) := by first | (rw [hy480]; with_reducible exact H) | (have H2_ := (Option.bind_some _ _).symm.trans H; rw [hy480]; with_reducible exact H2_) | (have H2_ := (Option.bind_some _ _).symm.trans H; with_reducible exact H2_) | with_reducible exact H | (rw [hy480]; exact H) | exact H
             have Ny480 := Aside0.mk hy480
             clear hy480
             as_aux_lemma =>
              have H' := Aside0.mk H
              clear H
              have p479 : 0 ≤ ((ji43) : Int) := dT
              have q479 : (ji43) < (x12_2.length : Int) := dT
              obtain ⟨ad479, e479, hx479_0⟩ := Kd.at_int (Kd.RA_reads' HO_12.out).2.2 (ji43) p479 q479
              cases e479
              replace p479 := eq_true p479
              replace q479 := eq_true q479
              have q48 : ((ji43) : Int) ≤ ((x12_2.length : Int) : Int) := dT
              obtain ⟨i048, hi048, _, hsz48, _⟩ := info_parts info5
              have hcut48 := cut_to (P := Tryd.prog) 47 5 .i64 Tryd.underlying47 hi048 (some ad479) x12_2.length co40 (ji43) (dT) q48 (Kd.RA_reads' HO_12.out).2.1
              have hr48 := Kd.RA_take (m := ((ji43) : Int).toNat) HO_12.out (by omega)
              have hy48 : y480.length = ((ji43) : Int).toNat := (by rw [Ny480.out, List.length_take]; omega)
              rw [← Ny480.out] at hr48
              rw [← hy48] at hr48 hcut48
              clear hy48 hi048 hsz48 HO_12
              have HO482 := Aside0.mk hr48
              clear hr48
              replace q48 := eq_true q48
              go_wp2
              go_roundg kj38
              case measure => have := HJ3.out; have := HK2.out; have := HJ38.out; omega
              case rel => exact ⟨(x10_2), (y480), (x13_2), (x14_2), (wrap64 (x15_2 + 1)), zE, zE, zE, zE, (by first | exact H' | (rw [hji43]; exact H') | (simp only [hji43]; exact H') | (simp only [hji43] at H' ⊢; exact H')), ⟨by have := HJ3.out; have := HK2.out; have := HJ38.out; omega⟩, ⟨by (with_reducible repeat (first | apply Kd.RA_alloc | apply Kd.RA_drewN | apply Kd.RA_drew)); exact HO482.out⟩, ⟨zB HB.out⟩⟩
            rw [if_neg c47] at H
            exact absurd H (by simp)
           rw [if_neg c46] at H
           have c46b0 : ((rd l0 x15_2) == (rd x12_2 (ji43))) = false := beq_eq_false_iff_ne.mpr c46
           have c46b1 : ((rd l0 x15_2) != (rd x12_2 (ji43))) = true := bne_iff_ne.mpr c46
           as_aux_lemma =>
            simp only [Option.some.injEq, Prod.mk.injEq] at H
            obtain ⟨rfl, rfl⟩ := H
            have p479 : 0 ≤ ((ji43) : Int) := dT
            have q479 : (ji43) < (x12_2.length : Int) := dT
            obtain ⟨ad479, e479, hx479_0⟩ := Kd.at_int (Kd.RA_reads' HO_12.out).2.2 (ji43) p479 q479
            cases e479
            replace p479 := eq_true p479
            replace q479 := eq_true q479
            go_wp2
            go_ret2
            first | exact ⟨evx9_3, by first | rfl | (simp [errX_none, errX_some] <;> rfl) | (simp only [← hji43]; first | rfl | (simp [errX_none, errX_some] <;> rfl)) | (simp [*, errX_none, errX_some] <;> rfl), zB HB.out⟩ | exact ⟨⟨(evx9_3).1, (evx9_3).2, by first | rfl | (simp [errX_none, errX_some] <;> rfl) | (simp only [← hji43]; first | rfl | (simp [errX_none, errX_some] <;> rfl)) | (simp [*, errX_none, errX_some] <;> rfl)⟩, zB HB.out⟩
          rw [if_neg c45] at H
          exact absurd H (by simp)
         rw [if_neg c44] at H
         exact absurd H (by simp)
        replace c42 := Bool.eq_false_iff.mpr c42
        subst c42
        rw [if_neg Bool.false_ne_true] at H
        as_aux_lemma =>
         have H' := Aside0.mk H
         clear H
         go_wp2
         go_roundg kj38
         case measure => have := HJ3.out; have := HK2.out; have := HJ38.out; omega
         case rel => exact ⟨(x10_2), (x12_2), (x13_2), (x14_2), (wrap64 (x15_2 + 1)), zE, zE, zE, zE, H', ⟨by have := HJ3.out; have := HK2.out; have := HJ38.out; omega⟩, ⟨by (with_reducible repeat (first | apply Kd.RA_alloc | apply Kd.RA_drewN | apply Kd.RA_drew)); exact HO_12.out⟩, ⟨zB HB.out⟩⟩
      rw [if_neg c18] at H
      have c18b0 : decide (1 < (x12_2.length : Int)) = false := decide_eq_false c18
      have c18b1 : decide (1 < x12_2.length) = false := decide_eq_false (by omega)
      clear c18
      by_cases c49 : x10_2 = 0
      ·
       rw [if_pos c49] at H
       have c49b0 : (x10_2 == 0) = true := beq_iff_eq.mpr c49
       have c49b1 : (x10_2 != 0) = false := bne_eq_false_iff_eq.mpr c49
       clear c49
       replace H := Option.bind_eq_some_iff.mp H
       obtain ⟨t483, A500, H⟩ := H
       try dsimp only at H
       have A50 := Aside0.mk A500
       clear A500
       by_cases c51 : t483 = true
       ·
        subst c51
        rw [if_pos rfl] at H
        as_aux_lemma =>
         have H' := Aside0.mk H
         clear H
         have p469 : 0 ≤ (x15_2 : Int) := dT
         have q469 : x15_2 < (l0.length : Int) := dT
         obtain ⟨ad469, e469, hx469_0⟩ := Kd.at_int HR0.out x15_2 p469 q469
         cases e469
         replace hx469_0 := zH HB.out hx469_0
         replace p469 := eq_true p469
         replace q469 := eq_true q469
         obtain ⟨Ao52, co52, eo52⟩ := Kd.RA_slice HO_12.out
         subst eo52
         go_wp2_with (first | ((with_reducible refine gate_callee (f := 26) rfl ?_); refine goesL_ (some 96) rfl rfl Tryd.func26 (by kernel_rfl) rfl #[.int .u8 (rd l0 x15_2)] rfl zM ?_; (with_reducible refine (iCW_.calls (rd l0 x15_2) true _ A50.out).mono ?_); rintro e w' ⟨rfl, ⟨nd, rfl⟩⟩; refine ⟨_, rfl, ?_⟩))
         go_roundg k2
         case measure => have := HJ3.out; have := HK2.out; omega
         case rel => exact ⟨(x10_2), (x12_2), (x13_2), (x14_2), (wrap64 (x15_2 + 1)), zE, zE, zE, zE, H', ⟨by have := HJ3.out; have := HK2.out; omega⟩, ⟨by (with_reducible repeat (first | apply Kd.RA_alloc | apply Kd.RA_drewN | apply Kd.RA_drew)); exact HO_12.out⟩, ⟨zB HB.out⟩⟩
       replace c51 := Bool.eq_false_iff.mpr c51
       subst c51
       rw [if_neg Bool.false_ne_true] at H
       by_cases c53 : (rd l0 x15_2) = x8_3
       ·
        rw [if_pos c53] at H
        have c53b0 : ((rd l0 x15_2) == x8_3) = true := beq_iff_eq.mpr c53
        have c53b1 : ((rd l0 x15_2) != x8_3) = false := bne_eq_false_iff_eq.mpr c53
        clear c53
        by_cases c54 : x13_2 = 0
        ·
         rw [if_pos c54] at H
         have c54b0 : (x13_2 == 0) = true := beq_iff_eq.mpr c54
         have c54b1 : (x13_2 != 0) = false := bne_eq_false_iff_eq.mpr c54
         clear c54
         as_aux_lemma =>
          simp only [Option.some.injEq, Prod.mk.injEq] at H
          obtain ⟨rfl, rfl⟩ := H
          have p469 : 0 ≤ (x15_2 : Int) := dT
          have q469 : x15_2 < (l0.length : Int) := dT
          obtain ⟨ad469, e469, hx469_0⟩ := Kd.at_int HR0.out x15_2 p469 q469
          cases e469
          replace hx469_0 := zH HB.out hx469_0
          replace p469 := eq_true p469
          replace q469 := eq_true q469
          obtain ⟨Ao55, co55, eo55⟩ := Kd.RA_slice HO_12.out
          subst eo55
          go_wp2_with (first | ((with_reducible refine gate_callee (f := 26) rfl ?_); refine goesL_ (some 96) rfl rfl Tryd.func26 (by kernel_rfl) rfl #[.int .u8 (rd l0 x15_2)] rfl zM ?_; (with_reducible refine (iCW_.calls (rd l0 x15_2) false _ A50.out).mono ?_); rintro e w' ⟨rfl, ⟨nd, rfl⟩⟩; refine ⟨_, rfl, ?_⟩))
          go_ret2
          first | exact ⟨(0, Value.nilIface), zX, zB HB.out⟩ | exact ⟨⟨((0, Value.nilIface)).1, ((0, Value.nilIface)).2, zX⟩, zB HB.out⟩
        rw [if_neg c54] at H
        have c54b0 : (x13_2 == 0) = false := beq_eq_false_iff_ne.mpr c54
        have c54b1 : (x13_2 != 0) = true := bne_iff_ne.mpr c54
        as_aux_lemma =>
         simp only [Option.some.injEq, Prod.mk.injEq] at H
         obtain ⟨rfl, rfl⟩ := H
         have p469 : 0 ≤ (x15_2 : Int) := dT
         have q469 : x15_2 < (l0.length : Int) := dT
         obtain ⟨ad469, e469, hx469_0⟩ := Kd.at_int HR0.out x15_2 p469 q469
         cases e469
         replace hx469_0 := zH HB.out hx469_0
         replace p469 := eq_true p469
         replace q469 := eq_true q469
         obtain ⟨Ao56, co56, eo56⟩ := Kd.RA_slice HO_12.out
         subst eo56
         go_wp2_with (first | ((with_reducible refine gate_callee (f := 26) rfl ?_); refine goesL_ (some 96) rfl rfl Tryd.func26 (by kernel_rfl) rfl #[.int .u8 (rd l0 x15_2)] rfl zM ?_; (with_reducible refine (iCW_.calls (rd l0 x15_2) false _ A50.out).mono ?_); rintro e w' ⟨rfl, ⟨nd, rfl⟩⟩; refine ⟨_, rfl, ?_⟩))
         go_ret2
         first | exact ⟨evx9_3, zX, zB HB.out⟩ | exact ⟨⟨(evx9_3).1, (evx9_3).2, zX⟩, zB HB.out⟩
       rw [if_neg c53] at H
       have c53b0 : ((rd l0 x15_2) == x8_3) = false := beq_eq_false_iff_ne.mpr c53
       have c53b1 : ((rd l0 x15_2) != x8_3) = true := bne_iff_ne.mpr c53
       have HC57 := Aside0.mk H
       clear H
       have p469 : 0 ≤ (x15_2 : Int) := dT
       have q469 : x15_2 < (l0.length : Int) := dT
       obtain ⟨ad469, e469, hx469_0⟩ := Kd.at_int HR0.out x15_2 p469 q469
       cases e469
       replace hx469_0 := zH HB.out hx469_0
       replace p469 := eq_true p469
       replace q469 := eq_true q469
       obtain ⟨Ao58, co58, eo58⟩ := Kd.RA_slice HO_12.out
       subst eo58
       go_upto_region 40 with (first | ((with_reducible refine gate_callee (f := 26) rfl ?_); refine goesL_ (some 96) rfl rfl Tryd.func26 (by kernel_rfl) rfl #[.int .u8 (rd l0 x15_2)] rfl zM ?_; (with_reducible refine (iCW_.calls (rd l0 x15_2) false _ A50.out).mono ?_); rintro e w' ⟨rfl, ⟨nd, rfl⟩⟩; refine ⟨_, rfl, ?_⟩))
       (try simp only [Act.put, List.setIfInBounds_toArray, List.set_cons_zero, List.set_cons_succ])
       go_cut [112] (fun v112 wc => ∃ (kq : Nat) (x112_56 : Bool), v112 = .bool x112_56 ∧ Aside0 (sCL_.j3 kq l0 x8_3 x9_3 x12_2 x13_2 x14_2 x15_2 (rd l0 x15_2) x112_56 = some (r1, r2)) ∧ Aside0 (kq ≤ k2) ∧ Aside0 (Kd.RA (Kd.int .u8) 5 wc w.heap.size (fun _ => True) (.slice Ao58 x12_2.length co58) x12_2) ∧ Aside0 (Below w.heap.size w wc))
       case first => as_aux_lemma =>
        have H := HC57.out
        clear HC57
        by_cases c59 : (rd l0 x15_2) = 44
        ·
         rw [if_pos c59] at H
         have c59b0 : ((rd l0 x15_2) == 44) = true := beq_iff_eq.mpr c59
         have c59b1 : ((rd l0 x15_2) != 44) = false := bne_eq_false_iff_eq.mpr c59
         clear c59
         (first | rw [c59b0] | (simp only [i64_w, i32_w]; rw [c59b0]) | rw [c59b1] | skip)
         as_aux_lemma =>
          have H' := Aside0.mk H
          clear H
          go_wp2
          go_meet
          case rel => exact ⟨_, (true), zE, H', ⟨by have := HJ3.out; have := HK2.out; first | omega | exact Nat.le_refl _⟩, ⟨by (with_reducible repeat (first | apply Kd.RA_alloc | apply Kd.RA_drewN | apply Kd.RA_drew)); exact HO_12.out⟩, ⟨zB HB.out⟩⟩
        rw [if_neg c59] at H
        have c59b0 : ((rd l0 x15_2) == 44) = false := beq_eq_false_iff_ne.mpr c59
        have c59b1 : ((rd l0 x15_2) != 44) = true := bne_iff_ne.mpr c59
        (first | rw [c59b0] | (simp only [i64_w, i32_w]; rw [c59b0]) | rw [c59b1] | skip)
        by_cases c60 : (rd l0 x15_2) = 125
        ·
         rw [if_pos c60] at H
         have c60b0 : ((rd l0 x15_2) == 125) = true := beq_iff_eq.mpr c60
         have c60b1 : ((rd l0 x15_2) != 125) = false := bne_eq_false_iff_eq.mpr c60
         clear c60
         as_aux_lemma =>
          have H' := Aside0.mk H
          clear H
          go_wp2
          go_meet
          case rel => exact ⟨_, (true), zE, H', ⟨by have := HJ3.out; have := HK2.out; first | omega | exact Nat.le_refl _⟩, ⟨by (with_reducible repeat (first | apply Kd.RA_alloc | apply Kd.RA_drewN | apply Kd.RA_drew)); exact HO_12.out⟩, ⟨zB HB.out⟩⟩
        rw [if_neg c60] at H
        have c60b0 : ((rd l0 x15_2) == 125) = false := beq_eq_false_iff_ne.mpr c60
        have c60b1 : ((rd l0 x15_2) != 125) = true := bne_iff_ne.mpr c60
        as_aux_lemma =>
         have H' := Aside0.mk H
         clear H
         go_wp2
         go_meet
         case rel => exact ⟨_, (((rd l0 x15_2) == 58)), zE, H', ⟨by have := HJ3.out; have := HK2.out; first | omega | exact Nat.le_refl _⟩, ⟨by (with_reducible repeat (first | apply Kd.RA_alloc | apply Kd.RA_drewN | apply Kd.RA_drew)); exact HO_12.out⟩, ⟨zB HB.out⟩⟩
       case rest => as_aux_lemma =>
        clear HC57
        (try clear c8b0); (try clear c8b1); (try clear p9); (try clear q9); (try clear qi9); (try clear q13); (try clear c16b0); (try clear c17b0); (try clear c18b0); (try clear c18b1); (try clear c49b0); (try clear c49b1); (try clear c51); (try clear c53); (try clear c53b0); (try clear c53b1); (try clear hx469_0); (try clear hx9_0); (try clear p469); (try clear p9); (try clear q13); (try clear q469); (try clear q9)
        obtain ⟨kq, x112_56, rfl, HA, HJ56, HO_12, HB⟩ := hcut
        rcases kq with _ | kj56
        · exact absurd HA.out (by simp [sCL_.j3])
        have H := HA.out
        clear HA
        simp only [sCL_.j3] at H
        by_cases c61 : x112_56 = true
        ·
         subst c61
         rw [if_pos rfl] at H
         as_aux_lemma =>
          simp only [Option.some.injEq, Prod.mk.injEq] at H
          obtain ⟨rfl, rfl⟩ := H
          go_wp2
          go_ret2
          first | exact ⟨evx9_3, zX, zB HB.out⟩ | exact ⟨⟨(evx9_3).1, (evx9_3).2, zX⟩, zB HB.out⟩
        replace c61 := Bool.eq_false_iff.mpr c61
        subst c61
        rw [if_neg Bool.false_ne_true] at H
        by_cases c62 : (rd l0 x15_2) = 34
        ·
         rw [if_pos c62] at H
         have c62b0 : ((rd l0 x15_2) == 34) = true := beq_iff_eq.mpr c62
         have c62b1 : ((rd l0 x15_2) != 34) = false := bne_eq_false_iff_eq.mpr c62
         clear c62
         obtain ⟨ji63, hji63⟩ : ∃ j_ : Int, (wrap64 (x15_2 + 1)) = j_ := ⟨_, rfl⟩
         replace H : (if 0 ≤ (ji63) then (if (ji63) ≤ (l0.length : Int) then ((sE_.f kj56 (l0.drop ((ji63) : Int).toNat)).bind fun bt485 => (if bt485.1 = (-1) then (some (0, x9_3)) else (sCL_.l0 kj56 l0 x8_3 x9_3 2 x12_2 (wrap64 (x13_2 + 1)) x14_2 (wrap64 ((wrap64 (x15_2 + bt485.1)) + 1))))) else (none)) else (none)) = some (r1, r2) := by first | (rw [hji63] at H; exact H) | (simp only [hji63] at H ⊢; exact H)
         have hji63w : (IntKind.i64.wrap (x15_2 + 1)) = ji63 := (i64_w _).trans hji63
         by_cases c64 : 0 ≤ (ji63)
         ·
          rw [if_pos c64] at H
          have c64b0 := eq_true c64
          have c64b1 : decide (0 ≤ (ji63)) = true := decide_eq_true c64
          clear c64
          by_cases c65 : (ji63) ≤ (l0.length : Int)
          ·
           rw [if_pos c65] at H
           have c65b0 := eq_true c65
           have c65b1 : decide ((ji63) ≤ (l0.length : Int)) = true := decide_eq_true c65
           clear c65
           replace H := Option.bind_eq_some_iff.mp H
           obtain ⟨⟨t485, t486⟩, A660, H⟩ := H
           try dsimp only at H
           have A66 := Aside0.mk A660
           clear A660
           by_cases c67 : t485 = (-1)
           ·
            rw [if_pos c67] at H
            have c67b0 : (t485 == (-1)) = true := beq_iff_eq.mpr c67
            have c67b1 : (t485 != (-1)) = false := bne_eq_false_iff_eq.mpr c67
            clear c67
            as_aux_lemma =>
             simp only [Option.some.injEq, Prod.mk.injEq] at H
             obtain ⟨rfl, rfl⟩ := H
             obtain ⟨i068, hi068, _, hsz68, _⟩ := info_parts info5
             obtain ⟨A68, hcut68, hA68, hC68⟩ := print_drop_of (P := Tryd.prog) (Value.int .u8) 0 47 5 .i64 Tryd.underlying47 hi068 hsz68 (some ad469) c0 l0 (ji63) (dT) (dT) HC0.out
             have HR484 := Aside0.mk (Kd.C_of_reads (h1 := fun _ => rfl) (hA68 _ (Kd.reads_of_C HR0.out)))
             have HC484 := Aside0.mk hC68
             clear hA68 hC68 hi068 hsz68
             go_wp2_with (first | ((with_reducible refine gate_callee (f := 25) rfl ?_); refine goesL_ (some 125) rfl rfl Tryd.func25 (by kernel_rfl) rfl #[.slice A68 (l0.drop ((ji63) : Int).toNat).length (c0 - (ji63).toNat)] rfl (by (try simp only [List.map_toArray, List.map_cons, List.map_nil]); first | done | (rw [show (l0.drop ((ji63) : Int).toNat).length = (l0.length - (ji63).toNat) from List.length_drop] <;> rfl) | (simp only [hji63]; rfl) | rfl | (simp only [List.length_drop, List.length_take]; rfl)) ?_; (with_reducible refine (sE_.calls kj56 _ _ (l0.drop ((ji63) : Int).toNat) t485 t486 _ ?side1 ?side2 A66.out (HG.out.below (zB HB.out))).mono ?_); (case side1 => repeat (first | exact (Kd.C_below HR484.out HB.out) | (with_reducible refine Kd.C_alloc ?_ _) | (with_reducible refine Kd.C_drewN ?_ _) | (with_reducible refine Kd.C_drew ?_))); (case side2 => exact HC484.out); rintro e w69 ⟨rfl, hb⟩; refine ⟨_, rfl, ?_⟩; have n0_ := Aside0.mk (Kd.RA_below (zRA HO_12.out) hb); have n1_ := Aside0.mk (below_step (zB HB.out) hb); clear HO_12 HB; have HO_12 := n0_; have HB := n1_; clear n0_ n1_; clear hb))
             go_ret2
             first | exact ⟨evx9_3, by first | rfl | (simp [errX_none, errX_some] <;> rfl) | (simp only [← hji63]; first | rfl | (simp [errX_none, errX_some] <;> rfl)) | (simp [*, errX_none, errX_some] <;> rfl), zB HB.out⟩ | exact ⟨⟨(evx9_3).1, (evx9_3).2, by first | rfl | (simp [errX_none, errX_some] <;> rfl) | (simp only [← hji63]; first | rfl | (simp [errX_none, errX_some] <;> rfl)) | (simp [*, errX_none, errX_some] <;> rfl)⟩, zB HB.out⟩
           rw [if_neg c67] at H
           have c67b0 : (t485 == (-1)) = false := beq_eq_false_iff_ne.mpr c67
           have c67b1 : (t485 != (-1)) = true := bne_iff_ne.mpr c67
           as_aux_lemma =>
            have H' := Aside0.mk H
            clear H
            obtain ⟨i070, hi070, _, hsz70, _⟩ := info_parts info5
            obtain ⟨A70, hcut70, hA70, hC70⟩ := print_drop_of (P := Tryd.prog) (Value.int .u8) 0 47 5 .i64 Tryd.underlying47 hi070 hsz70 (some ad469) c0 l0 (ji63) (dT) (dT) HC0.out
            have HR484 := Aside0.mk (Kd.C_of_reads (h1 := fun _ => rfl) (hA70 _ (Kd.reads_of_C HR0.out)))
            have HC484 := Aside0.mk hC70
            clear hA70 hC70 hi070 hsz70
            go_wp2_with (first | ((with_reducible refine gate_callee (f := 25) rfl ?_); refine goesL_ (some 125) rfl rfl Tryd.func25 (by kernel_rfl) rfl #[.slice A70 (l0.drop ((ji63) : Int).toNat).length (c0 - (ji63).toNat)] rfl (by (try simp only [List.map_toArray, List.map_cons, List.map_nil]); first | done | (rw [show (l0.drop ((ji63) : Int).toNat).length = (l0.length - (ji63).toNat) from List.length_drop] <;> rfl) | (simp only [hji63]; rfl) | rfl | (simp only [List.length_drop, List.length_take]; rfl)) ?_; (with_reducible refine (sE_.calls kj56 _ _ (l0.drop ((ji63) : Int).toNat) t485 t486 _ ?side1 ?side2 A66.out (HG.out.below (zB HB.out))).mono ?_); (case side1 => repeat (first | exact (Kd.C_below HR484.out HB.out) | (with_reducible refine Kd.C_alloc ?_ _) | (with_reducible refine Kd.C_drewN ?_ _) | (with_reducible refine Kd.C_drew ?_))); (case side2 => exact HC484.out); rintro e w71 ⟨rfl, hb⟩; refine ⟨_, rfl, ?_⟩; have n0_ := Aside0.mk (Kd.RA_below (zRA HO_12.out) hb); have n1_ := Aside0.mk (below_step (zB HB.out) hb); clear HO_12 HB; have HO_12 := n0_; have HB := n1_; clear n0_ n1_; clear hb))
            go_roundg kj56
            case measure => have := HJ3.out; have := HK2.out; have := HJ56.out; omega
            case rel => exact ⟨(2), (x12_2), (wrap64 (x13_2 + 1)), (x14_2), (wrap64 ((wrap64 (x15_2 + t485)) + 1)), zE, zE, zE, zE, (by first | exact H' | (rw [hji63]; exact H') | (simp only [hji63]; exact H') | (simp only [hji63] at H' ⊢; exact H')), ⟨by have := HJ3.out; have := HK2.out; have := HJ56.out; omega⟩, ⟨by (with_reducible repeat (first | apply Kd.RA_alloc | apply Kd.RA_drewN | apply Kd.RA_drew)); exact HO_12.out⟩, ⟨zB HB.out⟩⟩
          rw [if_neg c65] at H
          exact absurd H (by simp)
         rw [if_neg c64] at H
         exact absurd H (by simp)
        rw [if_neg c62] at H
        have c62b0 : ((rd l0 x15_2) == 34) = false := beq_eq_false_iff_ne.mpr c62
        have c62b1 : ((rd l0 x15_2) != 34) = true := bne_iff_ne.mpr c62
        by_cases c72 : (rd l0 x15_2) = 91
        ·
         rw [if_pos c72] at H
         have c72b0 : ((rd l0 x15_2) == 91) = true := beq_iff_eq.mpr c72
         have c72b1 : ((rd l0 x15_2) != 91) = false := bne_eq_false_iff_eq.mpr c72
         clear c72
         by_cases c73 : x12_2.length < 140737488355328
         ·
          rw [if_pos c73] at H
          have LMc73 := Aside0.mk c73
          clear c73
          obtain ⟨y487, hy487⟩ : ∃ y_ : List Int, y_ = (x12_2 ++ [93]) := ⟨_, rfl⟩
          replace H : (sCL_.l0 kj56 l0 x8_3 x9_3 2 y487 (wrap64 (x13_2 + 1)) x14_2 (wrap64 (x15_2 + 1))) = some (r1, r2) := by first | (rw [hy487]; with_reducible exact H) | (have H2_ := (Option.bind_some _ _).symm.trans H; rw [hy487]; with_reducible exact H2_) | (have H2_ := (Option.bind_some _ _).symm.trans H; with_reducible exact H2_) | with_reducible exact H | (rw [hy487]; exact H) | exact H
          have Ny487 := Aside0.mk hy487
          clear hy487
          as_aux_lemma =>
           have H' := Aside0.mk H
           clear H
           go_wp2_with (first | ((with_reducible refine gate_builtin (b := .append) (xs := #[.tmp 136, .tmp 137]) rfl ?_); at_builtin; refine Kd.RA_append (Kd.int .u8) (w0 := w) w.heap.size rfl (.tmp 136) (.tmp 137) 47 5 (.int .u8 0) 1 rfl Tryd.underlying47 info5 rfl (by decide) (by omega) (.slice Ao58 x12_2.length co58) x12_2 93 [.int .u8 93] (fun _ => True) (fun _ => False) rfl rfl ?aP (fun _ hk => hk.elim) ?aF ?aO ?aB ?aS ?aL ?_; (case aP => exact rfl); (case aB => exact (zB HB.out)); (case aF => exact (fun _ _ => trivial)); (case aO => exact (zRA HO_12.out)); (case aS => exact (below_size (zB HB.out))); (case aL => have := LMc73.out; omega); intro v488 w74 ho hb hg hat; rw [← Ny487.out] at ho; have n0_ := Aside0.mk (hb); have n1_ := Aside0.mk (ho); clear HB HO_12; have HB := n0_; have HO489 := n1_; clear n0_ n1_; clear ho hb hg hat))
           go_roundg kj56
           case measure => have := HJ3.out; have := HK2.out; have := HJ56.out; omega
           case rel => exact ⟨(2), (y487), (wrap64 (x13_2 + 1)), (x14_2), (wrap64 (x15_2 + 1)), zE, zE, zE, zE, H', ⟨by have := HJ3.out; have := HK2.out; have := HJ56.out; omega⟩, ⟨by (with_reducible repeat (first | apply Kd.RA_alloc | apply Kd.RA_drewN | apply Kd.RA_drew)); exact HO489.out⟩, ⟨zB HB.out⟩⟩
         rw [if_neg c73] at H
         exact absurd H (by simp)
        rw [if_neg c72] at H
        have c72b0 : ((rd l0 x15_2) == 91) = false := beq_eq_false_iff_ne.mpr c72
        have c72b1 : ((rd l0 x15_2) != 91) = true := bne_iff_ne.mpr c72
        by_cases c75 : (rd l0 x15_2) = 123
        ·
         rw [if_pos c75] at H
         have c75b0 : ((rd l0 x15_2) == 123) = true := beq_iff_eq.mpr c75
         have c75b1 : ((rd l0 x15_2) != 123) = false := bne_eq_false_iff_eq.mpr c75
         clear c75
         by_cases c76 : x12_2.length < 140737488355328
         ·
          rw [if_pos c76] at H
          have LMc76 := Aside0.mk c76
          clear c76
          obtain ⟨y490, hy490⟩ : ∃ y_ : List Int, y_ = (x12_2 ++ [125]) := ⟨_, rfl⟩
          replace H : (sCL_.l0 kj56 l0 x8_3 x9_3 2 y490 (wrap64 (x13_2 + 1)) x14_2 (wrap64 (x15_2 + 1))) = some (r1, r2) := by first | (rw [hy490]; with_reducible exact H) | (have H2_ := (Option.bind_some _ _).symm.trans H; rw [hy490]; with_reducible exact H2_) | (have H2_ := (Option.bind_some _ _).symm.trans H; with_reducible exact H2_) | with_reducible exact H | (rw [hy490]; exact H) | exact H
          have Ny490 := Aside0.mk hy490
          clear hy490
          as_aux_lemma =>
           have H' := Aside0.mk H
           clear H
           go_wp2_with (first | ((with_reducible refine gate_builtin (b := .append) (xs := #[.tmp 141, .tmp 142]) rfl ?_); at_builtin; refine Kd.RA_append (Kd.int .u8) (w0 := w) w.heap.size rfl (.tmp 141) (.tmp 142) 47 5 (.int .u8 0) 1 rfl Tryd.underlying47 info5 rfl (by decide) (by omega) (.slice Ao58 x12_2.length co58) x12_2 125 [.int .u8 125] (fun _ => True) (fun _ => False) rfl rfl ?aP (fun _ hk => hk.elim) ?aF ?aO ?aB ?aS ?aL ?_; (case aP => exact rfl); (case aB => exact (zB HB.out)); (case aF => exact (fun _ _ => trivial)); (case aO => exact (zRA HO_12.out)); (case aS => exact (below_size (zB HB.out))); (case aL => have := LMc76.out; omega); intro v491 w77 ho hb hg hat; rw [← Ny490.out] at ho; have n0_ := Aside0.mk (hb); have n1_ := Aside0.mk (ho); clear HB HO_12; have HB := n0_; have HO492 := n1_; clear n0_ n1_; clear ho hb hg hat))
           go_roundg kj56
           case measure => have := HJ3.out; have := HK2.out; have := HJ56.out; omega
           case rel => exact ⟨(2), (y490), (wrap64 (x13_2 + 1)), (x14_2), (wrap64 (x15_2 + 1)), zE, zE, zE, zE, H', ⟨by have := HJ3.out; have := HK2.out; have := HJ56.out; omega⟩, ⟨by (with_reducible repeat (first | apply Kd.RA_alloc | apply Kd.RA_drewN | apply Kd.RA_drew)); exact HO492.out⟩, ⟨zB HB.out⟩⟩
         rw [if_neg c76] at H
         exact absurd H (by simp)
        rw [if_neg c75] at H
        have c75b0 : ((rd l0 x15_2) == 123) = false := beq_eq_false_iff_ne.mpr c75
        have c75b1 : ((rd l0 x15_2) != 123) = true := bne_iff_ne.mpr c75
        as_aux_lemma =>
         have H' := Aside0.mk H
         clear H
         go_wp2
         go_roundg kj56
         case measure => have := HJ3.out; have := HK2.out; have := HJ56.out; omega
         case rel => exact ⟨(1), (x12_2), (wrap64 (x13_2 + 1)), (x15_2), (wrap64 (x15_2 + 1)), zE, zE, zE, zE, H', ⟨by have := HJ3.out; have := HK2.out; have := HJ56.out; omega⟩, ⟨by (with_reducible repeat (first | apply Kd.RA_alloc | apply Kd.RA_drewN | apply Kd.RA_drew)); exact HO_12.out⟩, ⟨zB HB.out⟩⟩
      rw [if_neg c49] at H
      have c49b0 : (x10_2 == 0) = false := beq_eq_false_iff_ne.mpr c49
      have c49b1 : (x10_2 != 0) = true := bne_iff_ne.mpr c49
      by_cases c78 : x10_2 = 1
      ·
       rw [if_pos c78] at H
       have c78b0 : (x10_2 == 1) = true := beq_iff_eq.mpr c78
       have c78b1 : (x10_2 != 1) = false := bne_eq_false_iff_eq.mpr c78
       clear c78
       by_cases c79 : (rd l0 x15_2) = 44
       ·
        rw [if_pos c79] at H
        have c79b0 : ((rd l0 x15_2) == 44) = true := beq_iff_eq.mpr c79
        have c79b1 : ((rd l0 x15_2) != 44) = false := bne_eq_false_iff_eq.mpr c79
        clear c79
        by_cases c80 : 0 ≤ x14_2
        ·
         rw [if_pos c80] at H
         have c80b0 := eq_true c80
         have c80b1 : decide (0 ≤ x14_2) = true := decide_eq_true c80
         clear c80
         by_cases c81 : x14_2 ≤ x15_2
         ·
          rw [if_pos c81] at H
          have c81b0 := eq_true c81
          have c81b1 : decide (x14_2 ≤ x15_2) = true := decide_eq_true c81
          clear c81
          by_cases c82 : x15_2 ≤ (l0.length : Int)
          ·
           rw [if_pos c82] at H
           have c82b0 := eq_true c82
           have c82b1 : decide (x15_2 ≤ (l0.length : Int)) = true := decide_eq_true c82
           clear c82
           replace H := Option.bind_eq_some_iff.mp H
           obtain ⟨t494, A830, H⟩ := H
           try dsimp only at H
           have A83 := Aside0.mk A830
           clear A830
           by_cases c84 : t494 = true
           ·
            subst c84
            rw [if_pos rfl] at H
            as_aux_lemma =>
             have H' := Aside0.mk H
             clear H
             have p469 : 0 ≤ (x15_2 : Int) := dT
             have q469 : x15_2 < (l0.length : Int) := dT
             obtain ⟨ad469, e469, hx469_0⟩ := Kd.at_int HR0.out x15_2 p469 q469
             cases e469
             replace hx469_0 := zH HB.out hx469_0
             replace p469 := eq_true p469
             replace q469 := eq_true q469
             obtain ⟨Ao85, co85, eo85⟩ := Kd.RA_slice HO_12.out
             subst eo85
             obtain ⟨i086, hi086, _, hsz86, _⟩ := info_parts info5
             obtain ⟨A86, hcut86, hA86, hC86⟩ := print_mid_of (P := Tryd.prog) (Value.int .u8) 0 47 5 .i64 .i64 Tryd.underlying47 hi086 hsz86 (some ad469) c0 l0 x14_2 x15_2 (dT) (by first | omega | exact dT) (dT) HC0.out
             have HR493 := Aside0.mk (Kd.C_of_reads (h1 := fun _ => rfl) (hA86 _ (Kd.reads_of_C HR0.out)))
             have HC493 := Aside0.mk hC86
             clear hA86 hC86 hi086 hsz86
             go_wp2_with (first | ((with_reducible refine gate_callee (f := 27) rfl ?_); refine goesL_ (some 153) rfl rfl Tryd.func27 (by kernel_rfl) rfl #[.slice A86 ((l0.take (x15_2 : Int).toNat).drop (x14_2 : Int).toNat).length (c0 - x14_2.toNat)] rfl (by (try simp only [List.map_toArray, List.map_cons, List.map_nil]); first | done | (rw [show ((l0.take (x15_2 : Int).toNat).drop (x14_2 : Int).toNat).length = (x15_2.toNat - x14_2.toNat) from (by rw [List.length_drop, List.length_take]; have h_ : (x15_2 : Int) ≤ (l0.length : Int) := dT; omega)] <;> rfl) | rfl | (simp only [List.length_drop, List.length_take]; rfl)) ?_; (with_reducible refine (vCP_.calls k2 (fun k_ => k_ < w.heap.size) _ _ ((l0.take (x15_2 : Int).toNat).drop (x14_2 : Int).toNat) true _ ?side1 A83.out).mono ?_); (case side1 => exact Kd.V_mk HC493.out (Kd.F_below (Kd.C_F (Kd.heap_int .u8) HR493.out) (zB HB.out))); rintro e w87 ⟨rfl, hb⟩; refine ⟨_, rfl, ?_⟩; have n0_ := Aside0.mk (Kd.RA_below (zRA HO_12.out) hb); have n1_ := Aside0.mk (below_step (zB HB.out) hb); clear HO_12 HB; have HO_12 := n0_; have HB := n1_; clear n0_ n1_; clear hb))
             go_roundg k2
             case measure => have := HJ3.out; have := HK2.out; omega
             case rel => exact ⟨(0), (x12_2), (x13_2), (x14_2), (wrap64 (x15_2 + 1)), zE, zE, zE, zE, H', ⟨by have := HJ3.out; have := HK2.out; omega⟩, ⟨by (with_reducible repeat (first | apply Kd.RA_alloc | apply Kd.RA_drewN | apply Kd.RA_drew)); exact HO_12.out⟩, ⟨zB HB.out⟩⟩
           replace c84 := Bool.eq_false_iff.mpr c84
           subst c84
           rw [if_neg Bool.false_ne_true] at H
           as_aux_lemma =>
            simp only [Option.some.injEq, Prod.mk.injEq] at H
            obtain ⟨rfl, rfl⟩ := H
            have p469 : 0 ≤ (x15_2 : Int) := dT
            have q469 : x15_2 < (l0.length : Int) := dT
            obtain ⟨ad469, e469, hx469_0⟩ := Kd.at_int HR0.out x15_2 p469 q469
            cases e469
            replace hx469_0 := zH HB.out hx469_0
            replace p469 := eq_true p469
            replace q469 := eq_true q469
            obtain ⟨Ao88, co88, eo88⟩ := Kd.RA_slice HO_12.out
            subst eo88
            obtain ⟨i089, hi089, _, hsz89, _⟩ := info_parts info5
            obtain ⟨A89, hcut89, hA89, hC89⟩ := print_mid_of (P := Tryd.prog) (Value.int .u8) 0 47 5 .i64 .i64 Tryd.underlying47 hi089 hsz89 (some ad469) c0 l0 x14_2 x15_2 (dT) (by first | omega | exact dT) (dT) HC0.out
            have HR493 := Aside0.mk (Kd.C_of_reads (h1 := fun _ => rfl) (hA89 _ (Kd.reads_of_C HR0.out)))
            have HC493 := Aside0.mk hC89
            clear hA89 hC89 hi089 hsz89
            go_wp2_with (first | ((with_reducible refine gate_callee (f := 27) rfl ?_); refine goesL_ (some 153) rfl rfl Tryd.func27 (by kernel_rfl) rfl #[.slice A89 ((l0.take (x15_2 : Int).toNat).drop (x14_2 : Int).toNat).length (c0 - x14_2.toNat)] rfl (by (try simp only [List.map_toArray, List.map_cons, List.map_nil]); first | done | (rw [show ((l0.take (x15_2 : Int).toNat).drop (x14_2 : Int).toNat).length = (x15_2.toNat - x14_2.toNat) from (by rw [List.length_drop, List.length_take]; have h_ : (x15_2 : Int) ≤ (l0.length : Int) := dT; omega)] <;> rfl) | rfl | (simp only [List.length_drop, List.length_take]; rfl)) ?_; (with_reducible refine (vCP_.calls k2 (fun k_ => k_ < w.heap.size) _ _ ((l0.take (x15_2 : Int).toNat).drop (x14_2 : Int).toNat) false _ ?side1 A83.out).mono ?_); (case side1 => exact Kd.V_mk HC493.out (Kd.F_below (Kd.C_F (Kd.heap_int .u8) HR493.out) (zB HB.out))); rintro e w90 ⟨rfl, hb⟩; refine ⟨_, rfl, ?_⟩; have n0_ := Aside0.mk (Kd.RA_below (zRA HO_12.out) hb); have n1_ := Aside0.mk (below_step (zB HB.out) hb); clear HO_12 HB; have HO_12 := n0_; have HB := n1_; clear n0_ n1_; clear hb))
            go_ret2
            first | exact ⟨evx9_3, zX, zB HB.out⟩ | exact ⟨⟨(evx9_3).1, (evx9_3).2, zX⟩, zB HB.out⟩
          rw [if_neg c82] at H
          exact absurd H (by simp)
         rw [if_neg c81] at H
         exact absurd H (by simp)
        rw [if_neg c80] at H
        exact absurd H (by simp)
       rw [if_neg c79] at H
       have c79b0 : ((rd l0 x15_2) == 44) = false := beq_eq_false_iff_ne.mpr c79
       have c79b1 : ((rd l0 x15_2) != 44) = true := bne_iff_ne.mpr c79
       by_cases c91 : (rd l0 x15_2) = 93
       ·
        rw [if_pos c91] at H
        have c91b0 : ((rd l0 x15_2) == 93) = true := beq_iff_eq.mpr c91
        have c91b1 : ((rd l0 x15_2) != 93) = false := bne_eq_false_iff_eq.mpr c91
        clear c91
        by_cases c92 : 0 ≤ x14_2
        ·
         rw [if_pos c92] at H
         have c92b0 := eq_true c92
         have c92b1 : decide (0 ≤ x14_2) = true := decide_eq_true c92
         clear c92
         by_cases c93 : x14_2 ≤ x15_2
         ·
          rw [if_pos c93] at H
          have c93b0 := eq_true c93
          have c93b1 : decide (x14_2 ≤ x15_2) = true := decide_eq_true c93
          clear c93
          by_cases c94 : x15_2 ≤ (l0.length : Int)
          ·
           rw [if_pos c94] at H
           have c94b0 := eq_true c94
           have c94b1 : decide (x15_2 ≤ (l0.length : Int)) = true := decide_eq_true c94
           clear c94
           replace H := Option.bind_eq_some_iff.mp H
           obtain ⟨t496, A950, H⟩ := H
           try dsimp only at H
           have A95 := Aside0.mk A950
           clear A950
           by_cases c96 : t496 = true
           ·
            subst c96
            rw [if_pos rfl] at H
            as_aux_lemma =>
             simp only [Option.some.injEq, Prod.mk.injEq] at H
             obtain ⟨rfl, rfl⟩ := H
             have p469 : 0 ≤ (x15_2 : Int) := dT
             have q469 : x15_2 < (l0.length : Int) := dT
             obtain ⟨ad469, e469, hx469_0⟩ := Kd.at_int HR0.out x15_2 p469 q469
             cases e469
             replace hx469_0 := zH HB.out hx469_0
             replace p469 := eq_true p469
             replace q469 := eq_true q469
             obtain ⟨Ao97, co97, eo97⟩ := Kd.RA_slice HO_12.out
             subst eo97
             obtain ⟨i098, hi098, _, hsz98, _⟩ := info_parts info5
             obtain ⟨A98, hcut98, hA98, hC98⟩ := print_mid_of (P := Tryd.prog) (Value.int .u8) 0 47 5 .i64 .i64 Tryd.underlying47 hi098 hsz98 (some ad469) c0 l0 x14_2 x15_2 (dT) (by first | omega | exact dT) (dT) HC0.out
             have HR495 := Aside0.mk (Kd.C_of_reads (h1 := fun _ => rfl) (hA98 _ (Kd.reads_of_C HR0.out)))
             have HC495 := Aside0.mk hC98
             clear hA98 hC98 hi098 hsz98
             go_wp2_with (first | ((with_reducible refine gate_callee (f := 27) rfl ?_); refine goesL_ (some 162) rfl rfl Tryd.func27 (by kernel_rfl) rfl #[.slice A98 ((l0.take (x15_2 : Int).toNat).drop (x14_2 : Int).toNat).length (c0 - x14_2.toNat)] rfl (by (try simp only [List.map_toArray, List.map_cons, List.map_nil]); first | done | (rw [show ((l0.take (x15_2 : Int).toNat).drop (x14_2 : Int).toNat).length = (x15_2.toNat - x14_2.toNat) from (by rw [List.length_drop, List.length_take]; have h_ : (x15_2 : Int) ≤ (l0.length : Int) := dT; omega)] <;> rfl) | rfl | (simp only [List.length_drop, List.length_take]; rfl)) ?_; (with_reducible refine (vCP_.calls k2 (fun k_ => k_ < w.heap.size) _ _ ((l0.take (x15_2 : Int).toNat).drop (x14_2 : Int).toNat) true _ ?side1 A95.out).mono ?_); (case side1 => exact Kd.V_mk HC495.out (Kd.F_below (Kd.C_F (Kd.heap_int .u8) HR495.out) (zB HB.out))); rintro e w99 ⟨rfl, hb⟩; refine ⟨_, rfl, ?_⟩; have n0_ := Aside0.mk (Kd.RA_below (zRA HO_12.out) hb); have n1_ := Aside0.mk (below_step (zB HB.out) hb); clear HO_12 HB; have HO_12 := n0_; have HB := n1_; clear n0_ n1_; clear hb))
             go_ret2
             first | exact ⟨(0, Value.nilIface), zX, zB HB.out⟩ | exact ⟨⟨((0, Value.nilIface)).1, ((0, Value.nilIface)).2, zX⟩, zB HB.out⟩
           replace c96 := Bool.eq_false_iff.mpr c96
           subst c96
           rw [if_neg Bool.false_ne_true] at H
           as_aux_lemma =>
            simp only [Option.some.injEq, Prod.mk.injEq] at H
            obtain ⟨rfl, rfl⟩ := H
            have p469 : 0 ≤ (x15_2 : Int) := dT
            have q469 : x15_2 < (l0.length : Int) := dT
            obtain ⟨ad469, e469, hx469_0⟩ := Kd.at_int HR0.out x15_2 p469 q469
            cases e469
            replace hx469_0 := zH HB.out hx469_0
            replace p469 := eq_true p469
            replace q469 := eq_true q469
            obtain ⟨Ao100, co100, eo100⟩ := Kd.RA_slice HO_12.out
            subst eo100
            obtain ⟨i0101, hi0101, _, hsz101, _⟩ := info_parts info5
            obtain ⟨A101, hcut101, hA101, hC101⟩ := print_mid_of (P := Tryd.prog) (Value.int .u8) 0 47 5 .i64 .i64 Tryd.underlying47 hi0101 hsz101 (some ad469) c0 l0 x14_2 x15_2 (dT) (by first | omega | exact dT) (dT) HC0.out
            have HR495 := Aside0.mk (Kd.C_of_reads (h1 := fun _ => rfl) (hA101 _ (Kd.reads_of_C HR0.out)))
            have HC495 := Aside0.mk hC101
            clear hA101 hC101 hi0101 hsz101
            go_wp2_with (first | ((with_reducible refine gate_callee (f := 27) rfl ?_); refine goesL_ (some 162) rfl rfl Tryd.func27 (by kernel_rfl) rfl #[.slice A101 ((l0.take (x15_2 : Int).toNat).drop (x14_2 : Int).toNat).length (c0 - x14_2.toNat)] rfl (by (try simp only [List.map_toArray, List.map_cons, List.map_nil]); first | done | (rw [show ((l0.take (x15_2 : Int).toNat).drop (x14_2 : Int).toNat).length = (x15_2.toNat - x14_2.toNat) from (by rw [List.length_drop, List.length_take]; have h_ : (x15_2 : Int) ≤ (l0.length : Int) := dT; omega)] <;> rfl) | rfl | (simp only [List.length_drop, List.length_take]; rfl)) ?_; (with_reducible refine (vCP_.calls k2 (fun k_ => k_ < w.heap.size) _ _ ((l0.take (x15_2 : Int).toNat).drop (x14_2 : Int).toNat) false _ ?side1 A95.out).mono ?_); (case side1 => exact Kd.V_mk HC495.out (Kd.F_below (Kd.C_F (Kd.heap_int .u8) HR495.out) (zB HB.out))); rintro e w102 ⟨rfl, hb⟩; refine ⟨_, rfl, ?_⟩; have n0_ := Aside0.mk (Kd.RA_below (zRA HO_12.out) hb); have n1_ := Aside0.mk (below_step (zB HB.out) hb); clear HO_12 HB; have HO_12 := n0_; have HB := n1_; clear n0_ n1_; clear hb))
            go_ret2
            first | exact ⟨evx9_3, zX, zB HB.out⟩ | exact ⟨⟨(evx9_3).1, (evx9_3).2, zX⟩, zB HB.out⟩
          rw [if_neg c94] at H
          exact absurd H (by simp)
         rw [if_neg c93] at H
         exact absurd H (by simp)
        rw [if_neg c92] at H
        exact absurd H (by simp)
       rw [if_neg c91] at H
       have c91b0 : ((rd l0 x15_2) == 93) = false := beq_eq_false_iff_ne.mpr c91
       have c91b1 : ((rd l0 x15_2) != 93) = true := bne_iff_ne.mpr c91
       by_cases c103 : (rd l0 x15_2) = 125
       ·
        rw [if_pos c103] at H
        have c103b0 : ((rd l0 x15_2) == 125) = true := beq_iff_eq.mpr c103
        have c103b1 : ((rd l0 x15_2) != 125) = false := bne_eq_false_iff_eq.mpr c103
        clear c103
        as_aux_lemma =>
         simp only [Option.some.injEq, Prod.mk.injEq] at H
         obtain ⟨rfl, rfl⟩ := H
         have p469 : 0 ≤ (x15_2 : Int) := dT
         have q469 : x15_2 < (l0.length : Int) := dT
         obtain ⟨ad469, e469, hx469_0⟩ := Kd.at_int HR0.out x15_2 p469 q469
         cases e469
         replace hx469_0 := zH HB.out hx469_0
         replace p469 := eq_true p469
         replace q469 := eq_true q469
         obtain ⟨Ao104, co104, eo104⟩ := Kd.RA_slice HO_12.out
         subst eo104
         go_wp2
         go_ret2
         first | exact ⟨evx9_3, zX, zB HB.out⟩ | exact ⟨⟨(evx9_3).1, (evx9_3).2, zX⟩, zB HB.out⟩
       rw [if_neg c103] at H
       have c103b0 : ((rd l0 x15_2) == 125) = false := beq_eq_false_iff_ne.mpr c103
       have c103b1 : ((rd l0 x15_2) != 125) = true := bne_iff_ne.mpr c103
       as_aux_lemma =>
        have H' := Aside0.mk H
        clear H
        have p469 : 0 ≤ (x15_2 : Int) := dT
        have q469 : x15_2 < (l0.length : Int) := dT
        obtain ⟨ad469, e469, hx469_0⟩ := Kd.at_int HR0.out x15_2 p469 q469
        cases e469
        replace hx469_0 := zH HB.out hx469_0
        replace p469 := eq_true p469
        replace q469 := eq_true q469
        obtain ⟨Ao105, co105, eo105⟩ := Kd.RA_slice HO_12.out
        subst eo105
        go_wp2
        go_roundg k2
        case measure => have := HJ3.out; have := HK2.out; omega
        case rel => exact ⟨(x10_2), (x12_2), (x13_2), (x14_2), (wrap64 (x15_2 + 1)), zE, zE, zE, zE, H', ⟨by have := HJ3.out; have := HK2.out; omega⟩, ⟨by (with_reducible repeat (first | apply Kd.RA_alloc | apply Kd.RA_drewN | apply Kd.RA_drew)); exact HO_12.out⟩, ⟨zB HB.out⟩⟩
      rw [if_neg c78] at H
      have c78b0 : (x10_2 == 1) = false := beq_eq_false_iff_ne.mpr c78
      have c78b1 : (x10_2 != 1) = true := bne_iff_ne.mpr c78
      by_cases c106 : x10_2 = 2
      ·
       rw [if_pos c106] at H
       have c106b0 : (x10_2 == 2) = true := beq_iff_eq.mpr c106
       have c106b1 : (x10_2 != 2) = false := bne_eq_false_iff_eq.mpr c106
       clear c106
       replace H := Option.bind_eq_some_iff.mp H
       obtain ⟨t497, A1070, H⟩ := H
       try dsimp only at H
       have A107 := Aside0.mk A1070
       clear A1070
       by_cases c108 : t497 = true
       ·
        subst c108
        rw [if_pos rfl] at H
        as_aux_lemma =>
         have H' := Aside0.mk H
         clear H
         have p469 : 0 ≤ (x15_2 : Int) := dT
         have q469 : x15_2 < (l0.length : Int) := dT
         obtain ⟨ad469, e469, hx469_0⟩ := Kd.at_int HR0.out x15_2 p469 q469
         cases e469
         replace hx469_0 := zH HB.out hx469_0
         replace p469 := eq_true p469
         replace q469 := eq_true q469
         obtain ⟨Ao109, co109, eo109⟩ := Kd.RA_slice HO_12.out
         subst eo109
         go_wp2_with (first | ((with_reducible refine gate_callee (f := 26) rfl ?_); refine goesL_ (some 172) rfl rfl Tryd.func26 (by kernel_rfl) rfl #[.int .u8 (rd l0 x15_2)] rfl zM ?_; (with_reducible refine (iCW_.calls (rd l0 x15_2) true _ A107.out).mono ?_); rintro e w' ⟨rfl, ⟨nd, rfl⟩⟩; refine ⟨_, rfl, ?_⟩))
         go_roundg k2
         case measure => have := HJ3.out; have := HK2.out; omega
         case rel => exact ⟨(x10_2), (x12_2), (x13_2), (x14_2), (wrap64 (x15_2 + 1)), zE, zE, zE, zE, H', ⟨by have := HJ3.out; have := HK2.out; omega⟩, ⟨by (with_reducible repeat (first | apply Kd.RA_alloc | apply Kd.RA_drewN | apply Kd.RA_drew)); exact HO_12.out⟩, ⟨zB HB.out⟩⟩
       replace c108 := Bool.eq_false_iff.mpr c108
       subst c108
       rw [if_neg Bool.false_ne_true] at H
       by_cases c110 : (rd l0 x15_2) = 44
       ·
        rw [if_pos c110] at H
        have c110b0 : ((rd l0 x15_2) == 44) = true := beq_iff_eq.mpr c110
        have c110b1 : ((rd l0 x15_2) != 44) = false := bne_eq_false_iff_eq.mpr c110
        clear c110
        as_aux_lemma =>
         have H' := Aside0.mk H
         clear H
         have p469 : 0 ≤ (x15_2 : Int) := dT
         have q469 : x15_2 < (l0.length : Int) := dT
         obtain ⟨ad469, e469, hx469_0⟩ := Kd.at_int HR0.out x15_2 p469 q469
         cases e469
         replace hx469_0 := zH HB.out hx469_0
         replace p469 := eq_true p469
         replace q469 := eq_true q469
         obtain ⟨Ao111, co111, eo111⟩ := Kd.RA_slice HO_12.out
         subst eo111
         go_wp2_with (first | ((with_reducible refine gate_callee (f := 26) rfl ?_); refine goesL_ (some 172) rfl rfl Tryd.func26 (by kernel_rfl) rfl #[.int .u8 (rd l0 x15_2)] rfl zM ?_; (with_reducible refine (iCW_.calls (rd l0 x15_2) false _ A107.out).mono ?_); rintro e w' ⟨rfl, ⟨nd, rfl⟩⟩; refine ⟨_, rfl, ?_⟩))
         go_roundg k2
         case measure => have := HJ3.out; have := HK2.out; omega
         case rel => exact ⟨(0), (x12_2), (x13_2), (x14_2), (wrap64 (x15_2 + 1)), zE, zE, zE, zE, H', ⟨by have := HJ3.out; have := HK2.out; omega⟩, ⟨by (with_reducible repeat (first | apply Kd.RA_alloc | apply Kd.RA_drewN | apply Kd.RA_drew)); exact HO_12.out⟩, ⟨zB HB.out⟩⟩
       rw [if_neg c110] at H
       have c110b0 : ((rd l0 x15_2) == 44) = false := beq_eq_false_iff_ne.mpr c110
       have c110b1 : ((rd l0 x15_2) != 44) = true := bne_iff_ne.mpr c110
       by_cases c112 : (rd l0 x15_2) = 93
       ·
        rw [if_pos c112] at H
        have c112b0 : ((rd l0 x15_2) == 93) = true := beq_iff_eq.mpr c112
        have c112b1 : ((rd l0 x15_2) != 93) = false := bne_eq_false_iff_eq.mpr c112
        clear c112
        as_aux_lemma =>
         simp only [Option.some.injEq, Prod.mk.injEq] at H
         obtain ⟨rfl, rfl⟩ := H
         have p469 : 0 ≤ (x15_2 : Int) := dT
         have q469 : x15_2 < (l0.length : Int) := dT
         obtain ⟨ad469, e469, hx469_0⟩ := Kd.at_int HR0.out x15_2 p469 q469
         cases e469
         replace hx469_0 := zH HB.out hx469_0
         replace p469 := eq_true p469
         replace q469 := eq_true q469
         obtain ⟨Ao113, co113, eo113⟩ := Kd.RA_slice HO_12.out
         subst eo113
         go_wp2_with (first | ((with_reducible refine gate_callee (f := 26) rfl ?_); refine goesL_ (some 172) rfl rfl Tryd.func26 (by kernel_rfl) rfl #[.int .u8 (rd l0 x15_2)] rfl zM ?_; (with_reducible refine (iCW_.calls (rd l0 x15_2) false _ A107.out).mono ?_); rintro e w' ⟨rfl, ⟨nd, rfl⟩⟩; refine ⟨_, rfl, ?_⟩))
         go_ret2
         first | exact ⟨(0, Value.nilIface), zX, zB HB.out⟩ | exact ⟨⟨((0, Value.nilIface)).1, ((0, Value.nilIface)).2, zX⟩, zB HB.out⟩
       rw [if_neg c112] at H
       have c112b0 : ((rd l0 x15_2) == 93) = false := beq_eq_false_iff_ne.mpr c112
       have c112b1 : ((rd l0 x15_2) != 93) = true := bne_iff_ne.mpr c112
       as_aux_lemma =>
        simp only [Option.some.injEq, Prod.mk.injEq] at H
        obtain ⟨rfl, rfl⟩ := H
        have p469 : 0 ≤ (x15_2 : Int) := dT
        have q469 : x15_2 < (l0.length : Int) := dT
        obtain ⟨ad469, e469, hx469_0⟩ := Kd.at_int HR0.out x15_2 p469 q469
        cases e469
        replace hx469_0 := zH HB.out hx469_0
        replace p469 := eq_true p469
        replace q469 := eq_true q469
        obtain ⟨Ao114, co114, eo114⟩ := Kd.RA_slice HO_12.out
        subst eo114
        go_wp2_with (first | ((with_reducible refine gate_callee (f := 26) rfl ?_); refine goesL_ (some 172) rfl rfl Tryd.func26 (by kernel_rfl) rfl #[.int .u8 (rd l0 x15_2)] rfl zM ?_; (with_reducible refine (iCW_.calls (rd l0 x15_2) false _ A107.out).mono ?_); rintro e w' ⟨rfl, ⟨nd, rfl⟩⟩; refine ⟨_, rfl, ?_⟩))
        go_ret2
        first | exact ⟨evx9_3, zX, zB HB.out⟩ | exact ⟨⟨(evx9_3).1, (evx9_3).2, zX⟩, zB HB.out⟩
      rw [if_neg c106] at H
      have c106b0 : (x10_2 == 2) = false := beq_eq_false_iff_ne.mpr c106
      have c106b1 : (x10_2 != 2) = true := bne_iff_ne.mpr c106
      by_cases c115 : x10_2 = 3
      ·
       rw [if_pos c115] at H
       have c115b0 : (x10_2 == 3) = true := beq_iff_eq.mpr c115
       have c115b1 : (x10_2 != 3) = false := bne_eq_false_iff_eq.mpr c115
       clear c115
       replace H := Option.bind_eq_some_iff.mp H
       obtain ⟨t498, A1160, H⟩ := H
       try dsimp only at H
       have A116 := Aside0.mk A1160
       clear A1160
       by_cases c117 : t498 = true
       ·
        subst c117
        rw [if_pos rfl] at H
        as_aux_lemma =>
         have H' := Aside0.mk H
         clear H
         have p469 : 0 ≤ (x15_2 : Int) := dT
         have q469 : x15_2 < (l0.length : Int) := dT
         obtain ⟨ad469, e469, hx469_0⟩ := Kd.at_int HR0.out x15_2 p469 q469
         cases e469
         replace hx469_0 := zH HB.out hx469_0
         replace p469 := eq_true p469
         replace q469 := eq_true q469
         obtain ⟨Ao118, co118, eo118⟩ := Kd.RA_slice HO_12.out
         subst eo118
         go_wp2_with (first | ((with_reducible refine gate_callee (f := 26) rfl ?_); refine goesL_ (some 183) rfl rfl Tryd.func26 (by kernel_rfl) rfl #[.int .u8 (rd l0 x15_2)] rfl zM ?_; (with_reducible refine (iCW_.calls (rd l0 x15_2) true _ A116.out).mono ?_); rintro e w' ⟨rfl, ⟨nd, rfl⟩⟩; refine ⟨_, rfl, ?_⟩))
         go_roundg k2
         case measure => have := HJ3.out; have := HK2.out; omega
         case rel => exact ⟨(x10_2), (x12_2), (x13_2), (x14_2), (wrap64 (x15_2 + 1)), zE, zE, zE, zE, H', ⟨by have := HJ3.out; have := HK2.out; omega⟩, ⟨by (with_reducible repeat (first | apply Kd.RA_alloc | apply Kd.RA_drewN | apply Kd.RA_drew)); exact HO_12.out⟩, ⟨zB HB.out⟩⟩
       replace c117 := Bool.eq_false_iff.mpr c117
       subst c117
       rw [if_neg Bool.false_ne_true] at H
       by_cases c119 : (rd l0 x15_2) = x8_3
       ·
        rw [if_pos c119] at H
        have c119b0 : ((rd l0 x15_2) == x8_3) = true := beq_iff_eq.mpr c119
        have c119b1 : ((rd l0 x15_2) != x8_3) = false := bne_eq_false_iff_eq.mpr c119
        clear c119
        by_cases c120 : x13_2 = 0
        ·
         rw [if_pos c120] at H
         have c120b0 : (x13_2 == 0) = true := beq_iff_eq.mpr c120
         have c120b1 : (x13_2 != 0) = false := bne_eq_false_iff_eq.mpr c120
         clear c120
         as_aux_lemma =>
          simp only [Option.some.injEq, Prod.mk.injEq] at H
          obtain ⟨rfl, rfl⟩ := H
          have p469 : 0 ≤ (x15_2 : Int) := dT
          have q469 : x15_2 < (l0.length : Int) := dT
          obtain ⟨ad469, e469, hx469_0⟩ := Kd.at_int HR0.out x15_2 p469 q469
          cases e469
          replace hx469_0 := zH HB.out hx469_0
          replace p469 := eq_true p469
          replace q469 := eq_true q469
          obtain ⟨Ao121, co121, eo121⟩ := Kd.RA_slice HO_12.out
          subst eo121
          go_wp2_with (first | ((with_reducible refine gate_callee (f := 26) rfl ?_); refine goesL_ (some 183) rfl rfl Tryd.func26 (by kernel_rfl) rfl #[.int .u8 (rd l0 x15_2)] rfl zM ?_; (with_reducible refine (iCW_.calls (rd l0 x15_2) false _ A116.out).mono ?_); rintro e w' ⟨rfl, ⟨nd, rfl⟩⟩; refine ⟨_, rfl, ?_⟩))
          go_ret2
          first | exact ⟨(0, Value.nilIface), zX, zB HB.out⟩ | exact ⟨⟨((0, Value.nilIface)).1, ((0, Value.nilIface)).2, zX⟩, zB HB.out⟩
        rw [if_neg c120] at H
        have c120b0 : (x13_2 == 0) = false := beq_eq_false_iff_ne.mpr c120
        have c120b1 : (x13_2 != 0) = true := bne_iff_ne.mpr c120
        as_aux_lemma =>
         simp only [Option.some.injEq, Prod.mk.injEq] at H
         obtain ⟨rfl, rfl⟩ := H
         have p469 : 0 ≤ (x15_2 : Int) := dT
         have q469 : x15_2 < (l0.length : Int) := dT
         obtain ⟨ad469, e469, hx469_0⟩ := Kd.at_int HR0.out x15_2 p469 q469
         cases e469
         replace hx469_0 := zH HB.out hx469_0
         replace p469 := eq_true p469
         replace q469 := eq_true q469
         obtain ⟨Ao122, co122, eo122⟩ := Kd.RA_slice HO_12.out
         subst eo122
         go_wp2_with (first | ((with_reducible refine gate_callee (f := 26) rfl ?_); refine goesL_ (some 183) rfl rfl Tryd.func26 (by kernel_rfl) rfl #[.int .u8 (rd l0 x15_2)] rfl zM ?_; (with_reducible refine (iCW_.calls (rd l0 x15_2) false _ A116.out).mono ?_); rintro e w' ⟨rfl, ⟨nd, rfl⟩⟩; refine ⟨_, rfl, ?_⟩))
         go_ret2
         first | exact ⟨evx9_3, zX, zB HB.out⟩ | exact ⟨⟨(evx9_3).1, (evx9_3).2, zX⟩, zB HB.out⟩
       rw [if_neg c119] at H
       have c119b0 : ((rd l0 x15_2) == x8_3) = false := beq_eq_false_iff_ne.mpr c119
       have c119b1 : ((rd l0 x15_2) != x8_3) = true := bne_iff_ne.mpr c119
       by_cases c123 : (rd l0 x15_2) = 34
       ·
        rw [if_pos c123] at H
        have c123b0 : ((rd l0 x15_2) == 34) = true := beq_iff_eq.mpr c123
        have c123b1 : ((rd l0 x15_2) != 34) = false := bne_eq_false_iff_eq.mpr c123
        clear c123
        obtain ⟨ji124, hji124⟩ : ∃ j_ : Int, (wrap64 (x15_2 + 1)) = j_ := ⟨_, rfl⟩
        replace H : (if 0 ≤ (ji124) then (if (ji124) ≤ (l0.length : Int) then ((sE_.f k2 (l0.drop ((ji124) : Int).toNat)).bind fun bt500 => (if bt500.1 = (-1) then (some (0, x9_3)) else (sCL_.l0 k2 l0 x8_3 x9_3 4 x12_2 x13_2 x14_2 (wrap64 ((wrap64 (x15_2 + bt500.1)) + 1))))) else (none)) else (none)) = some (r1, r2) := by first | (rw [hji124] at H; exact H) | (simp only [hji124] at H ⊢; exact H)
        (try rw [hji124] at A116)
        have hji124w : (IntKind.i64.wrap (x15_2 + 1)) = ji124 := (i64_w _).trans hji124
        by_cases c125 : 0 ≤ (ji124)
        ·
         rw [if_pos c125] at H
         have c125b0 := eq_true c125
         have c125b1 : decide (0 ≤ (ji124)) = true := decide_eq_true c125
         clear c125
         by_cases c126 : (ji124) ≤ (l0.length : Int)
         ·
          rw [if_pos c126] at H
          have c126b0 := eq_true c126
          have c126b1 : decide ((ji124) ≤ (l0.length : Int)) = true := decide_eq_true c126
          clear c126
          replace H := Option.bind_eq_some_iff.mp H
          obtain ⟨⟨t500, t501⟩, A1270, H⟩ := H
          try dsimp only at H
          have A127 := Aside0.mk A1270
          clear A1270
          by_cases c128 : t500 = (-1)
          ·
           rw [if_pos c128] at H
           have c128b0 : (t500 == (-1)) = true := beq_iff_eq.mpr c128
           have c128b1 : (t500 != (-1)) = false := bne_eq_false_iff_eq.mpr c128
           clear c128
           as_aux_lemma =>
            simp only [Option.some.injEq, Prod.mk.injEq] at H
            obtain ⟨rfl, rfl⟩ := H
            have p469 : 0 ≤ (x15_2 : Int) := dT
            have q469 : x15_2 < (l0.length : Int) := dT
            obtain ⟨ad469, e469, hx469_0⟩ := Kd.at_int HR0.out x15_2 p469 q469
            cases e469
            replace hx469_0 := zH HB.out hx469_0
            replace p469 := eq_true p469
            replace q469 := eq_true q469
            obtain ⟨Ao129, co129, eo129⟩ := Kd.RA_slice HO_12.out
            subst eo129
            go_wp2_with (first | ((with_reducible refine gate_callee (f := 26) rfl ?_); refine goesL_ (some 183) rfl rfl Tryd.func26 (by kernel_rfl) rfl #[.int .u8 (rd l0 x15_2)] rfl zM ?_; (with_reducible refine (iCW_.calls (rd l0 x15_2) false _ A116.out).mono ?_); rintro e w' ⟨rfl, ⟨nd, rfl⟩⟩; refine ⟨_, rfl, ?_⟩; obtain ⟨i0130, hi0130, _, hsz130, _⟩ := info_parts info5; obtain ⟨A130, hcut130, hA130, hC130⟩ := print_drop_of (P := Tryd.prog) (Value.int .u8) 0 47 5 .i64 Tryd.underlying47 hi0130 hsz130 (some ad469) c0 l0 (ji124) (dT) (dT) HC0.out; have HR499 := Aside0.mk (Kd.C_of_reads (h1 := fun _ => rfl) (hA130 _ (Kd.reads_of_C HR0.out))); have HC499 := Aside0.mk hC130; clear hA130 hC130 hi0130 hsz130) | ((with_reducible refine gate_callee (f := 25) rfl ?_); refine goesL_ (some 198) rfl rfl Tryd.func25 (by kernel_rfl) rfl #[.slice A130 (l0.drop ((ji124) : Int).toNat).length (c0 - (ji124).toNat)] rfl (by (try simp only [List.map_toArray, List.map_cons, List.map_nil]); first | done | (rw [show (l0.drop ((ji124) : Int).toNat).length = (l0.length - (ji124).toNat) from List.length_drop] <;> rfl) | (simp only [hji124]; rfl) | rfl | (simp only [List.length_drop, List.length_take]; rfl)) ?_; (with_reducible refine (sE_.calls k2 _ _ (l0.drop ((ji124) : Int).toNat) t500 t501 _ ?side1 ?side2 A127.out (HG.out.below (zB HB.out))).mono ?_); (case side1 => repeat (first | exact (Kd.C_below HR499.out (zB HB.out)) | (with_reducible refine Kd.C_alloc ?_ _) | (with_reducible refine Kd.C_drewN ?_ _) | (with_reducible refine Kd.C_drew ?_))); (case side2 => exact HC499.out); rintro e w131 ⟨rfl, hb⟩; refine ⟨_, rfl, ?_⟩; have n0_ := Aside0.mk (Kd.RA_below (zRA HO_12.out) hb); have n1_ := Aside0.mk (below_step (zB HB.out) hb); clear HO_12 HB; have HO_12 := n0_; have HB := n1_; clear n0_ n1_; clear hb))
            go_ret2
            first | exact ⟨evx9_3, by first | rfl | (simp [errX_none, errX_some] <;> rfl) | (simp only [← hji124]; first | rfl | (simp [errX_none, errX_some] <;> rfl)) | (simp [*, errX_none, errX_some] <;> rfl), zB HB.out⟩ | exact ⟨⟨(evx9_3).1, (evx9_3).2, by first | rfl | (simp [errX_none, errX_some] <;> rfl) | (simp only [← hji124]; first | rfl | (simp [errX_none, errX_some] <;> rfl)) | (simp [*, errX_none, errX_some] <;> rfl)⟩, zB HB.out⟩
          rw [if_neg c128] at H
          have c128b0 : (t500 == (-1)) = false := beq_eq_false_iff_ne.mpr c128
          have c128b1 : (t500 != (-1)) = true := bne_iff_ne.mpr c128
          as_aux_lemma =>
           have H' := Aside0.mk H
           clear H
           have p469 : 0 ≤ (x15_2 : Int) := dT
           have q469 : x15_2 < (l0.length : Int) := dT
           obtain ⟨ad469, e469, hx469_0⟩ := Kd.at_int HR0.out x15_2 p469 q469
           cases e469
           replace hx469_0 := zH HB.out hx469_0
           replace p469 := eq_true p469
           replace q469 := eq_true q469
           obtain ⟨Ao132, co132, eo132⟩ := Kd.RA_slice HO_12.out
           subst eo132
           go_wp2_with (first | ((with_reducible refine gate_callee (f := 26) rfl ?_); refine goesL_ (some 183) rfl rfl Tryd.func26 (by kernel_rfl) rfl #[.int .u8 (rd l0 x15_2)] rfl zM ?_; (with_reducible refine (iCW_.calls (rd l0 x15_2) false _ A116.out).mono ?_); rintro e w' ⟨rfl, ⟨nd, rfl⟩⟩; refine ⟨_, rfl, ?_⟩; obtain ⟨i0133, hi0133, _, hsz133, _⟩ := info_parts info5; obtain ⟨A133, hcut133, hA133, hC133⟩ := print_drop_of (P := Tryd.prog) (Value.int .u8) 0 47 5 .i64 Tryd.underlying47 hi0133 hsz133 (some ad469) c0 l0 (ji124) (dT) (dT) HC0.out; have HR499 := Aside0.mk (Kd.C_of_reads (h1 := fun _ => rfl) (hA133 _ (Kd.reads_of_C HR0.out))); have HC499 := Aside0.mk hC133; clear hA133 hC133 hi0133 hsz133) | ((with_reducible refine gate_callee (f := 25) rfl ?_); refine goesL_ (some 198) rfl rfl Tryd.func25 (by kernel_rfl) rfl #[.slice A133 (l0.drop ((ji124) : Int).toNat).length (c0 - (ji124).toNat)] rfl (by (try simp only [List.map_toArray, List.map_cons, List.map_nil]); first | done | (rw [show (l0.drop ((ji124) : Int).toNat).length = (l0.length - (ji124).toNat) from List.length_drop] <;> rfl) | (simp only [hji124]; rfl) | rfl | (simp only [List.length_drop, List.length_take]; rfl)) ?_; (with_reducible refine (sE_.calls k2 _ _ (l0.drop ((ji124) : Int).toNat) t500 t501 _ ?side1 ?side2 A127.out (HG.out.below (zB HB.out))).mono ?_); (case side1 => repeat (first | exact (Kd.C_below HR499.out (zB HB.out)) | (with_reducible refine Kd.C_alloc ?_ _) | (with_reducible refine Kd.C_drewN ?_ _) | (with_reducible refine Kd.C_drew ?_))); (case side2 => exact HC499.out); rintro e w134 ⟨rfl, hb⟩; refine ⟨_, rfl, ?_⟩; have n0_ := Aside0.mk (Kd.RA_below (zRA HO_12.out) hb); have n1_ := Aside0.mk (below_step (zB HB.out) hb); clear HO_12 HB; have HO_12 := n0_; have HB := n1_; clear n0_ n1_; clear hb))
           go_roundg k2
           case measure => have := HJ3.out; have := HK2.out; omega
           case rel => exact ⟨(4), (x12_2), (x13_2), (x14_2), (wrap64 ((wrap64 (x15_2 + t500)) + 1)), zE, zE, zE, zE, (by first | exact H' | (rw [hji124]; exact H') | (simp only [hji124]; exact H') | (simp only [hji124] at H' ⊢; exact H')), ⟨by have := HJ3.out; have := HK2.out; omega⟩, ⟨by (with_reducible repeat (first | apply Kd.RA_alloc | apply Kd.RA_drewN | apply Kd.RA_drew)); exact HO_12.out⟩, ⟨zB HB.out⟩⟩
         rw [if_neg c126] at H
         exact absurd H (by simp)
        rw [if_neg c125] at H
        exact absurd H (by simp)
       rw [if_neg c123] at H
       have c123b0 : ((rd l0 x15_2) == 34) = false := beq_eq_false_iff_ne.mpr c123
       have c123b1 : ((rd l0 x15_2) != 34) = true := bne_iff_ne.mpr c123
       as_aux_lemma =>
        simp only [Option.some.injEq, Prod.mk.injEq] at H
        obtain ⟨rfl, rfl⟩ := H
        have p469 : 0 ≤ (x15_2 : Int) := dT
        have q469 : x15_2 < (l0.length : Int) := dT
        obtain ⟨ad469, e469, hx469_0⟩ := Kd.at_int HR0.out x15_2 p469 q469
        cases e469
        replace hx469_0 := zH HB.out hx469_0
        replace p469 := eq_true p469
        replace q469 := eq_true q469
        obtain ⟨Ao135, co135, eo135⟩ := Kd.RA_slice HO_12.out
        subst eo135
        go_wp2_with (first | ((with_reducible refine gate_callee (f := 26) rfl ?_); refine goesL_ (some 183) rfl rfl Tryd.func26 (by kernel_rfl) rfl #[.int .u8 (rd l0 x15_2)] rfl zM ?_; (with_reducible refine (iCW_.calls (rd l0 x15_2) false _ A116.out).mono ?_); rintro e w' ⟨rfl, ⟨nd, rfl⟩⟩; refine ⟨_, rfl, ?_⟩))
        go_ret2
        first | exact ⟨evx9_3, zX, zB HB.out⟩ | exact ⟨⟨(evx9_3).1, (evx9_3).2, zX⟩, zB HB.out⟩
      rw [if_neg c115] at H
      have c115b0 : (x10_2 == 3) = false := beq_eq_false_iff_ne.mpr c115
      have c115b1 : (x10_2 != 3) = true := bne_iff_ne.mpr c115
      by_cases c136 : x10_2 = 4
      ·
       rw [if_pos c136] at H
       have c136b0 : (x10_2 == 4) = true := beq_iff_eq.mpr c136
       have c136b1 : (x10_2 != 4) = false := bne_eq_false_iff_eq.mpr c136
       clear c136
       replace H := Option.bind_eq_some_iff.mp H
       obtain ⟨t502, A1370, H⟩ := H
       try dsimp only at H
       have A137 := Aside0.mk A1370
       clear A1370
       by_cases c138 : t502 = true
       ·
        subst c138
        rw [if_pos rfl] at H
        as_aux_lemma =>
         have H' := Aside0.mk H
         clear H
         have p469 : 0 ≤ (x15_2 : Int) := dT
         have q469 : x15_2 < (l0.length : Int) := dT
         obtain ⟨ad469, e469, hx469_0⟩ := Kd.at_int HR0.out x15_2 p469 q469
         cases e469
         replace hx469_0 := zH HB.out hx469_0
         replace p469 := eq_true p469
         replace q469 := eq_true q469
         obtain ⟨Ao139, co139, eo139⟩ := Kd.RA_slice HO_12.out
         subst eo139
         go_wp2_with (first | ((with_reducible refine gate_callee (f := 26) rfl ?_); refine goesL_ (some 210) rfl rfl Tryd.func26 (by kernel_rfl) rfl #[.int .u8 (rd l0 x15_2)] rfl zM ?_; (with_reducible refine (iCW_.calls (rd l0 x15_2) true _ A137.out).mono ?_); rintro e w' ⟨rfl, ⟨nd, rfl⟩⟩; refine ⟨_, rfl, ?_⟩))
         go_roundg k2
         case measure => have := HJ3.out; have := HK2.out; omega
         case rel => exact ⟨(x10_2), (x12_2), (x13_2), (x14_2), (wrap64 (x15_2 + 1)), zE, zE, zE, zE, H', ⟨by have := HJ3.out; have := HK2.out; omega⟩, ⟨by (with_reducible repeat (first | apply Kd.RA_alloc | apply Kd.RA_drewN | apply Kd.RA_drew)); exact HO_12.out⟩, ⟨zB HB.out⟩⟩
       replace c138 := Bool.eq_false_iff.mpr c138
       subst c138
       rw [if_neg Bool.false_ne_true] at H
       by_cases c140 : (rd l0 x15_2) = 58
       ·
        rw [if_pos c140] at H
        have c140b0 : ((rd l0 x15_2) == 58) = true := beq_iff_eq.mpr c140
        have c140b1 : ((rd l0 x15_2) != 58) = false := bne_eq_false_iff_eq.mpr c140
        clear c140
        as_aux_lemma =>
         have H' := Aside0.mk H
         clear H
         have p469 : 0 ≤ (x15_2 : Int) := dT
         have q469 : x15_2 < (l0.length : Int) := dT
         obtain ⟨ad469, e469, hx469_0⟩ := Kd.at_int HR0.out x15_2 p469 q469
         cases e469
         replace hx469_0 := zH HB.out hx469_0
         replace p469 := eq_true p469
         replace q469 := eq_true q469
         obtain ⟨Ao141, co141, eo141⟩ := Kd.RA_slice HO_12.out
         subst eo141
         go_wp2_with (first | ((with_reducible refine gate_callee (f := 26) rfl ?_); refine goesL_ (some 210) rfl rfl Tryd.func26 (by kernel_rfl) rfl #[.int .u8 (rd l0 x15_2)] rfl zM ?_; (with_reducible refine (iCW_.calls (rd l0 x15_2) false _ A137.out).mono ?_); rintro e w' ⟨rfl, ⟨nd, rfl⟩⟩; refine ⟨_, rfl, ?_⟩))
         go_roundg k2
         case measure => have := HJ3.out; have := HK2.out; omega
         case rel => exact ⟨(5), (x12_2), (x13_2), (x14_2), (wrap64 (x15_2 + 1)), zE, zE, zE, zE, H', ⟨by have := HJ3.out; have := HK2.out; omega⟩, ⟨by (with_reducible repeat (first | apply Kd.RA_alloc | apply Kd.RA_drewN | apply Kd.RA_drew)); exact HO_12.out⟩, ⟨zB HB.out⟩⟩
       rw [if_neg c140] at H
       have c140b0 : ((rd l0 x15_2) == 58) = false := beq_eq_false_iff_ne.mpr c140
       have c140b1 : ((rd l0 x15_2) != 58) = true := bne_iff_ne.mpr c140
       as_aux_lemma =>
        simp only [Option.some.injEq, Prod.mk.injEq] at H
        obtain ⟨rfl, rfl⟩ := H
        have p469 : 0 ≤ (x15_2 : Int) := dT
        have q469 : x15_2 < (l0.length : Int) := dT
        obtain ⟨ad469, e469, hx469_0⟩ := Kd.at_int HR0.out x15_2 p469 q469
        cases e469
        replace hx469_0 := zH HB.out hx469_0
        replace p469 := eq_true p469
        replace q469 := eq_true q469
        obtain ⟨Ao142, co142, eo142⟩ := Kd.RA_slice HO_12.out
        subst eo142
        go_wp2_with (first | ((with_reducible refine gate_callee (f := 26) rfl ?_); refine goesL_ (some 210) rfl rfl Tryd.func26 (by kernel_rfl) rfl #[.int .u8 (rd l0 x15_2)] rfl zM ?_; (with_reducible refine (iCW_.calls (rd l0 x15_2) false _ A137.out).mono ?_); rintro e w' ⟨rfl, ⟨nd, rfl⟩⟩; refine ⟨_, rfl, ?_⟩))
        go_ret2
        first | exact ⟨evx9_3, zX, zB HB.out⟩ | exact ⟨⟨(evx9_3).1, (evx9_3).2, zX⟩, zB HB.out⟩
      rw [if_neg c136] at H
      have c136b0 : (x10_2 == 4) = false := beq_eq_false_iff_ne.mpr c136
      have c136b1 : (x10_2 != 4) = true := bne_iff_ne.mpr c136
      by_cases c143 : x10_2 = 5
      ·
       rw [if_pos c143] at H
       have c143b0 : (x10_2 == 5) = true := beq_iff_eq.mpr c143
       have c143b1 : (x10_2 != 5) = false := bne_eq_false_iff_eq.mpr c143
       clear c143
       replace H := Option.bind_eq_some_iff.mp H
       obtain ⟨t503, A1440, H⟩ := H
       try dsimp only at H
       have A144 := Aside0.mk A1440
       clear A1440
       by_cases c145 : t503 = true
       ·
        subst c145
        rw [if_pos rfl] at H
        as_aux_lemma =>
         have H' := Aside0.mk H
         clear H
         have p469 : 0 ≤ (x15_2 : Int) := dT
         have q469 : x15_2 < (l0.length : Int) := dT
         obtain ⟨ad469, e469, hx469_0⟩ := Kd.at_int HR0.out x15_2 p469 q469
         cases e469
         replace hx469_0 := zH HB.out hx469_0
         replace p469 := eq_true p469
         replace q469 := eq_true q469
         obtain ⟨Ao146, co146, eo146⟩ := Kd.RA_slice HO_12.out
         subst eo146
         go_wp2_with (first | ((with_reducible refine gate_callee (f := 26) rfl ?_); refine goesL_ (some 217) rfl rfl Tryd.func26 (by kernel_rfl) rfl #[.int .u8 (rd l0 x15_2)] rfl zM ?_; (with_reducible refine (iCW_.calls (rd l0 x15_2) true _ A144.out).mono ?_); rintro e w' ⟨rfl, ⟨nd, rfl⟩⟩; refine ⟨_, rfl, ?_⟩))
         go_roundg k2
         case measure => have := HJ3.out; have := HK2.out; omega
         case rel => exact ⟨(x10_2), (x12_2), (x13_2), (x14_2), (wrap64 (x15_2 + 1)), zE, zE, zE, zE, H', ⟨by have := HJ3.out; have := HK2.out; omega⟩, ⟨by (with_reducible repeat (first | apply Kd.RA_alloc | apply Kd.RA_drewN | apply Kd.RA_drew)); exact HO_12.out⟩, ⟨zB HB.out⟩⟩
       replace c145 := Bool.eq_false_iff.mpr c145
       subst c145
       rw [if_neg Bool.false_ne_true] at H
       have HC147 := Aside0.mk H
       clear H
       have p469 : 0 ≤ (x15_2 : Int) := dT
       have q469 : x15_2 < (l0.length : Int) := dT
       obtain ⟨ad469, e469, hx469_0⟩ := Kd.at_int HR0.out x15_2 p469 q469
       cases e469
       replace hx469_0 := zH HB.out hx469_0
       replace p469 := eq_true p469
       replace q469 := eq_true q469
       obtain ⟨Ao148, co148, eo148⟩ := Kd.RA_slice HO_12.out
       subst eo148
       go_upto_region 98 with (first | ((with_reducible refine gate_callee (f := 26) rfl ?_); refine goesL_ (some 217) rfl rfl Tryd.func26 (by kernel_rfl) rfl #[.int .u8 (rd l0 x15_2)] rfl zM ?_; (with_reducible refine (iCW_.calls (rd l0 x15_2) false _ A144.out).mono ?_); rintro e w' ⟨rfl, ⟨nd, rfl⟩⟩; refine ⟨_, rfl, ?_⟩))
       (try simp only [Act.put, List.setIfInBounds_toArray, List.set_cons_zero, List.set_cons_succ])
       go_cut [231] (fun v231 wc => ∃ (kq : Nat) (x231_146 : Bool), v231 = .bool x231_146 ∧ Aside0 (sCL_.j4 kq l0 x8_3 x9_3 x12_2 x13_2 x14_2 x15_2 (rd l0 x15_2) x231_146 = some (r1, r2)) ∧ Aside0 (kq ≤ k2) ∧ Aside0 (Kd.RA (Kd.int .u8) 5 wc w.heap.size (fun _ => True) (.slice Ao148 x12_2.length co148) x12_2) ∧ Aside0 (Below w.heap.size w wc))
       case first => as_aux_lemma =>
        have H := HC147.out
        clear HC147
        by_cases c149 : (rd l0 x15_2) = 44
        ·
         rw [if_pos c149] at H
         have c149b0 : ((rd l0 x15_2) == 44) = true := beq_iff_eq.mpr c149
         have c149b1 : ((rd l0 x15_2) != 44) = false := bne_eq_false_iff_eq.mpr c149
         clear c149
         (first | rw [c149b0] | (simp only [i64_w, i32_w]; rw [c149b0]) | rw [c149b1] | skip)
         as_aux_lemma =>
          have H' := Aside0.mk H
          clear H
          go_wp2
          go_meet
          case rel => exact ⟨_, (true), zE, H', ⟨by have := HJ3.out; have := HK2.out; first | omega | exact Nat.le_refl _⟩, ⟨by (with_reducible repeat (first | apply Kd.RA_alloc | apply Kd.RA_drewN | apply Kd.RA_drew)); exact HO_12.out⟩, ⟨zB HB.out⟩⟩
        rw [if_neg c149] at H
        have c149b0 : ((rd l0 x15_2) == 44) = false := beq_eq_false_iff_ne.mpr c149
        have c149b1 : ((rd l0 x15_2) != 44) = true := bne_iff_ne.mpr c149
        (first | rw [c149b0] | (simp only [i64_w, i32_w]; rw [c149b0]) | rw [c149b1] | skip)
        by_cases c150 : (rd l0 x15_2) = 125
        ·
         rw [if_pos c150] at H
         have c150b0 : ((rd l0 x15_2) == 125) = true := beq_iff_eq.mpr c150
         have c150b1 : ((rd l0 x15_2) != 125) = false := bne_eq_false_iff_eq.mpr c150
         clear c150
         as_aux_lemma =>
          have H' := Aside0.mk H
          clear H
          go_wp2
          go_meet
          case rel => exact ⟨_, (true), zE, H', ⟨by have := HJ3.out; have := HK2.out; first | omega | exact Nat.le_refl _⟩, ⟨by (with_reducible repeat (first | apply Kd.RA_alloc | apply Kd.RA_drewN | apply Kd.RA_drew)); exact HO_12.out⟩, ⟨zB HB.out⟩⟩
        rw [if_neg c150] at H
        have c150b0 : ((rd l0 x15_2) == 125) = false := beq_eq_false_iff_ne.mpr c150
        have c150b1 : ((rd l0 x15_2) != 125) = true := bne_iff_ne.mpr c150
        by_cases c151 : (rd l0 x15_2) = 93
        ·
         rw [if_pos c151] at H
         have c151b0 : ((rd l0 x15_2) == 93) = true := beq_iff_eq.mpr c151
         have c151b1 : ((rd l0 x15_2) != 93) = false := bne_eq_false_iff_eq.mpr c151
         clear c151
         as_aux_lemma =>
          have H' := Aside0.mk H
          clear H
          go_wp2
          go_meet
          case rel => exact ⟨_, (true), zE, H', ⟨by have := HJ3.out; have := HK2.out; first | omega | exact Nat.le_refl _⟩, ⟨by (with_reducible repeat (first | apply Kd.RA_alloc | apply Kd.RA_drewN | apply Kd.RA_drew)); exact HO_12.out⟩, ⟨zB HB.out⟩⟩
        rw [if_neg c151] at H
        have c151b0 : ((rd l0 x15_2) == 93) = false := beq_eq_false_iff_ne.mpr c151
        have c151b1 : ((rd l0 x15_2) != 93) = true := bne_iff_ne.mpr c151
        as_aux_lemma =>
         have H' := Aside0.mk H
         clear H
         go_wp2
         go_meet
         case rel => exact ⟨_, (((rd l0 x15_2) == 58)), zE, H', ⟨by have := HJ3.out; have := HK2.out; first | omega | exact Nat.le_refl _⟩, ⟨by (with_reducible repeat (first | apply Kd.RA_alloc | apply Kd.RA_drewN | apply Kd.RA_drew)); exact HO_12.out⟩, ⟨zB HB.out⟩⟩
       case rest => as_aux_lemma =>
        clear HC147
        (try clear c78); (try clear c78b0); (try clear c78b1); (try clear c106); (try clear c106b0); (try clear c106b1); (try clear c115); (try clear c115b0); (try clear c115b1); (try clear c136); (try clear c136b0); (try clear c136b1); (try clear c143b0); (try clear c143b1); (try clear c145); (try clear hx469_0); (try clear p469); (try clear q469)
        obtain ⟨kq, x231_146, rfl, HA, HJ146, HO_12, HB⟩ := hcut
        rcases kq with _ | kj146
        · exact absurd HA.out (by simp [sCL_.j4])
        have H := HA.out
        clear HA
        simp only [sCL_.j4] at H
        by_cases c152 : x231_146 = true
        ·
         subst c152
         rw [if_pos rfl] at H
         as_aux_lemma =>
          simp only [Option.some.injEq, Prod.mk.injEq] at H
          obtain ⟨rfl, rfl⟩ := H
          go_wp2
          go_ret2
          first | exact ⟨evx9_3, zX, zB HB.out⟩ | exact ⟨⟨(evx9_3).1, (evx9_3).2, zX⟩, zB HB.out⟩
        replace c152 := Bool.eq_false_iff.mpr c152
        subst c152
        rw [if_neg Bool.false_ne_true] at H
        by_cases c153 : (rd l0 x15_2) = 34
        ·
         rw [if_pos c153] at H
         have c153b0 : ((rd l0 x15_2) == 34) = true := beq_iff_eq.mpr c153
         have c153b1 : ((rd l0 x15_2) != 34) = false := bne_eq_false_iff_eq.mpr c153
         clear c153
         obtain ⟨ji154, hji154⟩ : ∃ j_ : Int, (wrap64 (x15_2 + 1)) = j_ := ⟨_, rfl⟩
         replace H : (if 0 ≤ (ji154) then (if (ji154) ≤ (l0.length : Int) then ((sE_.f kj146 (l0.drop ((ji154) : Int).toNat)).bind fun bt505 => (if bt505.1 = (-1) then (some (0, x9_3)) else (sCL_.l0 kj146 l0 x8_3 x9_3 7 x12_2 (wrap64 (x13_2 + 1)) x14_2 (wrap64 ((wrap64 (x15_2 + bt505.1)) + 1))))) else (none)) else (none)) = some (r1, r2) := by first | (rw [hji154] at H; exact H) | (simp only [hji154] at H ⊢; exact H)
         have hji154w : (IntKind.i64.wrap (x15_2 + 1)) = ji154 := (i64_w _).trans hji154
         by_cases c155 : 0 ≤ (ji154)
         ·
          rw [if_pos c155] at H
          have c155b0 := eq_true c155
          have c155b1 : decide (0 ≤ (ji154)) = true := decide_eq_true c155
          clear c155
          by_cases c156 : (ji154) ≤ (l0.length : Int)
          ·
           rw [if_pos c156] at H
           have c156b0 := eq_true c156
           have c156b1 : decide ((ji154) ≤ (l0.length : Int)) = true := decide_eq_true c156
           clear c156
           replace H := Option.bind_eq_some_iff.mp H
           obtain ⟨⟨t505, t506⟩, A1570, H⟩ := H
           try dsimp only at H
           have A157 := Aside0.mk A1570
           clear A1570
           by_cases c158 : t505 = (-1)
           ·
            rw [if_pos c158] at H
            have c158b0 : (t505 == (-1)) = true := beq_iff_eq.mpr c158
            have c158b1 : (t505 != (-1)) = false := bne_eq_false_iff_eq.mpr c158
            clear c158
            as_aux_lemma =>
             simp only [Option.some.injEq, Prod.mk.injEq] at H
             obtain ⟨rfl, rfl⟩ := H
             obtain ⟨i0159, hi0159, _, hsz159, _⟩ := info_parts info5
             obtain ⟨A159, hcut159, hA159, hC159⟩ := print_drop_of (P := Tryd.prog) (Value.int .u8) 0 47 5 .i64 Tryd.underlying47 hi0159 hsz159 (some ad469) c0 l0 (ji154) (dT) (dT) HC0.out
             have HR504 := Aside0.mk (Kd.C_of_reads (h1 := fun _ => rfl) (hA159 _ (Kd.reads_of_C HR0.out)))
             have HC504 := Aside0.mk hC159
             clear hA159 hC159 hi0159 hsz159
             go_wp2_with (first | ((with_reducible refine gate_callee (f := 25) rfl ?_); refine goesL_ (some 244) rfl rfl Tryd.func25 (by kernel_rfl) rfl #[.slice A159 (l0.drop ((ji154) : Int).toNat).length (c0 - (ji154).toNat)] rfl (by (try simp only [List.map_toArray, List.map_cons, List.map_nil]); first | done | (rw [show (l0.drop ((ji154) : Int).toNat).length = (l0.length - (ji154).toNat) from List.length_drop] <;> rfl) | (simp only [hji154]; rfl) | rfl | (simp only [List.length_drop, List.length_take]; rfl)) ?_; (with_reducible refine (sE_.calls kj146 _ _ (l0.drop ((ji154) : Int).toNat) t505 t506 _ ?side1 ?side2 A157.out (HG.out.below (zB HB.out))).mono ?_); (case side1 => repeat (first | exact (Kd.C_below HR504.out HB.out) | (with_reducible refine Kd.C_alloc ?_ _) | (with_reducible refine Kd.C_drewN ?_ _) | (with_reducible refine Kd.C_drew ?_))); (case side2 => exact HC504.out); rintro e w160 ⟨rfl, hb⟩; refine ⟨_, rfl, ?_⟩; have n0_ := Aside0.mk (Kd.RA_below (zRA HO_12.out) hb); have n1_ := Aside0.mk (below_step (zB HB.out) hb); clear HO_12 HB; have HO_12 := n0_; have HB := n1_; clear n0_ n1_; clear hb))
             go_ret2
             first | exact ⟨evx9_3, by first | rfl | (simp [errX_none, errX_some] <;> rfl) | (simp only [← hji154]; first | rfl | (simp [errX_none, errX_some] <;> rfl)) | (simp [*, errX_none, errX_some] <;> rfl), zB HB.out⟩ | exact ⟨⟨(evx9_3).1, (evx9_3).2, by first | rfl | (simp [errX_none, errX_some] <;> rfl) | (simp only [← hji154]; first | rfl | (simp [errX_none, errX_some] <;> rfl)) | (simp [*, errX_none, errX_some] <;> rfl)⟩, zB HB.out⟩
           rw [if_neg c158] at H
           have c158b0 : (t505 == (-1)) = false := beq_eq_false_iff_ne.mpr c158
           have c158b1 : (t505 != (-1)) = true := bne_iff_ne.mpr c158
           as_aux_lemma =>
            have H' := Aside0.mk H
            clear H
            obtain ⟨i0161, hi0161, _, hsz161, _⟩ := info_parts info5
            obtain ⟨A161, hcut161, hA161, hC161⟩ := print_drop_of (P := Tryd.prog) (Value.int .u8) 0 47 5 .i64 Tryd.underlying47 hi0161 hsz161 (some ad469) c0 l0 (ji154) (dT) (dT) HC0.out
            have HR504 := Aside0.mk (Kd.C_of_reads (h1 := fun _ => rfl) (hA161 _ (Kd.reads_of_C HR0.out)))
            have HC504 := Aside0.mk hC161
            clear hA161 hC161 hi0161 hsz161
            go_wp2_with (first | ((with_reducible refine gate_callee (f := 25) rfl ?_); refine goesL_ (some 244) rfl rfl Tryd.func25 (by kernel_rfl) rfl #[.slice A161 (l0.drop ((ji154) : Int).toNat).length (c0 - (ji154).toNat)] rfl (by (try simp only [List.map_toArray, List.map_cons, List.map_nil]); first | done | (rw [show (l0.drop ((ji154) : Int).toNat).length = (l0.length - (ji154).toNat) from List.length_drop] <;> rfl) | (simp only [hji154]; rfl) | rfl | (simp only [List.length_drop, List.length_take]; rfl)) ?_; (with_reducible refine (sE_.calls kj146 _ _ (l0.drop ((ji154) : Int).toNat) t505 t506 _ ?side1 ?side2 A157.out (HG.out.below (zB HB.out))).mono ?_); (case side1 => repeat (first | exact (Kd.C_below HR504.out HB.out) | (with_reducible refine Kd.C_alloc ?_ _) | (with_reducible refine Kd.C_drewN ?_ _) | (with_reducible refine Kd.C_drew ?_))); (case side2 => exact HC504.out); rintro e w162 ⟨rfl, hb⟩; refine ⟨_, rfl, ?_⟩; have n0_ := Aside0.mk (Kd.RA_below (zRA HO_12.out) hb); have n1_ := Aside0.mk (below_step (zB HB.out) hb); clear HO_12 HB; have HO_12 := n0_; have HB := n1_; clear n0_ n1_; clear hb))
            go_roundg kj146
            case measure => have := HJ3.out; have := HK2.out; have := HJ146.out; omega
            case rel => exact ⟨(7), (x12_2), (wrap64 (x13_2 + 1)), (x14_2), (wrap64 ((wrap64 (x15_2 + t505)) + 1)), zE, zE, zE, zE, (by first | exact H' | (rw [hji154]; exact H') | (simp only [hji154]; exact H') | (simp only [hji154] at H' ⊢; exact H')), ⟨by have := HJ3.out; have := HK2.out; have := HJ146.out; omega⟩, ⟨by (with_reducible repeat (first | apply Kd.RA_alloc | apply Kd.RA_drewN | apply Kd.RA_drew)); exact HO_12.out⟩, ⟨zB HB.out⟩⟩
          rw [if_neg c156] at H
          exact absurd H (by simp)
         rw [if_neg c155] at H
         exact absurd H (by simp)
        rw [if_neg c153] at H
        have c153b0 : ((rd l0 x15_2) == 34) = false := beq_eq_false_iff_ne.mpr c153
        have c153b1 : ((rd l0 x15_2) != 34) = true := bne_iff_ne.mpr c153
        by_cases c163 : (rd l0 x15_2) = 91
        ·
         rw [if_pos c163] at H
         have c163b0 : ((rd l0 x15_2) == 91) = true := beq_iff_eq.mpr c163
         have c163b1 : ((rd l0 x15_2) != 91) = false := bne_eq_false_iff_eq.mpr c163
         clear c163
         by_cases c164 : x12_2.length < 140737488355328
         ·
          rw [if_pos c164] at H
          have LMc164 := Aside0.mk c164
          clear c164
          obtain ⟨y507, hy507⟩ : ∃ y_ : List Int, y_ = (x12_2 ++ [93]) := ⟨_, rfl⟩
          replace H : (sCL_.l0 kj146 l0 x8_3 x9_3 7 y507 (wrap64 (x13_2 + 1)) x14_2 (wrap64 (x15_2 + 1))) = some (r1, r2) := by first | (rw [hy507]; with_reducible exact H) | (have H2_ := (Option.bind_some _ _).symm.trans H; rw [hy507]; with_reducible exact H2_) | (have H2_ := (Option.bind_some _ _).symm.trans H; with_reducible exact H2_) | with_reducible exact H | (rw [hy507]; exact H) | exact H
          have Ny507 := Aside0.mk hy507
          clear hy507
          as_aux_lemma =>
           have H' := Aside0.mk H
           clear H
           go_wp2_with (first | ((with_reducible refine gate_builtin (b := .append) (xs := #[.tmp 255, .tmp 256]) rfl ?_); at_builtin; refine Kd.RA_append (Kd.int .u8) (w0 := w) w.heap.size rfl (.tmp 255) (.tmp 256) 47 5 (.int .u8 0) 1 rfl Tryd.underlying47 info5 rfl (by decide) (by omega) (.slice Ao148 x12_2.length co148) x12_2 93 [.int .u8 93] (fun _ => True) (fun _ => False) rfl rfl ?aP (fun _ hk => hk.elim) ?aF ?aO ?aB ?aS ?aL ?_; (case aP => exact rfl); (case aB => exact (zB HB.out)); (case aF => exact (fun _ _ => trivial)); (case aO => exact (zRA HO_12.out)); (case aS => exact (below_size (zB HB.out))); (case aL => have := LMc164.out; omega); intro v508 w165 ho hb hg hat; rw [← Ny507.out] at ho; have n0_ := Aside0.mk (hb); have n1_ := Aside0.mk (ho); clear HB HO_12; have HB := n0_; have HO509 := n1_; clear n0_ n1_; clear ho hb hg hat))
           go_roundg kj146
           case measure => have := HJ3.out; have := HK2.out; have := HJ146.out; omega
           case rel => exact ⟨(7), (y507), (wrap64 (x13_2 + 1)), (x14_2), (wrap64 (x15_2 + 1)), zE, zE, zE, zE, H', ⟨by have := HJ3.out; have := HK2.out; have := HJ146.out; omega⟩, ⟨by (with_reducible repeat (first | apply Kd.RA_alloc | apply Kd.RA_drewN | apply Kd.RA_drew)); exact HO509.out⟩, ⟨zB HB.out⟩⟩
         rw [if_neg c164] at H
         exact absurd H (by simp)
        rw [if_neg c163] at H
        have c163b0 : ((rd l0 x15_2) == 91) = false := beq_eq_false_iff_ne.mpr c163
        have c163b1 : ((rd l0 x15_2) != 91) = true := bne_iff_ne.mpr c163
        by_cases c166 : (rd l0 x15_2) = 123
        ·
         rw [if_pos c166] at H
         have c166b0 : ((rd l0 x15_2) == 123) = true := beq_iff_eq.mpr c166
         have c166b1 : ((rd l0 x15_2) != 123) = false := bne_eq_false_iff_eq.mpr c166
         clear c166
         by_cases c167 : x12_2.length < 140737488355328
         ·
          rw [if_pos c167] at H
          have LMc167 := Aside0.mk c167
          clear c167
          obtain ⟨y510, hy510⟩ : ∃ y_ : List Int, y_ = (x12_2 ++ [125]) := ⟨_, rfl⟩
          replace H : (sCL_.l0 kj146 l0 x8_3 x9_3 7 y510 (wrap64 (x13_2 + 1)) x14_2 (wrap64 (x15_2 + 1))) = some (r1, r2) := by first | (rw [hy510]; with_reducible exact H) | (have H2_ := (Option.bind_some _ _).symm.trans H; rw [hy510]; with_reducible exact H2_) | (have H2_ := (Option.bind_some _ _).symm.trans H; with_reducible exact H2_) | with_reducible exact H | (rw [hy510]; exact H) | exact H
          have Ny510 := Aside0.mk hy510
          clear hy510
          as_aux_lemma =>
           have H' := Aside0.mk H
           clear H
           go_wp2_with (first | ((with_reducible refine gate_builtin (b := .append) (xs := #[.tmp 260, .tmp 261]) rfl ?_); at_builtin; refine Kd.RA_append (Kd.int .u8) (w0 := w) w.heap.size rfl (.tmp 260) (.tmp 261) 47 5 (.int .u8 0) 1 rfl Tryd.underlying47 info5 rfl (by decide) (by omega) (.slice Ao148 x12_2.length co148) x12_2 125 [.int .u8 125] (fun _ => True) (fun _ => False) rfl rfl ?aP (fun _ hk => hk.elim) ?aF ?aO ?aB ?aS ?aL ?_; (case aP => exact rfl); (case aB => exact (zB HB.out)); (case aF => exact (fun _ _ => trivial)); (case aO => exact (zRA HO_12.out)); (case aS => exact (below_size (zB HB.out))); (case aL => have := LMc167.out; omega); intro v511 w168 ho hb hg hat; rw [← Ny510.out] at ho; have n0_ := Aside0.mk (hb); have n1_ := Aside0.mk (ho); clear HB HO_12; have HB := n0_; have HO512 := n1_; clear n0_ n1_; clear ho hb hg hat))
           go_roundg kj146
           case measure => have := HJ3.out; have := HK2.out; have := HJ146.out; omega
           case rel => exact ⟨(7), (y510), (wrap64 (x13_2 + 1)), (x14_2), (wrap64 (x15_2 + 1)), zE, zE, zE, zE, H', ⟨by have := HJ3.out; have := HK2.out; have := HJ146.out; omega⟩, ⟨by (with_reducible repeat (first | apply Kd.RA_alloc | apply Kd.RA_drewN | apply Kd.RA_drew)); exact HO512.out⟩, ⟨zB HB.out⟩⟩
         rw [if_neg c167] at H
         exact absurd H (by simp)
        rw [if_neg c166] at H
        have c166b0 : ((rd l0 x15_2) == 123) = false := beq_eq_false_iff_ne.mpr c166
        have c166b1 : ((rd l0 x15_2) != 123) = true := bne_iff_ne.mpr c166
        as_aux_lemma =>
         have H' := Aside0.mk H
         clear H
         go_wp2
         go_roundg kj146
         case measure => have := HJ3.out; have := HK2.out; have := HJ146.out; omega
         case rel => exact ⟨(6), (x12_2), (wrap64 (x13_2 + 1)), (x15_2), (wrap64 (x15_2 + 1)), zE, zE, zE, zE, H', ⟨by have := HJ3.out; have := HK2.out; have := HJ146.out; omega⟩, ⟨by (with_reducible repeat (first | apply Kd.RA_alloc | apply Kd.RA_drewN | apply Kd.RA_drew)); exact HO_12.out⟩, ⟨zB HB.out⟩⟩
      rw [if_neg c143] at H
      have c143b0 : (x10_2 == 5) = false := beq_eq_false_iff_ne.mpr c143
      have c143b1 : (x10_2 != 5) = true := bne_iff_ne.mpr c143
      by_cases c169 : x10_2 = 6
      ·
       rw [if_pos c169] at H
       have c169b0 : (x10_2 == 6) = true := beq_iff_eq.mpr c169
       have c169b1 : (x10_2 != 6) = false := bne_eq_false_iff_eq.mpr c169
       clear c169
       by_cases c170 : (rd l0 x15_2) = 44
       ·
        rw [if_pos c170] at H
        have c170b0 : ((rd l0 x15_2) == 44) = true := beq_iff_eq.mpr c170
        have c170b1 : ((rd l0 x15_2) != 44) = false := bne_eq_false_iff_eq.mpr c170
        clear c170
        by_cases c171 : 0 ≤ x14_2
        ·
         rw [if_pos c171] at H
         have c171b0 := eq_true c171
         have c171b1 : decide (0 ≤ x14_2) = true := decide_eq_true c171
         clear c171
         by_cases c172 : x14_2 ≤ x15_2
         ·
          rw [if_pos c172] at H
          have c172b0 := eq_true c172
          have c172b1 : decide (x14_2 ≤ x15_2) = true := decide_eq_true c172
          clear c172
          by_cases c173 : x15_2 ≤ (l0.length : Int)
          ·
           rw [if_pos c173] at H
           have c173b0 := eq_true c173
           have c173b1 : decide (x15_2 ≤ (l0.length : Int)) = true := decide_eq_true c173
           clear c173
           replace H := Option.bind_eq_some_iff.mp H
           obtain ⟨t514, A1740, H⟩ := H
           try dsimp only at H
           have A174 := Aside0.mk A1740
           clear A1740
           by_cases c175 : t514 = true
           ·
            subst c175
            rw [if_pos rfl] at H
            as_aux_lemma =>
             have H' := Aside0.mk H
             clear H
             have p469 : 0 ≤ (x15_2 : Int) := dT
             have q469 : x15_2 < (l0.length : Int) := dT
             obtain ⟨ad469, e469, hx469_0⟩ := Kd.at_int HR0.out x15_2 p469 q469
             cases e469
             replace hx469_0 := zH HB.out hx469_0
             replace p469 := eq_true p469
             replace q469 := eq_true q469
             obtain ⟨Ao176, co176, eo176⟩ := Kd.RA_slice HO_12.out
             subst eo176
             obtain ⟨i0177, hi0177, _, hsz177, _⟩ := info_parts info5
             obtain ⟨A177, hcut177, hA177, hC177⟩ := print_mid_of (P := Tryd.prog) (Value.int .u8) 0 47 5 .i64 .i64 Tryd.underlying47 hi0177 hsz177 (some ad469) c0 l0 x14_2 x15_2 (dT) (by first | omega | exact dT) (dT) HC0.out
             have HR513 := Aside0.mk (Kd.C_of_reads (h1 := fun _ => rfl) (hA177 _ (Kd.reads_of_C HR0.out)))
             have HC513 := Aside0.mk hC177
             clear hA177 hC177 hi0177 hsz177
             go_wp2_with (first | ((with_reducible refine gate_callee (f := 27) rfl ?_); refine goesL_ (some 272) rfl rfl Tryd.func27 (by kernel_rfl) rfl #[.slice A177 ((l0.take (x15_2 : Int).toNat).drop (x14_2 : Int).toNat).length (c0 - x14_2.toNat)] rfl (by (try simp only [List.map_toArray, List.map_cons, List.map_nil]); first | done | (rw [show ((l0.take (x15_2 : Int).toNat).drop (x14_2 : Int).toNat).length = (x15_2.toNat - x14_2.toNat) from (by rw [List.length_drop, List.length_take]; have h_ : (x15_2 : Int) ≤ (l0.length : Int) := dT; omega)] <;> rfl) | rfl | (simp only [List.length_drop, List.length_take]; rfl)) ?_; (with_reducible refine (vCP_.calls k2 (fun k_ => k_ < w.heap.size) _ _ ((l0.take (x15_2 : Int).toNat).drop (x14_2 : Int).toNat) true _ ?side1 A174.out).mono ?_); (case side1 => exact Kd.V_mk HC513.out (Kd.F_below (Kd.C_F (Kd.heap_int .u8) HR513.out) (zB HB.out))); rintro e w178 ⟨rfl, hb⟩; refine ⟨_, rfl, ?_⟩; have n0_ := Aside0.mk (Kd.RA_below (zRA HO_12.out) hb); have n1_ := Aside0.mk (below_step (zB HB.out) hb); clear HO_12 HB; have HO_12 := n0_; have HB := n1_; clear n0_ n1_; clear hb))
             go_roundg k2
             case measure => have := HJ3.out; have := HK2.out; omega
             case rel => exact ⟨(3), (x12_2), (x13_2), (x14_2), (wrap64 (x15_2 + 1)), zE, zE, zE, zE, H', ⟨by have := HJ3.out; have := HK2.out; omega⟩, ⟨by (with_reducible repeat (first | apply Kd.RA_alloc | apply Kd.RA_drewN | apply Kd.RA_drew)); exact HO_12.out⟩, ⟨zB HB.out⟩⟩
           replace c175 := Bool.eq_false_iff.mpr c175
           subst c175
           rw [if_neg Bool.false_ne_true] at H
           as_aux_lemma =>
            simp only [Option.some.injEq, Prod.mk.injEq] at H
            obtain ⟨rfl, rfl⟩ := H
            have p469 : 0 ≤ (x15_2 : Int) := dT
            have q469 : x15_2 < (l0.length : Int) := dT
            obtain ⟨ad469, e469, hx469_0⟩ := Kd.at_int HR0.out x15_2 p469 q469
            cases e469
            replace hx469_0 := zH HB.out hx469_0
            replace p469 := eq_true p469
            replace q469 := eq_true q469
            obtain ⟨Ao179, co179, eo179⟩ := Kd.RA_slice HO_12.out
            subst eo179
            obtain ⟨i0180, hi0180, _, hsz180, _⟩ := info_parts info5
            obtain ⟨A180, hcut180, hA180, hC180⟩ := print_mid_of (P := Tryd.prog) (Value.int .u8) 0 47 5 .i64 .i64 Tryd.underlying47 hi0180 hsz180 (some ad469) c0 l0 x14_2 x15_2 (dT) (by first | omega | exact dT) (dT) HC0.out
            have HR513 := Aside0.mk (Kd.C_of_reads (h1 := fun _ => rfl) (hA180 _ (Kd.reads_of_C HR0.out)))
            have HC513 := Aside0.mk hC180
            clear hA180 hC180 hi0180 hsz180
            go_wp2_with (first | ((with_reducible refine gate_callee (f := 27) rfl ?_); refine goesL_ (some 272) rfl rfl Tryd.func27 (by kernel_rfl) rfl #[.slice A180 ((l0.take (x15_2 : Int).toNat).drop (x14_2 : Int).toNat).length (c0 - x14_2.toNat)] rfl (by (try simp only [List.map_toArray, List.map_cons, List.map_nil]); first | done | (rw [show ((l0.take (x15_2 : Int).toNat).drop (x14_2 : Int).toNat).length = (x15_2.toNat - x14_2.toNat) from (by rw [List.length_drop, List.length_take]; have h_ : (x15_2 : Int) ≤ (l0.length : Int) := dT; omega)] <;> rfl) | rfl | (simp only [List.length_drop, List.length_take]; rfl)) ?_; (with_reducible refine (vCP_.calls k2 (fun k_ => k_ < w.heap.size) _ _ ((l0.take (x15_2 : Int).toNat).drop (x14_2 : Int).toNat) false _ ?side1 A174.out).mono ?_); (case side1 => exact Kd.V_mk HC513.out (Kd.F_below (Kd.C_F (Kd.heap_int .u8) HR513.out) (zB HB.out))); rintro e w181 ⟨rfl, hb⟩; refine ⟨_, rfl, ?_⟩; have n0_ := Aside0.mk (Kd.RA_below (zRA HO_12.out) hb); have n1_ := Aside0.mk (below_step (zB HB.out) hb); clear HO_12 HB; have HO_12 := n0_; have HB := n1_; clear n0_ n1_; clear hb))
            go_ret2
            first | exact ⟨evx9_3, zX, zB HB.out⟩ | exact ⟨⟨(evx9_3).1, (evx9_3).2, zX⟩, zB HB.out⟩
          rw [if_neg c173] at H
          exact absurd H (by simp)
         rw [if_neg c172] at H
         exact absurd H (by simp)
        rw [if_neg c171] at H
        exact absurd H (by simp)
       rw [if_neg c170] at H
       have c170b0 : ((rd l0 x15_2) == 44) = false := beq_eq_false_iff_ne.mpr c170
       have c170b1 : ((rd l0 x15_2) != 44) = true := bne_iff_ne.mpr c170
       by_cases c182 : (rd l0 x15_2) = 125
       ·
        rw [if_pos c182] at H
        have c182b0 : ((rd l0 x15_2) == 125) = true := beq_iff_eq.mpr c182
        have c182b1 : ((rd l0 x15_2) != 125) = false := bne_eq_false_iff_eq.mpr c182
        clear c182
        by_cases c183 : 0 ≤ x14_2
        ·
         rw [if_pos c183] at H
         have c183b0 := eq_true c183
         have c183b1 : decide (0 ≤ x14_2) = true := decide_eq_true c183
         clear c183
         by_cases c184 : x14_2 ≤ x15_2
         ·
          rw [if_pos c184] at H
          have c184b0 := eq_true c184
          have c184b1 : decide (x14_2 ≤ x15_2) = true := decide_eq_true c184
          clear c184
          by_cases c185 : x15_2 ≤ (l0.length : Int)
          ·
           rw [if_pos c185] at H
           have c185b0 := eq_true c185
           have c185b1 : decide (x15_2 ≤ (l0.length : Int)) = true := decide_eq_true c185
           clear c185
           replace H := Option.bind_eq_some_iff.mp H
           obtain ⟨t516, A1860, H⟩ := H
           try dsimp only at H
           have A186 := Aside0.mk A1860
           clear A1860
           by_cases c187 : t516 = true
           ·
            subst c187
            rw [if_pos rfl] at H
            as_aux_lemma =>
             simp only [Option.some.injEq, Prod.mk.injEq] at H
             obtain ⟨rfl, rfl⟩ := H
             have p469 : 0 ≤ (x15_2 : Int) := dT
             have q469 : x15_2 < (l0.length : Int) := dT
             obtain ⟨ad469, e469, hx469_0⟩ := Kd.at_int HR0.out x15_2 p469 q469
             cases e469
             replace hx469_0 := zH HB.out hx469_0
             replace p469 := eq_true p469
             replace q469 := eq_true q469
             obtain ⟨Ao188, co188, eo188⟩ := Kd.RA_slice HO_12.out
             subst eo188
             obtain ⟨i0189, hi0189, _, hsz189, _⟩ := info_parts info5
             obtain ⟨A189, hcut189, hA189, hC189⟩ := print_mid_of (P := Tryd.prog) (Value.int .u8) 0 47 5 .i64 .i64 Tryd.underlying47 hi0189 hsz189 (some ad469) c0 l0 x14_2 x15_2 (dT) (by first | omega | exact dT) (dT) HC0.out
             have HR515 := Aside0.mk (Kd.C_of_reads (h1 := fun _ => rfl) (hA189 _ (Kd.reads_of_C HR0.out)))
             have HC515 := Aside0.mk hC189
             clear hA189 hC189 hi0189 hsz189
             go_wp2_with (first | ((with_reducible refine gate_callee (f := 27) rfl ?_); refine goesL_ (some 281) rfl rfl Tryd.func27 (by kernel_rfl) rfl #[.slice A189 ((l0.take (x15_2 : Int).toNat).drop (x14_2 : Int).toNat).length (c0 - x14_2.toNat)] rfl (by (try simp only [List.map_toArray, List.map_cons, List.map_nil]); first | done | (rw [show ((l0.take (x15_2 : Int).toNat).drop (x14_2 : Int).toNat).length = (x15_2.toNat - x14_2.toNat) from (by rw [List.length_drop, List.length_take]; have h_ : (x15_2 : Int) ≤ (l0.length : Int) := dT; omega)] <;> rfl) | rfl | (simp only [List.length_drop, List.length_take]; rfl)) ?_; (with_reducible refine (vCP_.calls k2 (fun k_ => k_ < w.heap.size) _ _ ((l0.take (x15_2 : Int).toNat).drop (x14_2 : Int).toNat) true _ ?side1 A186.out).mono ?_); (case side1 => exact Kd.V_mk HC515.out (Kd.F_below (Kd.C_F (Kd.heap_int .u8) HR515.out) (zB HB.out))); rintro e w190 ⟨rfl, hb⟩; refine ⟨_, rfl, ?_⟩; have n0_ := Aside0.mk (Kd.RA_below (zRA HO_12.out) hb); have n1_ := Aside0.mk (below_step (zB HB.out) hb); clear HO_12 HB; have HO_12 := n0_; have HB := n1_; clear n0_ n1_; clear hb))
             go_ret2
             first | exact ⟨(0, Value.nilIface), zX, zB HB.out⟩ | exact ⟨⟨((0, Value.nilIface)).1, ((0, Value.nilIface)).2, zX⟩, zB HB.out⟩
           replace c187 := Bool.eq_false_iff.mpr c187
           subst c187
           rw [if_neg Bool.false_ne_true] at H
           as_aux_lemma =>
            simp only [Option.some.injEq, Prod.mk.injEq] at H
            obtain ⟨rfl, rfl⟩ := H
            have p469 : 0 ≤ (x15_2 : Int) := dT
            have q469 : x15_2 < (l0.length : Int) := dT
            obtain ⟨ad469, e469, hx469_0⟩ := Kd.at_int HR0.out x15_2 p469 q469
            cases e469
            replace hx469_0 := zH HB.out hx469_0
            replace p469 := eq_true p469
            replace q469 := eq_true q469
            obtain ⟨Ao191, co191, eo191⟩ := Kd.RA_slice HO_12.out
            subst eo191
            obtain ⟨i0192, hi0192, _, hsz192, _⟩ := info_parts info5
            obtain ⟨A192, hcut192, hA192, hC192⟩ := print_mid_of (P := Tryd.prog) (Value.int .u8) 0 47 5 .i64 .i64 Tryd.underlying47 hi0192 hsz192 (some ad469) c0 l0 x14_2 x15_2 (dT) (by first | omega | exact dT) (dT) HC0.out
            have HR515 := Aside0.mk (Kd.C_of_reads (h1 := fun _ => rfl) (hA192 _ (Kd.reads_of_C HR0.out)))
            have HC515 := Aside0.mk hC192
            clear hA192 hC192 hi0192 hsz192
            go_wp2_with (first | ((with_reducible refine gate_callee (f := 27) rfl ?_); refine goesL_ (some 281) rfl rfl Tryd.func27 (by kernel_rfl) rfl #[.slice A192 ((l0.take (x15_2 : Int).toNat).drop (x14_2 : Int).toNat).length (c0 - x14_2.toNat)] rfl (by (try simp only [List.map_toArray, List.map_cons, List.map_nil]); first | done | (rw [show ((l0.take (x15_2 : Int).toNat).drop (x14_2 : Int).toNat).length = (x15_2.toNat - x14_2.toNat) from (by rw [List.length_drop, List.length_take]; have h_ : (x15_2 : Int) ≤ (l0.length : Int) := dT; omega)] <;> rfl) | rfl | (simp only [List.length_drop, List.length_take]; rfl)) ?_; (with_reducible refine (vCP_.calls k2 (fun k_ => k_ < w.heap.size) _ _ ((l0.take (x15_2 : Int).toNat).drop (x14_2 : Int).toNat) false _ ?side1 A186.out).mono ?_); (case side1 => exact Kd.V_mk HC515.out (Kd.F_below (Kd.C_F (Kd.heap_int .u8) HR515.out) (zB HB.out))); rintro e w193 ⟨rfl, hb⟩; refine ⟨_, rfl, ?_⟩; have n0_ := Aside0.mk (Kd.RA_below (zRA HO_12.out) hb); have n1_ := Aside0.mk (below_step (zB HB.out) hb); clear HO_12 HB; have HO_12 := n0_; have HB := n1_; clear n0_ n1_; clear hb))
            go_ret2
            first | exact ⟨evx9_3, zX, zB HB.out⟩ | exact ⟨⟨(evx9_3).1, (evx9_3).2, zX⟩, zB HB.out⟩
          rw [if_neg c185] at H
          exact absurd H (by simp)
         rw [if_neg c184] at H
         exact absurd H (by simp)
        rw [if_neg c183] at H
        exact absurd H (by simp)
       rw [if_neg c182] at H
       have c182b0 : ((rd l0 x15_2) == 125) = false := beq_eq_false_iff_ne.mpr c182
       have c182b1 : ((rd l0 x15_2) != 125) = true := bne_iff_ne.mpr c182
       by_cases c194 : (rd l0 x15_2) = 93
       ·
        rw [if_pos c194] at H
        have c194b0 : ((rd l0 x15_2) == 93) = true := beq_iff_eq.mpr c194
        have c194b1 : ((rd l0 x15_2) != 93) = false := bne_eq_false_iff_eq.mpr c194
        clear c194
        as_aux_lemma =>
         simp only [Option.some.injEq, Prod.mk.injEq] at H
         obtain ⟨rfl, rfl⟩ := H
         have p469 : 0 ≤ (x15_2 : Int) := dT
         have q469 : x15_2 < (l0.length : Int) := dT
         obtain ⟨ad469, e469, hx469_0⟩ := Kd.at_int HR0.out x15_2 p469 q469
         cases e469
         replace hx469_0 := zH HB.out hx469_0
         replace p469 := eq_true p469
         replace q469 := eq_true q469
         obtain ⟨Ao195, co195, eo195⟩ := Kd.RA_slice HO_12.out
         subst eo195
         go_wp2
         go_ret2
         first | exact ⟨evx9_3, zX, zB HB.out⟩ | exact ⟨⟨(evx9_3).1, (evx9_3).2, zX⟩, zB HB.out⟩
       rw [if_neg c194] at H
       have c194b0 : ((rd l0 x15_2) == 93) = false := beq_eq_false_iff_ne.mpr c194
       have c194b1 : ((rd l0 x15_2) != 93) = true := bne_iff_ne.mpr c194
       as_aux_lemma =>
        have H' := Aside0.mk H
        clear H
        have p469 : 0 ≤ (x15_2 : Int) := dT
        have q469 : x15_2 < (l0.length : Int) := dT
        obtain ⟨ad469, e469, hx469_0⟩ := Kd.at_int HR0.out x15_2 p469 q469
        cases e469
        replace hx469_0 := zH HB.out hx469_0
        replace p469 := eq_true p469
        replace q469 := eq_true q469
        obtain ⟨Ao196, co196, eo196⟩ := Kd.RA_slice HO_12.out
        subst eo196
        go_wp2
        go_roundg k2
        case measure => have := HJ3.out; have := HK2.out; omega
        case rel => exact ⟨(x10_2), (x12_2), (x13_2), (x14_2), (wrap64 (x15_2 + 1)), zE, zE, zE, zE, H', ⟨by have := HJ3.out; have := HK2.out; omega⟩, ⟨by (with_reducible repeat (first | apply Kd.RA_alloc | apply Kd.RA_drewN | apply Kd.RA_drew)); exact HO_12.out⟩, ⟨zB HB.out⟩⟩
      rw [if_neg c169] at H
      have c169b0 : (x10_2 == 6) = false := beq_eq_false_iff_ne.mpr c169
      have c169b1 : (x10_2 != 6) = true := bne_iff_ne.mpr c169
      by_cases c197 : x10_2 = 7
      ·
       rw [if_pos c197] at H
       have c197b0 : (x10_2 == 7) = true := beq_iff_eq.mpr c197
       have c197b1 : (x10_2 != 7) = false := bne_eq_false_iff_eq.mpr c197
       clear c197
       replace H := Option.bind_eq_some_iff.mp H
       obtain ⟨t517, A1980, H⟩ := H
       try dsimp only at H
       have A198 := Aside0.mk A1980
       clear A1980
       by_cases c199 : t517 = true
       ·
        subst c199
        rw [if_pos rfl] at H
        as_aux_lemma =>
         have H' := Aside0.mk H
         clear H
         have p469 : 0 ≤ (x15_2 : Int) := dT
         have q469 : x15_2 < (l0.length : Int) := dT
         obtain ⟨ad469, e469, hx469_0⟩ := Kd.at_int HR0.out x15_2 p469 q469
         cases e469
         replace hx469_0 := zH HB.out hx469_0
         replace p469 := eq_true p469
         replace q469 := eq_true q469
         obtain ⟨Ao200, co200, eo200⟩ := Kd.RA_slice HO_12.out
         subst eo200
         go_wp2_with (first | ((with_reducible refine gate_callee (f := 26) rfl ?_); refine goesL_ (some 291) rfl rfl Tryd.func26 (by kernel_rfl) rfl #[.int .u8 (rd l0 x15_2)] rfl zM ?_; (with_reducible refine (iCW_.calls (rd l0 x15_2) true _ A198.out).mono ?_); rintro e w' ⟨rfl, ⟨nd, rfl⟩⟩; refine ⟨_, rfl, ?_⟩))
         go_roundg k2
         case measure => have := HJ3.out; have := HK2.out; omega
         case rel => exact ⟨(x10_2), (x12_2), (x13_2), (x14_2), (wrap64 (x15_2 + 1)), zE, zE, zE, zE, H', ⟨by have := HJ3.out; have := HK2.out; omega⟩, ⟨by (with_reducible repeat (first | apply Kd.RA_alloc | apply Kd.RA_drewN | apply Kd.RA_drew)); exact HO_12.out⟩, ⟨zB HB.out⟩⟩
       replace c199 := Bool.eq_false_iff.mpr c199
       subst c199
       rw [if_neg Bool.false_ne_true] at H
       by_cases c201 : (rd l0 x15_2) = 44
       ·
        rw [if_pos c201] at H
        have c201b0 : ((rd l0 x15_2) == 44) = true := beq_iff_eq.mpr c201
        have c201b1 : ((rd l0 x15_2) != 44) = false := bne_eq_false_iff_eq.mpr c201
        clear c201
        as_aux_lemma =>
         have H' := Aside0.mk H
         clear H
         have p469 : 0 ≤ (x15_2 : Int) := dT
         have q469 : x15_2 < (l0.length : Int) := dT
         obtain ⟨ad469, e469, hx469_0⟩ := Kd.at_int HR0.out x15_2 p469 q469
         cases e469
         replace hx469_0 := zH HB.out hx469_0
         replace p469 := eq_true p469
         replace q469 := eq_true q469
         obtain ⟨Ao202, co202, eo202⟩ := Kd.RA_slice HO_12.out
         subst eo202
         go_wp2_with (first | ((with_reducible refine gate_callee (f := 26) rfl ?_); refine goesL_ (some 291) rfl rfl Tryd.func26 (by kernel_rfl) rfl #[.int .u8 (rd l0 x15_2)] rfl zM ?_; (with_reducible refine (iCW_.calls (rd l0 x15_2) false _ A198.out).mono ?_); rintro e w' ⟨rfl, ⟨nd, rfl⟩⟩; refine ⟨_, rfl, ?_⟩))
         go_roundg k2
         case measure => have := HJ3.out; have := HK2.out; omega
         case rel => exact ⟨(3), (x12_2), (x13_2), (x14_2), (wrap64 (x15_2 + 1)), zE, zE, zE, zE, H', ⟨by have := HJ3.out; have := HK2.out; omega⟩, ⟨by (with_reducible repeat (first | apply Kd.RA_alloc | apply Kd.RA_drewN | apply Kd.RA_drew)); exact HO_12.out⟩, ⟨zB HB.out⟩⟩
       rw [if_neg c201] at H
       have c201b0 : ((rd l0 x15_2) == 44) = false := beq_eq_false_iff_ne.mpr c201
       have c201b1 : ((rd l0 x15_2) != 44) = true := bne_iff_ne.mpr c201
       by_cases c203 : (rd l0 x15_2) = 125
       ·
        rw [if_pos c203] at H
        have c203b0 : ((rd l0 x15_2) == 125) = true := beq_iff_eq.mpr c203
        have c203b1 : ((rd l0 x15_2) != 125) = false := bne_eq_false_iff_eq.mpr c203
        clear c203
        as_aux_lemma =>
         simp only [Option.some.injEq, Prod.mk.injEq] at H
         obtain ⟨rfl, rfl⟩ := H
         have p469 : 0 ≤ (x15_2 : Int) := dT
         have q469 : x15_2 < (l0.length : Int) := dT
         obtain ⟨ad469, e469, hx469_0⟩ := Kd.at_int HR0.out x15_2 p469 q469
         cases e469
         replace hx469_0 := zH HB.out hx469_0
         replace p469 := eq_true p469
         replace q469 := eq_true q469
         obtain ⟨Ao204, co204, eo204⟩ := Kd.RA_slice HO_12.out
         subst eo204
         go_wp2_with (first | ((with_reducible refine gate_callee (f := 26) rfl ?_); refine goesL_ (some 291) rfl rfl Tryd.func26 (by kernel_rfl) rfl #[.int .u8 (rd l0 x15_2)] rfl zM ?_; (with_reducible refine (iCW_.calls (rd l0 x15_2) false _ A198.out).mono ?_); rintro e w' ⟨rfl, ⟨nd, rfl⟩⟩; refine ⟨_, rfl, ?_⟩))
         go_ret2
         first | exact ⟨(0, Value.nilIface), zX, zB HB.out⟩ | exact ⟨⟨((0, Value.nilIface)).1, ((0, Value.nilIface)).2, zX⟩, zB HB.out⟩
       rw [if_neg c203] at H
       have c203b0 : ((rd l0 x15_2) == 125) = false := beq_eq_false_iff_ne.mpr c203
       have c203b1 : ((rd l0 x15_2) != 125) = true := bne_iff_ne.mpr c203
       as_aux_lemma =>
        simp only [Option.some.injEq, Prod.mk.injEq] at H
        obtain ⟨rfl, rfl⟩ := H
        have p469 : 0 ≤ (x15_2 : Int) := dT
        have q469 : x15_2 < (l0.length : Int) := dT
        obtain ⟨ad469, e469, hx469_0⟩ := Kd.at_int HR0.out x15_2 p469 q469
        cases e469
        replace hx469_0 := zH HB.out hx469_0
        replace p469 := eq_true p469
        replace q469 := eq_true q469
        obtain ⟨Ao205, co205, eo205⟩ := Kd.RA_slice HO_12.out
        subst eo205
        go_wp2_with (first | ((with_reducible refine gate_callee (f := 26) rfl ?_); refine goesL_ (some 291) rfl rfl Tryd.func26 (by kernel_rfl) rfl #[.int .u8 (rd l0 x15_2)] rfl zM ?_; (with_reducible refine (iCW_.calls (rd l0 x15_2) false _ A198.out).mono ?_); rintro e w' ⟨rfl, ⟨nd, rfl⟩⟩; refine ⟨_, rfl, ?_⟩))
        go_ret2
        first | exact ⟨evx9_3, zX, zB HB.out⟩ | exact ⟨⟨(evx9_3).1, (evx9_3).2, zX⟩, zB HB.out⟩
      rw [if_neg c197] at H
      have c197b0 : (x10_2 == 7) = false := beq_eq_false_iff_ne.mpr c197
      have c197b1 : (x10_2 != 7) = true := bne_iff_ne.mpr c197
      as_aux_lemma =>
       have H' := Aside0.mk H
       clear H
       have p469 : 0 ≤ (x15_2 : Int) := dT
       have q469 : x15_2 < (l0.length : Int) := dT
       obtain ⟨ad469, e469, hx469_0⟩ := Kd.at_int HR0.out x15_2 p469 q469
       cases e469
       replace hx469_0 := zH HB.out hx469_0
       replace p469 := eq_true p469
       replace q469 := eq_true q469
       obtain ⟨Ao206, co206, eo206⟩ := Kd.RA_slice HO_12.out
       subst eo206
       go_wp2
       go_roundg k2
       case measure => have := HJ3.out; have := HK2.out; omega
       case rel => exact ⟨(x10_2), (x12_2), (x13_2), (x14_2), (wrap64 (x15_2 + 1)), zE, zE, zE, zE, H', ⟨by have := HJ3.out; have := HK2.out; omega⟩, ⟨by (with_reducible repeat (first | apply Kd.RA_alloc | apply Kd.RA_drewN | apply Kd.RA_drew)); exact HO_12.out⟩, ⟨zB HB.out⟩⟩
     rw [if_neg c17] at H
     exact absurd H (by simp)
    rw [if_neg c16] at H
    have c16b0 : decide (x15_2 < (l0.length : Int)) = false := decide_eq_false c16
    clear c16
    as_aux_lemma =>
     simp only [Option.some.injEq, Prod.mk.injEq] at H
     obtain ⟨rfl, rfl⟩ := H
     go_wp2
     go_ret2
     first | exact ⟨evx9_3, zX, zB HB.out⟩ | exact ⟨⟨(evx9_3).1, (evx9_3).2, zX⟩, zB HB.out⟩
  rw [if_neg c8] at H
  exact absurd H (by simp)
end Go.Proofs.YtmneeighbkcadaaDoor.PFnJpLength