/- what the Go functions that the law FnJpLength reaches compute, each as a plain function, with the proof that the Go code computes just that; no condition beside those that each theorem states. -/
import Derived.Test.YtmneeighbkcadaaDoorPFnJpLengthx0
namespace Go.Proofs.YtmneeighbkcadaaDoor.PFnJpLength
open Go.RowKit Go.Proofs.YtmneeighbkcadaaDoorW.PrintWords Go.Proofs.YtmneeighbkcadaaDoorW.PrintLast Go.Proofs.YtmneeighbkcadaaDoorW.PrintMore
set_option linter.unusedVariables false
set_option linter.unusedSimpArgs false
mutual
def vJSONN_.j0 : Nat → List Int → Int → Option (Bool)
  | 0, _, _ => none
  | k + 1, x0, x3 => if 0 ≤ x3 then (if x3 < (x0.length : Int) then (if (rd x0 x3) = 48 then (if (wrap64 (x3 + 1)) < (x0.length : Int) then (if 0 ≤ (wrap64 (x3 + 1)) then (if (rd x0 (wrap64 (x3 + 1))) ≥ 48 then (if (rd x0 (wrap64 (x3 + 1))) ≤ 57 then (some false) else (vJSONN_.j3 k x0 (wrap64 (x3 + 1)))) else (vJSONN_.j3 k x0 (wrap64 (x3 + 1)))) else (none)) else (vJSONN_.j3 k x0 (wrap64 (x3 + 1)))) else (if (rd x0 x3) < 49 then (vJSONN_.j1 k x0 x3 true) else (vJSONN_.j1 k x0 x3 (decide ((rd x0 x3) > 57))))) else (none)) else (none)
def vJSONN_.j3 : Nat → List Int → Int → Option (Bool)
  | 0, _, _ => none
  | k + 1, x0, x3 => if x3 < (x0.length : Int) then (if 0 ≤ x3 then (vJSONN_.j4 k x0 x3 ((rd x0 x3) == 46)) else (none)) else (vJSONN_.j4 k x0 x3 false)
def vJSONN_.j4 : Nat → List Int → Int → Bool → Option (Bool)
  | 0, _, _, _ => none
  | k + 1, x0, x3, x84 => if x84 = true then (vJSONN_.l1 k x0 (wrap64 (x3 + 1)) (wrap64 (x3 + 1))) else (vJSONN_.j6 k x0 x3)
def vJSONN_.j6 : Nat → List Int → Int → Option (Bool)
  | 0, _, _ => none
  | k + 1, x0, x3 => if x3 < (x0.length : Int) then (if 0 ≤ x3 then (if (rd x0 x3) = 101 then (vJSONN_.j7 k x0 x3 true) else (vJSONN_.j7 k x0 x3 ((rd x0 x3) == 69))) else (none)) else (vJSONN_.j7 k x0 x3 false)
def vJSONN_.j7 : Nat → List Int → Int → Bool → Option (Bool)
  | 0, _, _, _ => none
  | k + 1, x0, x3, x128 => if x128 = true then (if (wrap64 (x3 + 1)) < (x0.length : Int) then (if 0 ≤ (wrap64 (x3 + 1)) then (if (rd x0 (wrap64 (x3 + 1))) = 43 then (vJSONN_.j8 k x0 (wrap64 (x3 + 1)) true) else (vJSONN_.j8 k x0 (wrap64 (x3 + 1)) ((rd x0 (wrap64 (x3 + 1))) == 45))) else (none)) else (vJSONN_.j8 k x0 (wrap64 (x3 + 1)) false)) else (some (x3 == (x0.length : Int)))
def vJSONN_.j8 : Nat → List Int → Int → Bool → Option (Bool)
  | 0, _, _, _ => none
  | k + 1, x0, x3, x148 => if x148 = true then (vJSONN_.j9 k x0 (wrap64 (x3 + 1))) else (vJSONN_.j9 k x0 x3)
def vJSONN_.j9 : Nat → List Int → Int → Option (Bool)
  | 0, _, _ => none
  | k + 1, x0, x3 => vJSONN_.l2 k x0 x3 x3
def vJSONN_.l2 : Nat → List Int → Int → Int → Option (Bool)
  | 0, _, _, _ => none
  | k + 1, x0, x3, x5 => if x3 < (x0.length : Int) then (if 0 ≤ x3 then (if (rd x0 x3) ≥ 48 then (if (rd x0 x3) ≤ 57 then (vJSONN_.l2 k x0 (wrap64 (x3 + 1)) x5) else (if x3 = x5 then (some false) else (some (x3 == (x0.length : Int))))) else (if x3 = x5 then (some false) else (some (x3 == (x0.length : Int))))) else (none)) else (if x3 = x5 then (some false) else (some (x3 == (x0.length : Int))))
def vJSONN_.l1 : Nat → List Int → Int → Int → Option (Bool)
  | 0, _, _, _ => none
  | k + 1, x0, x3, x4 => if x3 < (x0.length : Int) then (if 0 ≤ x3 then (if (rd x0 x3) ≥ 48 then (if (rd x0 x3) ≤ 57 then (vJSONN_.l1 k x0 (wrap64 (x3 + 1)) x4) else (if x3 = x4 then (some false) else (vJSONN_.j6 k x0 x3))) else (if x3 = x4 then (some false) else (vJSONN_.j6 k x0 x3))) else (none)) else (if x3 = x4 then (some false) else (vJSONN_.j6 k x0 x3))
def vJSONN_.j1 : Nat → List Int → Int → Bool → Option (Bool)
  | 0, _, _, _ => none
  | k + 1, x0, x3, x53 => if x53 = true then (some false) else (vJSONN_.l0 k x0 x3)
def vJSONN_.l0 : Nat → List Int → Int → Option (Bool)
  | 0, _, _ => none
  | k + 1, x0, x3 => if x3 < (x0.length : Int) then (if 0 ≤ x3 then (if (rd x0 x3) ≥ 48 then (if (rd x0 x3) ≤ 57 then (vJSONN_.l0 k x0 (wrap64 (x3 + 1))) else (vJSONN_.j3 k x0 x3)) else (vJSONN_.j3 k x0 x3)) else (none)) else (vJSONN_.j3 k x0 x3)
end
def vJSONN_.f (k : Nat) (l0 : List Int) : Option (Bool) := if 0 < (l0.length : Int) then (if (rd l0 0) = 45 then (if 1 = (l0.length : Int) then (some false) else (vJSONN_.j0 k l0 1)) else (vJSONN_.j0 k l0 0)) else (none)
set_option maxHeartbeats 8000000 in
set_option maxRecDepth 100000 in
theorem vJSONN_.calls (k : Nat) (A0 : Option Addr) (c0 : Nat) (l0 : List Int) (r : Bool) (w : World) (hr0 : Kd.C (Kd.int .u8) w A0 l0.length l0) (hc0 : l0.length ≤ c0) (h : vJSONN_.f k l0 = some r) :
    Calls Tryd.prog 37 #[.slice A0 l0.length c0] w fun e w' => e = .returned (.bool r) ∧ Drawn0 w w' := by
 have HR0 := Aside0.mk hr0
 have HC0 := Aside0.mk hc0
 clear hr0 hc0
 have H : (if 0 < (l0.length : Int) then (if (rd l0 0) = 45 then (if 1 = (l0.length : Int) then (some false) else (vJSONN_.j0 k l0 1)) else (vJSONN_.j0 k l0 0)) else (none)) = some r := h
 clear h
 by_cases c2 : 0 < (l0.length : Int)
 ·
  rw [if_pos c2] at H
  have c2b0 : decide (0 < (l0.length : Int)) = true := decide_eq_true c2
  have c2b1 : decide (0 < l0.length) = true := decide_eq_true (by omega)
  clear c2
  have HC3 := Aside0.mk H
  clear H
  have p437 : 0 ≤ (0 : Int) := (by omega)
  have q437 : 0 < (l0.length : Int) := dT
  obtain ⟨ad437, e437, hx437_0⟩ := Kd.at_int HR0.out 0 p437 q437
  cases e437
  have qi437 : (0 < l0.length) = True := eq_true (by omega)
  (try rw [show ((0 : Int)).toNat = 0 from rfl] at hx437_0)
  (try rw [Addr.add_zero'] at hx437_0)
  replace p437 := eq_true p437
  replace q437 := eq_true q437
  go_enter Tryd.func37, Tryd.ntmps37
  go_upto_if 10 with (fail)
  go_cut [3] (fun v3 wc => ∃ (kq : Nat) (x3_2 : Int), v3 = .int .i64 x3_2 ∧ Aside0 (vJSONN_.j0 kq l0 x3_2 = some r) ∧ Aside0 (kq ≤ k) ∧ Drawn0 w wc)
  case first => as_aux_lemma =>
   have H := HC3.out
   clear HC3
   by_cases c4 : (rd l0 0) = 45
   ·
    rw [if_pos c4] at H
    have c4b0 : ((rd l0 0) == 45) = true := beq_iff_eq.mpr c4
    have c4b1 : ((rd l0 0) != 45) = false := bne_eq_false_iff_eq.mpr c4
    clear c4
    (first | rw [c4b0] | (simp only [i64_w, i32_w]; rw [c4b0]) | rw [c4b1] | skip)
    by_cases c5 : 1 = (l0.length : Int)
    ·
     rw [if_pos c5] at H
     have c5b0 : (1 == (l0.length : Int)) = true := beq_iff_eq.mpr c5
     have c5b1 : (1 != (l0.length : Int)) = false := bne_eq_false_iff_eq.mpr c5
     clear c5
     as_aux_lemma =>
      obtain rfl := Option.some.inj H
      go_wp2
      go_ret
      exact ⟨by first | rfl | (simp; done) | (simp [nil_ne_, nil_eq_]; done) | (simp [*]; done), zD⟩
    rw [if_neg c5] at H
    have c5b0 : (1 == (l0.length : Int)) = false := beq_eq_false_iff_ne.mpr c5
    have c5b1 : (1 != (l0.length : Int)) = true := bne_iff_ne.mpr c5
    as_aux_lemma =>
     have H' := Aside0.mk H
     clear H
     go_wp2
     go_meet
     case rel => exact ⟨_, (1), zE, H', ⟨by first | omega | exact Nat.le_refl _⟩, zD⟩
   rw [if_neg c4] at H
   have c4b0 : ((rd l0 0) == 45) = false := beq_eq_false_iff_ne.mpr c4
   have c4b1 : ((rd l0 0) != 45) = true := bne_iff_ne.mpr c4
   (first | rw [c4b0] | (simp only [i64_w, i32_w]; rw [c4b0]) | rw [c4b1] | skip)
   as_aux_lemma =>
    have H' := Aside0.mk H
    clear H
    go_wp2
    go_meet
    case rel => exact ⟨_, (0), zE, H', ⟨by first | omega | exact Nat.le_refl _⟩, zD⟩
  case rest => as_aux_lemma =>
   clear HC3
   (try clear c2b0); (try clear c2b1); (try clear hx437_0); (try clear p437); (try clear q437)
   obtain ⟨kq, x3_2, rfl, HA, HJ2, ⟨mc2, rfl⟩⟩ := hcut
   rcases kq with _ | kj2
   · exact absurd HA.out (by simp [vJSONN_.j0])
   have H := HA.out
   clear HA
   simp only [vJSONN_.j0] at H
   by_cases c6 : 0 ≤ x3_2
   ·
    rw [if_pos c6] at H
    have c6b0 : decide (0 ≤ x3_2) = true := decide_eq_true c6
    clear c6
    by_cases c7 : x3_2 < (l0.length : Int)
    ·
     rw [if_pos c7] at H
     have c7b0 : decide (x3_2 < (l0.length : Int)) = true := decide_eq_true c7
     clear c7
     have HC8 := Aside0.mk H
     clear H
     have p438 : 0 ≤ (x3_2 : Int) := dT
     have q438 : x3_2 < (l0.length : Int) := dT
     obtain ⟨ad438, e438, hx438_0⟩ := Kd.at_int HR0.out x3_2 p438 q438
     obtain rfl : ad437 = ad438 := (by injection e438)
     replace p438 := eq_true p438
     replace q438 := eq_true q438
     go_upto_if 21 with (fail)
     go_cut [3] (fun v3 wc => ∃ (kq : Nat) (x3_7 : Int), v3 = .int .i64 x3_7 ∧ Aside0 (vJSONN_.j3 kq l0 x3_7 = some r) ∧ Aside0 (kq ≤ kj2) ∧ Drawn0 w wc)
     case first => as_aux_lemma =>
      have H := HC8.out
      clear HC8
      by_cases c9 : (rd l0 x3_2) = 48
      ·
       rw [if_pos c9] at H
       have c9b0 : ((rd l0 x3_2) == 48) = true := beq_iff_eq.mpr c9
       have c9b1 : ((rd l0 x3_2) != 48) = false := bne_eq_false_iff_eq.mpr c9
       clear c9
       (first | rw [c9b0] | (simp only [i64_w, i32_w]; rw [c9b0]) | rw [c9b1] | skip)
       by_cases c10 : (wrap64 (x3_2 + 1)) < (l0.length : Int)
       ·
        rw [if_pos c10] at H
        have c10b0 : decide ((wrap64 (x3_2 + 1)) < (l0.length : Int)) = true := decide_eq_true c10
        clear c10
        obtain ⟨ji11, hji11⟩ : ∃ j_ : Int, (wrap64 (x3_2 + 1)) = j_ := ⟨_, rfl⟩
        replace H : (if 0 ≤ (ji11) then (if (rd l0 (ji11)) ≥ 48 then (if (rd l0 (ji11)) ≤ 57 then (some false) else (vJSONN_.j3 kj2 l0 ji11)) else (vJSONN_.j3 kj2 l0 ji11)) else (none)) = some r := by first | (rw [hji11] at H; exact H) | (simp only [hji11] at H ⊢; exact H)
        (try rw [hji11] at c10b0)
        have hji11w : (IntKind.i64.wrap (x3_2 + 1)) = ji11 := (i64_w _).trans hji11
        by_cases c12 : 0 ≤ (ji11)
        ·
         rw [if_pos c12] at H
         have c12b0 : decide (0 ≤ (ji11)) = true := decide_eq_true c12
         clear c12
         by_cases c13 : (rd l0 (ji11)) ≥ 48
         ·
          rw [if_pos c13] at H
          have c13b0 : decide (48 ≤ (rd l0 (ji11))) = true := decide_eq_true c13
          clear c13
          by_cases c14 : (rd l0 (ji11)) ≤ 57
          ·
           rw [if_pos c14] at H
           have c14b0 : decide ((rd l0 (ji11)) ≤ 57) = true := decide_eq_true c14
           clear c14
           as_aux_lemma =>
            obtain rfl := Option.some.inj H
            have p439 : 0 ≤ ((ji11) : Int) := dT
            have q439 : (ji11) < (l0.length : Int) := dT
            obtain ⟨ad439, e439, hx439_0⟩ := Kd.at_int HR0.out (ji11) p439 q439
            obtain rfl : ad437 = ad439 := (by injection e439)
            replace p439 := eq_true p439
            replace q439 := eq_true q439
            have p440 : 0 ≤ ((ji11) : Int) := dT
            have q440 : (ji11) < (l0.length : Int) := dT
            obtain ⟨ad440, e440, hx440_0⟩ := Kd.at_int HR0.out (ji11) p440 q440
            obtain rfl : ad437 = ad440 := (by injection e440)
            replace p440 := eq_true p440
            replace q440 := eq_true q440
            go_wp2
            go_ret
            exact ⟨by first | rfl | (simp; done) | (simp only [← hji11] <;> (first | rfl | simp); done) | (simp [nil_ne_, nil_eq_]; done) | (simp [*]; done), zD⟩
          rw [if_neg c14] at H
          have c14b0 : decide ((rd l0 (ji11)) ≤ 57) = false := decide_eq_false c14
          clear c14
          as_aux_lemma =>
           have H' := Aside0.mk H
           clear H
           have p439 : 0 ≤ ((ji11) : Int) := dT
           have q439 : (ji11) < (l0.length : Int) := dT
           obtain ⟨ad439, e439, hx439_0⟩ := Kd.at_int HR0.out (ji11) p439 q439
           obtain rfl : ad437 = ad439 := (by injection e439)
           replace p439 := eq_true p439
           replace q439 := eq_true q439
           have p440 : 0 ≤ ((ji11) : Int) := dT
           have q440 : (ji11) < (l0.length : Int) := dT
           obtain ⟨ad440, e440, hx440_0⟩ := Kd.at_int HR0.out (ji11) p440 q440
           obtain rfl : ad437 = ad440 := (by injection e440)
           replace p440 := eq_true p440
           replace q440 := eq_true q440
           go_wp2
           first | (go_meet; case rel => exact ⟨_, (ji11), (by first | rfl | (simp; done) | (simp only [← hji11] <;> (first | rfl | simp); done) | (simp [nil_ne_, nil_eq_]; done) | (simp [*]; done)), (by first | exact H' | (rw [hji11]; exact H') | (simp only [hji11]; exact H') | (simp only [hji11] at H' ⊢; exact H')), ⟨by have := HJ2.out; first | omega | exact Nat.le_refl _⟩, zD⟩) | ((try subst hji11); go_meet; case rel => exact ⟨_, ((wrap64 (x3_2 + 1))), (by first | rfl | (simp; done) | (simp only [← h_none_] <;> (first | rfl | simp); done) | (simp [nil_ne_, nil_eq_]; done) | (simp [*]; done)), H', ⟨by have := HJ2.out; first | omega | exact Nat.le_refl _⟩, zD⟩)
         rw [if_neg c13] at H
         have c13b0 : decide (48 ≤ (rd l0 (ji11))) = false := decide_eq_false c13
         clear c13
         as_aux_lemma =>
          have H' := Aside0.mk H
          clear H
          have p439 : 0 ≤ ((ji11) : Int) := dT
          have q439 : (ji11) < (l0.length : Int) := dT
          obtain ⟨ad439, e439, hx439_0⟩ := Kd.at_int HR0.out (ji11) p439 q439
          obtain rfl : ad437 = ad439 := (by injection e439)
          replace p439 := eq_true p439
          replace q439 := eq_true q439
          go_wp2
          first | (go_meet; case rel => exact ⟨_, (ji11), (by first | rfl | (simp; done) | (simp only [← hji11] <;> (first | rfl | simp); done) | (simp [nil_ne_, nil_eq_]; done) | (simp [*]; done)), (by first | exact H' | (rw [hji11]; exact H') | (simp only [hji11]; exact H') | (simp only [hji11] at H' ⊢; exact H')), ⟨by have := HJ2.out; first | omega | exact Nat.le_refl _⟩, zD⟩) | ((try subst hji11); go_meet; case rel => exact ⟨_, ((wrap64 (x3_2 + 1))), (by first | rfl | (simp; done) | (simp only [← h_none_] <;> (first | rfl | simp); done) | (simp [nil_ne_, nil_eq_]; done) | (simp [*]; done)), H', ⟨by have := HJ2.out; first | omega | exact Nat.le_refl _⟩, zD⟩)
        rw [if_neg c12] at H
        exact absurd H (by simp)
       rw [if_neg c10] at H
       have c10b0 : decide ((wrap64 (x3_2 + 1)) < (l0.length : Int)) = false := decide_eq_false c10
       clear c10
       as_aux_lemma =>
        have H' := Aside0.mk H
        clear H
        go_wp2
        go_meet
        case rel => exact ⟨_, (wrap64 (x3_2 + 1)), zE, H', ⟨by have := HJ2.out; first | omega | exact Nat.le_refl _⟩, zD⟩
      rw [if_neg c9] at H
      have c9b0 : ((rd l0 x3_2) == 48) = false := beq_eq_false_iff_ne.mpr c9
      have c9b1 : ((rd l0 x3_2) != 48) = true := bne_iff_ne.mpr c9
      (first | rw [c9b0] | (simp only [i64_w, i32_w]; rw [c9b0]) | rw [c9b1] | skip)
      have HC15 := Aside0.mk H
      clear H
      go_upto_region 10 with (fail)
      go_cut [53] (fun v53 wc => ∃ (kq : Nat) (x53_14 : Bool), v53 = .bool x53_14 ∧ Aside0 (vJSONN_.j1 kq l0 x3_2 x53_14 = some r) ∧ Aside0 (kq ≤ kj2) ∧ Drawn0 w wc)
      case first => as_aux_lemma =>
       have H := HC15.out
       clear HC15
       by_cases c16 : (rd l0 x3_2) < 49
       ·
        rw [if_pos c16] at H
        have c16b0 : decide ((rd l0 x3_2) < 49) = true := decide_eq_true c16
        clear c16
        (first | rw [c16b0] | (simp only [i64_w, i32_w]; rw [c16b0]) | rw [c16b1] | skip)
        as_aux_lemma =>
         have H' := Aside0.mk H
         clear H
         have p441 : 0 ≤ (x3_2 : Int) := dT
         have q441 : x3_2 < (l0.length : Int) := dT
         obtain ⟨ad441, e441, hx441_0⟩ := Kd.at_int HR0.out x3_2 p441 q441
         obtain rfl : ad437 = ad441 := (by injection e441)
         replace p441 := eq_true p441
         replace q441 := eq_true q441
         go_wp2
         go_meet
         case rel => exact ⟨_, (true), zE, H', ⟨by have := HJ2.out; first | omega | exact Nat.le_refl _⟩, zD⟩
       rw [if_neg c16] at H
       have c16b0 : decide ((rd l0 x3_2) < 49) = false := decide_eq_false c16
       clear c16
       (first | rw [c16b0] | (simp only [i64_w, i32_w]; rw [c16b0]) | rw [c16b1] | skip)
       as_aux_lemma =>
        have H' := Aside0.mk H
        clear H
        have p441 : 0 ≤ (x3_2 : Int) := dT
        have q441 : x3_2 < (l0.length : Int) := dT
        obtain ⟨ad441, e441, hx441_0⟩ := Kd.at_int HR0.out x3_2 p441 q441
        obtain rfl : ad437 = ad441 := (by injection e441)
        replace p441 := eq_true p441
        replace q441 := eq_true q441
        have p442 : 0 ≤ (x3_2 : Int) := dT
        have q442 : x3_2 < (l0.length : Int) := dT
        obtain ⟨ad442, e442, hx442_0⟩ := Kd.at_int HR0.out x3_2 p442 q442
        obtain rfl : ad437 = ad442 := (by injection e442)
        replace p442 := eq_true p442
        replace q442 := eq_true q442
        go_wp2
        go_meet
        case rel => exact ⟨_, (decide ((rd l0 x3_2) > 57)), zE, H', ⟨by have := HJ2.out; first | omega | exact Nat.le_refl _⟩, zD⟩
      case rest => as_aux_lemma =>
       clear HC15
       (try clear c2b0); (try clear c2b1); (try clear c6b0); (try clear c7b0); (try clear c9); (try clear c9b0); (try clear c9b1); (try clear hx437_0); (try clear hx438_0); (try clear p437); (try clear p438); (try clear q437); (try clear q438)
       obtain ⟨kq, x53_14, rfl, HA, HJ14, ⟨mc14, rfl⟩⟩ := hcut
       rcases kq with _ | kj14
       · exact absurd HA.out (by simp [vJSONN_.j1])
       have H := HA.out
       clear HA
       simp only [vJSONN_.j1] at H
       by_cases c17 : x53_14 = true
       ·
        subst c17
        rw [if_pos rfl] at H
        as_aux_lemma =>
         obtain rfl := Option.some.inj H
         go_wp2
         go_ret
         exact ⟨by first | rfl | (simp; done) | (simp [nil_ne_, nil_eq_]; done) | (simp [*]; done), zD⟩
       replace c17 := Bool.eq_false_iff.mpr c17
       subst c17
       rw [if_neg Bool.false_ne_true] at H
       have H' := Aside0.mk H
       clear H
       go_wp2
       try simp only [Act.put, List.setIfInBounds_toArray, List.set_cons_succ, List.set_cons_zero]
       go_loopg [3] kj14 (fun kq v3 w' => ∃ (x3_3 : Int), v3 = .int .i64 x3_3 ∧ Aside0 (vJSONN_.l0 kq l0 x3_3 = some r) ∧ Aside0 (kq ≤ kj14) ∧ Drawn0 w w')
       case atStart => exact ⟨(x3_2), zE, H', ⟨Nat.le_refl _⟩, zD⟩
       case round =>
        clear H'
        (try clear c2b0); (try clear c2b1); (try clear c6b0); (try clear c7b0); (try clear c9); (try clear c9b0); (try clear c9b1); (try clear c17); (try clear hx437_0); (try clear hx438_0); (try clear p437); (try clear p438); (try clear q437); (try clear q438)
        obtain ⟨x3_3, rfl, HA, HK3, ⟨m3, rfl⟩⟩ := hrel
        rcases gk with _ | k3
        · exact absurd HA.out (by simp [vJSONN_.l0])
        have H := HA.out
        clear HA
        simp only [vJSONN_.l0] at H
        by_cases c18 : x3_3 < (l0.length : Int)
        ·
         rw [if_pos c18] at H
         have c18b0 : decide (x3_3 < (l0.length : Int)) = true := decide_eq_true c18
         clear c18
         by_cases c19 : 0 ≤ x3_3
         ·
          rw [if_pos c19] at H
          have c19b0 : decide (0 ≤ x3_3) = true := decide_eq_true c19
          clear c19
          by_cases c20 : (rd l0 x3_3) ≥ 48
          ·
           rw [if_pos c20] at H
           have c20b0 : decide (48 ≤ (rd l0 x3_3)) = true := decide_eq_true c20
           clear c20
           by_cases c21 : (rd l0 x3_3) ≤ 57
           ·
            rw [if_pos c21] at H
            have c21b0 : decide ((rd l0 x3_3) ≤ 57) = true := decide_eq_true c21
            clear c21
            as_aux_lemma =>
             have H' := Aside0.mk H
             clear H
             have p443 : 0 ≤ (x3_3 : Int) := dT
             have q443 : x3_3 < (l0.length : Int) := dT
             obtain ⟨ad443, e443, hx443_0⟩ := Kd.at_int HR0.out x3_3 p443 q443
             obtain rfl : ad437 = ad443 := (by injection e443)
             replace p443 := eq_true p443
             replace q443 := eq_true q443
             have p444 : 0 ≤ (x3_3 : Int) := dT
             have q444 : x3_3 < (l0.length : Int) := dT
             obtain ⟨ad444, e444, hx444_0⟩ := Kd.at_int HR0.out x3_3 p444 q444
             obtain rfl : ad437 = ad444 := (by injection e444)
             replace p444 := eq_true p444
             replace q444 := eq_true q444
             go_wp2
             go_roundg k3
             case measure => have := HJ2.out; have := HJ14.out; have := HK3.out; omega
             case rel => exact ⟨(wrap64 (x3_3 + 1)), zE, H', ⟨by have := HJ2.out; have := HJ14.out; have := HK3.out; omega⟩, zD⟩
           rw [if_neg c21] at H
           have c21b0 : decide ((rd l0 x3_3) ≤ 57) = false := decide_eq_false c21
           clear c21
           as_aux_lemma =>
            have H' := Aside0.mk H
            clear H
            have p443 : 0 ≤ (x3_3 : Int) := dT
            have q443 : x3_3 < (l0.length : Int) := dT
            obtain ⟨ad443, e443, hx443_0⟩ := Kd.at_int HR0.out x3_3 p443 q443
            obtain rfl : ad437 = ad443 := (by injection e443)
            replace p443 := eq_true p443
            replace q443 := eq_true q443
            have p444 : 0 ≤ (x3_3 : Int) := dT
            have q444 : x3_3 < (l0.length : Int) := dT
            obtain ⟨ad444, e444, hx444_0⟩ := Kd.at_int HR0.out x3_3 p444 q444
            obtain rfl : ad437 = ad444 := (by injection e444)
            replace p444 := eq_true p444
            replace q444 := eq_true q444
            go_wp2
            go_meet
            case rel => exact ⟨_, (x3_3), zE, H', ⟨by have := HJ2.out; have := HJ14.out; have := HK3.out; first | omega | exact Nat.le_refl _⟩, zD⟩
          rw [if_neg c20] at H
          have c20b0 : decide (48 ≤ (rd l0 x3_3)) = false := decide_eq_false c20
          clear c20
          as_aux_lemma =>
           have H' := Aside0.mk H
           clear H
           have p443 : 0 ≤ (x3_3 : Int) := dT
           have q443 : x3_3 < (l0.length : Int) := dT
           obtain ⟨ad443, e443, hx443_0⟩ := Kd.at_int HR0.out x3_3 p443 q443
           obtain rfl : ad437 = ad443 := (by injection e443)
           replace p443 := eq_true p443
           replace q443 := eq_true q443
           go_wp2
           go_meet
           case rel => exact ⟨_, (x3_3), zE, H', ⟨by have := HJ2.out; have := HJ14.out; have := HK3.out; first | omega | exact Nat.le_refl _⟩, zD⟩
         rw [if_neg c19] at H
         exact absurd H (by simp)
        rw [if_neg c18] at H
        have c18b0 : decide (x3_3 < (l0.length : Int)) = false := decide_eq_false c18
        clear c18
        as_aux_lemma =>
         have H' := Aside0.mk H
         clear H
         go_wp2
         go_meet
         case rel => exact ⟨_, (x3_3), zE, H', ⟨by have := HJ2.out; have := HJ14.out; have := HK3.out; first | omega | exact Nat.le_refl _⟩, zD⟩
     case rest => as_aux_lemma =>
      clear HC8
      (try clear c2b0); (try clear c2b1); (try clear c6b0); (try clear c7b0); (try clear hx437_0); (try clear hx438_0); (try clear p437); (try clear p438); (try clear q437); (try clear q438)
      obtain ⟨kq, x3_7, rfl, HA, HJ7, ⟨mc7, rfl⟩⟩ := hcut
      rcases kq with _ | kj7
      · exact absurd HA.out (by simp [vJSONN_.j3])
      have H := HA.out
      clear HA
      simp only [vJSONN_.j3] at H
      have HC22 := Aside0.mk H
      clear H
      go_upto_region 14 with (fail)
      go_cut [84] (fun v84 wc => ∃ (kq : Nat) (x84_21 : Bool), v84 = .bool x84_21 ∧ Aside0 (vJSONN_.j4 kq l0 x3_7 x84_21 = some r) ∧ Aside0 (kq ≤ kj7) ∧ Drawn0 w wc)
      case first => as_aux_lemma =>
       have H := HC22.out
       clear HC22
       by_cases c23 : x3_7 < (l0.length : Int)
       ·
        rw [if_pos c23] at H
        have c23b0 : decide (x3_7 < (l0.length : Int)) = true := decide_eq_true c23
        clear c23
        (first | rw [c23b0] | (simp only [i64_w, i32_w]; rw [c23b0]) | rw [c23b1] | skip)
        by_cases c24 : 0 ≤ x3_7
        ·
         rw [if_pos c24] at H
         have c24b0 : decide (0 ≤ x3_7) = true := decide_eq_true c24
         clear c24
         as_aux_lemma =>
          have H' := Aside0.mk H
          clear H
          have p445 : 0 ≤ (x3_7 : Int) := dT
          have q445 : x3_7 < (l0.length : Int) := dT
          obtain ⟨ad445, e445, hx445_0⟩ := Kd.at_int HR0.out x3_7 p445 q445
          obtain rfl : ad437 = ad445 := (by injection e445)
          replace p445 := eq_true p445
          replace q445 := eq_true q445
          go_wp2
          go_meet
          case rel => exact ⟨_, (((rd l0 x3_7) == 46)), zE, H', ⟨by have := HJ2.out; have := HJ7.out; first | omega | exact Nat.le_refl _⟩, zD⟩
        rw [if_neg c24] at H
        exact absurd H (by simp)
       rw [if_neg c23] at H
       have c23b0 : decide (x3_7 < (l0.length : Int)) = false := decide_eq_false c23
       clear c23
       (first | rw [c23b0] | (simp only [i64_w, i32_w]; rw [c23b0]) | rw [c23b1] | skip)
       as_aux_lemma =>
        have H' := Aside0.mk H
        clear H
        go_wp2
        go_meet
        case rel => exact ⟨_, (false), zE, H', ⟨by have := HJ2.out; have := HJ7.out; first | omega | exact Nat.le_refl _⟩, zD⟩
      case rest => as_aux_lemma =>
       clear HC22
       (try clear c2b0); (try clear c2b1); (try clear c6b0); (try clear c7b0); (try clear hx437_0); (try clear hx438_0); (try clear p437); (try clear p438); (try clear q437); (try clear q438)
       obtain ⟨kq, x84_21, rfl, HA, HJ21, ⟨mc21, rfl⟩⟩ := hcut
       rcases kq with _ | kj21
       · exact absurd HA.out (by simp [vJSONN_.j4])
       have H := HA.out
       clear HA
       simp only [vJSONN_.j4] at H
       have HC25 := Aside0.mk H
       clear H
       go_upto_if 84 with (fail)
       go_cut [3] (fun v3 wc => ∃ (kq : Nat) (x3_24 : Int), v3 = .int .i64 x3_24 ∧ Aside0 (vJSONN_.j6 kq l0 x3_24 = some r) ∧ Aside0 (kq ≤ kj21) ∧ Drawn0 w wc)
       case first => as_aux_lemma =>
        have H := HC25.out
        clear HC25
        by_cases c26 : x84_21 = true
        ·
         subst c26
         rw [if_pos rfl] at H
         have H' := Aside0.mk H
         clear H
         go_wp2
         try simp only [Act.put, List.setIfInBounds_toArray, List.set_cons_succ, List.set_cons_zero]
         go_loopg [3] kj21 (fun kq v3 w' => ∃ (x3_4 : Int), v3 = .int .i64 x3_4 ∧ Aside0 (vJSONN_.l1 kq l0 x3_4 (wrap64 (x3_7 + 1)) = some r) ∧ Aside0 (kq ≤ kj21) ∧ Drawn0 w w')
         case atStart => exact ⟨(wrap64 (x3_7 + 1)), zE, H', ⟨Nat.le_refl _⟩, zD⟩
         case round =>
          clear H'
          (try clear c2b0); (try clear c2b1); (try clear c6b0); (try clear c7b0); (try clear c26); (try clear hx437_0); (try clear hx438_0); (try clear p437); (try clear p438); (try clear q437); (try clear q438)
          obtain ⟨x3_4, rfl, HA, HK4, ⟨m4, rfl⟩⟩ := hrel
          rcases gk with _ | k4
          · exact absurd HA.out (by simp [vJSONN_.l1])
          have H := HA.out
          clear HA
          simp only [vJSONN_.l1] at H
          by_cases c27 : x3_4 < (l0.length : Int)
          ·
           rw [if_pos c27] at H
           have c27b0 : decide (x3_4 < (l0.length : Int)) = true := decide_eq_true c27
           clear c27
           (first | rw [c27b0] | (simp only [i64_w, i32_w]; rw [c27b0]) | rw [c27b1] | skip)
           by_cases c28 : 0 ≤ x3_4
           ·
            rw [if_pos c28] at H
            have c28b0 : decide (0 ≤ x3_4) = true := decide_eq_true c28
            clear c28
            by_cases c29 : (rd l0 x3_4) ≥ 48
            ·
             rw [if_pos c29] at H
             have c29b0 : decide (48 ≤ (rd l0 x3_4)) = true := decide_eq_true c29
             clear c29
             by_cases c30 : (rd l0 x3_4) ≤ 57
             ·
              rw [if_pos c30] at H
              have c30b0 : decide ((rd l0 x3_4) ≤ 57) = true := decide_eq_true c30
              clear c30
              as_aux_lemma =>
               have H' := Aside0.mk H
               clear H
               have p446 : 0 ≤ (x3_4 : Int) := dT
               have q446 : x3_4 < (l0.length : Int) := dT
               obtain ⟨ad446, e446, hx446_0⟩ := Kd.at_int HR0.out x3_4 p446 q446
               obtain rfl : ad437 = ad446 := (by injection e446)
               replace p446 := eq_true p446
               replace q446 := eq_true q446
               have p447 : 0 ≤ (x3_4 : Int) := dT
               have q447 : x3_4 < (l0.length : Int) := dT
               obtain ⟨ad447, e447, hx447_0⟩ := Kd.at_int HR0.out x3_4 p447 q447
               obtain rfl : ad437 = ad447 := (by injection e447)
               replace p447 := eq_true p447
               replace q447 := eq_true q447
               go_wp2
               go_roundg k4
               case measure => have := HJ2.out; have := HJ7.out; have := HJ21.out; have := HK4.out; omega
               case rel => exact ⟨(wrap64 (x3_4 + 1)), zE, H', ⟨by have := HJ2.out; have := HJ7.out; have := HJ21.out; have := HK4.out; omega⟩, zD⟩
             rw [if_neg c30] at H
             have c30b0 : decide ((rd l0 x3_4) ≤ 57) = false := decide_eq_false c30
             clear c30
             by_cases c31 : x3_4 = (wrap64 (x3_7 + 1))
             ·
              rw [if_pos c31] at H
              have c31b0 : (x3_4 == (wrap64 (x3_7 + 1))) = true := beq_iff_eq.mpr c31
              have c31b1 : (x3_4 != (wrap64 (x3_7 + 1))) = false := bne_eq_false_iff_eq.mpr c31
              clear c31
              as_aux_lemma =>
               obtain rfl := Option.some.inj H
               have p446 : 0 ≤ (x3_4 : Int) := dT
               have q446 : x3_4 < (l0.length : Int) := dT
               obtain ⟨ad446, e446, hx446_0⟩ := Kd.at_int HR0.out x3_4 p446 q446
               obtain rfl : ad437 = ad446 := (by injection e446)
               replace p446 := eq_true p446
               replace q446 := eq_true q446
               have p447 : 0 ≤ (x3_4 : Int) := dT
               have q447 : x3_4 < (l0.length : Int) := dT
               obtain ⟨ad447, e447, hx447_0⟩ := Kd.at_int HR0.out x3_4 p447 q447
               obtain rfl : ad437 = ad447 := (by injection e447)
               replace p447 := eq_true p447
               replace q447 := eq_true q447
               go_wp2
               go_ret
               exact ⟨by first | rfl | (simp; done) | (simp [nil_ne_, nil_eq_]; done) | (simp [*]; done), zD⟩
             rw [if_neg c31] at H
             have c31b0 : (x3_4 == (wrap64 (x3_7 + 1))) = false := beq_eq_false_iff_ne.mpr c31
             have c31b1 : (x3_4 != (wrap64 (x3_7 + 1))) = true := bne_iff_ne.mpr c31
             as_aux_lemma =>
              have H' := Aside0.mk H
              clear H
              have p446 : 0 ≤ (x3_4 : Int) := dT
              have q446 : x3_4 < (l0.length : Int) := dT
              obtain ⟨ad446, e446, hx446_0⟩ := Kd.at_int HR0.out x3_4 p446 q446
              obtain rfl : ad437 = ad446 := (by injection e446)
              replace p446 := eq_true p446
              replace q446 := eq_true q446
              have p447 : 0 ≤ (x3_4 : Int) := dT
              have q447 : x3_4 < (l0.length : Int) := dT
              obtain ⟨ad447, e447, hx447_0⟩ := Kd.at_int HR0.out x3_4 p447 q447
              obtain rfl : ad437 = ad447 := (by injection e447)
              replace p447 := eq_true p447
              replace q447 := eq_true q447
              go_wp2
              go_meet
              case rel => exact ⟨_, (x3_4), zE, H', ⟨by have := HJ2.out; have := HJ7.out; have := HJ21.out; have := HK4.out; first | omega | exact Nat.le_refl _⟩, zD⟩
            rw [if_neg c29] at H
            have c29b0 : decide (48 ≤ (rd l0 x3_4)) = false := decide_eq_false c29
            clear c29
            by_cases c32 : x3_4 = (wrap64 (x3_7 + 1))
            ·
             rw [if_pos c32] at H
             have c32b0 : (x3_4 == (wrap64 (x3_7 + 1))) = true := beq_iff_eq.mpr c32
             have c32b1 : (x3_4 != (wrap64 (x3_7 + 1))) = false := bne_eq_false_iff_eq.mpr c32
             clear c32
             as_aux_lemma =>
              obtain rfl := Option.some.inj H
              have p446 : 0 ≤ (x3_4 : Int) := dT
              have q446 : x3_4 < (l0.length : Int) := dT
              obtain ⟨ad446, e446, hx446_0⟩ := Kd.at_int HR0.out x3_4 p446 q446
              obtain rfl : ad437 = ad446 := (by injection e446)
              replace p446 := eq_true p446
              replace q446 := eq_true q446
              go_wp2
              go_ret
              exact ⟨by first | rfl | (simp; done) | (simp [nil_ne_, nil_eq_]; done) | (simp [*]; done), zD⟩
            rw [if_neg c32] at H
            have c32b0 : (x3_4 == (wrap64 (x3_7 + 1))) = false := beq_eq_false_iff_ne.mpr c32
            have c32b1 : (x3_4 != (wrap64 (x3_7 + 1))) = true := bne_iff_ne.mpr c32
            as_aux_lemma =>
             have H' := Aside0.mk H
             clear H
             have p446 : 0 ≤ (x3_4 : Int) := dT
             have q446 : x3_4 < (l0.length : Int) := dT
             obtain ⟨ad446, e446, hx446_0⟩ := Kd.at_int HR0.out x3_4 p446 q446
             obtain rfl : ad437 = ad446 := (by injection e446)
             replace p446 := eq_true p446
             replace q446 := eq_true q446
             go_wp2
             go_meet
             case rel => exact ⟨_, (x3_4), zE, H', ⟨by have := HJ2.out; have := HJ7.out; have := HJ21.out; have := HK4.out; first | omega | exact Nat.le_refl _⟩, zD⟩
           rw [if_neg c28] at H
           exact absurd H (by simp)
          rw [if_neg c27] at H
          have c27b0 : decide (x3_4 < (l0.length : Int)) = false := decide_eq_false c27
          clear c27
          (first | rw [c27b0] | (simp only [i64_w, i32_w]; rw [c27b0]) | rw [c27b1] | skip)
          by_cases c33 : x3_4 = (wrap64 (x3_7 + 1))
          ·
           rw [if_pos c33] at H
           have c33b0 : (x3_4 == (wrap64 (x3_7 + 1))) = true := beq_iff_eq.mpr c33
           have c33b1 : (x3_4 != (wrap64 (x3_7 + 1))) = false := bne_eq_false_iff_eq.mpr c33
           clear c33
           as_aux_lemma =>
            obtain rfl := Option.some.inj H
            go_wp2
            go_ret
            exact ⟨by first | rfl | (simp; done) | (simp [nil_ne_, nil_eq_]; done) | (simp [*]; done), zD⟩
          rw [if_neg c33] at H
          have c33b0 : (x3_4 == (wrap64 (x3_7 + 1))) = false := beq_eq_false_iff_ne.mpr c33
          have c33b1 : (x3_4 != (wrap64 (x3_7 + 1))) = true := bne_iff_ne.mpr c33
          as_aux_lemma =>
           have H' := Aside0.mk H
           clear H
           go_wp2
           go_meet
           case rel => exact ⟨_, (x3_4), zE, H', ⟨by have := HJ2.out; have := HJ7.out; have := HJ21.out; have := HK4.out; first | omega | exact Nat.le_refl _⟩, zD⟩
        replace c26 := Bool.eq_false_iff.mpr c26
        subst c26
        rw [if_neg Bool.false_ne_true] at H
        as_aux_lemma =>
         have H' := Aside0.mk H
         clear H
         go_wp2
         go_meet
         case rel => exact ⟨_, (x3_7), zE, H', ⟨by have := HJ2.out; have := HJ7.out; have := HJ21.out; first | omega | exact Nat.le_refl _⟩, zD⟩
       case rest => as_aux_lemma =>
        clear HC25
        (try clear c2b0); (try clear c2b1); (try clear c6b0); (try clear c7b0); (try clear hx437_0); (try clear hx438_0); (try clear p437); (try clear p438); (try clear q437); (try clear q438)
        obtain ⟨kq, x3_24, rfl, HA, HJ24, ⟨mc24, rfl⟩⟩ := hcut
        rcases kq with _ | kj24
        · exact absurd HA.out (by simp [vJSONN_.j6])
        have H := HA.out
        clear HA
        simp only [vJSONN_.j6] at H
        have HC34 := Aside0.mk H
        clear H
        go_upto_region 21 with (fail)
        go_cut [128] (fun v128 wc => ∃ (kq : Nat) (x128_33 : Bool), v128 = .bool x128_33 ∧ Aside0 (vJSONN_.j7 kq l0 x3_24 x128_33 = some r) ∧ Aside0 (kq ≤ kj24) ∧ Drawn0 w wc)
        case first => as_aux_lemma =>
         have H := HC34.out
         clear HC34
         by_cases c35 : x3_24 < (l0.length : Int)
         ·
          rw [if_pos c35] at H
          have c35b0 : decide (x3_24 < (l0.length : Int)) = true := decide_eq_true c35
          clear c35
          (first | rw [c35b0] | (simp only [i64_w, i32_w]; rw [c35b0]) | rw [c35b1] | skip)
          by_cases c36 : 0 ≤ x3_24
          ·
           rw [if_pos c36] at H
           have c36b0 : decide (0 ≤ x3_24) = true := decide_eq_true c36
           clear c36
           by_cases c37 : (rd l0 x3_24) = 101
           ·
            rw [if_pos c37] at H
            have c37b0 : ((rd l0 x3_24) == 101) = true := beq_iff_eq.mpr c37
            have c37b1 : ((rd l0 x3_24) != 101) = false := bne_eq_false_iff_eq.mpr c37
            clear c37
            as_aux_lemma =>
             have H' := Aside0.mk H
             clear H
             have p448 : 0 ≤ (x3_24 : Int) := dT
             have q448 : x3_24 < (l0.length : Int) := dT
             obtain ⟨ad448, e448, hx448_0⟩ := Kd.at_int HR0.out x3_24 p448 q448
             obtain rfl : ad437 = ad448 := (by injection e448)
             replace p448 := eq_true p448
             replace q448 := eq_true q448
             go_wp2
             go_meet
             case rel => exact ⟨_, (true), zE, H', ⟨by have := HJ2.out; have := HJ7.out; have := HJ21.out; have := HJ24.out; first | omega | exact Nat.le_refl _⟩, zD⟩
           rw [if_neg c37] at H
           have c37b0 : ((rd l0 x3_24) == 101) = false := beq_eq_false_iff_ne.mpr c37
           have c37b1 : ((rd l0 x3_24) != 101) = true := bne_iff_ne.mpr c37
           as_aux_lemma =>
            have H' := Aside0.mk H
            clear H
            have p448 : 0 ≤ (x3_24 : Int) := dT
            have q448 : x3_24 < (l0.length : Int) := dT
            obtain ⟨ad448, e448, hx448_0⟩ := Kd.at_int HR0.out x3_24 p448 q448
            obtain rfl : ad437 = ad448 := (by injection e448)
            replace p448 := eq_true p448
            replace q448 := eq_true q448
            have p449 : 0 ≤ (x3_24 : Int) := dT
            have q449 : x3_24 < (l0.length : Int) := dT
            obtain ⟨ad449, e449, hx449_0⟩ := Kd.at_int HR0.out x3_24 p449 q449
            obtain rfl : ad437 = ad449 := (by injection e449)
            replace p449 := eq_true p449
            replace q449 := eq_true q449
            go_wp2
            go_meet
            case rel => exact ⟨_, (((rd l0 x3_24) == 69)), zE, H', ⟨by have := HJ2.out; have := HJ7.out; have := HJ21.out; have := HJ24.out; first | omega | exact Nat.le_refl _⟩, zD⟩
          rw [if_neg c36] at H
          exact absurd H (by simp)
         rw [if_neg c35] at H
         have c35b0 : decide (x3_24 < (l0.length : Int)) = false := decide_eq_false c35
         clear c35
         (first | rw [c35b0] | (simp only [i64_w, i32_w]; rw [c35b0]) | rw [c35b1] | skip)
         as_aux_lemma =>
          have H' := Aside0.mk H
          clear H
          go_wp2
          go_meet
          case rel => exact ⟨_, (false), zE, H', ⟨by have := HJ2.out; have := HJ7.out; have := HJ21.out; have := HJ24.out; first | omega | exact Nat.le_refl _⟩, zD⟩
        case rest => as_aux_lemma =>
         clear HC34
         (try clear c2b0); (try clear c2b1); (try clear c6b0); (try clear c7b0); (try clear hx437_0); (try clear hx438_0); (try clear p437); (try clear p438); (try clear q437); (try clear q438)
         obtain ⟨kq, x128_33, rfl, HA, HJ33, ⟨mc33, rfl⟩⟩ := hcut
         rcases kq with _ | kj33
         · exact absurd HA.out (by simp [vJSONN_.j7])
         have H := HA.out
         clear HA
         simp only [vJSONN_.j7] at H
         by_cases c38 : x128_33 = true
         ·
          subst c38
          rw [if_pos rfl] at H
          have HC39 := Aside0.mk H
          clear H
          go_upto_region 23 with (fail)
          go_cut [148] (fun v148 wc => ∃ (kq : Nat) (x148_38 : Bool), v148 = .bool x148_38 ∧ Aside0 (vJSONN_.j8 kq l0 (wrap64 (x3_24 + 1)) x148_38 = some r) ∧ Aside0 (kq ≤ kj33) ∧ Drawn0 w wc)
          case first => as_aux_lemma =>
           have H := HC39.out
           clear HC39
           by_cases c40 : (wrap64 (x3_24 + 1)) < (l0.length : Int)
           ·
            rw [if_pos c40] at H
            have c40b0 : decide ((wrap64 (x3_24 + 1)) < (l0.length : Int)) = true := decide_eq_true c40
            clear c40
            (first | rw [c40b0] | (simp only [i64_w, i32_w]; rw [c40b0]) | rw [c40b1] | skip)
            obtain ⟨ji41, hji41⟩ : ∃ j_ : Int, (wrap64 (x3_24 + 1)) = j_ := ⟨_, rfl⟩
            replace H : (if 0 ≤ (ji41) then (if (rd l0 (ji41)) = 43 then (vJSONN_.j8 kj33 l0 ji41 true) else (vJSONN_.j8 kj33 l0 ji41 ((rd l0 (ji41)) == 45))) else (none)) = some r := by first | (rw [hji41] at H; exact H) | (simp only [hji41] at H ⊢; exact H)
            (try rw [hji41] at c40b0)
            have hji41w : (IntKind.i64.wrap (x3_24 + 1)) = ji41 := (i64_w _).trans hji41
            by_cases c42 : 0 ≤ (ji41)
            ·
             rw [if_pos c42] at H
             have c42b0 : decide (0 ≤ (ji41)) = true := decide_eq_true c42
             clear c42
             by_cases c43 : (rd l0 (ji41)) = 43
             ·
              rw [if_pos c43] at H
              have c43b0 : ((rd l0 (ji41)) == 43) = true := beq_iff_eq.mpr c43
              have c43b1 : ((rd l0 (ji41)) != 43) = false := bne_eq_false_iff_eq.mpr c43
              clear c43
              as_aux_lemma =>
               have H' := Aside0.mk H
               clear H
               have p450 : 0 ≤ ((ji41) : Int) := dT
               have q450 : (ji41) < (l0.length : Int) := dT
               obtain ⟨ad450, e450, hx450_0⟩ := Kd.at_int HR0.out (ji41) p450 q450
               obtain rfl : ad437 = ad450 := (by injection e450)
               replace p450 := eq_true p450
               replace q450 := eq_true q450
               go_wp2
               first | (go_meet; case rel => exact ⟨_, (true), zE, (by first | exact H' | (rw [hji41]; exact H') | (simp only [hji41]; exact H') | (simp only [hji41] at H' ⊢; exact H')), ⟨by have := HJ2.out; have := HJ7.out; have := HJ21.out; have := HJ24.out; have := HJ33.out; first | omega | exact Nat.le_refl _⟩, zD⟩) | ((try subst hji41); go_meet; case rel => exact ⟨_, (true), zE, H', ⟨by have := HJ2.out; have := HJ7.out; have := HJ21.out; have := HJ24.out; have := HJ33.out; first | omega | exact Nat.le_refl _⟩, zD⟩)
             rw [if_neg c43] at H
             have c43b0 : ((rd l0 (ji41)) == 43) = false := beq_eq_false_iff_ne.mpr c43
             have c43b1 : ((rd l0 (ji41)) != 43) = true := bne_iff_ne.mpr c43
             as_aux_lemma =>
              have H' := Aside0.mk H
              clear H
              have p450 : 0 ≤ ((ji41) : Int) := dT
              have q450 : (ji41) < (l0.length : Int) := dT
              obtain ⟨ad450, e450, hx450_0⟩ := Kd.at_int HR0.out (ji41) p450 q450
              obtain rfl : ad437 = ad450 := (by injection e450)
              replace p450 := eq_true p450
              replace q450 := eq_true q450
              have p451 : 0 ≤ ((ji41) : Int) := dT
              have q451 : (ji41) < (l0.length : Int) := dT
              obtain ⟨ad451, e451, hx451_0⟩ := Kd.at_int HR0.out (ji41) p451 q451
              obtain rfl : ad437 = ad451 := (by injection e451)
              replace p451 := eq_true p451
              replace q451 := eq_true q451
              go_wp2
              first | (go_meet; case rel => exact ⟨_, (((rd l0 (ji41)) == 45)), (by first | rfl | (simp; done) | (simp only [← hji41] <;> (first | rfl | simp); done) | (simp [nil_ne_, nil_eq_]; done) | (simp [*]; done)), (by first | exact H' | (rw [hji41]; exact H') | (simp only [hji41]; exact H') | (simp only [hji41] at H' ⊢; exact H')), ⟨by have := HJ2.out; have := HJ7.out; have := HJ21.out; have := HJ24.out; have := HJ33.out; first | omega | exact Nat.le_refl _⟩, zD⟩) | ((try subst hji41); go_meet; case rel => exact ⟨_, (((rd l0 ((wrap64 (x3_24 + 1)))) == 45)), (by first | rfl | (simp; done) | (simp only [← h_none_] <;> (first | rfl | simp); done) | (simp [nil_ne_, nil_eq_]; done) | (simp [*]; done)), H', ⟨by have := HJ2.out; have := HJ7.out; have := HJ21.out; have := HJ24.out; have := HJ33.out; first | omega | exact Nat.le_refl _⟩, zD⟩)
            rw [if_neg c42] at H
            exact absurd H (by simp)
           rw [if_neg c40] at H
           have c40b0 : decide ((wrap64 (x3_24 + 1)) < (l0.length : Int)) = false := decide_eq_false c40
           clear c40
           (first | rw [c40b0] | (simp only [i64_w, i32_w]; rw [c40b0]) | rw [c40b1] | skip)
           as_aux_lemma =>
            have H' := Aside0.mk H
            clear H
            go_wp2
            go_meet
            case rel => exact ⟨_, (false), zE, H', ⟨by have := HJ2.out; have := HJ7.out; have := HJ21.out; have := HJ24.out; have := HJ33.out; first | omega | exact Nat.le_refl _⟩, zD⟩
          case rest => as_aux_lemma =>
           clear HC39
           (try clear c2b0); (try clear c2b1); (try clear c6b0); (try clear c7b0); (try clear c38); (try clear hx437_0); (try clear hx438_0); (try clear p437); (try clear p438); (try clear q437); (try clear q438)
           obtain ⟨kq, x148_38, rfl, HA, HJ38, ⟨mc38, rfl⟩⟩ := hcut
           rcases kq with _ | kj38
           · exact absurd HA.out (by simp [vJSONN_.j8])
           have H := HA.out
           clear HA
           simp only [vJSONN_.j8] at H
           have HC44 := Aside0.mk H
           clear H
           go_upto_if 148 with (fail)
           go_cut [3] (fun v3 wc => ∃ (kq : Nat) (x3_43 : Int), v3 = .int .i64 x3_43 ∧ Aside0 (vJSONN_.j9 kq l0 x3_43 = some r) ∧ Aside0 (kq ≤ kj38) ∧ Drawn0 w wc)
           case first => as_aux_lemma =>
            have H := HC44.out
            clear HC44
            by_cases c45 : x148_38 = true
            ·
             subst c45
             rw [if_pos rfl] at H
             as_aux_lemma =>
              have H' := Aside0.mk H
              clear H
              go_wp2
              go_meet
              case rel => exact ⟨_, (wrap64 ((wrap64 (x3_24 + 1)) + 1)), zE, H', ⟨by have := HJ2.out; have := HJ7.out; have := HJ21.out; have := HJ24.out; have := HJ33.out; have := HJ38.out; first | omega | exact Nat.le_refl _⟩, zD⟩
            replace c45 := Bool.eq_false_iff.mpr c45
            subst c45
            rw [if_neg Bool.false_ne_true] at H
            as_aux_lemma =>
             have H' := Aside0.mk H
             clear H
             go_wp2
             go_meet
             case rel => exact ⟨_, ((wrap64 (x3_24 + 1))), zE, H', ⟨by have := HJ2.out; have := HJ7.out; have := HJ21.out; have := HJ24.out; have := HJ33.out; have := HJ38.out; first | omega | exact Nat.le_refl _⟩, zD⟩
           case rest => as_aux_lemma =>
            clear HC44
            (try clear c2b0); (try clear c2b1); (try clear c6b0); (try clear c7b0); (try clear c38); (try clear hx437_0); (try clear hx438_0); (try clear p437); (try clear p438); (try clear q437); (try clear q438)
            obtain ⟨kq, x3_43, rfl, HA, HJ43, ⟨mc43, rfl⟩⟩ := hcut
            rcases kq with _ | kj43
            · exact absurd HA.out (by simp [vJSONN_.j9])
            have H := HA.out
            clear HA
            simp only [vJSONN_.j9] at H
            have H' := Aside0.mk H
            clear H
            go_wp2
            try simp only [Act.put, List.setIfInBounds_toArray, List.set_cons_succ, List.set_cons_zero]
            go_loopg [3] kj43 (fun kq v3 w' => ∃ (x3_8 : Int), v3 = .int .i64 x3_8 ∧ Aside0 (vJSONN_.l2 kq l0 x3_8 x3_43 = some r) ∧ Aside0 (kq ≤ kj43) ∧ Drawn0 w w')
            case atStart => exact ⟨(x3_43), zE, H', ⟨Nat.le_refl _⟩, zD⟩
            case round =>
             clear H'
             (try clear c2b0); (try clear c2b1); (try clear c6b0); (try clear c7b0); (try clear c38); (try clear hx437_0); (try clear hx438_0); (try clear p437); (try clear p438); (try clear q437); (try clear q438)
             obtain ⟨x3_8, rfl, HA, HK8, ⟨m8, rfl⟩⟩ := hrel
             rcases gk with _ | k8
             · exact absurd HA.out (by simp [vJSONN_.l2])
             have H := HA.out
             clear HA
             simp only [vJSONN_.l2] at H
             by_cases c46 : x3_8 < (l0.length : Int)
             ·
              rw [if_pos c46] at H
              have c46b0 : decide (x3_8 < (l0.length : Int)) = true := decide_eq_true c46
              clear c46
              by_cases c47 : 0 ≤ x3_8
              ·
               rw [if_pos c47] at H
               have c47b0 : decide (0 ≤ x3_8) = true := decide_eq_true c47
               clear c47
               by_cases c48 : (rd l0 x3_8) ≥ 48
               ·
                rw [if_pos c48] at H
                have c48b0 : decide (48 ≤ (rd l0 x3_8)) = true := decide_eq_true c48
                clear c48
                by_cases c49 : (rd l0 x3_8) ≤ 57
                ·
                 rw [if_pos c49] at H
                 have c49b0 : decide ((rd l0 x3_8) ≤ 57) = true := decide_eq_true c49
                 clear c49
                 as_aux_lemma =>
                  have H' := Aside0.mk H
                  clear H
                  have p452 : 0 ≤ (x3_8 : Int) := dT
                  have q452 : x3_8 < (l0.length : Int) := dT
                  obtain ⟨ad452, e452, hx452_0⟩ := Kd.at_int HR0.out x3_8 p452 q452
                  obtain rfl : ad437 = ad452 := (by injection e452)
                  replace p452 := eq_true p452
                  replace q452 := eq_true q452
                  have p453 : 0 ≤ (x3_8 : Int) := dT
                  have q453 : x3_8 < (l0.length : Int) := dT
                  obtain ⟨ad453, e453, hx453_0⟩ := Kd.at_int HR0.out x3_8 p453 q453
                  obtain rfl : ad437 = ad453 := (by injection e453)
                  replace p453 := eq_true p453
                  replace q453 := eq_true q453
                  go_wp2
                  go_roundg k8
                  case measure => have := HJ2.out; have := HJ7.out; have := HJ21.out; have := HJ24.out; have := HJ33.out; have := HJ38.out; have := HJ43.out; have := HK8.out; omega
                  case rel => exact ⟨(wrap64 (x3_8 + 1)), zE, H', ⟨by have := HJ2.out; have := HJ7.out; have := HJ21.out; have := HJ24.out; have := HJ33.out; have := HJ38.out; have := HJ43.out; have := HK8.out; omega⟩, zD⟩
                rw [if_neg c49] at H
                have c49b0 : decide ((rd l0 x3_8) ≤ 57) = false := decide_eq_false c49
                clear c49
                by_cases c50 : x3_8 = x3_43
                ·
                 rw [if_pos c50] at H
                 have c50b0 : (x3_8 == x3_43) = true := beq_iff_eq.mpr c50
                 have c50b1 : (x3_8 != x3_43) = false := bne_eq_false_iff_eq.mpr c50
                 clear c50
                 as_aux_lemma =>
                  obtain rfl := Option.some.inj H
                  have p452 : 0 ≤ (x3_8 : Int) := dT
                  have q452 : x3_8 < (l0.length : Int) := dT
                  obtain ⟨ad452, e452, hx452_0⟩ := Kd.at_int HR0.out x3_8 p452 q452
                  obtain rfl : ad437 = ad452 := (by injection e452)
                  replace p452 := eq_true p452
                  replace q452 := eq_true q452
                  have p453 : 0 ≤ (x3_8 : Int) := dT
                  have q453 : x3_8 < (l0.length : Int) := dT
                  obtain ⟨ad453, e453, hx453_0⟩ := Kd.at_int HR0.out x3_8 p453 q453
                  obtain rfl : ad437 = ad453 := (by injection e453)
                  replace p453 := eq_true p453
                  replace q453 := eq_true q453
                  go_wp2
                  go_ret
                  exact ⟨by first | rfl | (simp; done) | (simp [nil_ne_, nil_eq_]; done) | (simp [*]; done), zD⟩
                rw [if_neg c50] at H
                have c50b0 : (x3_8 == x3_43) = false := beq_eq_false_iff_ne.mpr c50
                have c50b1 : (x3_8 != x3_43) = true := bne_iff_ne.mpr c50
                as_aux_lemma =>
                 obtain rfl := Option.some.inj H
                 have p452 : 0 ≤ (x3_8 : Int) := dT
                 have q452 : x3_8 < (l0.length : Int) := dT
                 obtain ⟨ad452, e452, hx452_0⟩ := Kd.at_int HR0.out x3_8 p452 q452
                 obtain rfl : ad437 = ad452 := (by injection e452)
                 replace p452 := eq_true p452
                 replace q452 := eq_true q452
                 have p453 : 0 ≤ (x3_8 : Int) := dT
                 have q453 : x3_8 < (l0.length : Int) := dT
                 obtain ⟨ad453, e453, hx453_0⟩ := Kd.at_int HR0.out x3_8 p453 q453
                 obtain rfl : ad437 = ad453 := (by injection e453)
                 replace p453 := eq_true p453
                 replace q453 := eq_true q453
                 go_wp2
                 go_ret
                 exact ⟨by first | rfl | (simp; done) | (simp [nil_ne_, nil_eq_]; done) | (simp [*]; done), zD⟩
               rw [if_neg c48] at H
               have c48b0 : decide (48 ≤ (rd l0 x3_8)) = false := decide_eq_false c48
               clear c48
               by_cases c51 : x3_8 = x3_43
               ·
                rw [if_pos c51] at H
                have c51b0 : (x3_8 == x3_43) = true := beq_iff_eq.mpr c51
                have c51b1 : (x3_8 != x3_43) = false := bne_eq_false_iff_eq.mpr c51
                clear c51
                as_aux_lemma =>
                 obtain rfl := Option.some.inj H
                 have p452 : 0 ≤ (x3_8 : Int) := dT
                 have q452 : x3_8 < (l0.length : Int) := dT
                 obtain ⟨ad452, e452, hx452_0⟩ := Kd.at_int HR0.out x3_8 p452 q452
                 obtain rfl : ad437 = ad452 := (by injection e452)
                 replace p452 := eq_true p452
                 replace q452 := eq_true q452
                 go_wp2
                 go_ret
                 exact ⟨by first | rfl | (simp; done) | (simp [nil_ne_, nil_eq_]; done) | (simp [*]; done), zD⟩
               rw [if_neg c51] at H
               have c51b0 : (x3_8 == x3_43) = false := beq_eq_false_iff_ne.mpr c51
               have c51b1 : (x3_8 != x3_43) = true := bne_iff_ne.mpr c51
               as_aux_lemma =>
                obtain rfl := Option.some.inj H
                have p452 : 0 ≤ (x3_8 : Int) := dT
                have q452 : x3_8 < (l0.length : Int) := dT
                obtain ⟨ad452, e452, hx452_0⟩ := Kd.at_int HR0.out x3_8 p452 q452
                obtain rfl : ad437 = ad452 := (by injection e452)
                replace p452 := eq_true p452
                replace q452 := eq_true q452
                go_wp2
                go_ret
                exact ⟨by first | rfl | (simp; done) | (simp [nil_ne_, nil_eq_]; done) | (simp [*]; done), zD⟩
              rw [if_neg c47] at H
              exact absurd H (by simp)
             rw [if_neg c46] at H
             have c46b0 : decide (x3_8 < (l0.length : Int)) = false := decide_eq_false c46
             clear c46
             by_cases c52 : x3_8 = x3_43
             ·
              rw [if_pos c52] at H
              have c52b0 : (x3_8 == x3_43) = true := beq_iff_eq.mpr c52
              have c52b1 : (x3_8 != x3_43) = false := bne_eq_false_iff_eq.mpr c52
              clear c52
              as_aux_lemma =>
               obtain rfl := Option.some.inj H
               go_wp2
               go_ret
               exact ⟨by first | rfl | (simp; done) | (simp [nil_ne_, nil_eq_]; done) | (simp [*]; done), zD⟩
             rw [if_neg c52] at H
             have c52b0 : (x3_8 == x3_43) = false := beq_eq_false_iff_ne.mpr c52
             have c52b1 : (x3_8 != x3_43) = true := bne_iff_ne.mpr c52
             as_aux_lemma =>
              obtain rfl := Option.some.inj H
              go_wp2
              go_ret
              exact ⟨by first | rfl | (simp; done) | (simp [nil_ne_, nil_eq_]; done) | (simp [*]; done), zD⟩
         replace c38 := Bool.eq_false_iff.mpr c38
         subst c38
         rw [if_neg Bool.false_ne_true] at H
         as_aux_lemma =>
          obtain rfl := Option.some.inj H
          go_wp2
          go_ret
          exact ⟨by first | rfl | (simp; done) | (simp [nil_ne_, nil_eq_]; done) | (simp [*]; done), zD⟩
    rw [if_neg c7] at H
    exact absurd H (by simp)
   rw [if_neg c6] at H
   exact absurd H (by simp)
 rw [if_neg c2] at H
 exact absurd H (by simp)
end Go.Proofs.YtmneeighbkcadaaDoor.PFnJpLength