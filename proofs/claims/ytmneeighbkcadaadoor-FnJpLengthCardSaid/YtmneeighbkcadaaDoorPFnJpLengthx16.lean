/- what the Go functions that the law FnJpLength reaches compute, each as a plain function, with the proof that the Go code computes just that; no condition beside those that each theorem states. -/
import Derived.Test.YtmneeighbkcadaaDoorPFnJpLengthx0
import Derived.Test.YtmneeighbkcadaaDoorPFnJpLengthx14
import Derived.Test.YtmneeighbkcadaaDoorPFnJpLengthx15
namespace Go.Proofs.YtmneeighbkcadaaDoor.PFnJpLength
open Go.RowKit Go.Proofs.YtmneeighbkcadaaDoorW.PrintWords Go.Proofs.YtmneeighbkcadaaDoorW.PrintLast Go.Proofs.YtmneeighbkcadaaDoorW.PrintMore
set_option linter.unusedVariables false
set_option linter.unusedSimpArgs false
mutual
def vCP_.j1 : Nat → List Int → Option (Bool)
  | 0, _ => none
  | k + 1, x0 => if (x0.length : Int) = 0 then (some false) else (if (strOfNums x0).toList = ([116, 114, 117, 101] : List UInt8) then (some true) else (if (strOfNums x0).toList = ([102, 97, 108, 115, 101] : List UInt8) then (some true) else (if (strOfNums x0).toList = ([110, 117, 108, 108] : List UInt8) then (some true) else ((vJSONN_.f k x0).bind fun t461 => (some t461)))))
def vCP_.l0 : Nat → List Int → Option (Bool)
  | 0, _ => none
  | k + 1, x0 => if (x0.length : Int) > 0 then (if 0 ≤ (wrap64 ((x0.length : Int) - 1)) then (if (wrap64 ((x0.length : Int) - 1)) < (x0.length : Int) then ((iCW_.f (rd x0 (wrap64 ((x0.length : Int) - 1)))).bind fun t455 => (if t455 = true then (if (wrap64 ((x0.length : Int) - 1)) ≤ (x0.length : Int) then (vCP_.l0 k (x0.take ((wrap64 ((x0.length : Int) - 1)) : Int).toNat)) else (none)) else (vCP_.j1 k x0))) else (none)) else (none)) else (vCP_.j1 k x0)
end
def vCP_.f (k : Nat) (l0 : List Int) : Option (Bool) := vCP_.l0 k l0
set_option maxHeartbeats 8000000 in
set_option maxRecDepth 100000 in
theorem vCP_.calls (k : Nat) (P0_ : Nat → Prop) (A0 : Option Addr) (c0 : Nat) (l0 : List Int) (r : Bool) (w : World) (hs0 : Kd.V (Kd.int .u8) 5 w w.heap.size (fun k_ => P0_ k_) (.slice A0 l0.length c0) l0) (h : vCP_.f k l0 = some r) :
    Calls Tryd.prog 27 #[.slice A0 l0.length c0] w fun e w' => e = .returned (.bool r) ∧ Below w.heap.size w w' := by
 have HO0 := Aside0.mk (show Kd.V (Kd.int .u8) 5 w w.heap.size (fun k_ => (P0_ k_ ∨ w.heap.size ≤ k_)) (.slice A0 l0.length c0) l0 from Kd.V_mono hs0 (fun k_ hk => .inl hk))
 have HB := Aside0.mk (Below.refl w.heap.size w)
 have H : (vCP_.l0 k l0) = some r := h
 clear h
 have HC2 := Aside0.mk H
 clear H
 go_enter Tryd.func27, Tryd.ntmps27
 go_upto_block 0 with (fail)
 go_cut [0] (fun v0 wc => ∃ (kq : Nat) (x0_1 : List Int), Aside0 (vCP_.j1 kq x0_1 = some r) ∧ Aside0 (kq ≤ k) ∧ Aside0 (Kd.V (Kd.int .u8) 5 wc w.heap.size (fun k_ => (P0_ k_ ∨ w.heap.size ≤ k_)) v0 x0_1) ∧ Aside0 (Below w.heap.size w wc))
 case first =>
  have H := HC2.out
  clear HC2
  have H' := Aside0.mk H
  clear H
  go_wp2
  try simp only [Act.put, List.setIfInBounds_toArray, List.set_cons_succ, List.set_cons_zero]
  go_loopg [0] k (fun kq v0 w' => ∃ (x0_1 : List Int), Aside0 (vCP_.l0 kq x0_1 = some r) ∧ Aside0 (kq ≤ k) ∧ Aside0 (Kd.V (Kd.int .u8) 5 w' w.heap.size (fun k_ => (P0_ k_ ∨ w.heap.size ≤ k_)) v0 x0_1) ∧ Aside0 (Below w.heap.size w w'))
  case atStart => exact ⟨(l0), H', ⟨Nat.le_refl _⟩, ⟨by (with_reducible repeat (first | apply Kd.V_alloc | apply Kd.V_drewN | apply Kd.V_drew)); exact HO0.out⟩, ⟨zB HB.out⟩⟩
  case round =>
   clear H'
   obtain ⟨x0_1, HA, HK1, HO_0, HB⟩ := hrel
   rcases gk with _ | k1
   · exact absurd HA.out (by simp [vCP_.l0])
   have H := HA.out
   clear HA
   simp only [vCP_.l0] at H
   by_cases c3 : (x0_1.length : Int) > 0
   ·
    rw [if_pos c3] at H
    have c3b0 : decide (0 < (x0_1.length : Int)) = true := decide_eq_true c3
    have c3b1 : decide (0 < x0_1.length) = true := decide_eq_true (by omega)
    clear c3
    (first | rw [c3b0] | (simp only [i64_w, i32_w]; rw [c3b0]) | rw [c3b1] | skip)
    obtain ⟨ji4, hji4⟩ : ∃ j_ : Int, (wrap64 ((x0_1.length : Int) - 1)) = j_ := ⟨_, rfl⟩
    replace H : (if 0 ≤ (ji4) then (if (ji4) < (x0_1.length : Int) then ((iCW_.f (rd x0_1 (ji4))).bind fun t455 => (if t455 = true then (if (ji4) ≤ (x0_1.length : Int) then (vCP_.l0 k1 (x0_1.take ((ji4) : Int).toNat)) else (none)) else (vCP_.j1 k1 x0_1))) else (none)) else (none)) = some r := by first | (rw [hji4] at H; exact H) | (simp only [hji4] at H ⊢; exact H)
    have hji4w : (IntKind.i64.wrap ((x0_1.length : Int) - 1)) = ji4 := (i64_w _).trans hji4
    by_cases c5 : 0 ≤ (ji4)
    ·
     rw [if_pos c5] at H
     have c5b0 : decide (0 ≤ (ji4)) = true := decide_eq_true c5
     clear c5
     by_cases c6 : (ji4) < (x0_1.length : Int)
     ·
      rw [if_pos c6] at H
      have c6b0 : decide ((ji4) < (x0_1.length : Int)) = true := decide_eq_true c6
      clear c6
      replace H := Option.bind_eq_some_iff.mp H
      obtain ⟨t455, A70, H⟩ := H
      try dsimp only at H
      have A7 := Aside0.mk A70
      clear A70
      by_cases c8 : t455 = true
      ·
       subst c8
       rw [if_pos rfl] at H
       have c9b0 := eq_true (dT : 0 ≤ (ji4))
       by_cases c10 : (ji4) ≤ (x0_1.length : Int)
       ·
        rw [if_pos c10] at H
        have c10b0 := eq_true c10
        have c10b1 : decide ((ji4) ≤ (x0_1.length : Int)) = true := decide_eq_true c10
        clear c10
        obtain ⟨y456, hy456⟩ : ∃ y_ : List Int, y_ = (x0_1.take ((ji4) : Int).toNat) := ⟨_, rfl⟩
        replace H : (vCP_.l0 k1 y456) = some r := by first | (rw [hy456]; with_reducible exact H) | (have H2_ := (Option.bind_some _ _).symm.trans H; rw [hy456]; with_reducible exact H2_) | (have H2_ := (Option.bind_some _ _).symm.trans H; with_reducible exact H2_) | with_reducible exact H | (rw [hy456]; exact H) | exact H
        have Ny456 := Aside0.mk hy456
        clear hy456
        have H' := Aside0.mk H
        clear H
        obtain ⟨Ao11, co11, eo11⟩ := Kd.V_slice HO_0.out
        subst eo11
        have p454 : 0 ≤ ((ji4) : Int) := dT
        have q454 : (ji4) < (x0_1.length : Int) := dT
        obtain ⟨ad454, e454, hx454_0⟩ := Kd.at_int (Kd.V_reads' HO_0.out).2.2 (ji4) p454 q454
        cases e454
        replace p454 := eq_true p454
        replace q454 := eq_true q454
        go_wp2_with (first | (go_at_call 26; (with_reducible refine (iCW_.calls (rd x0_1 (ji4)) true _ A7.out).mono ?_); rintro e w' ⟨rfl, ⟨nd, rfl⟩⟩; have q12 : ((ji4) : Int) ≤ ((x0_1.length : Int) : Int) := dT; obtain ⟨i012, hi012, _, hsz12, _⟩ := info_parts info5; have hroom12 : x0_1.length ≤ co11 := (Kd.V_reads' HO_0.out).2.1; have hC12 : Kd.F (Kd.int .u8) _ _ (some ad454) x0_1.length x0_1 := (Kd.V_at (base := w.heap.size) HO_0.out).2.2; have hcut12 := cut_to (P := Tryd.prog) 47 5 .i64 Tryd.underlying47 hi012 (some ad454) x0_1.length co11 (ji4) (dT) q12 hroom12; have hr12 := Kd.F_take (m := ((ji4) : Int).toNat) hC12 (by omega); have hy12 : y456.length = ((ji4) : Int).toNat := (by rw [Ny456.out, List.length_take]; omega); rw [← Ny456.out] at hr12; rw [← hy12] at hcut12; have HO460 := Aside0.mk (show Kd.V (Kd.int .u8) 5 _ w.heap.size _ (.slice (some ad454) y456.length co11) y456 from Kd.V_mk (by omega) hr12); have HC460 := Aside0.mk (show y456.length ≤ co11 from by omega); clear hr12 hC12 hroom12 hi012 hsz12; have KY12 := Aside0.mk hy12; clear hy12; replace q12 := eq_true q12))
        go_roundg k1
        case measure => have := HK1.out; omega
        case rel => exact ⟨(y456), (by first | exact H' | (rw [hji4]; exact H') | (simp only [hji4]; exact H') | (simp only [hji4] at H' ⊢; exact H')), ⟨by have := HK1.out; omega⟩, ⟨by (with_reducible repeat (first | apply Kd.V_alloc | apply Kd.V_drewN | apply Kd.V_drew)); exact HO460.out⟩, ⟨zB HB.out⟩⟩
       rw [if_neg c10] at H
       exact absurd H (by simp)
      replace c8 := Bool.eq_false_iff.mpr c8
      subst c8
      rw [if_neg Bool.false_ne_true] at H
      have H' := Aside0.mk H
      clear H
      obtain ⟨Ao13, co13, eo13⟩ := Kd.V_slice HO_0.out
      subst eo13
      have p454 : 0 ≤ ((ji4) : Int) := dT
      have q454 : (ji4) < (x0_1.length : Int) := dT
      obtain ⟨ad454, e454, hx454_0⟩ := Kd.at_int (Kd.V_reads' HO_0.out).2.2 (ji4) p454 q454
      cases e454
      replace p454 := eq_true p454
      replace q454 := eq_true q454
      go_wp2_with (first | (go_at_call 26; (with_reducible refine (iCW_.calls (rd x0_1 (ji4)) false _ A7.out).mono ?_); rintro e w' ⟨rfl, ⟨nd, rfl⟩⟩))
      first | (go_meet; case rel => exact ⟨_, (x0_1), (by first | exact H' | (rw [hji4]; exact H') | (simp only [hji4]; exact H') | (simp only [hji4] at H' ⊢; exact H')), ⟨by have := HK1.out; first | omega | exact Nat.le_refl _⟩, ⟨by (with_reducible repeat (first | apply Kd.V_alloc | apply Kd.V_drewN | apply Kd.V_drew)); exact HO_0.out⟩, ⟨zB HB.out⟩⟩) | ((try subst hji4); go_meet; case rel => exact ⟨_, (x0_1), H', ⟨by have := HK1.out; first | omega | exact Nat.le_refl _⟩, ⟨by (with_reducible repeat (first | apply Kd.V_alloc | apply Kd.V_drewN | apply Kd.V_drew)); exact HO_0.out⟩, ⟨zB HB.out⟩⟩)
     rw [if_neg c6] at H
     exact absurd H (by simp)
    rw [if_neg c5] at H
    exact absurd H (by simp)
   rw [if_neg c3] at H
   have c3b0 : decide (0 < (x0_1.length : Int)) = false := decide_eq_false c3
   have c3b1 : decide (0 < x0_1.length) = false := decide_eq_false (by omega)
   clear c3
   (first | rw [c3b0] | (simp only [i64_w, i32_w]; rw [c3b0]) | rw [c3b1] | skip)
   have H' := Aside0.mk H
   clear H
   obtain ⟨Ao14, co14, eo14⟩ := Kd.V_slice HO_0.out
   subst eo14
   go_wp2
   go_meet
   case rel => exact ⟨_, (x0_1), H', ⟨by have := HK1.out; first | omega | exact Nat.le_refl _⟩, ⟨by (with_reducible repeat (first | apply Kd.V_alloc | apply Kd.V_drewN | apply Kd.V_drew)); exact HO_0.out⟩, ⟨zB HB.out⟩⟩
 clear HC2
 obtain ⟨kq, x0_1, HA, HJ1, HO_0, HB⟩ := hcut
 rcases kq with _ | kj1
 · exact absurd HA.out (by simp [vCP_.j1])
 have H := HA.out
 clear HA
 simp only [vCP_.j1] at H
 by_cases c15 : (x0_1.length : Int) = 0
 ·
  rw [if_pos c15] at H
  have c15b0 : ((x0_1.length : Int) == 0) = true := beq_iff_eq.mpr c15
  have c15b1 : ((x0_1.length : Int) != 0) = false := bne_eq_false_iff_eq.mpr c15
  clear c15
  obtain rfl := Option.some.inj H
  obtain ⟨Ao16, co16, eo16⟩ := Kd.V_slice HO_0.out
  subst eo16
  go_wp2
  go_ret
  exact ⟨zX, zB HB.out⟩
 rw [if_neg c15] at H
 have c15b0 : ((x0_1.length : Int) == 0) = false := beq_eq_false_iff_ne.mpr c15
 have c15b1 : ((x0_1.length : Int) != 0) = true := bne_iff_ne.mpr c15
 have c15b2 : ¬ (x0_1 = []) := fun h_ => c15 (by rw [h_]; rfl)
 by_cases c17 : (strOfNums x0_1).toList = ([116, 114, 117, 101] : List UInt8)
 ·
  rw [if_pos c17] at H
  have c17b0 : ((strOfNums x0_1).toList == ([116, 114, 117, 101] : List UInt8)) = true := beq_iff_eq.mpr c17
  have c17b1 : ((strOfNums x0_1).toList != ([116, 114, 117, 101] : List UInt8)) = false := bne_eq_false_iff_eq.mpr c17
  clear c17
  obtain rfl := Option.some.inj H
  obtain ⟨Ao18, co18, eo18⟩ := Kd.V_slice HO_0.out
  subst eo18
  have hcv19 := Kd.C_string (P := Tryd.prog) (A := Ao18) (c := co18) Tryd.underlying47 Tryd.underlying5 Tryd.underlying9 (Kd.V_reads' HO_0.out).2.2
  go_wp2
  go_ret
  exact ⟨zX, zB HB.out⟩
 rw [if_neg c17] at H
 have c17b0 : ((strOfNums x0_1).toList == ([116, 114, 117, 101] : List UInt8)) = false := beq_eq_false_iff_ne.mpr c17
 have c17b1 : ((strOfNums x0_1).toList != ([116, 114, 117, 101] : List UInt8)) = true := bne_iff_ne.mpr c17
 by_cases c20 : (strOfNums x0_1).toList = ([102, 97, 108, 115, 101] : List UInt8)
 ·
  rw [if_pos c20] at H
  have c20b0 : ((strOfNums x0_1).toList == ([102, 97, 108, 115, 101] : List UInt8)) = true := beq_iff_eq.mpr c20
  have c20b1 : ((strOfNums x0_1).toList != ([102, 97, 108, 115, 101] : List UInt8)) = false := bne_eq_false_iff_eq.mpr c20
  clear c20
  obtain rfl := Option.some.inj H
  obtain ⟨Ao21, co21, eo21⟩ := Kd.V_slice HO_0.out
  subst eo21
  have hcv22 := Kd.C_string (P := Tryd.prog) (A := Ao21) (c := co21) Tryd.underlying47 Tryd.underlying5 Tryd.underlying9 (Kd.V_reads' HO_0.out).2.2
  have hcv23 := Kd.C_string (P := Tryd.prog) (A := Ao21) (c := co21) Tryd.underlying47 Tryd.underlying5 Tryd.underlying9 (Kd.V_reads' HO_0.out).2.2
  go_wp2
  go_ret
  exact ⟨zX, zB HB.out⟩
 rw [if_neg c20] at H
 have c20b0 : ((strOfNums x0_1).toList == ([102, 97, 108, 115, 101] : List UInt8)) = false := beq_eq_false_iff_ne.mpr c20
 have c20b1 : ((strOfNums x0_1).toList != ([102, 97, 108, 115, 101] : List UInt8)) = true := bne_iff_ne.mpr c20
 by_cases c24 : (strOfNums x0_1).toList = ([110, 117, 108, 108] : List UInt8)
 ·
  rw [if_pos c24] at H
  have c24b0 : ((strOfNums x0_1).toList == ([110, 117, 108, 108] : List UInt8)) = true := beq_iff_eq.mpr c24
  have c24b1 : ((strOfNums x0_1).toList != ([110, 117, 108, 108] : List UInt8)) = false := bne_eq_false_iff_eq.mpr c24
  clear c24
  obtain rfl := Option.some.inj H
  obtain ⟨Ao25, co25, eo25⟩ := Kd.V_slice HO_0.out
  subst eo25
  have hcv26 := Kd.C_string (P := Tryd.prog) (A := Ao25) (c := co25) Tryd.underlying47 Tryd.underlying5 Tryd.underlying9 (Kd.V_reads' HO_0.out).2.2
  have hcv27 := Kd.C_string (P := Tryd.prog) (A := Ao25) (c := co25) Tryd.underlying47 Tryd.underlying5 Tryd.underlying9 (Kd.V_reads' HO_0.out).2.2
  have hcv28 := Kd.C_string (P := Tryd.prog) (A := Ao25) (c := co25) Tryd.underlying47 Tryd.underlying5 Tryd.underlying9 (Kd.V_reads' HO_0.out).2.2
  go_wp2
  go_ret
  exact ⟨zX, zB HB.out⟩
 rw [if_neg c24] at H
 have c24b0 : ((strOfNums x0_1).toList == ([110, 117, 108, 108] : List UInt8)) = false := beq_eq_false_iff_ne.mpr c24
 have c24b1 : ((strOfNums x0_1).toList != ([110, 117, 108, 108] : List UInt8)) = true := bne_iff_ne.mpr c24
 replace H := Option.bind_eq_some_iff.mp H
 obtain ⟨t461, A290, H⟩ := H
 try dsimp only at H
 have A29 := Aside0.mk A290
 clear A290
 obtain rfl := Option.some.inj H
 obtain ⟨Ao30, co30, eo30⟩ := Kd.V_slice HO_0.out
 subst eo30
 have hcv31 := Kd.C_string (P := Tryd.prog) (A := Ao30) (c := co30) Tryd.underlying47 Tryd.underlying5 Tryd.underlying9 (Kd.V_reads' HO_0.out).2.2
 have hcv32 := Kd.C_string (P := Tryd.prog) (A := Ao30) (c := co30) Tryd.underlying47 Tryd.underlying5 Tryd.underlying9 (Kd.V_reads' HO_0.out).2.2
 have hcv33 := Kd.C_string (P := Tryd.prog) (A := Ao30) (c := co30) Tryd.underlying47 Tryd.underlying5 Tryd.underlying9 (Kd.V_reads' HO_0.out).2.2
 go_wp2_with (first | ((with_reducible refine gate_callee (f := 37) rfl ?_); refine goesL_ (some 37) rfl rfl Tryd.func37 (by kernel_rfl) rfl #[.slice Ao30 x0_1.length co30] rfl zM ?_; (with_reducible refine (vJSONN_.calls kj1 _ _ x0_1 t461 _ ?side1 ?side2 A29.out).mono ?_); (case side1 => repeat (first | exact (Kd.V_reads' HO_0.out).2.2 | (with_reducible refine Kd.C_alloc ?_ _) | (with_reducible refine Kd.C_drewN ?_ _) | (with_reducible refine Kd.C_drew ?_))); (case side2 => exact (Kd.V_reads' HO_0.out).2.1); rintro e w' ⟨rfl, ⟨nd, rfl⟩⟩; refine ⟨_, rfl, ?_⟩))
 go_ret
 exact ⟨zX, zB HB.out⟩
end Go.Proofs.YtmneeighbkcadaaDoor.PFnJpLength