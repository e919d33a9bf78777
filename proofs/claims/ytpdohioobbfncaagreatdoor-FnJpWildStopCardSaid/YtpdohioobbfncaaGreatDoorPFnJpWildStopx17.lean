/- what the Go functions that the law FnJpWildStop reaches compute, each as a plain function, with the proof that the Go code computes just that; no condition beside those that each theorem states. -/
import Derived.Test.YtpdohioobbfncaaGreatDoorPFnJpWildStopx0
import Derived.Test.YtpdohioobbfncaaGreatDoorPFnJpWildStopx16
namespace Go.Proofs.YtpdohioobbfncaaGreatDoor.PFnJpWildStop
open Go.RowKit Go.Proofs.YtpdohioobbfncaaGreatDoorW.PrintWords Go.Proofs.YtpdohioobbfncaaGreatDoorW.PrintLast Go.Proofs.YtpdohioobbfncaaGreatDoorW.PrintMore
set_option linter.unusedVariables false
set_option linter.unusedSimpArgs false
def dUE_.j0 : Nat → List Int → Int → Bool → Option (Int × Int)
  | 0, _, _, _ => none
  | k + 1, x0, x4, x35 => if x35 = true then (some (65533, 6)) else (if 6 ≤ (x0.length : Int) then ((dSUE_.f k (x0.drop 6)).bind fun bt468 => (if bt468.2 = true then (if bt468.1 < 56320 then (some (65533, 6)) else (if bt468.1 > 57343 then (some (65533, 6)) else ((cUTFS_.f x4 bt468.1).bind fun t470 => (some (t470, 12))))) else (some (65533, (-1))))) else (none))
def dUE_.f (k : Nat) (l0 : List Int) : Option (Int × Int) := (dSUE_.f k l0).bind fun bt462 => (if bt462.2 = true then ((iUTFER_.f bt462.1).bind fun t464 => (if t464 = true then (if bt462.1 ≥ 56320 then (some (65533, 6)) else (if (l0.length : Int) < 8 then (dUE_.j0 k l0 bt462.1 true) else (if 6 < (l0.length : Int) then (if (rd l0 6) = 92 then (if 7 < (l0.length : Int) then (dUE_.j0 k l0 bt462.1 ((rd l0 7) != 117)) else (none)) else (dUE_.j0 k l0 bt462.1 true)) else (none)))) else (some (bt462.1, 6)))) else (some (65533, (-1))))
set_option maxHeartbeats 8000000 in
set_option maxRecDepth 100000 in
theorem dUE_.calls (k : Nat) (A0 : Option Addr) (c0 : Nat) (l0 : List Int) (r1 : Int) (r2 : Int) (w : World) (hr0 : Kd.C (Kd.int .u8) w A0 l0.length l0) (hc0 : l0.length ≤ c0) (h : dUE_.f k l0 = some (r1, r2)) :
    Calls Tryz.prog 86 #[.slice A0 l0.length c0] w fun e w' => e = .returned (.tuple #[.int .i32 r1, .int .i64 r2]) ∧ Drawn0 w w' := by
 have HR0 := Aside0.mk hr0
 have HC0 := Aside0.mk hc0
 clear hr0 hc0
 have H : ((dSUE_.f k l0).bind fun bt462 => (if bt462.2 = true then ((iUTFER_.f bt462.1).bind fun t464 => (if t464 = true then (if bt462.1 ≥ 56320 then (some (65533, 6)) else (if (l0.length : Int) < 8 then (dUE_.j0 k l0 bt462.1 true) else (if 6 < (l0.length : Int) then (if (rd l0 6) = 92 then (if 7 < (l0.length : Int) then (dUE_.j0 k l0 bt462.1 ((rd l0 7) != 117)) else (none)) else (dUE_.j0 k l0 bt462.1 true)) else (none)))) else (some (bt462.1, 6)))) else (some (65533, (-1))))) = some (r1, r2) := h
 clear h
 replace H := Option.bind_eq_some_iff.mp H
 obtain ⟨⟨t462, t463⟩, A20, H⟩ := H
 try dsimp only at H
 have A2 := Aside0.mk A20
 clear A20
 by_cases c3 : t463 = true
 subst c3
 rw [if_pos rfl] at H
 replace H := Option.bind_eq_some_iff.mp H
 obtain ⟨t464, A40, H⟩ := H
 try dsimp only at H
 have A4 := Aside0.mk A40
 clear A40
 by_cases c5 : t464 = true
 subst c5
 rw [if_pos rfl] at H
 by_cases c6 : t462 ≥ 56320
 rw [if_pos c6] at H
 have c6b0 := decide_eq_true c6
 clear c6
 simp only [Option.some.injEq, Prod.mk.injEq] at H
 obtain ⟨rfl, rfl⟩ := H
 go_enter Tryz.func86, Tryz.ntmps86
 rotate_left
 ·
  rw [if_neg c6] at H
  have c6b0 := decide_eq_false c6
  clear c6
  have HC7 := Aside0.mk H
  clear H
  go_enter Tryz.func86, Tryz.ntmps86
  go_upto_region 8 with (first | ((with_reducible refine gate_callee (f := 93) rfl ?_); refine goesL_ (some 10) rfl rfl Tryz.func93 (by kernel_rfl) rfl #[.slice A0 l0.length c0] rfl zM ?_; (with_reducible refine (dSUE_.calls k _ _ l0 t462 true _ ?side1 ?side2 A2.out).mono ?_); (case side1 => exact zkc HR0.out); (case side2 => exact HC0.out); rintro e w' ⟨rfl, ⟨nd, rfl⟩⟩; refine ⟨_, rfl, ?_⟩) | ((with_reducible refine gate_callee (f := 94) rfl ?_); refine goesL_ (some 16) rfl rfl Tryz.func94 (by kernel_rfl) rfl #[.int .i32 t462] rfl zM ?_; (with_reducible refine (iUTFER_.calls t462 true _ A4.out).mono ?_); rintro e w' ⟨rfl, ⟨nd, rfl⟩⟩; refine ⟨_, rfl, ?_⟩))
  (try simp only [Act.put, List.setIfInBounds_toArray, List.set_cons_zero, List.set_cons_succ])
  go_cut [35] (fun v35 wc => ∃ (kq : Nat) (x35_6 : Bool), v35 = .bool x35_6 ∧ Aside0 (dUE_.j0 kq l0 t462 x35_6 = some (r1, r2)) ∧ Aside0 (kq ≤ k) ∧ Drawn0 w wc)
  case first =>
   have H := HC7.out
   clear HC7
   by_cases c8 : (l0.length : Int) < 8
   ·
    rw [if_pos c8] at H
    have c8b0 := decide_eq_true c8
    have c8b1 : decide (l0.length < 8) = true := decide_eq_true (by omega)
    clear c8
    (first | rw [c8b0] | (simp only [i64_w, i32_w]; rw [c8b0]) | rw [c8b1] | skip)
    have H' := Aside0.mk H
    clear H
    go_wp2
    go_meet
    case rel => exact ⟨_, (true), zE, H', ⟨by first | omega | exact Nat.le_refl _⟩, zD⟩
   rw [if_neg c8] at H
   have c8b0 := decide_eq_false c8
   have c8b1 : decide (l0.length < 8) = false := decide_eq_false (by omega)
   clear c8
   (first | rw [c8b0] | (simp only [i64_w, i32_w]; rw [c8b0]) | rw [c8b1] | skip)
   by_cases c9 : 6 < (l0.length : Int)
   ·
    rw [if_pos c9] at H
    have c9b0 := decide_eq_true c9
    have c9b1 : decide (6 < l0.length) = true := decide_eq_true (by omega)
    clear c9
    by_cases c10 : (rd l0 6) = 92
    ·
     rw [if_pos c10] at H
     have c10b0 := beq_iff_eq.mpr c10
     have c10b1 := bne_eq_false_iff_eq.mpr c10
     clear c10
     by_cases c11 : 7 < (l0.length : Int)
     ·
      rw [if_pos c11] at H
      have c11b0 := decide_eq_true c11
      have c11b1 : decide (7 < l0.length) = true := decide_eq_true (by omega)
      clear c11
      have H' := Aside0.mk H
      clear H
      have p465 : 0 ≤ (6 : Int) := (by omega)
      have q465 : 6 < (l0.length : Int) := dT
      obtain ⟨ad465, e465, hx465_0⟩ := Kd.at_int HR0.out 6 p465 q465
      cases e465
      (try simp only [show (6 : Int).toNat = 6 from rfl, Nat.reduceMul, Nat.reduceEqDiff, Go.Addr.add, ↓reduceIte] at hx465_0)
      have qi465 : (6 < l0.length) = True := eq_true (by omega)
      (try rw [show ((6 : Int)).toNat = 6 from rfl] at hx465_0)
      replace p465 := eq_true p465
      replace q465 := eq_true q465
      have p466 : 0 ≤ (7 : Int) := (by omega)
      have q466 : 7 < (l0.length : Int) := dT
      obtain ⟨ad466, e466, hx466_0⟩ := Kd.at_int HR0.out 7 p466 q466
      obtain rfl : ad465 = ad466 := (by injection e466)
      (try simp only [show (7 : Int).toNat = 7 from rfl, Nat.reduceMul, Nat.reduceEqDiff, Go.Addr.add, ↓reduceIte] at hx466_0)
      have qi466 : (7 < l0.length) = True := eq_true (by omega)
      (try rw [show ((7 : Int)).toNat = 7 from rfl] at hx466_0)
      replace p466 := eq_true p466
      replace q466 := eq_true q466
      go_wp2
      go_meet
      case rel => exact ⟨_, (((rd l0 7) != 117)), zE, H', ⟨by first | omega | exact Nat.le_refl _⟩, zD⟩
     rw [if_neg c11] at H
     exact absurd H (by simp)
    rw [if_neg c10] at H
    have c10b0 := beq_eq_false_iff_ne.mpr c10
    have c10b1 := bne_iff_ne.mpr c10
    have H' := Aside0.mk H
    clear H
    have p465 : 0 ≤ (6 : Int) := (by omega)
    have q465 : 6 < (l0.length : Int) := dT
    obtain ⟨ad465, e465, hx465_0⟩ := Kd.at_int HR0.out 6 p465 q465
    cases e465
    (try simp only [show (6 : Int).toNat = 6 from rfl, Nat.reduceMul, Nat.reduceEqDiff, Go.Addr.add, ↓reduceIte] at hx465_0)
    have qi465 : (6 < l0.length) = True := eq_true (by omega)
    (try rw [show ((6 : Int)).toNat = 6 from rfl] at hx465_0)
    replace p465 := eq_true p465
    replace q465 := eq_true q465
    go_wp2
    go_meet
    case rel => exact ⟨_, (true), zE, H', ⟨by first | omega | exact Nat.le_refl _⟩, zD⟩
   rw [if_neg c9] at H
   exact absurd H (by simp)
  clear HC7
  (try clear c3); (try clear c5); (try clear c6b0)
  obtain ⟨kq, x35_6, rfl, HA, HJ6, ⟨mc6, rfl⟩⟩ := hcut
  rcases kq with _ | kj6
  · exact absurd HA.out (by simp [dUE_.j0])
  have H := HA.out
  clear HA
  simp only [dUE_.j0] at H
  by_cases c12 : x35_6 = true
  ·
   subst c12
   rw [if_pos rfl] at H
   simp only [Option.some.injEq, Prod.mk.injEq] at H
   obtain ⟨rfl, rfl⟩ := H
   go_wp2
   go_ret2
   exact ⟨by first | rfl | (simp; done) | (simp [nil_ne_, nil_eq_]; done) | (simp [*]; done), zD⟩
  replace c12 := Bool.eq_false_iff.mpr c12
  subst c12
  rw [if_neg Bool.false_ne_true] at H
  by_cases c13 : 6 ≤ (l0.length : Int)
  ·
   rw [if_pos c13] at H
   have c13b0 := eq_true c13
   have c13b1 := decide_eq_true c13
   clear c13
   replace H := Option.bind_eq_some_iff.mp H
   obtain ⟨⟨t468, t469⟩, A140, H⟩ := H
   try dsimp only at H
   have A14 := Aside0.mk A140
   clear A140
   by_cases c15 : t469 = true
   ·
    subst c15
    rw [if_pos rfl] at H
    by_cases c16 : t468 < 56320
    ·
     rw [if_pos c16] at H
     have c16b0 := decide_eq_true c16
     clear c16
     simp only [Option.some.injEq, Prod.mk.injEq] at H
     obtain ⟨rfl, rfl⟩ := H
     obtain ⟨i017, hi017, _, hsz17, _⟩ := info_parts info5
     obtain ⟨A17, hcut17, hA17, hC17⟩ := print_drop_of (P := Tryz.prog) (Value.int .u8) 0 51 5 .i64 Tryz.underlying51 hi017 hsz17 A0 c0 l0 6 (by omega) (dT) HC0.out
     have HR467 := Aside0.mk (Kd.C_of_reads (h1 := fun _ => rfl) (hA17 _ (Kd.reads_of_C HR0.out)))
     have HC467 := Aside0.mk hC17
     clear hA17 hC17 hi017 hsz17
     go_wp2_with (first | ((with_reducible refine gate_callee (f := 93) rfl ?_); refine goesL_ (some 39) rfl rfl Tryz.func93 (by kernel_rfl) rfl #[.slice A17 (l0.drop 6).length (c0 - 6)] rfl (by (try simp only [List.map_toArray, List.map_cons, List.map_nil]); first | done | (rw [show (l0.drop 6).length = (l0.length - 6) from List.length_drop] <;> rfl) | rfl | (simp only [List.length_drop, List.length_take]; rfl)) ?_; (with_reducible refine (dSUE_.calls kj6 _ _ (l0.drop 6) t468 true _ ?side1 ?side2 A14.out).mono ?_); (case side1 => exact zkc HR467.out); (case side2 => exact HC467.out); rintro e w' ⟨rfl, ⟨nd, rfl⟩⟩; refine ⟨_, rfl, ?_⟩))
     go_ret2
     exact ⟨by first | rfl | (simp; done) | (simp [nil_ne_, nil_eq_]; done) | (simp [*]; done), zD⟩
    rw [if_neg c16] at H
    have c16b0 := decide_eq_false c16
    clear c16
    by_cases c18 : t468 > 57343
    ·
     rw [if_pos c18] at H
     have c18b0 := decide_eq_true c18
     clear c18
     simp only [Option.some.injEq, Prod.mk.injEq] at H
     obtain ⟨rfl, rfl⟩ := H
     obtain ⟨i019, hi019, _, hsz19, _⟩ := info_parts info5
     obtain ⟨A19, hcut19, hA19, hC19⟩ := print_drop_of (P := Tryz.prog) (Value.int .u8) 0 51 5 .i64 Tryz.underlying51 hi019 hsz19 A0 c0 l0 6 (by omega) (dT) HC0.out
     have HR467 := Aside0.mk (Kd.C_of_reads (h1 := fun _ => rfl) (hA19 _ (Kd.reads_of_C HR0.out)))
     have HC467 := Aside0.mk hC19
     clear hA19 hC19 hi019 hsz19
     go_wp2_with (first | ((with_reducible refine gate_callee (f := 93) rfl ?_); refine goesL_ (some 39) rfl rfl Tryz.func93 (by kernel_rfl) rfl #[.slice A19 (l0.drop 6).length (c0 - 6)] rfl (by (try simp only [List.map_toArray, List.map_cons, List.map_nil]); first | done | (rw [show (l0.drop 6).length = (l0.length - 6) from List.length_drop] <;> rfl) | rfl | (simp only [List.length_drop, List.length_take]; rfl)) ?_; (with_reducible refine (dSUE_.calls kj6 _ _ (l0.drop 6) t468 true _ ?side1 ?side2 A14.out).mono ?_); (case side1 => exact zkc HR467.out); (case side2 => exact HC467.out); rintro e w' ⟨rfl, ⟨nd, rfl⟩⟩; refine ⟨_, rfl, ?_⟩))
     go_ret2
     exact ⟨by first | rfl | (simp; done) | (simp [nil_ne_, nil_eq_]; done) | (simp [*]; done), zD⟩
    rw [if_neg c18] at H
    have c18b0 := decide_eq_false c18
    clear c18
    replace H := Option.bind_eq_some_iff.mp H
    obtain ⟨t470, A200, H⟩ := H
    try dsimp only at H
    have A20 := Aside0.mk A200
    clear A200
    simp only [Option.some.injEq, Prod.mk.injEq] at H
    obtain ⟨rfl, rfl⟩ := H
    obtain ⟨i021, hi021, _, hsz21, _⟩ := info_parts info5
    obtain ⟨A21, hcut21, hA21, hC21⟩ := print_drop_of (P := Tryz.prog) (Value.int .u8) 0 51 5 .i64 Tryz.underlying51 hi021 hsz21 A0 c0 l0 6 (by omega) (dT) HC0.out
    have HR467 := Aside0.mk (Kd.C_of_reads (h1 := fun _ => rfl) (hA21 _ (Kd.reads_of_C HR0.out)))
    have HC467 := Aside0.mk hC21
    clear hA21 hC21 hi021 hsz21
    go_wp2_with (first | ((with_reducible refine gate_callee (f := 93) rfl ?_); refine goesL_ (some 39) rfl rfl Tryz.func93 (by kernel_rfl) rfl #[.slice A21 (l0.drop 6).length (c0 - 6)] rfl (by (try simp only [List.map_toArray, List.map_cons, List.map_nil]); first | done | (rw [show (l0.drop 6).length = (l0.length - 6) from List.length_drop] <;> rfl) | rfl | (simp only [List.length_drop, List.length_take]; rfl)) ?_; (with_reducible refine (dSUE_.calls kj6 _ _ (l0.drop 6) t468 true _ ?side1 ?side2 A14.out).mono ?_); (case side1 => exact zkc HR467.out); (case side2 => exact HC467.out); rintro e w' ⟨rfl, ⟨nd, rfl⟩⟩; refine ⟨_, rfl, ?_⟩) | ((with_reducible refine gate_callee (f := 95) rfl ?_); refine goesL_ (some 52) rfl rfl Tryz.func95 (by kernel_rfl) rfl #[.int .i32 t462, .int .i32 t468] rfl zM ?_; (with_reducible refine (cUTFS_.calls t462 t468 t470 _ A20.out).mono ?_); rintro e w' ⟨rfl, ⟨nd, rfl⟩⟩; refine ⟨_, rfl, ?_⟩))
    go_ret2
    exact ⟨by first | rfl | (simp; done) | (simp [nil_ne_, nil_eq_]; done) | (simp [*]; done), zD⟩
   replace c15 := Bool.eq_false_iff.mpr c15
   subst c15
   rw [if_neg Bool.false_ne_true] at H
   simp only [Option.some.injEq, Prod.mk.injEq] at H
   obtain ⟨rfl, rfl⟩ := H
   obtain ⟨i022, hi022, _, hsz22, _⟩ := info_parts info5
   obtain ⟨A22, hcut22, hA22, hC22⟩ := print_drop_of (P := Tryz.prog) (Value.int .u8) 0 51 5 .i64 Tryz.underlying51 hi022 hsz22 A0 c0 l0 6 (by omega) (dT) HC0.out
   have HR467 := Aside0.mk (Kd.C_of_reads (h1 := fun _ => rfl) (hA22 _ (Kd.reads_of_C HR0.out)))
   have HC467 := Aside0.mk hC22
   clear hA22 hC22 hi022 hsz22
   go_wp2_with (first | ((with_reducible refine gate_callee (f := 93) rfl ?_); refine goesL_ (some 39) rfl rfl Tryz.func93 (by kernel_rfl) rfl #[.slice A22 (l0.drop 6).length (c0 - 6)] rfl (by (try simp only [List.map_toArray, List.map_cons, List.map_nil]); first | done | (rw [show (l0.drop 6).length = (l0.length - 6) from List.length_drop] <;> rfl) | rfl | (simp only [List.length_drop, List.length_take]; rfl)) ?_; (with_reducible refine (dSUE_.calls kj6 _ _ (l0.drop 6) t468 false _ ?side1 ?side2 A14.out).mono ?_); (case side1 => exact zkc HR467.out); (case side2 => exact HC467.out); rintro e w' ⟨rfl, ⟨nd, rfl⟩⟩; refine ⟨_, rfl, ?_⟩))
   go_ret2
   exact ⟨by first | rfl | (simp; done) | (simp [nil_ne_, nil_eq_]; done) | (simp [*]; done), zD⟩
  rw [if_neg c13] at H
  exact absurd H (by simp)
 replace c5 := Bool.eq_false_iff.mpr c5
 subst c5
 rw [if_neg Bool.false_ne_true] at H
 simp only [Option.some.injEq, Prod.mk.injEq] at H
 obtain ⟨rfl, rfl⟩ := H
 go_enter Tryz.func86, Tryz.ntmps86
 rotate_left
 replace c3 := Bool.eq_false_iff.mpr c3
 subst c3
 rw [if_neg Bool.false_ne_true] at H
 simp only [Option.some.injEq, Prod.mk.injEq] at H
 obtain ⟨rfl, rfl⟩ := H
 go_enter Tryz.func86, Tryz.ntmps86
 rotate_left
 all_goals go_wp2_with (first | ((with_reducible refine gate_callee (f := 93) rfl ?_); refine goesL_ (some 10) rfl rfl Tryz.func93 (by kernel_rfl) rfl #[.slice A0 l0.length c0] rfl zM ?_; (with_reducible refine (dSUE_.calls k _ _ l0 t462 true _ ?side1 ?side2 A2.out).mono ?_); (case side1 => exact zkc HR0.out); (case side2 => exact HC0.out); rintro e w' ⟨rfl, ⟨nd, rfl⟩⟩; refine ⟨_, rfl, ?_⟩) | ((with_reducible refine gate_callee (f := 94) rfl ?_); refine goesL_ (some 16) rfl rfl Tryz.func94 (by kernel_rfl) rfl #[.int .i32 t462] rfl zM ?_; (with_reducible refine (iUTFER_.calls t462 true _ A4.out).mono ?_); rintro e w' ⟨rfl, ⟨nd, rfl⟩⟩; refine ⟨_, rfl, ?_⟩) | ((with_reducible refine gate_callee (f := 94) rfl ?_); refine goesL_ (some 16) rfl rfl Tryz.func94 (by kernel_rfl) rfl #[.int .i32 t462] rfl zM ?_; (with_reducible refine (iUTFER_.calls t462 false _ A4.out).mono ?_); rintro e w' ⟨rfl, ⟨nd, rfl⟩⟩; refine ⟨_, rfl, ?_⟩) | ((with_reducible refine gate_callee (f := 93) rfl ?_); refine goesL_ (some 10) rfl rfl Tryz.func93 (by kernel_rfl) rfl #[.slice A0 l0.length c0] rfl zM ?_; (with_reducible refine (dSUE_.calls k _ _ l0 t462 false _ ?side1 ?side2 A2.out).mono ?_); (case side1 => exact zkc HR0.out); (case side2 => exact HC0.out); rintro e w' ⟨rfl, ⟨nd, rfl⟩⟩; refine ⟨_, rfl, ?_⟩))
 ·
  go_ret2
  exact ⟨by first | rfl | (simp; done) | (simp [nil_ne_, nil_eq_]; done) | (simp [*]; done), zD⟩
 ·
  go_ret2
  exact ⟨by first | rfl | (simp; done) | (simp [nil_ne_, nil_eq_]; done) | (simp [*]; done), zD⟩
 ·
  go_ret2
  exact ⟨by first | rfl | (simp; done) | (simp [nil_ne_, nil_eq_]; done) | (simp [*]; done), zD⟩
def spec_Raw.f (a0 : ByteArray) (a1_0 : Int) (a1_1 : Int) (a1_2 : Int) (l1_3 : List (S64)) (l1_4 : List (S27)) : Option (ByteArray) := if a1_0 = 4 then (if 0 ≤ (wrap64 (a1_1 + 1)) then (if (wrap64 (a1_1 + 1)) ≤ (wrap64 (a1_2 - 1)) then (if (wrap64 (a1_2 - 1)) ≤ (a0.size : Int) then (some (a0.extract ((wrap64 (a1_1 + 1)) : Int).toNat ((wrap64 (a1_2 - 1)) : Int).toNat)) else (none)) else (none)) else (none)) else (if 0 ≤ a1_1 then (if a1_1 ≤ a1_2 then (if a1_2 ≤ (a0.size : Int) then (some (a0.extract (a1_1 : Int).toNat (a1_2 : Int).toNat)) else (none)) else (none)) else (none))
set_option maxHeartbeats 8000000 in
set_option maxRecDepth 100000 in
theorem spec_Raw.calls (a0 : ByteArray) (a1_0 : Int) (a1_1 : Int) (a1_2 : Int) (A1_3 : Option Addr) (c1_3 : Nat) (l1_3 : List (S64)) (A1_4 : Option Addr) (c1_4 : Nat) (l1_4 : List (S27)) (r : ByteArray) (w : World) (hr1_3 : Kd.C k64 w A1_3 l1_3.length l1_3) (hc1_3 : l1_3.length ≤ c1_3) (hr1_4 : Kd.C k27 w A1_4 l1_4.length l1_4) (hc1_4 : l1_4.length ≤ c1_4) (h : spec_Raw.f a0 a1_0 a1_1 a1_2 l1_3 l1_4 = some r) :
    Calls Tryz.prog 9 #[.string a0, .agg #[.int .i64 a1_0, .int .i64 a1_1, .int .i64 a1_2, .slice A1_3 l1_3.length c1_3, .slice A1_4 l1_4.length c1_4]] w fun e w' => e = .returned (.string r) ∧ Below w.heap.size w w' := by
 have hu27 := Tryz.underlying27
 have HR1_3 := Aside0.mk hr1_3
 have HC1_3 := Aside0.mk hc1_3
 clear hr1_3 hc1_3
 have HR1_4 := Aside0.mk hr1_4
 have HC1_4 := Aside0.mk hc1_4
 clear hr1_4 hc1_4
 have HB := Aside0.mk (Below.refl w.heap.size w)
 have H : (if a1_0 = 4 then (if 0 ≤ (wrap64 (a1_1 + 1)) then (if (wrap64 (a1_1 + 1)) ≤ (wrap64 (a1_2 - 1)) then (if (wrap64 (a1_2 - 1)) ≤ (a0.size : Int) then (some (a0.extract ((wrap64 (a1_1 + 1)) : Int).toNat ((wrap64 (a1_2 - 1)) : Int).toNat)) else (none)) else (none)) else (none)) else (if 0 ≤ a1_1 then (if a1_1 ≤ a1_2 then (if a1_2 ≤ (a0.size : Int) then (some (a0.extract (a1_1 : Int).toNat (a1_2 : Int).toNat)) else (none)) else (none)) else (none))) = some r := h
 clear h
 by_cases c3 : a1_0 = 4
 rw [if_pos c3] at H
 have c3b0 := beq_iff_eq.mpr c3
 have c3b1 := bne_eq_false_iff_eq.mpr c3
 clear c3
 obtain ⟨ji4, hji4⟩ : ∃ j_ : Int, (wrap64 (a1_1 + 1)) = j_ := ⟨_, rfl⟩
 replace H : (if 0 ≤ (ji4) then (if (ji4) ≤ (wrap64 (a1_2 - 1)) then (if (wrap64 (a1_2 - 1)) ≤ (a0.size : Int) then (some (a0.extract ((ji4) : Int).toNat ((wrap64 (a1_2 - 1)) : Int).toNat)) else (none)) else (none)) else (none)) = some r := by first | (rw [hji4] at H; exact H) | (simp only [hji4] at H ⊢; exact H)
 have hji4w : (IntKind.i64.wrap (a1_1 + 1)) = ji4 := (i64_w _).trans hji4
 by_cases c5 : 0 ≤ (ji4)
 rw [if_pos c5] at H
 have c5b0 := eq_true c5
 have c5b1 := decide_eq_true c5
 clear c5
 by_cases c6 : (ji4) ≤ (wrap64 (a1_2 - 1))
 rw [if_pos c6] at H
 have c6b0 := eq_true c6
 have c6b1 := decide_eq_true c6
 clear c6
 by_cases c7 : (wrap64 (a1_2 - 1)) ≤ (a0.size : Int)
 rw [if_pos c7] at H
 have c7b0 := eq_true c7
 have c7b1 := decide_eq_true c7
 clear c7
 obtain rfl := Option.some.inj H
 go_enter Tryz.func9, Tryz.ntmps9
 rotate_left
 ·
  rw [if_neg c7] at H
  exact absurd H (by simp)
 ·
  rw [if_neg c6] at H
  exact absurd H (by simp)
 ·
  rw [if_neg c5] at H
  exact absurd H (by simp)
 rw [if_neg c3] at H
 have c3b0 := beq_eq_false_iff_ne.mpr c3
 have c3b1 := bne_iff_ne.mpr c3
 by_cases c10 : 0 ≤ a1_1
 rw [if_pos c10] at H
 have c10b0 := eq_true c10
 have c10b1 := decide_eq_true c10
 clear c10
 by_cases c11 : a1_1 ≤ a1_2
 rw [if_pos c11] at H
 have c11b0 := eq_true c11
 have c11b1 := decide_eq_true c11
 clear c11
 by_cases c12 : a1_2 ≤ (a0.size : Int)
 rw [if_pos c12] at H
 have c12b0 := eq_true c12
 have c12b1 := decide_eq_true c12
 clear c12
 obtain rfl := Option.some.inj H
 go_enter Tryz.func9, Tryz.ntmps9
 rotate_left
 ·
  rw [if_neg c12] at H
  exact absurd H (by simp)
 ·
  rw [if_neg c11] at H
  exact absurd H (by simp)
 ·
  rw [if_neg c10] at H
  exact absurd H (by simp)
 all_goals go_wp2_with (first | ((with_reducible refine gate_dst (N := 3) rfl ?_); refine zbo (N := 3) (cs := #[.int .i64 a1_0, .int .i64 a1_1, .int .i64 a1_2, .slice A1_3 l1_3.length c1_3, .slice A1_4 l1_4.length c1_4]) (t := 27) ?_; intro gb471 hg w8 hbox hb; have BK471 := Aside0.mk (hbox); have GW471 := zgw hg HB; have GE471 := zgw hg HB; replace HB := zbs HB hb; clear hb hbox hg; have hz9 := zc5 BK471.out))
 ·
  go_ret
  exact ⟨by first | rfl | (simp [errX_none, errX_some] <;> rfl) | (simp only [← hji4]; first | rfl | (simp [errX_none, errX_some] <;> rfl)) | (simp [*, errX_none, errX_some] <;> rfl), zB HB.out⟩
 ·
  go_ret
  exact ⟨zX, zB HB.out⟩
def jK_.f (a0 : Int) : Option (Int) := if a0 = 4 then (some 1) else (if a0 = 3 then (some 2) else (if a0 = 6 then (some 3) else (if a0 = 5 then (some 4) else (if a0 = 2 then (some 5) else (if a0 = 1 then (some 5) else (some 6))))))
set_option maxHeartbeats 8000000 in
set_option maxRecDepth 100000 in
theorem jK_.calls (a0 : Int) (r : Int) (w : World) (h : jK_.f a0 = some r) :
    Calls Tryz.prog 10 #[.int .i64 a0] w fun e w' => e = .returned (.int .i64 r) ∧ Drawn0 w w' := by
 have H : (if a0 = 4 then (some 1) else (if a0 = 3 then (some 2) else (if a0 = 6 then (some 3) else (if a0 = 5 then (some 4) else (if a0 = 2 then (some 5) else (if a0 = 1 then (some 5) else (some 6))))))) = some r := h
 clear h
 by_cases c2 : a0 = 4
 ·
  rw [if_pos c2] at H
  have c2b0 := beq_iff_eq.mpr c2
  have c2b1 := bne_eq_false_iff_eq.mpr c2
  clear c2
  obtain rfl := Option.some.inj H
  go_enter Tryz.func10, Tryz.ntmps10
  go_wp2
  go_ret
  exact ⟨by first | rfl | (simp; done) | (simp [nil_ne_, nil_eq_]; done) | (simp [*]; done), zD⟩
 rw [if_neg c2] at H
 have c2b0 := beq_eq_false_iff_ne.mpr c2
 have c2b1 := bne_iff_ne.mpr c2
 by_cases c3 : a0 = 3
 ·
  rw [if_pos c3] at H
  have c3b0 := beq_iff_eq.mpr c3
  have c3b1 := bne_eq_false_iff_eq.mpr c3
  clear c3
  obtain rfl := Option.some.inj H
  go_enter Tryz.func10, Tryz.ntmps10
  go_wp2
  go_ret
  exact ⟨by first | rfl | (simp; done) | (simp [nil_ne_, nil_eq_]; done) | (simp [*]; done), zD⟩
 rw [if_neg c3] at H
 have c3b0 := beq_eq_false_iff_ne.mpr c3
 have c3b1 := bne_iff_ne.mpr c3
 by_cases c4 : a0 = 6
 ·
  rw [if_pos c4] at H
  have c4b0 := beq_iff_eq.mpr c4
  have c4b1 := bne_eq_false_iff_eq.mpr c4
  clear c4
  obtain rfl := Option.some.inj H
  go_enter Tryz.func10, Tryz.ntmps10
  go_wp2
  go_ret
  exact ⟨by first | rfl | (simp; done) | (simp [nil_ne_, nil_eq_]; done) | (simp [*]; done), zD⟩
 rw [if_neg c4] at H
 have c4b0 := beq_eq_false_iff_ne.mpr c4
 have c4b1 := bne_iff_ne.mpr c4
 by_cases c5 : a0 = 5
 ·
  rw [if_pos c5] at H
  have c5b0 := beq_iff_eq.mpr c5
  have c5b1 := bne_eq_false_iff_eq.mpr c5
  clear c5
  obtain rfl := Option.some.inj H
  go_enter Tryz.func10, Tryz.ntmps10
  go_wp2
  go_ret
  exact ⟨by first | rfl | (simp; done) | (simp [nil_ne_, nil_eq_]; done) | (simp [*]; done), zD⟩
 rw [if_neg c5] at H
 have c5b0 := beq_eq_false_iff_ne.mpr c5
 have c5b1 := bne_iff_ne.mpr c5
 by_cases c6 : a0 = 2
 ·
  rw [if_pos c6] at H
  have c6b0 := beq_iff_eq.mpr c6
  have c6b1 := bne_eq_false_iff_eq.mpr c6
  clear c6
  obtain rfl := Option.some.inj H
  go_enter Tryz.func10, Tryz.ntmps10
  go_wp2
  go_ret
  exact ⟨by first | rfl | (simp; done) | (simp [nil_ne_, nil_eq_]; done) | (simp [*]; done), zD⟩
 rw [if_neg c6] at H
 have c6b0 := beq_eq_false_iff_ne.mpr c6
 have c6b1 := bne_iff_ne.mpr c6
 by_cases c7 : a0 = 1
 ·
  rw [if_pos c7] at H
  have c7b0 := beq_iff_eq.mpr c7
  have c7b1 := bne_eq_false_iff_eq.mpr c7
  clear c7
  obtain rfl := Option.some.inj H
  go_enter Tryz.func10, Tryz.ntmps10
  go_wp2
  go_ret
  exact ⟨by first | rfl | (simp; done) | (simp [nil_ne_, nil_eq_]; done) | (simp [*]; done), zD⟩
 rw [if_neg c7] at H
 have c7b0 := beq_eq_false_iff_ne.mpr c7
 have c7b1 := bne_iff_ne.mpr c7
 obtain rfl := Option.some.inj H
 go_enter Tryz.func10, Tryz.ntmps10
 go_wp2
 go_ret
 exact ⟨by first | rfl | (simp; done) | (simp [nil_ne_, nil_eq_]; done) | (simp [*]; done), zD⟩
end Go.Proofs.YtpdohioobbfncaaGreatDoor.PFnJpWildStop