/- what the Go functions that the law FnJpWildStop reaches compute, each as a plain function, with the proof that the Go code computes just that; no condition beside those that each theorem states. -/
import Derived.Test.YtpdohioobbfncaaGreatDoorPFnJpWildStopx0
namespace Go.Proofs.YtpdohioobbfncaaGreatDoor.PFnJpWildStop
open Go.RowKit Go.Proofs.YtpdohioobbfncaaGreatDoorW.PrintWords Go.Proofs.YtpdohioobbfncaaGreatDoorW.PrintLast Go.Proofs.YtpdohioobbfncaaGreatDoorW.PrintMore
set_option linter.unusedVariables false
set_option linter.unusedSimpArgs false
mutual
def II_.j0 : Nat → ByteArray → Bool → Option (Int × Bool)
  | 0, _, _ => none
  | k + 1, x0, x18 => if x18 = true then (some (0, false)) else (II_.l0 k x0 0 0)
def II_.l0 : Nat → ByteArray → Int → Int → Option (Int × Bool)
  | 0, _, _, _ => none
  | k + 1, x0, x4, x5 => if x5 < (x0.size : Int) then (if 0 ≤ x5 then (if (bt x0 x5) < 48 then (II_.j2 k x0 x4 x5 (bt x0 x5) true) else (II_.j2 k x0 x4 x5 (bt x0 x5) (decide ((bt x0 x5) > 57)))) else (none)) else (some (x4, true))
def II_.j2 : Nat → ByteArray → Int → Int → Int → Bool → Option (Int × Bool)
  | 0, _, _, _, _, _ => none
  | k + 1, x0, x4, x5, x6, x33 => if x33 = true then (some (0, false)) else (if x4 < 288230376151711744 then (II_.l0 k x0 (wrap64 ((wrap64 (x4 * 10)) + ((x6 - 48) % 256))) (wrap64 (x5 + 1))) else (II_.l0 k x0 4611686018427387904 (wrap64 (x5 + 1))))
end
def II_.f (k : Nat) (a0 : ByteArray) : Option (Int × Bool) := if a0.toList = ([] : List UInt8) then (II_.j0 k a0 true) else (if (a0.size : Int) > 1 then (if 0 < (a0.size : Int) then (II_.j0 k a0 ((bt a0 0) == 48)) else (none)) else (II_.j0 k a0 false))
set_option maxHeartbeats 8000000 in
set_option maxRecDepth 100000 in
theorem II_.calls (k : Nat) (a0 : ByteArray) (r1 : Int) (r2 : Bool) (w : World) (h : II_.f k a0 = some (r1, r2)) :
    Calls Tryz.prog 46 #[.string a0] w fun e w' => e = .returned (.tuple #[.int .i64 r1, .bool r2]) ∧ Drawn0 w w' := by
 have H : (if a0.toList = ([] : List UInt8) then (II_.j0 k a0 true) else (if (a0.size : Int) > 1 then (if 0 < (a0.size : Int) then (II_.j0 k a0 ((bt a0 0) == 48)) else (none)) else (II_.j0 k a0 false))) = some (r1, r2) := h
 clear h
 have HC2 := Aside0.mk H
 clear H
 go_enter Tryz.func46, Tryz.ntmps46
 go_upto_region 1 with (fail)
 go_cut [18] (fun v18 wc => ∃ (kq : Nat) (x18_1 : Bool), v18 = .bool x18_1 ∧ Aside0 (II_.j0 kq a0 x18_1 = some (r1, r2)) ∧ Aside0 (kq ≤ k) ∧ Drawn0 w wc)
 case first =>
  have H := HC2.out
  clear HC2
  by_cases c3 : a0.toList = ([] : List UInt8)
  ·
   rw [if_pos c3] at H
   have c3b0 := beq_iff_eq.mpr c3
   have c3b1 := bne_eq_false_iff_eq.mpr c3
   clear c3
   try (have c3be := c3b0; simp only [nil_eq_] at c3be)
   try rw [c3be]
   (first | rw [c3b0] | (simp only [i64_w, i32_w]; rw [c3b0]) | rw [c3b1] | skip)
   have H' := Aside0.mk H
   clear H
   go_wp2
   go_meet
   case rel => exact ⟨_, (true), zE, H', ⟨by first | omega | exact Nat.le_refl _⟩, zD⟩
  rw [if_neg c3] at H
  have c3b0 := beq_eq_false_iff_ne.mpr c3
  have c3b1 := bne_iff_ne.mpr c3
  try (have c3be := c3b0; simp only [nil_eq_] at c3be)
  try rw [c3be]
  (first | rw [c3b0] | (simp only [i64_w, i32_w]; rw [c3b0]) | rw [c3b1] | skip)
  by_cases c4 : (a0.size : Int) > 1
  ·
   rw [if_pos c4] at H
   have c4b0 := decide_eq_true c4
   have c4b1 : decide (1 < a0.size) = true := decide_eq_true (by omega)
   clear c4
   by_cases c5 : 0 < (a0.size : Int)
   ·
    rw [if_pos c5] at H
    have c5b0 := decide_eq_true c5
    have c5b1 : decide (0 < a0.size) = true := decide_eq_true (by omega)
    clear c5
    have H' := Aside0.mk H
    clear H
    have p6 : 0 ≤ (0 : Int) := (by omega)
    have q6 : 0 < a0.size := (by have : (0 : Int) < (a0.size : Int) := dT; omega)
    have hx6 := bt_lit a0 0 0 rfl
    clear p6
    have qi6 : (0 < (a0.size : Int)) = True := eq_true (dT)
    replace q6 := eq_true q6
    go_wp2
    go_meet
    case rel => exact ⟨_, (((bt a0 0) == 48)), zE, H', ⟨by first | omega | exact Nat.le_refl _⟩, zD⟩
   rw [if_neg c5] at H
   exact absurd H (by simp)
  rw [if_neg c4] at H
  have c4b0 := decide_eq_false c4
  have c4b1 : decide (1 < a0.size) = false := decide_eq_false (by omega)
  clear c4
  have H' := Aside0.mk H
  clear H
  go_wp2
  go_meet
  case rel => exact ⟨_, (false), zE, H', ⟨by first | omega | exact Nat.le_refl _⟩, zD⟩
 clear HC2
 obtain ⟨kq, x18_1, rfl, HA, HJ1, ⟨mc1, rfl⟩⟩ := hcut
 rcases kq with _ | kj1
 · exact absurd HA.out (by simp [II_.j0])
 have H := HA.out
 clear HA
 simp only [II_.j0] at H
 by_cases c7 : x18_1 = true
 ·
  subst c7
  rw [if_pos rfl] at H
  simp only [Option.some.injEq, Prod.mk.injEq] at H
  obtain ⟨rfl, rfl⟩ := H
  go_wp2
  go_ret2
  exact ⟨by first | rfl | (simp; done) | (simp [nil_ne_, nil_eq_]; done) | (simp [*]; done), zD⟩
 replace c7 := Bool.eq_false_iff.mpr c7
 subst c7
 rw [if_neg Bool.false_ne_true] at H
 have H' := Aside0.mk H
 clear H
 go_wp2
 try simp only [Act.put, List.setIfInBounds_toArray, List.set_cons_succ, List.set_cons_zero]
 go_loopg [4, 5] kj1 (fun kq v4 v5 w' => ∃ (x4_2 : Int) (x5_2 : Int), v4 = .int .i64 x4_2 ∧ v5 = .int .i64 x5_2 ∧ Aside0 (II_.l0 kq a0 x4_2 x5_2 = some (r1, r2)) ∧ Aside0 (kq ≤ kj1) ∧ Drawn0 w w')
 case atStart => exact ⟨(0), (0), zE, zE, H', ⟨Nat.le_refl _⟩, zD⟩
 case round =>
  clear H'
  (try clear c7)
  obtain ⟨x4_2, x5_2, rfl, rfl, HA, HK2, ⟨m2, rfl⟩⟩ := hrel
  rcases gk with _ | k2
  · exact absurd HA.out (by simp [II_.l0])
  have H := HA.out
  clear HA
  simp only [II_.l0] at H
  by_cases c8 : x5_2 < (a0.size : Int)
  ·
   rw [if_pos c8] at H
   have c8b0 := decide_eq_true c8
   clear c8
   by_cases c9 : 0 ≤ x5_2
   ·
    rw [if_pos c9] at H
    have c9b0 := decide_eq_true c9
    clear c9
    have HC11 := Aside0.mk H
    clear H
    have p10 : 0 ≤ (x5_2 : Int) := dT
    have q10 : x5_2 < (a0.size : Int) := dT
    have hx10 := bt_at a0 x5_2
    replace p10 := eq_true p10
    replace q10 := eq_true q10
    go_upto_region 8 with (fail)
    go_cut [33] (fun v33 wc => ∃ (kq : Nat) (x33_10 : Bool), v33 = .bool x33_10 ∧ Aside0 (II_.j2 kq a0 x4_2 x5_2 (bt a0 x5_2) x33_10 = some (r1, r2)) ∧ Aside0 (kq ≤ k2) ∧ Drawn0 w wc)
    case first =>
     have H := HC11.out
     clear HC11
     by_cases c12 : (bt a0 x5_2) < 48
     ·
      rw [if_pos c12] at H
      have c12b0 := decide_eq_true c12
      clear c12
      (first | rw [c12b0] | (simp only [i64_w, i32_w]; rw [c12b0]) | rw [c12b1] | skip)
      have H' := Aside0.mk H
      clear H
      go_wp2
      go_meet
      case rel => exact ⟨_, (true), zE, H', ⟨by have := HJ1.out; have := HK2.out; first | omega | exact Nat.le_refl _⟩, zD⟩
     rw [if_neg c12] at H
     have c12b0 := decide_eq_false c12
     clear c12
     (first | rw [c12b0] | (simp only [i64_w, i32_w]; rw [c12b0]) | rw [c12b1] | skip)
     have H' := Aside0.mk H
     clear H
     go_wp2
     go_meet
     case rel => exact ⟨_, (decide ((bt a0 x5_2) > 57)), zE, H', ⟨by have := HJ1.out; have := HK2.out; first | omega | exact Nat.le_refl _⟩, zD⟩
    clear HC11
    (try clear c7); (try clear c8b0); (try clear c9b0); (try clear p10); (try clear q10); (try clear hx10)
    obtain ⟨kq, x33_10, rfl, HA, HJ10, ⟨mc10, rfl⟩⟩ := hcut
    rcases kq with _ | kj10
    · exact absurd HA.out (by simp [II_.j2])
    have H := HA.out
    clear HA
    simp only [II_.j2] at H
    by_cases c13 : x33_10 = true
    ·
     subst c13
     rw [if_pos rfl] at H
     simp only [Option.some.injEq, Prod.mk.injEq] at H
     obtain ⟨rfl, rfl⟩ := H
     go_wp2
     go_ret2
     exact ⟨by first | rfl | (simp; done) | (simp [nil_ne_, nil_eq_]; done) | (simp [*]; done), zD⟩
    replace c13 := Bool.eq_false_iff.mpr c13
    subst c13
    rw [if_neg Bool.false_ne_true] at H
    by_cases c14 : x4_2 < 288230376151711744
    ·
     rw [if_pos c14] at H
     have c14b0 := decide_eq_true c14
     clear c14
     have H' := Aside0.mk H
     clear H
     go_wp2
     go_roundg kj10
     case measure => have := HJ1.out; have := HK2.out; have := HJ10.out; omega
     case rel => exact ⟨(wrap64 ((wrap64 (x4_2 * 10)) + (((bt a0 x5_2) - 48) % 256))), (wrap64 (x5_2 + 1)), zE, zE, H', ⟨by have := HJ1.out; have := HK2.out; have := HJ10.out; omega⟩, zD⟩
    rw [if_neg c14] at H
    have c14b0 := decide_eq_false c14
    clear c14
    have H' := Aside0.mk H
    clear H
    go_wp2
    go_roundg kj10
    case measure => have := HJ1.out; have := HK2.out; have := HJ10.out; omega
    case rel => exact ⟨(4611686018427387904), (wrap64 (x5_2 + 1)), zE, zE, H', ⟨by have := HJ1.out; have := HK2.out; have := HJ10.out; omega⟩, zD⟩
   rw [if_neg c9] at H
   exact absurd H (by simp)
  rw [if_neg c8] at H
  have c8b0 := decide_eq_false c8
  clear c8
  simp only [Option.some.injEq, Prod.mk.injEq] at H
  obtain ⟨rfl, rfl⟩ := H
  go_wp2
  go_ret2
  exact ⟨by first | rfl | (simp; done) | (simp [nil_ne_, nil_eq_]; done) | (simp [*]; done), zD⟩
def Bra_.f (k : Nat) (a0 : ByteArray) : Option (Int × Bool) := if (a0.size : Int) < 3 then (some (0, false)) else (if 0 < (a0.size : Int) then (if (bt a0 0) = 91 then (if 0 ≤ (wrap64 ((a0.size : Int) - 1)) then (if (wrap64 ((a0.size : Int) - 1)) < (a0.size : Int) then (if (bt a0 (wrap64 ((a0.size : Int) - 1))) = 93 then (if 1 ≤ (wrap64 ((a0.size : Int) - 1)) then (if (wrap64 ((a0.size : Int) - 1)) ≤ (a0.size : Int) then ((II_.f k (a0.extract 1 ((wrap64 ((a0.size : Int) - 1)) : Int).toNat)).bind fun bt356 => (some (bt356.1, bt356.2))) else (none)) else (none)) else (some (0, false))) else (none)) else (none)) else (some (0, false))) else (none))
set_option maxHeartbeats 8000000 in
set_option maxRecDepth 100000 in
theorem Bra_.calls (k : Nat) (a0 : ByteArray) (r1 : Int) (r2 : Bool) (w : World) (h : Bra_.f k a0 = some (r1, r2)) :
    Calls Tryz.prog 30 #[.string a0] w fun e w' => e = .returned (.tuple #[.int .i64 r1, .bool r2]) ∧ Drawn0 w w' := by
 have H : (if (a0.size : Int) < 3 then (some (0, false)) else (if 0 < (a0.size : Int) then (if (bt a0 0) = 91 then (if 0 ≤ (wrap64 ((a0.size : Int) - 1)) then (if (wrap64 ((a0.size : Int) - 1)) < (a0.size : Int) then (if (bt a0 (wrap64 ((a0.size : Int) - 1))) = 93 then (if 1 ≤ (wrap64 ((a0.size : Int) - 1)) then (if (wrap64 ((a0.size : Int) - 1)) ≤ (a0.size : Int) then ((II_.f k (a0.extract 1 ((wrap64 ((a0.size : Int) - 1)) : Int).toNat)).bind fun bt356 => (some (bt356.1, bt356.2))) else (none)) else (none)) else (some (0, false))) else (none)) else (none)) else (some (0, false))) else (none))) = some (r1, r2) := h
 clear h
 by_cases c2 : (a0.size : Int) < 3
 ·
  rw [if_pos c2] at H
  have c2b0 := decide_eq_true c2
  have c2b1 : decide (a0.size < 3) = true := decide_eq_true (by omega)
  clear c2
  simp only [Option.some.injEq, Prod.mk.injEq] at H
  obtain ⟨rfl, rfl⟩ := H
  go_enter Tryz.func30, Tryz.ntmps30
  go_wp2
  go_ret2
  exact ⟨by first | rfl | (simp; done) | (simp [nil_ne_, nil_eq_]; done) | (simp [*]; done), zD⟩
 rw [if_neg c2] at H
 have c2b0 := decide_eq_false c2
 have c2b1 : decide (a0.size < 3) = false := decide_eq_false (by omega)
 clear c2
 by_cases c3 : 0 < (a0.size : Int)
 ·
  rw [if_pos c3] at H
  have c3b0 := decide_eq_true c3
  have c3b1 : decide (0 < a0.size) = true := decide_eq_true (by omega)
  clear c3
  by_cases c5 : (bt a0 0) = 91
  ·
   rw [if_pos c5] at H
   have c5b0 := beq_iff_eq.mpr c5
   have c5b1 := bne_eq_false_iff_eq.mpr c5
   clear c5
   obtain ⟨ji6, hji6⟩ : ∃ j_ : Int, (wrap64 ((a0.size : Int) - 1)) = j_ := ⟨_, rfl⟩
   replace H : (if 0 ≤ (ji6) then (if (ji6) < (a0.size : Int) then (if (bt a0 (ji6)) = 93 then (if 1 ≤ (ji6) then (if (ji6) ≤ (a0.size : Int) then ((II_.f k (a0.extract 1 ((ji6) : Int).toNat)).bind fun bt356 => (some (bt356.1, bt356.2))) else (none)) else (none)) else (some (0, false))) else (none)) else (none)) = some (r1, r2) := by first | (rw [hji6] at H; exact H) | (simp only [hji6] at H ⊢; exact H)
   have hji6w : (IntKind.i64.wrap ((a0.size : Int) - 1)) = ji6 := (i64_w _).trans hji6
   by_cases c7 : 0 ≤ (ji6)
   ·
    rw [if_pos c7] at H
    have c7b0 := decide_eq_true c7
    clear c7
    by_cases c8 : (ji6) < (a0.size : Int)
    ·
     rw [if_pos c8] at H
     have c8b0 := decide_eq_true c8
     clear c8
     by_cases c10 : (bt a0 (ji6)) = 93
     ·
      rw [if_pos c10] at H
      have c10b0 := beq_iff_eq.mpr c10
      have c10b1 := bne_eq_false_iff_eq.mpr c10
      clear c10
      by_cases c11 : 1 ≤ (ji6)
      ·
       rw [if_pos c11] at H
       have c11b0 := eq_true c11
       have c11b1 := decide_eq_true c11
       clear c11
       by_cases c12 : (ji6) ≤ (a0.size : Int)
       ·
        rw [if_pos c12] at H
        have c12b0 := eq_true c12
        have c12b1 := decide_eq_true c12
        clear c12
        replace H := Option.bind_eq_some_iff.mp H
        obtain ⟨⟨t356, t357⟩, A130, H⟩ := H
        try dsimp only at H
        have A13 := Aside0.mk A130
        clear A130
        simp only [Option.some.injEq, Prod.mk.injEq] at H
        obtain ⟨rfl, rfl⟩ := H
        have p4 : 0 ≤ (0 : Int) := (by omega)
        have q4 : 0 < a0.size := (by have : (0 : Int) < (a0.size : Int) := dT; omega)
        have hx4 := bt_lit a0 0 0 rfl
        clear p4
        have qi4 : (0 < (a0.size : Int)) = True := eq_true (dT)
        replace q4 := eq_true q4
        have p9 : 0 ≤ ((ji6) : Int) := dT
        have q9 : (ji6) < (a0.size : Int) := dT
        have hx9 := bt_at a0 (ji6)
        replace p9 := eq_true p9
        replace q9 := eq_true q9
        go_enter Tryz.func30, Tryz.ntmps30
        go_wp2_with (first | ((with_reducible refine gate_callee (f := 46) rfl ?_); refine goesL_ (some 25) rfl rfl Tryz.func46 (by kernel_rfl) rfl #[.string (a0.extract 1 ((ji6) : Int).toNat)] rfl (by (try simp only [List.map_toArray, List.map_cons, List.map_nil]); first | done | (simp only [hji6]; rfl) | rfl | (simp only [List.length_drop, List.length_take]; rfl)) ?_; (with_reducible refine (II_.calls k (a0.extract 1 ((ji6) : Int).toNat) t356 t357 _ A13.out).mono ?_); rintro e w' ⟨rfl, ⟨nd, rfl⟩⟩; refine ⟨_, rfl, ?_⟩))
        go_ret2
        exact ⟨by first | rfl | (simp; done) | (simp only [← hji6] <;> (first | rfl | simp); done) | (simp [nil_ne_, nil_eq_]; done) | (simp [*]; done), zD⟩
       rw [if_neg c12] at H
       exact absurd H (by simp)
      rw [if_neg c11] at H
      exact absurd H (by simp)
     rw [if_neg c10] at H
     have c10b0 := beq_eq_false_iff_ne.mpr c10
     have c10b1 := bne_iff_ne.mpr c10
     simp only [Option.some.injEq, Prod.mk.injEq] at H
     obtain ⟨rfl, rfl⟩ := H
     have p4 : 0 ≤ (0 : Int) := (by omega)
     have q4 : 0 < a0.size := (by have : (0 : Int) < (a0.size : Int) := dT; omega)
     have hx4 := bt_lit a0 0 0 rfl
     clear p4
     have qi4 : (0 < (a0.size : Int)) = True := eq_true (dT)
     replace q4 := eq_true q4
     have p9 : 0 ≤ ((ji6) : Int) := dT
     have q9 : (ji6) < (a0.size : Int) := dT
     have hx9 := bt_at a0 (ji6)
     replace p9 := eq_true p9
     replace q9 := eq_true q9
     go_enter Tryz.func30, Tryz.ntmps30
     go_wp2
     go_ret2
     exact ⟨by first | rfl | (simp; done) | (simp only [← hji6] <;> (first | rfl | simp); done) | (simp [nil_ne_, nil_eq_]; done) | (simp [*]; done), zD⟩
    rw [if_neg c8] at H
    exact absurd H (by simp)
   rw [if_neg c7] at H
   exact absurd H (by simp)
  rw [if_neg c5] at H
  have c5b0 := beq_eq_false_iff_ne.mpr c5
  have c5b1 := bne_iff_ne.mpr c5
  simp only [Option.some.injEq, Prod.mk.injEq] at H
  obtain ⟨rfl, rfl⟩ := H
  have p4 : 0 ≤ (0 : Int) := (by omega)
  have q4 : 0 < a0.size := (by have : (0 : Int) < (a0.size : Int) := dT; omega)
  have hx4 := bt_lit a0 0 0 rfl
  clear p4
  have qi4 : (0 < (a0.size : Int)) = True := eq_true (dT)
  replace q4 := eq_true q4
  go_enter Tryz.func30, Tryz.ntmps30
  go_wp2
  go_ret2
  exact ⟨by first | rfl | (simp; done) | (simp [nil_ne_, nil_eq_]; done) | (simp [*]; done), zD⟩
 rw [if_neg c3] at H
 exact absurd H (by simp)
end Go.Proofs.YtpdohioobbfncaaGreatDoor.PFnJpWildStop